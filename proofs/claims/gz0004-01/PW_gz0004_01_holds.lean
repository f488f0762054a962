import PyProof.Rows.All
import Wide.All
import OpenK.AllK
import Wide.FinOn
import KE.KSortTup
import KE.KRevSl
import KE.KListMore
import KE.KNest
import KE.KRevIter
import KE.KUnpack
import KE.LcSums
import PySem.Challenge.RW_gz0004_01
set_option maxHeartbeats 2000000

/-! part 1 -/
open PySem PySem.Spec PySem.Calls PyProof.Rows PySem.W
set_option maxRecDepth 100000
set_option Elab.async false
set_option linter.unusedVariables false
namespace Mine

/-! Heaps: what is kept -/

/-- every row of values is kept -/
def Lq (h h' : Heap) : Prop := ∀ a o xs n, h.get? a = some o → o.data = .seq xs n → h'.get? a = some o
theorem Lq.refl (h : Heap) : Lq h h := fun _ _ _ _ e _ => e
theorem Lq.trans {a b c : Heap} (x : Lq a b) (y : Lq b c) : Lq a c := fun p o xs n e d => y p o xs n (x p o xs n e d) d
theorem Lq.of {h h' : Heap} (k : ∀ b o, h.get? b = some o → h'.get? b = some o) : Lq h h' := fun a o _ _ e _ => k a o e

/-- a code table: empty, or it bears the one def made inside -/
def TabOk (h : Heap) (P : Addr) (q : Str) (l c : Nat) : Prop :=
  ∃ ps, h.get? P = some (tabObj ps) ∧ (ps = #[] ∨ ∃ cd, ps = #[rawInt l, rawInt c, .ref cd] ∧ cd ≠ 30 ∧ cd ≠ 37 ∧ h.CodeRec (.ref cd) q)
def TI (h : Heap) : Prop := TabOk h 30 "_int2digits.<locals>.inner" 32 4 ∧ TabOk h 37 "_digits2int.<locals>.inner" 47 4

structure Le (h h' : Heap) : Prop where
  t : TI h
  t' : TI h'
  k : ∀ a o, a ≠ 30 → a ≠ 37 → h.get? a = some o → h'.get? a = some o

theorem Le.refl {h : Heap} (t : TI h) : Le h h := ⟨t, t, fun _ _ _ _ e => e⟩
theorem Le.trans {a b c : Heap} (x : Le a b) (y : Le b c) : Le a c := ⟨x.t, y.t', fun p o h1 h2 e => y.k p o h1 h2 (x.k p o h1 h2 e)⟩

theorem TabOk.keeps {h h' : Heap} {P : Addr} {q : Str} {l c : Nat} (x : TabOk h P q l c) (k : ∀ b o, h.get? b = some o → h'.get? b = some o) : TabOk h' P q l c := by
  obtain ⟨ps, hp, r⟩ := x
  refine ⟨ps, k _ _ hp, ?_⟩
  rcases r with r | ⟨cd, e, n1, n2, hc⟩
  · exact .inl r
  · exact .inr ⟨cd, e, n1, n2, hc.keeps k⟩
theorem TI.keeps {h h' : Heap} (x : TI h) (k : ∀ b o, h.get? b = some o → h'.get? b = some o) : TI h' := ⟨x.1.keeps k, x.2.keeps k⟩
theorem Le.keeps {h h' : Heap} (t : TI h) (k : ∀ b o, h.get? b = some o → h'.get? b = some o) : Le h h' := ⟨t, t.keeps k, fun a o _ _ e => k a o e⟩

theorem TI.ne {h : Heap} (t : TI h) {a : Addr} {o : Obj} (e : h.get? a = some o) (hd : ∀ vs, o.data ≠ .fields vs) : a ≠ 30 ∧ a ≠ 37 := by
  obtain ⟨⟨p1, e1, _⟩, ⟨p2, e2, _⟩⟩ := t
  constructor
  · rintro rfl; rw [e1] at e; cases e; exact hd p1 rfl
  · rintro rfl; rw [e2] at e; cases e; exact hd p2 rfl
theorem TI.neC {h : Heap} (t : TI h) {a : Addr} {o : Obj} (e : h.get? a = some o) (hd : o.cls ≠ .none) : a ≠ 30 ∧ a ≠ 37 := by
  obtain ⟨⟨p1, e1, _⟩, ⟨p2, e2, _⟩⟩ := t
  constructor
  · rintro rfl; rw [e1] at e; cases e; exact hd rfl
  · rintro rfl; rw [e2] at e; cases e; exact hd rfl

theorem Le.lq {h h' : Heap} (x : Le h h') : Lq h h' := fun a o xs n e d => by
  have := x.t.ne e (fun vs q => by rw [d] at q; cases q)
  exact x.k a o this.1 this.2 e
theorem Le.ns {h h' : Heap} (x : Le h h') {a : Addr} {m : Str → Option Value} (n : h.Ns a m) : h'.Ns a m := by
  obtain ⟨o, es, ep, e, hd, r⟩ := n
  have := x.t.ne e (fun vs q => by rw [hd] at q; cases q)
  exact ⟨o, es, ep, x.k a o this.1 this.2 e, hd, r⟩
theorem Le.cell {h h' : Heap} (x : Le h h') {a : Addr} {v : Option Value} (n : h.IsCell a v) : h'.IsCell a v := by
  obtain ⟨o, e, hd⟩ := n
  have := x.t.ne e (fun vs q => by rw [hd] at q; cases q)
  exact ⟨o, x.k a o this.1 this.2 e, hd⟩
theorem Le.list {h h' : Heap} (x : Lq h h') {a : Addr} {vs : Array Value} (n : h.IsList a vs) : h'.IsList a vs := by
  obtain ⟨o, e, hc, k, hd⟩ := n
  exact ⟨o, x a o _ _ e hd, hc, k, hd⟩
theorem Le.tuple {h h' : Heap} (x : Lq h h') {a : Addr} {vs : Array Value} (n : h.IsTuple a vs) : h'.IsTuple a vs := by
  obtain ⟨o, e, hc, k, hd⟩ := n
  exact ⟨o, x a o _ _ e hd, hc, k, hd⟩

/-- all but the places named is kept -/
def But (M : List Addr) (h h' : Heap) : Prop := ∀ a o, a ∉ M → h.get? a = some o → h'.get? a = some o

/-- one state comes out of another by making things alone -/
def Mv (s s' : Shared) : Prop := ∃ h' tk, s' = { s with heap := h', toks := tk } ∧ Le s.heap h'
theorem Mv.refl {s : Shared} (t : TI s.heap) : Mv s s := ⟨s.heap, s.toks, rfl, Le.refl t⟩
theorem Mv.tok {s : Shared} (t : TI s.heap) (k : Nat) : Mv s { s with toks := k } := ⟨s.heap, k, rfl, Le.refl t⟩
theorem Mv.trans {a b c : Shared} (x : Mv a b) (y : Mv b c) : Mv a c := by
  obtain ⟨h, k, rfl, p⟩ := x
  obtain ⟨h', k', rfl, q⟩ := y
  exact ⟨h', k', rfl, p.trans q⟩
theorem Mv.le {s s' : Shared} (x : Mv s s') : Le s.heap s'.heap := by obtain ⟨h, k, rfl, p⟩ := x; exact p
theorem Mv.of {s : Shared} (t : TI s.heap) {h' : Heap} (k : ∀ b o, s.heap.get? b = some o → h'.get? b = some o) (tk : Nat) : Mv s { s with heap := h', toks := tk } := ⟨h', tk, rfl, Le.keeps t k⟩
theorem Mv.keeps {s s' : Shared} (t : TI s.heap) (k : Keeps s s') : Mv s s' := by obtain ⟨h, tk, rfl, p⟩ := k; exact Mv.of t p tk

/-! Data -/
abbrev Rep (α : Type) := α → Heap → Value → Prop
def Mono {α : Type} (R : Rep α) : Prop := ∀ x h h' v, Lq h h' → R x h v → R x h' v
inductive All2 {α β : Type} (F : α → β → Prop) : List α → List β → Prop
  | nil : All2 F [] []
  | cons {a b as bs} : F a b → All2 F as bs → All2 F (a :: as) (b :: bs)
namespace All2
variable {α β : Type} {F G : α → β → Prop}
theorem mono (h : ∀ a b, F a b → G a b) : ∀ {as bs}, All2 F as bs → All2 G as bs
  | _, _, .nil => .nil
  | _, _, .cons x r => .cons (h _ _ x) (mono h r)
theorem length : ∀ {as : List α} {bs : List β}, All2 F as bs → as.length = bs.length
  | _, _, .nil => rfl
  | _, _, .cons _ r => by simp [length r]
theorem append : ∀ {as : List α} {bs : List β} {cs : List α} {ds : List β}, All2 F as bs → All2 F cs ds → All2 F (as ++ cs) (bs ++ ds)
  | _, _, _, _, .nil, y => y
  | _, _, _, _, .cons x r, y => .cons x (append r y)
theorem get : ∀ {as : List α} {bs : List β}, All2 F as bs → ∀ (i : Nat) (a : α), as[i]? = some a → ∃ b, bs[i]? = some b ∧ F a b
  | _, _, .nil, i, a, e => by simp at e
  | _, _, .cons x r, 0, a, e => by simp at e; subst e; exact ⟨_, rfl, x⟩
  | _, _, .cons x r, i + 1, a, e => by simp at e; simpa using get r i a e
theorem get' : ∀ {as : List α} {bs : List β}, All2 F as bs → ∀ (i : Nat) (b : β), bs[i]? = some b → ∃ a, as[i]? = some a ∧ F a b
  | _, _, .nil, i, a, e => by simp at e
  | _, _, .cons x r, 0, a, e => by simp at e; subst e; exact ⟨_, rfl, x⟩
  | _, _, .cons x r, i + 1, a, e => by simp at e; simpa using get' r i a e
theorem reverse : ∀ {as : List α} {bs : List β}, All2 F as bs → All2 F as.reverse bs.reverse
  | _, _, .nil => .nil
  | _, _, .cons x r => by rw [List.reverse_cons, List.reverse_cons]; exact append (reverse r) (.cons x .nil)
theorem of_get : ∀ {as : List α} {bs : List β}, as.length = bs.length → (∀ (i : Nat) a b, as[i]? = some a → bs[i]? = some b → F a b) → All2 F as bs
  | [], [], _, _ => .nil
  | a :: as, b :: bs, hl, h => .cons (h 0 a b rfl rfl) (of_get (by simpa using hl) fun i x y e1 e2 => h (i + 1) x y (by simpa using e1) (by simpa using e2))
  | [], _ :: _, hl, _ => by simp at hl
  | _ :: _, [], hl, _ => by simp at hl
theorem take : ∀ {as : List α} {bs : List β} (n : Nat), All2 F as bs → All2 F (as.take n) (bs.take n)
  | _, _, 0, _ => by simp; exact .nil
  | _, _, n + 1, .nil => by simp; exact .nil
  | _, _, n + 1, .cons x r => by simp; exact .cons x (take n r)
theorem drop : ∀ {as : List α} {bs : List β} (n : Nat), All2 F as bs → All2 F (as.drop n) (bs.drop n)
  | _, _, 0, x => by simpa using x
  | _, _, n + 1, .nil => by simp; exact .nil
  | _, _, n + 1, .cons x r => by simpa using drop n r
end All2

def IntR : Rep Int := fun i _ v => ∃ t, v = .int i t
def TupOf {α : Type} (R : Rep α) : Rep (List α) := fun xs h v => ∃ a vs, v = .ref a ∧ h.IsTuple a vs ∧ All2 (fun u x => R x h u) vs.toList xs
def LstOf {α : Type} (R : Rep α) : Rep (List α) := fun xs h v => ∃ a vs, v = .ref a ∧ h.IsList a vs ∧ All2 (fun u x => R x h u) vs.toList xs
abbrev TupI := TupOf IntR
abbrev LstI := LstOf IntR
abbrev LstT := LstOf TupI
theorem IntR.mono : Mono IntR := fun _ _ _ _ _ r => r
theorem TupOf.mono {α : Type} {R : Rep α} (m : Mono R) : Mono (TupOf R) := fun xs h h' v k r => by
  obtain ⟨a, vs, e, ht, hr⟩ := r
  exact ⟨a, vs, e, Le.tuple k ht, hr.mono fun u x q => m x h h' u k q⟩
theorem LstOf.mono {α : Type} {R : Rep α} (m : Mono R) : Mono (LstOf R) := fun xs h h' v k r => by
  obtain ⟨a, vs, e, ht, hr⟩ := r
  exact ⟨a, vs, e, Le.list k ht, hr.mono fun u x q => m x h h' u k q⟩
theorem TupI.mono : Mono TupI := TupOf.mono IntR.mono
theorem LstI.mono : Mono LstI := LstOf.mono IntR.mono
theorem LstT.mono : Mono LstT := LstOf.mono TupI.mono

/-- the library's own reading of the same data -/
def ReadsAs {α : Type} (R : Rep α) (e : α → PyData) : Prop := ∀ x h v, R x h v → ∃ as, Reads h v (e x) as
theorem readsAll_of {α : Type} {R : Rep α} {e : α → PyData} (r : ReadsAs R e) (h : Heap) : ∀ {vs : List Value} {xs : List α}, All2 (fun u x => R x h u) vs xs → ∃ as, ReadsAll h vs (xs.map e) as
  | _, _, .nil => ⟨_, .nil⟩
  | _, _, .cons x q => by
    obtain ⟨as, h1⟩ := r _ _ _ x
    obtain ⟨bs, h2⟩ := readsAll_of r h q
    exact ⟨_, .cons h1 h2⟩
theorem IntR.reads : ReadsAs IntR PyData.int := fun x h v ⟨t, e⟩ => ⟨[], e ▸ .int x t⟩
theorem TupOf.reads {α : Type} {R : Rep α} {e : α → PyData} (r : ReadsAs R e) : ReadsAs (TupOf R) (fun xs => .tuple (xs.map e)) := fun xs h v q => by
  obtain ⟨a, vs, rfl, ⟨o, ho, hc, n, hd⟩, hr⟩ := q
  obtain ⟨as, ha⟩ := readsAll_of r h hr
  exact ⟨_, .tuple ho hc hd ha⟩
theorem LstOf.reads {α : Type} {R : Rep α} {e : α → PyData} (r : ReadsAs R e) : ReadsAs (LstOf R) (fun xs => .list (xs.map e)) := fun xs h v q => by
  obtain ⟨a, vs, rfl, ⟨o, ho, hc, n, hd⟩, hr⟩ := q
  obtain ⟨as, ha⟩ := readsAll_of r h hr
  exact ⟨_, .list ho hc hd ha⟩

/-! Room of the stack -/
structure Room (A : Around) (n : Nat) : Prop where
  h : A.handled = none
  d : A.depth + n < recursionLimit
  u : A.units + 128 + 8 * n < cLine
theorem Room.in1 {A : Around} {n : Nat} (r : Room A (n + 1)) : Room A.in1 n := ⟨r.h, by have := r.d; show A.depth + n < _; omega, by have := r.u; show A.units + 1 + 128 + 8 * n < _; omega⟩
theorem Room.deeper {A : Around} {n : Nat} (r : Room A (n + 1)) (env : Env) : Room (A.deeper env) n := ⟨r.h, by have := r.d; show A.depth + 1 + n < _; omega, by have := r.u; show A.units + 3 + 128 + 8 * n < _; omega⟩
theorem Room.le {A : Around} {n m : Nat} (r : Room A n) (h : m ≤ n) : Room A m := ⟨r.h, by have := r.d; omega, by have := r.u; omega⟩
end Mine

/-! part 2 -/
open PySem PySem.Spec PySem.Calls PyProof.Rows PySem.W
set_option maxRecDepth 100000
set_option Elab.async false
set_option linter.unusedVariables false
namespace Mine

abbrev F0 : Value → Shared → Prop := fun _ _ => False
abbrev HP := Heap → Value → Prop
def Mn (R : HP) : Prop := ∀ h h' v, Lq h h' → R h v → R h' v
theorem Mono.mn {α : Type} {R : Rep α} (m : Mono R) (x : α) : Mn (R x) := fun h h' v => m x h h' v
theorem Mn.int (i : Int) : Mn (IntR i) := IntR.mono.mn i
theorem Mn.le {R : HP} (m : Mn R) {h h' : Heap} (l : Le h h') {v : Value} (r : R h v) : R h' v := m h h' v l.lq r

section
variable {prog : Program} {w : World} {A : Around} {env : Env} {h₀ h : Heap} {s : Shared} {R R1 R2 : HP}

/-- an expression: from every later heap it ends, makes things alone, and gives a value of R -/
def Ev (prog : Program) (w : World) (A : Around) (env : Env) (h₀ : Heap) (e : Expr) (R : HP) : Prop :=
  ∀ s : Shared, Le h₀ s.heap → wpAny (model prog w) A (eval e env) (fun v s' => Mv s s' ∧ R s'.heap v) F0 s
def EvT (prog : Program) (w : World) (A : Around) (env : Env) (h₀ : Heap) (e : Expr) (b : Bool) : Prop :=
  ∀ s : Shared, Le h₀ s.heap → wpAny (model prog w) A (isTrue e env (eval e env)) (fun c s' => Mv s s' ∧ c = b) F0 s
/-- a tree at a state -/
def Do (prog : Program) (w : World) (A : Around) (s : Shared) (t : Sem Value) (R : HP) : Prop := wpAny (model prog w) A t (fun v s' => Mv s s' ∧ R s'.heap v) F0 s

theorem Ev.le {e : Expr} (x : Ev prog w A env h₀ e R) (l : Le h₀ h) : Ev prog w A env h e R := fun s k => x s (l.trans k)
theorem EvT.le {e : Expr} {b : Bool} (x : EvT prog w A env h₀ e b) (l : Le h₀ h) : EvT prog w A env h e b := fun s k => x s (l.trans k)
theorem Ev.imp {e : Expr} (x : Ev prog w A env h₀ e R) (i : ∀ h v, R h v → R1 h v) : Ev prog w A env h₀ e R1 := fun s k => wpAny_mono (x s k) (fun v s' q => ⟨q.1, i _ _ q.2⟩) fun _ _ q => q

theorem ev_int {i : Int} {k : Nat} {pos : Pos} : Ev prog w A env h₀ (.Constant (.int i) k pos) (IntR i) := fun s l => wpAny_Constant_int ⟨Mv.tok l.t' _, ⟨_, rfl⟩⟩
theorem ev_none {k : Nat} {pos : Pos} : Ev prog w A env h₀ (.Constant .none k pos) (fun _ v => v = .none) := fun s l => Constant_none ⟨Mv.refl l.t', rfl⟩
theorem ev_bool {b : Bool} {k : Nat} {pos : Pos} : Ev prog w A env h₀ (.Constant (.bool b) k pos) (fun _ v => v = .bool b) := fun s l => Constant_bool ⟨Mv.refl l.t', rfl⟩

/-- a name of the frame: local, cell or free -/
def Bd (h : Heap) (env : Env) (x : Str) (R : HP) : Prop :=
  env.scope.kind = .function ∧ ∃ v, R h v ∧ ((env.kindOf x = some .local ∧ ∃ m, h.Ns env.locals m ∧ m x = some v) ∨
    ((env.kindOf x = some .cell ∨ (env.kindOf x = some .free ∧ (x == ("__classdict__" : Str)) = false)) ∧ ∃ c, env.cells.lookup x = some c ∧ h.IsCell c (some v)))
theorem Bd.le {x : Str} (b : Bd h₀ env x R) (m : Mn R) (l : Le h₀ h) : Bd h env x R := by
  obtain ⟨hk, v, r, q⟩ := b
  refine ⟨hk, v, m.le l r, ?_⟩
  rcases q with ⟨hl, mm, hn, hv⟩ | ⟨hl, c, hc, hv⟩
  · exact .inl ⟨hl, mm, l.ns hn, hv⟩
  · exact .inr ⟨hl, c, hc, l.cell hv⟩
theorem ev_name {x : Str} {pos : Pos} (b : Bd h₀ env x R) (m : Mn R) (hd : (x == ("__debug__" : Str)) = false := by decide) : Ev prog w A env h₀ (.Name x pos) R := fun s l => by
  obtain ⟨hk, v, r, q⟩ := b.le m l
  refine wpAny_Name ?_ hd
  rcases q with ⟨hl, mm, hn, hv⟩ | ⟨hl | ⟨hl, hcd⟩, c, hc, hv⟩
  · exact wpAny_loadName_local hk hl hn hv ⟨Mv.refl l.t', r⟩
  · exact wpAny_loadName_cell hk hl hc hv ⟨Mv.refl l.t', r⟩
  · exact wpAny_loadName_free hk hl hc hv ⟨Mv.refl l.t', r⟩ hcd

/-- a name of the module or of the built-ins -/
def Glo (h : Heap) (x : Str) (v : Value) : Prop :=
  (∃ mg, h.Ns mainGlobals mg ∧ mg x = some v) ∨ (∃ mg mb, h.Ns mainGlobals mg ∧ mg x = none ∧ h.Ns builtinsNs mb ∧ mb x = some v)
theorem Glo.le {x : Str} {v : Value} (g : Glo h₀ x v) (l : Le h₀ h) : Glo h x v := by
  rcases g with ⟨mg, a, b⟩ | ⟨mg, mb, a, b, c, d⟩
  · exact .inl ⟨mg, l.ns a, b⟩
  · exact .inr ⟨mg, mb, l.ns a, b, l.ns c, d⟩
structure Glob1 (env : Env) (x : Str) : Prop where
  k : env.scope.kind = .function
  x : env.kindOf x = some .globalImplicit
  g : env.globals = mainGlobals
  b : env.builtins = builtinsNs
theorem glob_load {x : Str} {v : Value} {pos : Pos} {Q : Value → Shared → Prop} {E : Value → Shared → Prop} (e : Glob1 env x) (g : Glo s.heap x v) (h : Q v s) (hd : (x == ("__debug__" : Str)) = false := by decide) :
    wpAny (model prog w) A (eval (.Name x pos) env) Q E s := by
  refine Name_function_global e.k e.x ?_ hd
  rcases g with ⟨mg, a, b⟩ | ⟨mg, mb, a, b, c, d⟩
  · exact loadGlobal_global (by rw [e.g]; exact a) b h
  · exact loadGlobal_builtin (by rw [e.g]; exact a) b (by rw [e.b]; exact c) d h
theorem ev_glob {x : Str} {v : Value} {pos : Pos} (e : Glob1 env x) (g : Glo h₀ x v) (hd : (x == ("__debug__" : Str)) = false := by decide) : Ev prog w A env h₀ (.Name x pos) (fun _ u => u = v) :=
  fun s l => glob_load e (g.le l) ⟨Mv.refl l.t', rfl⟩ hd

/-! two operands -/
theorem ev_bin {l r : Expr} {op : Operator} {pos : Pos} (el : Ev prog w A env h₀ l R1) (er : Ev prog w A env h₀ r R2) (m : Mn R1)
    (h : ∀ s a b, Le h₀ s.heap → R1 s.heap a → R2 s.heap b → Do prog w A s (binaryOp op a b) R) : Ev prog w A env h₀ (.BinOp l op r pos) R := fun s k => by
  refine wpAny_BinOp (wpAny_mono (el s k) (fun a s₁ h₁ => wpAny_mono (er s₁ (k.trans h₁.1.le)) (fun b s₂ h₂ => ?_) fun _ _ q => q) fun _ _ q => q)
  refine wpAny_mono (h s₂ a b ((k.trans h₁.1.le).trans h₂.1.le) (m.le h₂.1.le h₁.2) h₂.2) (fun v s₃ h₃ => ⟨(h₁.1.trans h₂.1).trans h₃.1, h₃.2⟩) fun _ _ q => q
theorem ev_cmp {l r : Expr} {op : CmpOp} {pos : Pos} (el : Ev prog w A env h₀ l R1) (er : Ev prog w A env h₀ r R2) (m : Mn R1)
    (h : ∀ s a b, Le h₀ s.heap → R1 s.heap a → R2 s.heap b → Do prog w A s (compareOp op a b) R) (hm : behindInMarks op r = false := by with_unfolding_all rfl) : Ev prog w A env h₀ (.Compare l [op] [r] pos) R := fun s k => by
  refine wpAny_Compare1 (wpAny_mono (el s k) (fun a s₁ h₁ => wpAny_mono (er s₁ (k.trans h₁.1.le)) (fun b s₂ h₂ => ?_) fun _ _ q => q) fun _ _ q => q) hm
  refine wpAny_mono (h s₂ a b ((k.trans h₁.1.le).trans h₂.1.le) (m.le h₂.1.le h₁.2) h₂.2) (fun v s₃ h₃ => ⟨(h₁.1.trans h₂.1).trans h₃.1, h₃.2⟩) fun _ _ q => q
theorem evT_cmp {l r : Expr} {op : CmpOp} {pos : Pos} {c : Bool} (el : Ev prog w A env h₀ l R1) (er : Ev prog w A env h₀ r R2) (m : Mn R1)
    (h : ∀ s a b, Le h₀ s.heap → R1 s.heap a → R2 s.heap b → Do prog w A s (compareOp op a b) (fun _ v => v = .bool c)) (hm : behindInMarks op r = false := by with_unfolding_all rfl) : EvT prog w A env h₀ (.Compare l [op] [r] pos) c := fun s k => by
  refine wpAny_isTrue_Compare1 (wpAny_mono (el s k) (fun a s₁ h₁ => wpAny_mono (er s₁ (k.trans h₁.1.le)) (fun b s₂ h₂ => ?_) fun _ _ q => q) fun _ _ q => q) hm
  refine wpAny_mono (h s₂ a b ((k.trans h₁.1.le).trans h₂.1.le) (m.le h₂.1.le h₁.2) h₂.2) (fun v s₃ h₃ => ?_) fun _ _ q => q
  obtain ⟨h3, e⟩ := h₃
  subst e
  exact wpAny_truthy_bool ⟨(h₁.1.trans h₂.1).trans h3, rfl⟩
theorem do_same {t : Sem Value} (ti : TI s.heap) (h : ∀ Q : Value → Shared → Prop, (∀ v, R s.heap v → Q v s) → wpAny (model prog w) A t Q F0 s) : Do prog w A s t R := h _ fun v r => ⟨Mv.refl ti, r⟩

theorem bim {op : CmpOp} {e : Expr} (h : (op == .In || op == .NotIn) = false) : behindInMarks op e = false := by
  cases e <;> simp [behindInMarks, h]

section nums
variable {l r : Expr} {pos : Pos} {a b : Int} (el : Ev prog w A env h₀ l (IntR a)) (er : Ev prog w A env h₀ r (IntR b))
include el er
theorem ev_add : Ev prog w A env h₀ (.BinOp l .Add r pos) (IntR (a + b)) := ev_bin el er (Mn.int a) fun s _ _ k ⟨t, e⟩ ⟨u, f⟩ => by subst e; subst f; exact add_int ⟨Mv.tok k.t' _, ⟨_, rfl⟩⟩
theorem ev_sub : Ev prog w A env h₀ (.BinOp l .Sub r pos) (IntR (a - b)) := ev_bin el er (Mn.int a) fun s _ _ k ⟨t, e⟩ ⟨u, f⟩ => by subst e; subst f; exact sub_int ⟨Mv.tok k.t' _, ⟨_, rfl⟩⟩
theorem ev_mod (hb : b ≠ 0) : Ev prog w A env h₀ (.BinOp l .Mod r pos) (IntR (a.fmod b)) := ev_bin el er (Mn.int a) fun s _ _ k ⟨t, e⟩ ⟨u, f⟩ => by subst e; subst f; exact mod_int hb ⟨Mv.tok k.t' _, ⟨_, rfl⟩⟩
theorem evT_eq : EvT prog w A env h₀ (.Compare l [.Eq] [r] pos) (a == b) := evT_cmp el er (Mn.int a) (fun s _ _ k ⟨t, e⟩ ⟨u, f⟩ => by subst e; subst f; exact eq_int ⟨Mv.refl k.t', rfl⟩) (bim rfl)
theorem evT_lt : EvT prog w A env h₀ (.Compare l [.Lt] [r] pos) (decide (a < b)) := evT_cmp el er (Mn.int a) (fun s _ _ k ⟨t, e⟩ ⟨u, f⟩ => by subst e; subst f; exact lt_int ⟨Mv.refl k.t', rfl⟩) (bim rfl)
theorem evT_gt : EvT prog w A env h₀ (.Compare l [.Gt] [r] pos) (decide (b < a)) := evT_cmp el er (Mn.int a) (fun s _ _ k ⟨t, e⟩ ⟨u, f⟩ => by subst e; subst f; exact gt_int ⟨Mv.refl k.t', rfl⟩) (bim rfl)
end nums

/-! tests -/
theorem evT_or {a b : Expr} {pos : Pos} {p q : Bool} (ea : EvT prog w A env h₀ a p) (eb : p = false → EvT prog w A env h₀ b q) : EvT prog w A env h₀ (.BoolOp .Or [a, b] pos) (p || q) := fun s k => by
  refine isTrue_or (wpAny_mono (ea s k) (fun c s₁ h₁ => ?_) fun _ _ q => q)
  obtain ⟨h1, e⟩ := h₁
  subst e
  cases c with
  | true => exact ⟨h1, rfl⟩
  | false =>
    refine isTrue_or (wpAny_mono (eb rfl s₁ (k.trans h1.le)) (fun c s₂ h₂ => ?_) fun _ _ q => q)
    obtain ⟨h2, e⟩ := h₂
    subst e
    cases c with
    | true => exact ⟨h1.trans h2, rfl⟩
    | false => exact isTrue_or_nil ⟨h1.trans h2, rfl⟩
theorem evT_and {a b : Expr} {pos : Pos} {p q : Bool} (ea : EvT prog w A env h₀ a p) (eb : p = true → EvT prog w A env h₀ b q) : EvT prog w A env h₀ (.BoolOp .And [a, b] pos) (p && q) := fun s k => by
  refine isTrue_and (wpAny_mono (ea s k) (fun c s₁ h₁ => ?_) fun _ _ q => q)
  obtain ⟨h1, e⟩ := h₁
  subst e
  cases c with
  | false => exact ⟨h1, rfl⟩
  | true =>
    refine isTrue_and (wpAny_mono (eb rfl s₁ (k.trans h1.le)) (fun c s₂ h₂ => ?_) fun _ _ q => q)
    obtain ⟨h2, e⟩ := h₂
    subst e
    cases c with
    | false => exact ⟨h1.trans h2, rfl⟩
    | true => exact isTrue_and_nil ⟨h1.trans h2, rfl⟩
theorem ev_if {t a b : Expr} {pos : Pos} {c : Bool} (et : EvT prog w A env h₀ t c) (ea : c = true → Ev prog w A env h₀ a R) (eb : c = false → Ev prog w A env h₀ b R) : Ev prog w A env h₀ (.IfExp t a b pos) R := fun s k => by
  refine IfExp_ (wpAny_mono (et s k) (fun d s₁ h₁ => ?_) fun _ _ q => q)
  obtain ⟨h1, e⟩ := h₁
  subst e
  cases d with
  | true => exact wpAny_mono (ea rfl s₁ (k.trans h1.le)) (fun v s₂ h₂ => ⟨h1.trans h₂.1, h₂.2⟩) fun _ _ q => q
  | false => exact wpAny_mono (eb rfl s₁ (k.trans h1.le)) (fun v s₂ h₂ => ⟨h1.trans h₂.1, h₂.2⟩) fun _ _ q => q

/-! rows of expressions -/
def EvS (prog : Program) (w : World) (A : Around) (env : Env) (h₀ : Heap) (pos : Pos) (es : List Expr) (Rs : List HP) : Prop :=
  ∀ s : Shared, Le h₀ s.heap → wpAny (model prog w) A (spliced (backTo pos (starEach es env))) (fun vs s' => Mv s s' ∧ All2 (fun v (R : HP) => R s'.heap v) vs Rs) F0 s
theorem evS_nil {pos : Pos} : EvS prog w A env h₀ pos [] [] := fun s k => spliced_nil ⟨Mv.refl k.t', .nil⟩
theorem evS_cons {pos : Pos} {e : Expr} {es : List Expr} {Rs : List HP} (ee : Ev prog w A env h₀ e R) (m : Mn R) (er : EvS prog w A env h₀ pos es Rs) (he : starEach (e :: es) env = (false, eval e env) :: starEach es env := by rfl) : EvS prog w A env h₀ pos (e :: es) (R :: Rs) := fun s k => by
  have e2 : backTo pos (starEach (e :: es) env) = (false, eval e env) :: backTo pos (starEach es env) := by rw [he]; rfl
  rw [e2]
  refine spliced_cons (wpAny_mono (ee s k) (fun v s₁ h₁ => wpAny_mono (er s₁ (k.trans h₁.1.le)) (fun vs s₂ h₂ => ⟨h₁.1.trans h₂.1, .cons (m.le h₂.1.le h₁.2) h₂.2⟩) fun _ _ q => q) fun _ _ q => q)
theorem all2_map {α : Type} {R : Rep α} {h : Heap} : ∀ {vs : List Value} {xs : List α}, All2 (fun v (R : HP) => R h v) vs (xs.map R) → All2 (fun v x => R x h v) vs xs
  | [], [], _ => .nil
  | v :: vs, x :: xs, q => by cases q with | cons a b => exact .cons a (all2_map b)
  | [], _ :: _, q => by cases q
  | _ :: _, [], q => by cases q
theorem ev_list {α : Type} {Ra : Rep α} {es : List Expr} {xs : List α} {pos : Pos} (m : Mono Ra) (ee : EvS prog w A env h₀ pos es (xs.map Ra)) (hs : xs.length ≤ sizeLine) : Ev prog w A env h₀ (.List es pos) (LstOf Ra xs) := fun s k => by
  refine List_ (wpAny_mono (ee s k) (fun vs s₁ h₁ => ?_) fun _ _ q => q)
  have h2 := all2_map h₁.2
  refine wpAny_newList ⟨h₁.1.trans (Mv.of h₁.1.le.t' (fun b o e => Heap.get?_push_of_some _ e) _), ?_⟩ (by rw [h2.length]; exact hs)
  exact ⟨_, vs.toArray, rfl, ⟨_, Heap.get?_push_size _ rfl, rfl, _, rfl⟩, by
    have : vs.toArray.toList = vs := rfl
    rw [this]; exact h2.mono fun v x q => m x _ _ v (Lq.of fun b o e => Heap.get?_push_of_some _ e) q⟩
theorem ev_tuple {α : Type} {Ra : Rep α} {es : List Expr} {xs : List α} {j : Nat} {pos : Pos} (m : Mono Ra) (ee : EvS prog w A env h₀ pos es (xs.map Ra)) (hs : xs.length ≤ sizeLine) : Ev prog w A env h₀ (.Tuple es j pos) (TupOf Ra xs) := fun s k => by
  refine Tuple_ (wpAny_mono (ee s k) (fun vs s₁ h₁ => ?_) fun _ _ q => q)
  have h2 := all2_map h₁.2
  refine wpAny_newTuple ⟨h₁.1.trans (Mv.of h₁.1.le.t' (fun b o e => Heap.get?_push_of_some _ e) _), ?_⟩ (by rw [h2.length]; exact hs)
  exact ⟨_, vs.toArray, rfl, ⟨_, Heap.get?_push_size _ rfl, rfl, _, rfl⟩, by
    have : vs.toArray.toList = vs := rfl
    rw [this]; exact h2.mono fun v x q => m x _ _ v (Lq.of fun b o e => Heap.get?_push_of_some _ e) q⟩

/-! calls -/
theorem ev_call_b {id : String} {f : Expr} {args : List Expr} {Rs : List HP} {pos : Pos} (ef : Ev prog w A env h₀ f (fun _ v => v = .builtin id)) (ea : EvS prog w A env h₀ pos args Rs)
    (hc : ∀ s vs, Le h₀ s.heap → All2 (fun v (R : HP) => R s.heap v) vs Rs → Do prog w A s (call (.builtin id) vs) R)
    (hne : ∃ t r, backTo pos (starEach args env) = (false, t) :: r) (hp : (backTo pos (starEach args env)).any (·.1) = false)
    (hf : eval (.Call f args [] pos) env = (do callWith pos (← eval f env) [] (backTo pos (starEach args env)) []) := by rfl) :
    Ev prog w A env h₀ (.Call f args [] pos) R := fun s k => by
  rw [hf]
  refine wpAny_bind (wpAny_mono (ef s k) (fun v s₁ h₁ => ?_) fun _ _ q => q)
  obtain ⟨h1, e⟩ := h₁
  subst e
  refine callWith_builtin hp ?_
  have hx := ea s₁ (k.trans h1.le)
  obtain ⟨t, r, et⟩ := hne
  rw [et] at hx ⊢
  refine evalArgs_plain (wpAny_mono hx (fun vs s₂ h₂ => ?_) fun _ _ q => q)
  exact wpAny_mono (hc s₂ vs ((k.trans h1.le).trans h₂.1.le) h₂.2) (fun u s₃ h₃ => ⟨(h1.trans h₂.1).trans h₃.1, h₃.2⟩) fun _ _ q => q
theorem ev_call_t {T : String} {f : Expr} {args : List Expr} {Rs : List HP} {pos : Pos} (ef : Ev prog w A env h₀ f (fun _ v => v = .type T)) (ea : EvS prog w A env h₀ pos args Rs)
    (hc : ∀ s vs, Le h₀ s.heap → All2 (fun v (R : HP) => R s.heap v) vs Rs → Do prog w A s (call (.type T) vs) R)
    (hne : ∃ t r, backTo pos (starEach args env) = (false, t) :: r) (hp : (backTo pos (starEach args env)).any (·.1) = false)
    (hf : eval (.Call f args [] pos) env = (do callWith pos (← eval f env) [] (backTo pos (starEach args env)) []) := by rfl) :
    Ev prog w A env h₀ (.Call f args [] pos) R := fun s k => by
  rw [hf]
  refine wpAny_bind (wpAny_mono (ef s k) (fun v s₁ h₁ => ?_) fun _ _ q => q)
  obtain ⟨h1, e⟩ := h₁
  subst e
  refine PyProof.Rows.callWith_type hp ?_
  have hx := ea s₁ (k.trans h1.le)
  obtain ⟨t, r, et⟩ := hne
  rw [et] at hx ⊢
  refine evalArgs_plain (wpAny_mono hx (fun vs s₂ h₂ => ?_) fun _ _ q => q)
  exact wpAny_mono (hc s₂ vs ((k.trans h1.le).trans h₂.1.le) h₂.2) (fun u s₃ h₃ => ⟨(h1.trans h₂.1).trans h₃.1, h₃.2⟩) fun _ _ q => q
/-- a def's object stands at a -/
def FnAt (h : Heap) (a : Addr) (fd : FuncData) : Prop := ∃ o, h.get? a = some o ∧ o.cls ≠ .none ∧ o.data = .func fd
theorem FnAt.le {a : Addr} {fd : FuncData} (x : FnAt h₀ a fd) (l : Le h₀ h) : FnAt h a fd := by
  obtain ⟨o, e, hc, hd⟩ := x
  have := l.t.neC e hc
  exact ⟨o, l.k a o this.1 this.2 e, hc, hd⟩
theorem ev_call_d {a : Addr} {fd : FuncData} {f : Expr} {args : List Expr} {Rs : List HP} {pos : Pos} (fa : FnAt h₀ a fd) (ef : Ev prog w A env h₀ f (fun _ v => v = .ref a)) (ea : EvS prog w A env h₀ pos args Rs)
    (hc : ∀ s vs, Le h₀ s.heap → All2 (fun v (R : HP) => R s.heap v) vs Rs → Do prog w A s (call (.ref a) vs) R)
    (hne : ∃ t r, backTo pos (starEach args env) = (false, t) :: r)
    (hf : eval (.Call f args [] pos) env = (do callWith pos (← eval f env) [] (backTo pos (starEach args env)) []) := by rfl) :
    Ev prog w A env h₀ (.Call f args [] pos) R := fun s k => by
  rw [hf]
  refine wpAny_bind (wpAny_mono (ef s k) (fun v s₁ h₁ => ?_) fun _ _ q => q)
  obtain ⟨h1, e⟩ := h₁
  subst e
  have hx := ea s₁ (k.trans h1.le)
  obtain ⟨t, r, et⟩ := hne
  obtain ⟨o, e1, e2, e3⟩ := (fa.le (k.trans h1.le))
  refine callWith_function (o := o) (fd := fd) ?_
  rw [et] at hx ⊢
  refine evalArgs_plain (wpAny_mono hx (fun vs s₂ h₂ => ?_) fun _ _ q => q)
  have nn := (k.trans h1.le).t'.neC e1 e2
  refine ⟨⟨h₂.1.le.k _ _ nn.1 nn.2 e1, e3⟩, ?_⟩
  exact wpAny_mono (hc s₂ vs ((k.trans h1.le).trans h₂.1.le) h₂.2) (fun u s₃ h₃ => ⟨(h1.trans h₂.1).trans h₃.1, h₃.2⟩) fun _ _ q => q
end
end Mine

/-! part 3 -/
open PySem PySem.Spec PySem.Calls PyProof.Rows PySem.W
set_option maxRecDepth 100000
set_option Elab.async false
set_option linter.unusedVariables false
namespace Mine

/-- an object that the code tables hang on -/
def Vital (o : Obj) : Prop := ∃ vs, o.data = .fields vs ∧ (o.cls = .none ∨ ∃ q t, vs[1]? = some (.str q t))
theorem TabOk.step {h h' : Heap} {P : Addr} {q : Str} {l c : Nat} (x : TabOk h P q l c) (k : ∀ a o, h.get? a = some o → Vital o → h'.get? a = some o) : TabOk h' P q l c := by
  obtain ⟨ps, hp, r⟩ := x
  refine ⟨ps, k _ _ hp ⟨ps, rfl, .inl rfl⟩, ?_⟩
  rcases r with r | ⟨cd, e, n1, n2, ⟨c', o, vs, t, e1, e2, e3, e4⟩⟩
  · exact .inl r
  · exact .inr ⟨cd, e, n1, n2, ⟨c', o, vs, t, e1, k _ _ e2 ⟨vs, e3, .inr ⟨q, t, e4⟩⟩, e3, e4⟩⟩
theorem TI.step {h h' : Heap} (x : TI h) (k : ∀ a o, h.get? a = some o → Vital o → h'.get? a = some o) : TI h' := ⟨x.1.step k, x.2.step k⟩
/-- an iterator -/
def Itr (o : Obj) : Prop := ∃ vs, o.data = .fields vs ∧ o.cls ≠ .none ∧ ∀ q t, vs[1]? ≠ some (.str q t)
theorem Itr.not {o : Obj} (x : Itr o) : ¬ Vital o := fun ⟨vs, e, r⟩ => by
  obtain ⟨vs', e', hc, hs⟩ := x
  rw [e] at e'; cases e'
  rcases r with r | ⟨q, t, r⟩
  · exact hc r
  · exact hs q t r

section
variable {prog : Program} {w : World} {A : Around} {env : Env} {h₀ h h' : Heap} {s : Shared} {R : HP} {x : Str} {pl : Addr} {v : Value}

def BdV (h : Heap) (env : Env) (x : Str) (v : Value) : Prop :=
  (env.kindOf x = some .local ∧ ∃ m, h.Ns env.locals m ∧ m x = some v) ∨
    ((env.kindOf x = some .cell ∨ (env.kindOf x = some .free ∧ (x == ("__classdict__" : Str)) = false)) ∧ ∃ c, env.cells.lookup x = some c ∧ h.IsCell c (some v))
theorem BdV.bd (hk : env.scope.kind = .function) (b : BdV h env x v) (r : R h v) : Bd h env x R := ⟨hk, v, r, b⟩
theorem BdV.le (b : BdV h env x v) (l : Le h h') : BdV h' env x v := by
  rcases b with ⟨hl, mm, hn, hv⟩ | ⟨hl, c, hc, hv⟩
  · exact .inl ⟨hl, mm, l.ns hn, hv⟩
  · exact .inr ⟨hl, c, hc, l.cell hv⟩

/-- the place where a name is stored -/
def PlOk (h : Heap) (env : Env) (x : Str) (pl : Addr) : Prop :=
  (env.kindOf x = some .local ∧ pl = env.locals ∧ ∃ m, h.Ns pl m) ∨ (env.kindOf x = some .cell ∧ env.cells.lookup x = some pl ∧ ∃ v, h.IsCell pl v)
theorem PlOk.obj (p : PlOk h env x pl) : ∃ o, h.get? pl = some o ∧ (∀ vs, o.data ≠ .fields vs) ∧ ∀ xs n, o.data ≠ .seq xs n := by
  rcases p with ⟨_, _, m, o, es, ep, e, hd, _⟩ | ⟨_, _, v, o, e, hd⟩
  · exact ⟨o, e, fun vs q => (by rw [hd] at q; cases q), fun xs n q => (by rw [hd] at q; cases q)⟩
  · exact ⟨o, e, fun vs q => (by rw [hd] at q; cases q), fun xs n q => (by rw [hd] at q; cases q)⟩
theorem PlOk.keep (p : PlOk h env x pl) (k : ∀ o, h.get? pl = some o → h'.get? pl = some o) : PlOk h' env x pl := by
  rcases p with ⟨a, b, m, o, es, ep, e, r⟩ | ⟨a, b, v, o, e, r⟩
  · exact .inl ⟨a, b, m, o, es, ep, k o e, r⟩
  · exact .inr ⟨a, b, v, o, k o e, r⟩
theorem PlOk.le (p : PlOk h env x pl) (l : Le h h') : PlOk h' env x pl := by
  obtain ⟨o, e, hf, _⟩ := p.obj
  have n := l.t.ne e hf
  exact p.keep fun o' e' => l.k _ _ n.1 n.2 e'
theorem PlOk.lq (p : PlOk h env x pl) (b : Heap.SameBut pl h h') : Lq h h' := fun a o xs n e d => by
  obtain ⟨o', e', _, hs⟩ := p.obj
  exact (b.2 a (fun q => by subst q; rw [e] at e'; cases e'; exact hs xs n d)).trans e
theorem PlOk.ti (p : PlOk h env x pl) (t : TI h) (b : Heap.SameBut pl h h') : TI h' := t.step fun a o e y => by
  obtain ⟨o', e', hf, _⟩ := p.obj
  refine (b.2 a (fun q => ?_)).trans e
  subst q
  rw [e] at e'; cases e'
  obtain ⟨vs, d, _⟩ := y
  exact hf vs d
theorem store_pl (hk : env.scope.kind = .function) (p : PlOk s.heap env x pl) :
    wpAny (model prog w) A (storeName env x v) (fun _ s' => ∃ h' tk, s' = { s with heap := h', toks := tk } ∧ Heap.SameBut pl s.heap h' ∧ PlOk h' env x pl ∧ BdV h' env x v) F0 s := by
  rcases p with ⟨hl, e, m, hn⟩ | ⟨hl, hc, v₀, hv⟩
  · subst e
    exact wpAny_storeName_local hl hn (fun h' hn' hs' => ⟨h', _, rfl, hs', .inl ⟨hl, rfl, _, hn'⟩, .inl ⟨hl, _, hn', by simp⟩⟩) (by rw [hk]; rfl)
  · exact wpAny_storeName_cell hk hl hc hv (fun h' hv' hs' => ⟨h', s.toks, rfl, hs', .inr ⟨hl, hc, _, hv'⟩, .inr ⟨.inl hl, pl, hc, hv'⟩⟩)

/-! what a loop runs over -/
structure SrcAt (prog : Program) (w : World) (A : Around) (h₀ h : Heap) (n : Nat) (P : Nat → HP) (I : Addr) (fp wr : List Addr) (Pv : Nat → Value → Prop) (St : Nat → Heap → Prop) : Prop where
  W : Walks prog w A I fp wr n Pv St
  st : St 0 h
  lt : ∀ b ∈ fp, b < h.objs.size
  fresh : ∀ b ∈ wr, h₀.get? b = none
  itr : ∀ i h, St i h → ∀ b ∈ wr, ∃ o, h.get? b = some o ∧ Itr o
  seq : ∀ i h, St i h → ∀ b ∈ fp, b ∉ wr → ∃ o xs n, h.get? b = some o ∧ o.data = .seq xs n
  item : ∀ i v, i < n → Pv i v → P i h₀ v
def Src (prog : Program) (w : World) (A : Around) (s : Shared) (xv : Value) (n : Nat) (P : Nat → HP) : Prop :=
  wpAny (model prog w) A (pyIter xv) (fun it s₂ => Mv s s₂ ∧ ∃ I fp wr Pv St, it = .ref I ∧ SrcAt prog w A s.heap s₂.heap n P I fp wr Pv St ∧ ∀ b ∈ fp, b ∉ wr → xv = .ref b) F0 s

theorem get?_none_size (h : Heap) : h.get? h.objs.size = none := Heap.get?_none_of_le (Nat.le_refl _)

theorem src_list {α : Type} {Ra : Rep α} {xs : List α} (hh : A.handled = none) (t : TI s.heap) (r : LstOf Ra xs s.heap v) : Src prog w A s v xs.length (fun i h u => ∃ a, xs[i]? = some a ∧ Ra a h u) := by
  obtain ⟨a, vs, rfl, hl, hr⟩ := r
  have hlen : vs.size = xs.length := by rw [← hr.length]; rfl
  have hne : a ≠ s.heap.objs.size := fun q => by obtain ⟨o, e, _⟩ := hl; rw [q, get?_none_size] at e; cases e
  refine wpAny_pyIter_list hl ⟨Mv.of t (fun b o e => Heap.get?_push_of_some _ e) _, s.heap.objs.size, [s.heap.objs.size, a], [s.heap.objs.size], (fun i v => vs[i]? = some v), (fun i h => h.IsListIter s.heap.objs.size a i ∧ h.IsList a vs), rfl, ?_, fun b hb hw => by simp only [List.mem_cons, List.not_mem_nil, or_false] at hb hw; rcases hb with rfl | rfl; exact absurd rfl hw; rfl⟩
  rw [← hlen]
  refine ⟨Walks.list hh s.heap.objs.size a hne vs, ⟨⟨_, Heap.get?_push_size _ rfl, rfl, rfl⟩, hl.push _⟩, ?_, ?_, ?_, ?_, ?_⟩
  · intro b hb
    simp only [List.mem_cons, List.not_mem_nil, or_false] at hb
    refine Nat.lt_of_lt_of_eq ?_ (Heap.size_push ..).symm
    rcases hb with rfl | rfl
    · exact Nat.lt_succ_self _
    · obtain ⟨o, e, _⟩ := hl
      exact Nat.lt_succ_of_lt (Heap.lt_size e)
  · intro b hb
    simp only [List.mem_cons, List.not_mem_nil, or_false] at hb
    subst hb
    exact get?_none_size _
  · rintro i h ⟨⟨o, e, hc, hd⟩, _⟩ b hb
    simp only [List.mem_cons, List.not_mem_nil, or_false] at hb
    subst hb
    exact ⟨o, e, _, hd, by rw [hc]; simp, fun q t => by simp⟩
  · rintro i h ⟨_, ⟨o, e, _, n, hd⟩⟩ b hb hb'
    simp only [List.mem_cons, List.not_mem_nil, or_false] at hb hb'
    rcases hb with rfl | rfl
    · exact absurd rfl hb'
    · exact ⟨o, _, n, e, hd⟩
  · intro i u _ e
    obtain ⟨y, hy, q⟩ := hr.get i u (by simpa using e)
    exact ⟨y, hy, q⟩
theorem src_tuple {α : Type} {Ra : Rep α} {xs : List α} (hh : A.handled = none) (t : TI s.heap) (r : TupOf Ra xs s.heap v) : Src prog w A s v xs.length (fun i h u => ∃ a, xs[i]? = some a ∧ Ra a h u) := by
  obtain ⟨a, vs, rfl, hl, hr⟩ := r
  have hlen : vs.size = xs.length := by rw [← hr.length]; rfl
  have hne : a ≠ s.heap.objs.size := fun q => by obtain ⟨o, e, _⟩ := hl; rw [q, get?_none_size] at e; cases e
  refine wpAny_pyIter_tuple hl ⟨Mv.of t (fun b o e => Heap.get?_push_of_some _ e) _, s.heap.objs.size, [s.heap.objs.size, a], [s.heap.objs.size], (fun i v => vs[i]? = some v), (fun i h => h.IsTupleIter s.heap.objs.size a i ∧ h.IsTuple a vs), rfl, ?_, fun b hb hw => by simp only [List.mem_cons, List.not_mem_nil, or_false] at hb hw; rcases hb with rfl | rfl; exact absurd rfl hw; rfl⟩
  rw [← hlen]
  have hl2 : (s.heap.push { cls := .type "tuple_iterator", data := .fields #[.ref a, .int 0 0] }).IsTuple a vs := by obtain ⟨o, e, r⟩ := hl; exact ⟨o, Heap.get?_push_of_some _ e, r⟩
  refine ⟨Walks.tuple hh s.heap.objs.size a hne vs, ⟨⟨_, Heap.get?_push_size _ rfl, rfl, rfl⟩, hl2⟩, ?_, ?_, ?_, ?_, ?_⟩
  · intro b hb
    simp only [List.mem_cons, List.not_mem_nil, or_false] at hb
    refine Nat.lt_of_lt_of_eq ?_ (Heap.size_push ..).symm
    rcases hb with rfl | rfl
    · exact Nat.lt_succ_self _
    · obtain ⟨o, e, _⟩ := hl
      exact Nat.lt_succ_of_lt (Heap.lt_size e)
  · intro b hb
    simp only [List.mem_cons, List.not_mem_nil, or_false] at hb
    subst hb
    exact get?_none_size _
  · rintro i h ⟨⟨o, e, hc, hd⟩, _⟩ b hb
    simp only [List.mem_cons, List.not_mem_nil, or_false] at hb
    subst hb
    exact ⟨o, e, _, hd, by rw [hc]; simp, fun q t => by simp⟩
  · rintro i h ⟨_, ⟨o, e, _, n, hd⟩⟩ b hb hb'
    simp only [List.mem_cons, List.not_mem_nil, or_false] at hb hb'
    rcases hb with rfl | rfl
    · exact absurd rfl hb'
    · exact ⟨o, _, n, e, hd⟩
  · intro i u _ e
    obtain ⟨y, hy, q⟩ := hr.get i u (by simpa using e)
    exact ⟨y, hy, q⟩
/-- a range object by ones -/
def RngR (a b : Int) : HP := fun h v => ∃ r t u k, v = .ref r ∧ IsRange h r a b 1 t u k
theorem src_range {a b : Int} (hh : A.handled = none) (t : TI s.heap) (r : RngR a b s.heap v) (ha : -(2 ^ 62) ≤ a) (ha' : a < 2 ^ 62) (hb : -(2 ^ 62) ≤ b) (hb' : b < 2 ^ 62) : Src prog w A s v (b - a).toNat (fun i _ u => IntR (a + i) h u) := by
  obtain ⟨r, t1, t2, t3, rfl, hr⟩ := r
  refine wpAny_pyIter_range hr (small_one ha ha' hb hb') ⟨Mv.of t (fun b o e => Heap.get?_push_of_some _ e) _, s.heap.objs.size, [s.heap.objs.size], [s.heap.objs.size], (fun i v => ∃ t, v = .int (a + i * 1) t), (fun i h => IsRangeIter h s.heap.objs.size (a + (i : Nat) * 1) (((b - a).toNat : Int) - (i : Nat)) 1), rfl, ?_, fun c hc hc' => absurd hc hc'⟩
  have hsz : Builtin.Range.rangeSize a b 1 = ((b - a).toNat : Int) := by rw [rangeSize_one]; split <;> omega
  rw [hsz]
  refine ⟨Walks.range hh s.heap.objs.size a 1 (b - a).toNat, ?_, ?_, ?_, ?_, ?_, ?_⟩
  · have e1 : a + ((0 : Nat) : Int) * 1 = a := by simp
    have e2 : ((b - a).toNat : Int) - ((0 : Nat) : Int) = ((b - a).toNat : Int) := by simp
    rw [e1, e2]
    exact Heap.get?_push_size _ rfl
  · intro c hc
    simp only [List.mem_cons, List.not_mem_nil, or_false] at hc
    subst hc
    exact Nat.lt_of_lt_of_eq (Nat.lt_succ_self _) (Heap.size_push ..).symm
  · intro c hc
    simp only [List.mem_cons, List.not_mem_nil, or_false] at hc
    subst hc
    exact get?_none_size _
  · intro i h e c hc
    simp only [List.mem_cons, List.not_mem_nil, or_false] at hc
    subst hc
    exact ⟨_, e, _, rfl, by simp, fun q t => by simp [rawInt]⟩
  · intro i h e c hc hc'
    exact absurd hc hc'
  · rintro i u _ ⟨t, e⟩
    exact ⟨t, by rw [e]; simp⟩
end
end Mine

/-! part 4 -/
open PySem PySem.Spec PySem.Calls PyProof.Rows PySem.W
set_option maxRecDepth 100000
set_option Elab.async false
set_option linter.unusedVariables false
namespace Mine

/-- every tuple is kept -/
def Lt (h h' : Heap) : Prop := ∀ a o xs n, h.get? a = some o → o.cls = .type "tuple" → o.data = .seq xs n → h'.get? a = some o
theorem Lq.lt {h h' : Heap} (l : Lq h h') : Lt h h' := fun a o xs n e _ d => l a o xs n e d
def MonoT {α : Type} (R : Rep α) : Prop := ∀ x h h' v, Lt h h' → R x h v → R x h' v
theorem MonoT.mono {α : Type} {R : Rep α} (m : MonoT R) : Mono R := fun x h h' v l r => m x h h' v l.lt r
theorem IntR.monoT : MonoT IntR := fun _ _ _ _ _ r => r
theorem TupOf.monoT {α : Type} {R : Rep α} (m : MonoT R) : MonoT (TupOf R) := fun xs h h' v k r => by
  obtain ⟨a, vs, e, ⟨o, ho, hc, n, hd⟩, hr⟩ := r
  exact ⟨a, vs, e, ⟨o, k a o _ _ ho hc hd, hc, n, hd⟩, hr.mono fun u x q => m x h h' u k q⟩
theorem TupI.monoT : MonoT TupI := TupOf.monoT IntR.monoT

theorem Le.none {h h2 : Heap} (l : Le h h2) {a : Addr} (ha : h2.objs.size ≤ a) : h.get? a = none := by
  cases e : h.get? a with
  | none => rfl
  | some o =>
    exfalso
    have key : ∃ o', h2.get? a = some o' := by
      by_cases h1 : a = 30
      · obtain ⟨ps, q, _⟩ := l.t'.1; exact ⟨_, h1 ▸ q⟩
      · by_cases h2 : a = 37
        · obtain ⟨ps, q, _⟩ := l.t'.2; exact ⟨_, h2 ▸ q⟩
        · exact ⟨o, l.k a o h1 h2 e⟩
    obtain ⟨o', e'⟩ := key
    exact absurd (Heap.lt_size e') (Nat.not_lt.mpr ha)

section
variable {M : Model} {A : Around} {E : Value → Shared → Prop} {s : Shared}
theorem nfe {scope : Scope} {g : Addr} {cl : List (Str × Addr)} {qual : Str} {env : Env} {Q : Env → Shared → Prop}
    (h : Q { scope := scope, locals := s.heap.objs.size, globals := g, cells := cellsFrom (s.heap.objs.size + 1) scope.names cl, qual := qual, func := none, code := env.code, frame := env.frame, builtins := env.builtins }
      { s with heap := pushCells (s.heap.push { cls := .type "dict", data := .dict #[] }) scope.names }) :
    wpAny M A (newFunctionEnv scope g cl [] qual none .none (some env)) Q E s := by
  simp only [newFunctionEnv, Option.isSome_some, if_true]
  refine wpAny_bind (wpAny_alloc ?_)
  refine wpAny_bind (wpAny_layCells _ (fun name kind cells => by cases hkc : kind == NameKind.cell <;> simp [hkc]) _ _ _ _ ?_)
  rw [show ({ s with heap := s.heap.push { cls := .type "dict", data := .dict #[] } } : Shared).heap.objs.size = s.heap.objs.size + 1 from Heap.size_push ..]
  refine wpAny_bind ?_
  rw [List.forIn_nil]
  exact wpAny_pure (wpAny_pure h)
end
theorem cellsFrom_mem : ∀ (names : List (Str × NameKind)) (h : Heap) (acc : List (Str × Addr)) (n : Str) (c : Addr), (n, c) ∈ cellsFrom h.objs.size names acc →
    (n, c) ∈ acc ∨ ((pushCells h names).IsCell c none ∧ h.objs.size ≤ c)
  | [], _, _, _, _, x => .inl x
  | (name, kind) :: r, h, acc, n, c, x => by
    unfold pushCells
    unfold cellsFrom at x
    split at x
    · rename_i hk
      rw [if_pos hk]
      have ih := cellsFrom_mem r (h.push { cls := .type "cell", data := .cell none }) ((name, h.objs.size) :: acc) n c (by rw [Heap.size_push]; exact x)
      rcases ih with ih | ⟨ih, hl⟩
      · rcases List.mem_cons.mp ih with e | e
        · cases e
          exact .inr ⟨Heap.IsCell.keeps (h := h.push { cls := .type "cell", data := .cell none }) ⟨_, Heap.get?_push_size _ rfl, rfl⟩ (pushCells_keeps r _), Nat.le_refl _⟩
        · exact .inl e
      · rw [Heap.size_push] at hl
        exact .inr ⟨ih, Nat.le_of_succ_le hl⟩
    · rename_i hk
      rw [if_neg hk]
      exact cellsFrom_mem r h acc n c x

abbrev compE (scope : Scope) (env : Env) (C : Addr) (cells : List (Str × Addr)) : Env :=
  { scope := relabel scope env, locals := C, globals := env.globals, cells := cells, qual := env.qual, func := none, code := env.code, frame := env.frame, builtins := env.builtins }

section
variable {prog : Program} {w : World} {A : Around} {env : Env} {h₀ h : Heap} {s : Shared}

/-- the tests of a comprehension -/
def EvI (prog : Program) (w : World) (A : Around) (env : Env) (h₀ : Heap) (ifs : List Expr) (b : Bool) : Prop :=
  ∀ s : Shared, Le h₀ s.heap → wpAny (model prog w) A (forIn ifs true fun c r => if r = true then do let ok ← isTrue c env (eval c env); pure (ForInStep.yield ok) else pure (ForInStep.yield r)) (fun ok s' => Mv s s' ∧ ok = b) F0 s
theorem evI_nil : EvI prog w A env h₀ [] true := fun s k => wpAny_tests_nil ⟨Mv.refl k.t', rfl⟩
theorem evI_one {c : Expr} {b : Bool} (e : EvT prog w A env h₀ c b) : EvI prog w A env h₀ [c] b := fun s k => wpAny_tests_one (e s k)

structure Ok {β : Type} (Rb : Rep β) (s₁ : Shared) (D C pl : Addr) (St : Nat → Heap → Prop) (i : Nat) (cenv : Env) (x : Str) (ys : Array Value) (out : List β) (s : Shared) : Prop where
  mv : Mv s₁ s
  st : St i s.heap
  d : s.heap.IsList D ys
  c : ∃ m, s.heap.Ns C m
  p : PlOk s.heap cenv x pl
  o : All2 (fun y v => Rb v s.heap y) ys.toList out

variable {β : Type} {Rb : Rep β} {s₁ : Shared} {D C pl I : Addr} {St : Nat → Heap → Prop} {i : Nat} {cenv : Env} {x : Str} {ys : Array Value} {out : List β} {n : Nat} {P : Nat → HP} {fp wr : List Addr} {Pv : Nat → Value → Prop} {hx h2 : Heap}

theorem Ok.step (k : Ok Rb s₁ D C pl St i cenv x ys out s) (S : SrcAt prog w A hx h2 n P I fp wr Pv St) (mb : MonoT Rb) {s' : Shared} (m : Mv s s') : Ok Rb s₁ D C pl St i cenv x ys out s' := by
  refine ⟨k.mv.trans m, S.W.frame _ _ _ k.st fun b hb o e => ?_, Le.list m.le.lq k.d, k.c.elim fun mm q => ⟨mm, m.le.ns q⟩, k.p.le m.le, k.o.mono fun y v r => mb v _ _ y m.le.lq.lt r⟩
  have nn : b ≠ 30 ∧ b ≠ 37 := by
    by_cases hw : b ∈ wr
    · obtain ⟨o', e', vs, _, hc, _⟩ := S.itr _ _ k.st b hw
      exact k.mv.le.t'.neC e' hc
    · obtain ⟨o', xs, nn, e', hd⟩ := S.seq _ _ k.st b hb hw
      exact k.mv.le.t'.ne e' fun vs q => by rw [hd] at q; cases q
  exact m.le.k b o nn.1 nn.2 e
/-- what an iterator's turn keeps -/
theorem itr_keep (S : SrcAt prog w A hx h2 n P I fp wr Pv St) (st : St i h) {h' : Heap} (k : ∀ b o, b ∉ wr → h.get? b = some o → h'.get? b = some o) : ∀ a o, h.get? a = some o → ¬ Itr o → h'.get? a = some o := fun a o e hn => by
  refine k a o (fun hm => ?_) e
  obtain ⟨o', e', y⟩ := S.itr _ _ st a hm
  rw [e] at e'; cases e'
  exact hn y
theorem not_itr_seq {o : Obj} {xs : Array Value} {n : Nat} (d : o.data = .seq xs n) : ¬ Itr o := fun ⟨vs, e, _⟩ => by rw [d] at e; cases e
theorem not_itr_dict {o : Obj} {es : Array DictEntry} {n : Nat} (d : o.data = .dict es n) : ¬ Itr o := fun ⟨vs, e, _⟩ => by rw [d] at e; cases e
theorem not_itr_cell {o : Obj} {v : Option Value} (d : o.data = .cell v) : ¬ Itr o := fun ⟨vs, e, _⟩ => by rw [d] at e; cases e
theorem itr_le {h' : Heap} (l : Le hx h) (S : SrcAt prog w A hx h2 n P I fp wr Pv St) (st : St i h) (k : ∀ b o, b ∉ wr → h.get? b = some o → h'.get? b = some o) : Le hx h' := by
  refine ⟨l.t, l.t'.step fun a o e y => itr_keep S st k a o e fun q => q.not y, fun a o h1 h2 e => k a o (fun hm => ?_) (l.k a o h1 h2 e)⟩
  rw [S.fresh a hm] at e; cases e
theorem Ok.turn (k : Ok Rb s₁ D C pl St i cenv x ys out s) (S : SrcAt prog w A s₁.heap h2 n P I fp wr Pv St) (mb : MonoT Rb) {h' : Heap} {tk : Nat} (st : St (i + 1) h') (kp : ∀ b o, b ∉ wr → s.heap.get? b = some o → h'.get? b = some o) :
    Ok Rb s₁ D C pl St (i + 1) cenv x ys out { s with heap := h', toks := tk } := by
  have kk := itr_keep S k.st kp
  obtain ⟨h0, t0, rfl, l0⟩ := k.mv
  refine ⟨⟨h', tk, rfl, itr_le l0 S k.st kp⟩, st, ?_, ?_, ?_, ?_⟩
  · obtain ⟨o, e, hc, nn, hd⟩ := k.d
    exact ⟨o, kk _ _ e (not_itr_seq hd), hc, nn, hd⟩
  · obtain ⟨m, o, es, ep, e, hd, r⟩ := k.c
    exact ⟨m, o, es, ep, kk _ _ e (not_itr_dict hd), hd, r⟩
  · refine k.p.keep fun o e => kk _ _ e fun q => ?_
    obtain ⟨o', e', hf, _⟩ := k.p.obj
    have e2 : h0.get? pl = some o := e
    have e3 : h0.get? pl = some o' := e'
    rw [e2] at e3; cases e3
    obtain ⟨vs, hd, _⟩ := q
    exact hf vs hd
  · exact k.o.mono fun y v r => mb v _ _ y (fun a o xs nn e hc hd => kk _ _ e (not_itr_seq hd)) r
end
end Mine

/-! part 5 -/
open PySem PySem.Spec PySem.Calls PyProof.Rows PySem.W
set_option maxRecDepth 100000
set_option Elab.async false
set_option linter.unusedVariables false
namespace Mine
section
variable {prog : Program} {w : World} {A : Around} {env : Env} {h₀ h : Heap} {s : Shared}
  {β : Type} {Rb : Rep β} {s₁ : Shared} {D C pl I : Addr} {St : Nat → Heap → Prop} {i : Nat} {cenv : Env} {x : Str} {ys : Array Value} {out : List β} {n : Nat} {P : Nat → HP} {fp wr : List Addr} {Pv : Nat → Value → Prop} {hx h2 : Heap}

theorem Ok.kept (k : Ok Rb s₁ D C pl St i cenv x ys out s) (S : SrcAt prog w A s₁.heap h2 n P I fp wr Pv St) (mb : MonoT Rb) {h' : Heap} {tk : Nat} (kp : ∀ b o, b ∉ wr → s.heap.get? b = some o → h'.get? b = some o) :
    Mv s₁ { s with heap := h', toks := tk } ∧ h'.IsList D ys ∧ (∃ m, h'.Ns C m) ∧ All2 (fun y v => Rb v h' y) ys.toList out := by
  have kk := itr_keep S k.st kp
  obtain ⟨h0, t0, rfl, l0⟩ := k.mv
  refine ⟨⟨h', tk, rfl, itr_le l0 S k.st kp⟩, ?_, ?_, ?_⟩
  · obtain ⟨o, e, hc, nn, hd⟩ := k.d
    exact ⟨o, kk _ _ e (not_itr_seq hd), hc, nn, hd⟩
  · obtain ⟨m, o, es, ep, e, hd, r⟩ := k.c
    exact ⟨m, o, es, ep, kk _ _ e (not_itr_dict hd), hd, r⟩
  · exact k.o.mono fun y v r => mb v _ _ y (fun a o xs nn e hc hd => kk _ _ e (not_itr_seq hd)) r

theorem Ok.store (k : Ok Rb s₁ D C pl St i cenv x ys out s) (S : SrcAt prog w A s₁.heap h2 n P I fp wr Pv St) (mb : MonoT Rb) (hP : pl ∉ fp) (hf : s₁.heap.get? pl = none) (hC : C = cenv.locals) {h' : Heap} {tk : Nat} (sb : Heap.SameBut pl s.heap h') (p' : PlOk h' cenv x pl) :
    Ok Rb s₁ D C pl St i cenv x ys out { s with heap := h', toks := tk } := by
  have lq := k.p.lq sb
  have ti := k.p.ti k.mv.le.t' sb
  have pc := k.p
  obtain ⟨h0, t0, rfl, l0⟩ := k.mv
  refine ⟨⟨h', tk, rfl, ⟨l0.t, ti, fun a o h1 h2 e => (sb.2 a (fun q => by subst q; rw [hf] at e; cases e)).trans (l0.k a o h1 h2 e)⟩⟩, S.W.frame _ _ _ k.st fun b hb o e => (sb.2 b (fun q => hP (q ▸ hb))).trans e, Le.list lq k.d, ?_, p', k.o.mono fun y v r => mb v _ _ y lq.lt r⟩
  rcases p' with ⟨_, e, m, hn⟩ | ⟨_, _, v, hv⟩
  · exact ⟨m, hC ▸ e ▸ hn⟩
  · rename_i kx _
    obtain ⟨m, hn⟩ := k.c
    have hne : C ≠ pl := fun q => by
      obtain ⟨o, es, ep, e, hd, _⟩ := hn
      rcases pc with ⟨a1, a2, _⟩ | ⟨_, _, v', o', e', hd'⟩
      · rw [a1] at kx; cases kx
      · rw [q, e'] at e; cases e; rw [hd'] at hd; cases hd
    exact ⟨m, hn.sameBut sb hne⟩

theorem Ok.push (k : Ok Rb s₁ D C pl St i cenv x ys out s) (S : SrcAt prog w A s₁.heap h2 n P I fp wr Pv St) (mb : MonoT Rb) (hD : D ∉ fp) (hf : s₁.heap.get? D = none) {y : Value} {b : β} (r : Rb b s.heap y) {h' : Heap} (hl : h'.IsList D (ys.push y)) (sb : Heap.SameBut D s.heap h') :
    Ok Rb s₁ D C pl St i cenv x (ys.push y) (out ++ [b]) { s with heap := h' } := by
  obtain ⟨od, ed, hcd, nd, hdd⟩ := k.d
  have lt : Lt s.heap h' := fun a o xs nn e hc hd => (sb.2 a (fun q => by subst q; rw [ed] at e; cases e; exact absurd (hcd.symm.trans hc) (by simp))).trans e
  have ti : TI h' := k.mv.le.t'.step fun a o e y => (sb.2 a (fun q => by subst q; rw [ed] at e; cases e; obtain ⟨vs, q2, _⟩ := y; rw [hdd] at q2; cases q2)).trans e
  have kc := k.c
  have kp := k.p
  have ko := k.o
  have kst := k.st
  obtain ⟨h0, t0, rfl, l0⟩ := k.mv
  refine ⟨⟨h', t0, rfl, ⟨l0.t, ti, fun a o h1 h2 e => (sb.2 a (fun q => by subst q; rw [hf] at e; cases e)).trans (l0.k a o h1 h2 e)⟩⟩, S.W.frame _ _ _ kst fun b hb o e => (sb.2 b (fun q => hD (q ▸ hb))).trans e, hl, ?_, ?_, ?_⟩
  · obtain ⟨m, o, es, ep, e, hd, rr⟩ := kc
    exact ⟨m, o, es, ep, (sb.2 C (fun q => by subst q; have e2 : h0.get? C = some od := ed; have e1 : h0.get? C = some o := e; rw [e1] at e2; cases e2; rw [hdd] at hd; cases hd)).trans e, hd, rr⟩
  · refine kp.keep fun o e => (sb.2 pl (fun q => ?_)).trans e
    subst q
    obtain ⟨o', e', _, hs⟩ := kp.obj
    have e2 : h0.get? pl = some od := ed
    have e1 : h0.get? pl = some o' := e'
    rw [e1] at e2; cases e2
    exact hs _ _ hdd
  · rw [Array.toList_push]
    exact (ko.mono fun y v rr => mb v _ _ y lt rr).append (.cons (mb _ _ _ _ lt r) .nil)

variable {α : Type} {Ra : Rep α} {xs : List α} {p : α → Bool} {f : α → β} {elt iter : Expr} {ifs : List Expr} {px pos : Pos} {scope : Scope}

theorem comp_loop {RR : Result → Shared → Prop} (hk : cenv.scope.kind = .function) (S : SrcAt prog w A s₁.heap h2 xs.length (fun i h u => ∃ a, xs[i]? = some a ∧ Ra a h u) I fp wr Pv St)
    (hD : D ∉ fp) (hP : pl ∉ fp) (fD : s₁.heap.get? D = none) (fP : s₁.heap.get? pl = none) (hC : C = cenv.locals) (mb : MonoT Rb) (ma : Mono Ra) (hsz : xs.length ≤ sizeLine)
    (tests : ∀ a ∈ xs, ∀ h u, Le s₁.heap h → Ra a h u → BdV h cenv x u → EvI prog w A cenv h ifs (p a))
    (elts : ∀ a ∈ xs, p a = true → ∀ h u, Le s₁.heap h → Ra a h u → BdV h cenv x u → Ev prog w A cenv h elt (Rb (f a)))
    (fin : ∀ s' ys, Mv s₁ s' → s'.heap.IsList D ys → (∃ m, s'.heap.Ns C m) → All2 (fun y v => Rb v s'.heap y) ys.toList ((xs.filter p).map f) → RR (.ok .next) s')
    (k : Ok Rb s₁ D C pl St 0 cenv x #[] [] s) : codeAny (model prog w) A (.compLoop (.ListComp elt [⟨.Name x px, iter, ifs, 0⟩] scope pos) 0 (.ref I) (.ref D) cenv) RR s := by
  refine codeAny_compLoop_tests (fun k s' => ∃ i ys, i ≤ xs.length ∧ k = xs.length + 1 - i ∧ Ok Rb s₁ D C pl St i cenv x ys (((xs.take i).filter p).map f) s') ?_ (xs.length + 1) ⟨0, #[], Nat.zero_le _, rfl, by simpa using k⟩
  rintro k s' ⟨i, ys, hi, rfl, k⟩
  have elim : ∀ {α : Type} {t : Sem α} {Q : α → Shared → Prop} {E : Value → Shared → Prop} {s : Shared}, wpAny (model prog w) A t Q F0 s → wpAny (model prog w) A t Q E s := fun h => wpAny_mono h (fun _ _ q => q) fun _ _ q => q.elim
  have hys : ys.size ≤ i := by
    have := k.o.length
    rw [List.length_map] at this
    have h1 := List.length_filter_le p (xs.take i)
    rw [List.length_take] at h1
    have h2 : ys.toList.length = ys.size := rfl
    omega
  by_cases hlt : i < xs.length
  · refine S.W.item i s' _ _ hlt k.st fun v h' tk hv st' kp => ?_
    have k1 := k.turn S mb (tk := tk) st' kp
    obtain ⟨a, ha, hra⟩ := S.item i v hlt hv
    have hmem : a ∈ xs := List.mem_of_getElem? ha
    refine wpAny_assign_Name (elim (wpAny_mono (store_pl hk k1.p) (fun _ s2 q2 => ?_) fun _ _ q => q))
    obtain ⟨h2', tk2, rfl, sb, p', bv⟩ := q2
    have k2 := k1.store S mb hP fP hC (tk := tk2) sb p'
    have r2 : Ra a h2' v := ma a _ _ v k2.mv.le.lq hra
    refine elim (wpAny_mono (tests a hmem _ v k2.mv.le r2 bv _ (Le.refl k2.mv.le.t')) (fun ok s3 q3 => ?_) fun _ _ q => q)
    obtain ⟨m3, e3⟩ := q3
    subst e3
    have k3 := k2.step S mb m3
    have tk1 := take_succ_filter p xs i a ha
    by_cases hp : p a = true
    · rw [if_pos hp]
      refine elim (wpAny_mono (elts a hmem hp _ v k2.mv.le r2 bv s3 m3.le) (fun y s4 q4 => ?_) fun _ _ q => q)
      have k4 := k3.step S mb q4.1
      refine wpAny_list_append k4.d (fun h5 hl5 sb5 => ⟨xs.length + 1 - (i + 1), by omega, i + 1, ys.push y, hlt, rfl, ?_⟩) (by omega)
      rw [tk1, if_pos hp, List.map_append]
      exact k4.push S mb hD fD q4.2 hl5 sb5
    · rw [if_neg hp]
      refine ⟨xs.length + 1 - (i + 1), by omega, i + 1, ys, hlt, rfl, ?_⟩
      rw [tk1, if_neg hp, List.append_nil]
      exact k3
  · have hi' : i = xs.length := by omega
    subst hi'
    refine S.W.done s' _ _ k.st fun h' tk kp => ?_
    have kk := k.kept S mb (tk := tk) kp
    refine fin _ ys kk.1 kk.2.1 kk.2.2.1 ?_
    have := kk.2.2.2
    rwa [List.take_length] at this
end
end Mine

/-! part 6 -/
open PySem PySem.Spec PySem.Calls PyProof.Rows PySem.W
set_option maxRecDepth 100000
set_option Elab.async false
set_option linter.unusedVariables false
namespace Mine
section
variable {prog : Program} {w : World} {A : Around} {env : Env} {h₀ h : Heap} {s : Shared}
  {α β : Type} {Ra : Rep α} {Rb : Rep β} {x : Str} {xs : List α} {p : α → Bool} {f : α → β} {elt iter : Expr} {ifs : List Expr} {px pos pos' : Pos} {scope : Scope} {cl : List (Str × Addr)} {Rit : HP}

theorem comp_core {use : Option (Value → Sem Unit)} {Q : Value → Shared → Prop} (hs : ∀ x, foldedSetIterable iter env x = pure x) (hclos : closureFor scope env = pure cl) (hkind : scope.kind = .function)
    (hnames : ∀ x ∈ scope.names, x.2 = .local → scope.names.lookup x.1 = some .local)
    (hx : (relabel scope env).names.lookup x = some .local ∨ ((relabel scope env).names.lookup x = some .cell ∧ ∀ n : Nat, ∃ c, n ≤ c ∧ (cellsFrom n scope.names cl).lookup x = some c))
    (hcl : ∀ y c, (y, c) ∈ cl → ∃ v, h₀.IsCell c v)
    (ei : Ev prog w A env h₀ iter Rit) (src : ∀ s v, Le h₀ s.heap → Rit s.heap v → Src prog w A s v xs.length (fun i h u => ∃ a, xs[i]? = some a ∧ Ra a h u))
    (mb : MonoT Rb) (ma : Mono Ra) (hsz : xs.length ≤ sizeLine)
    (tests : ∀ a ∈ xs, ∀ C h u, Le h₀ h → Ra a h u → BdV h (compE scope env C (cellsFrom (C + 1) scope.names cl)) x u → EvI prog w A (compE scope env C (cellsFrom (C + 1) scope.names cl)) h ifs (p a))
    (elts : ∀ a ∈ xs, p a = true → ∀ C h u, Le h₀ h → Ra a h u → BdV h (compE scope env C (cellsFrom (C + 1) scope.names cl)) x u → Ev prog w A (compE scope env C (cellsFrom (C + 1) scope.names cl)) h elt (Rb (f a)))
    (fin : ∀ s' C D m, Mv s s' → s.heap.get? C = none → s'.heap.Ns C m → LstOf Rb ((xs.filter p).map f) s'.heap (.ref D) → s.heap.get? D = none → compPost (model prog w) A F0 use Q (.ref D) C (.ok .next) s')
    (l : Le h₀ s.heap) : wpAny (model prog w) A (comprehension (.ListComp elt [⟨.Name x px, iter, ifs, 0⟩] scope pos) scope env pos' (newList []) false (eval iter env) use) Q F0 s := by
  refine wpAny_comprehension_free rfl hs hclos hkind hnames (wpAny_mono (ei s l) (fun xv s₁ h₁ => wpAny_mono (src s₁ xv (l.trans h₁.1.le) h₁.2) (fun it s₂ h₂ => ?_) fun _ _ q => q) fun _ _ q => q)
  obtain ⟨m2, I, fp, wr, Pv, St, rfl, S, _⟩ := h₂
  refine wpAny_newList ?_ (Nat.zero_le _)
  generalize hH : s₂.heap.push { cls := .type "list", data := .seq ([] : List Value).toArray } = H
  have hHs : H.objs.size = s₂.heap.objs.size + 1 := by rw [← hH, Heap.size_push]
  have up1 : ∀ b o, s₂.heap.get? b = some o → H.get? b = some o := fun b o e => by rw [← hH]; exact Heap.get?_push_of_some _ e
  refine nfe ?_
  show codeAny _ _ (.compStart _ 0 (.ref I) (.ref s₂.heap.objs.size) (compE scope env H.objs.size (cellsFrom (H.objs.size + 1) scope.names cl))) _ _
  have up2 : ∀ b o, H.get? b = some o → (pushCells (H.push { cls := .type "dict", data := .dict #[] }) scope.names).get? b = some o := fun b o e => pushCells_keeps _ _ b o (Heap.get?_push_of_some _ e)
  have mv4 : Mv s₁ { s₂ with heap := pushCells (H.push { cls := .type "dict", data := .dict #[] }) scope.names } := m2.trans (Mv.of m2.le.t' (fun b o e => up2 b o (up1 b o e)) s₂.toks)
  have hns : (pushCells (H.push { cls := .type "dict", data := .dict #[] }) scope.names).Ns H.objs.size (fun _ => none) := (Heap.Ns.new H (.type "dict")).keeps (pushCells_keeps _ _)
  have hHs2 : (H.push { cls := .type "dict", data := .dict #[] }).objs.size = H.objs.size + 1 := Heap.size_push ..
  obtain ⟨pl, hpl, hge⟩ : ∃ pl, PlOk (pushCells (H.push { cls := .type "dict", data := .dict #[] }) scope.names) (compE scope env H.objs.size (cellsFrom (H.objs.size + 1) scope.names cl)) x pl ∧ H.objs.size ≤ pl := by
    rcases hx with hx | ⟨hx, hc⟩
    · exact ⟨H.objs.size, .inl ⟨hx, rfl, _, hns⟩, Nat.le_refl _⟩
    · obtain ⟨c, hc1, hc2⟩ := hc (H.objs.size + 1)
      refine ⟨c, .inr ⟨hx, hc2, none, ?_⟩, Nat.le_of_succ_le hc1⟩
      rcases cellsFrom_mem scope.names (H.push { cls := .type "dict", data := .dict #[] }) cl x c (by rw [hHs2]; exact mem_of_lookup hc2) with q | q
      · exfalso
        obtain ⟨v, o, e, hd⟩ := hcl x c q
        have e2 := ((l.trans h₁.1.le).trans m2.le)
        obtain ⟨o2, e3, _⟩ := e2.cell ⟨o, e, hd⟩
        have h9 : @LT.lt Nat _ c s₂.heap.objs.size := Heap.lt_size e3
        have h8 : @LE.le Nat _ (H.objs.size + 1) c := hc1
        omega
      · exact q.1
  have ok : Ok Rb s₁ s₂.heap.objs.size H.objs.size pl St 0 (compE scope env H.objs.size (cellsFrom (H.objs.size + 1) scope.names cl)) x #[] [] { s₂ with heap := pushCells (H.push { cls := .type "dict", data := .dict #[] }) scope.names } :=
    ⟨mv4, S.W.frame _ _ _ S.st fun b _ o e => up2 b o (up1 b o e), ⟨_, up2 _ _ (by rw [← hH]; exact Heap.get?_push_size _ rfl), rfl, _, rfl⟩, ⟨_, hns⟩, hpl, .nil⟩
  have loop := comp_loop (prog := prog) (w := w) (A := A) (elt := elt) (iter := iter) (px := px) (pos := pos) (scope := scope)
    (RR := compPost (model prog w) A F0 use Q (.ref s₂.heap.objs.size) H.objs.size) (cenv := compE scope env H.objs.size (cellsFrom (H.objs.size + 1) scope.names cl)) hkind S
    (fun hm => Nat.lt_irrefl _ (S.lt _ hm)) (fun hm => by have h9 : @LT.lt Nat _ pl s₂.heap.objs.size := S.lt _ hm; have h8 : @LE.le Nat _ H.objs.size pl := hge; omega) (m2.le.none (Nat.le_refl _)) (m2.le.none (Nat.le_trans (Nat.le_of_lt (by rw [hHs]; exact Nat.lt_succ_self _)) hge)) rfl mb ma hsz
    (fun a ha h u lh r b => tests a ha _ h u ((l.trans h₁.1.le).trans lh) r b) (fun a ha hp h u lh r b => elts a ha hp _ h u ((l.trans h₁.1.le).trans lh) r b)
    (fun s' ys mv' hl' hc' ho' => by
      obtain ⟨m, hc'⟩ := hc'
      exact fin s' _ _ m (h₁.1.trans mv') ((h₁.1.le.trans m2.le).none (by rw [hHs]; exact Nat.le_succ _)) hc' ⟨_, ys, rfl, hl', ho'⟩ ((h₁.1.le.trans m2.le).none (Nat.le_refl _))) ok
  exact codeAny_compStart_list loop (S.W.self 0 _ _ _ ok.st loop)

theorem ns_le {a : Heap} {C : Addr} {m : Str → Option Value} {b c : Heap} (l : Le a b) (hn : a.get? C = none) (ns : b.Ns C m) (sb : Heap.SameBut C b c) : Le a c ∧ Lq b c := by
  obtain ⟨o, es, ep, e, hd, _⟩ := ns
  refine ⟨⟨l.t, l.t'.step fun p q e' y => (sb.2 p (fun z => by subst z; rw [e] at e'; cases e'; obtain ⟨vs, d, _⟩ := y; rw [hd] at d; cases d)).trans e', fun p q h1 h2 e' => (sb.2 p (fun z => by subst z; rw [hn] at e'; cases e')).trans (l.k p q h1 h2 e')⟩, fun p q xs n e' d => (sb.2 p (fun z => by subst z; rw [e] at e'; cases e'; rw [hd] at d; cases d)).trans e'⟩

theorem ev_comp (hclos : closureFor scope env = pure cl) (hkind : scope.kind = .function)
    (hnames : ∀ x ∈ scope.names, x.2 = .local → scope.names.lookup x.1 = some .local)
    (hx : (relabel scope env).names.lookup x = some .local ∨ ((relabel scope env).names.lookup x = some .cell ∧ ∀ n : Nat, ∃ c, n ≤ c ∧ (cellsFrom n scope.names cl).lookup x = some c))
    (hcl : ∀ y c, (y, c) ∈ cl → ∃ v, h₀.IsCell c v)
    (ei : Ev prog w A env h₀ iter Rit) (src : ∀ s v, Le h₀ s.heap → Rit s.heap v → Src prog w A s v xs.length (fun i h u => ∃ a, xs[i]? = some a ∧ Ra a h u))
    (mb : MonoT Rb) (ma : Mono Ra) (hsz : xs.length ≤ sizeLine)
    (tests : ∀ a ∈ xs, ∀ C h u, Le h₀ h → Ra a h u → BdV h (compE scope env C (cellsFrom (C + 1) scope.names cl)) x u → EvI prog w A (compE scope env C (cellsFrom (C + 1) scope.names cl)) h ifs (p a))
    (elts : ∀ a ∈ xs, p a = true → ∀ C h u, Le h₀ h → Ra a h u → BdV h (compE scope env C (cellsFrom (C + 1) scope.names cl)) x u → Ev prog w A (compE scope env C (cellsFrom (C + 1) scope.names cl)) h elt (Rb (f a)))
    (hs : ∀ x, foldedSetIterable iter env x = pure x := by intro _; rfl) :
    Ev prog w A env h₀ (.ListComp elt [⟨.Name x px, iter, ifs, 0⟩] scope pos) (LstOf Rb ((xs.filter p).map f)) := fun s l => by
  rw [eval_ListComp]
  refine comp_core (use := none) (Q := fun v s' => Mv s s' ∧ LstOf Rb ((xs.filter p).map f) s'.heap v) hs hclos hkind hnames hx hcl ei src mb ma hsz tests elts (fun s' C D m mv hC hn hl hD => ?_) l
  refine ⟨m, hn, fun h' sb => ?_⟩
  have := ns_le mv.le hC hn sb
  obtain ⟨h1, t1, rfl, _⟩ := mv
  exact ⟨⟨h', t1, rfl, this.1⟩, (LstOf.mono mb.mono) _ _ _ _ this.2 hl⟩
end
end Mine

/-! part 7 -/
open PySem PySem.Spec PySem.Calls PyProof.Rows PySem.W
set_option maxRecDepth 100000
set_option Elab.async false
set_option linter.unusedVariables false
namespace Mine

/-- all but the places X (and the two tables) is kept; tuples are always kept -/
structure LeB (X : List Addr) (h h' : Heap) : Prop where
  t : TI h
  t' : TI h'
  lt : Lt h h'
  k : ∀ a o, a ≠ 30 → a ≠ 37 → a ∉ X → h.get? a = some o → h'.get? a = some o
theorem Le.b {h h' : Heap} (l : Le h h') (X : List Addr) : LeB X h h' := ⟨l.t, l.t', l.lq.lt, fun a o h1 h2 _ e => l.k a o h1 h2 e⟩
theorem LeB.trans {X : List Addr} {a b c : Heap} (x : LeB X a b) (y : LeB X b c) : LeB X a c :=
  ⟨x.t, y.t', fun p o xs n e hc d => y.lt p o xs n (x.lt p o xs n e hc d) hc d, fun p o h1 h2 h3 e => y.k p o h1 h2 h3 (x.k p o h1 h2 h3 e)⟩
theorem LeB.mono {X Y : List Addr} {a b : Heap} (x : LeB X a b) (h : ∀ p ∈ X, p ∈ Y) : LeB Y a b := ⟨x.t, x.t', x.lt, fun p o h1 h2 h3 e => x.k p o h1 h2 (fun q => h3 (h p q)) e⟩
theorem LeB.le {X : List Addr} {h₀ h : Heap} (x : LeB X h₀ h) (hX : ∀ a ∈ X, h₀.get? a = none) : Le h₀ h := ⟨x.t, x.t', fun a o h1 h2 e => x.k a o h1 h2 (fun q => by rw [hX a q] at e; cases e) e⟩
theorem LeB.drop {X Y : List Addr} {h₀ h : Heap} (x : LeB Y h₀ h) (hX : ∀ a ∈ Y, a ∈ X ∨ h₀.get? a = none) : LeB X h₀ h :=
  ⟨x.t, x.t', x.lt, fun a o h1 h2 h3 e => x.k a o h1 h2 (fun q => by rcases hX a q with r | r; exact h3 r; rw [r] at e; cases e) e⟩
def MvB (X : List Addr) (s s' : Shared) : Prop := ∃ h' tk, s' = { s with heap := h', toks := tk } ∧ LeB X s.heap h'
theorem MvB.le {X : List Addr} {s s' : Shared} (x : MvB X s s') : LeB X s.heap s'.heap := by obtain ⟨h, k, rfl, p⟩ := x; exact p
theorem Mv.b {s s' : Shared} (m : Mv s s') (X : List Addr) : MvB X s s' := by obtain ⟨h, k, rfl, p⟩ := m; exact ⟨h, k, rfl, p.b X⟩
theorem MvB.trans {X : List Addr} {a b c : Shared} (x : MvB X a b) (y : MvB X b c) : MvB X a c := by
  obtain ⟨h, k, rfl, p⟩ := x
  obtain ⟨h', k', rfl, q⟩ := y
  exact ⟨h', k', rfl, p.trans q⟩
theorem MvB.mono {X Y : List Addr} {a b : Shared} (x : MvB X a b) (h : ∀ p ∈ X, p ∈ Y) : MvB Y a b := by obtain ⟨h', k, rfl, p⟩ := x; exact ⟨h', k, rfl, p.mono h⟩
theorem MvB.mv {X : List Addr} {a b : Shared} (x : MvB X a b) (hX : ∀ p ∈ X, a.heap.get? p = none) : Mv a b := by obtain ⟨h', k, rfl, p⟩ := x; exact ⟨h', k, rfl, p.le hX⟩
theorem MvB.drop {X Y : List Addr} {a b : Shared} (x : MvB Y a b) (hX : ∀ p ∈ Y, p ∈ X ∨ a.heap.get? p = none) : MvB X a b := by obtain ⟨h', k, rfl, p⟩ := x; exact ⟨h', k, rfl, p.drop hX⟩

/-- all but iterators is kept -/
def Ki (h h' : Heap) : Prop := ∀ a o, h.get? a = some o → ¬ Itr o → h'.get? a = some o
theorem Ki.lq {h h' : Heap} (k : Ki h h') : Lq h h' := fun a o xs n e d => k a o e (not_itr_seq d)
theorem Ki.ns {h h' : Heap} (k : Ki h h') {a : Addr} {m : Str → Option Value} (n : h.Ns a m) : h'.Ns a m := by
  obtain ⟨o, es, ep, e, hd, r⟩ := n
  exact ⟨o, es, ep, k _ _ e (not_itr_dict hd), hd, r⟩
theorem Ki.cell {h h' : Heap} (k : Ki h h') {a : Addr} {v : Option Value} (n : h.IsCell a v) : h'.IsCell a v := by
  obtain ⟨o, e, hd⟩ := n
  exact ⟨o, k _ _ e (not_itr_cell hd), hd⟩

abbrev Sg := List (Str × HP)
/-- a frame: where its names lie and what is known of their values -/
structure Fs (env : Env) (X : List Addr) (h : Heap) (σ : Sg) : Prop where
  k : env.scope.kind = .function
  L : env.locals ∈ X
  c : ∀ x, env.kindOf x = some .cell → ∃ c, env.cells.lookup x = some c ∧ c ∈ X ∧ c ≠ env.locals ∧ ∃ v, h.IsCell c v
  i : ∀ x y c, env.kindOf x = some .cell → env.kindOf y = some .cell → env.cells.lookup x = some c → env.cells.lookup y = some c → x = y
  v : ∃ m, h.Ns env.locals m ∧ ∀ x R, σ.lookup x = some R → Mn R ∧ ∃ v, R h v ∧ ((env.kindOf x = some .local ∧ m x = some v) ∨
    (env.kindOf x = some .cell ∧ ∃ c, env.cells.lookup x = some c ∧ h.IsCell c (some v)) ∨
    ((env.kindOf x = some .free ∧ (x == ("__classdict__" : Str)) = false) ∧ ∃ c, env.cells.lookup x = some c ∧ c ∉ X ∧ h.IsCell c (some v)))

section
variable {prog : Program} {w : World} {A : Around} {env : Env} {h₀ h h' : Heap} {s : Shared} {R : HP} {x : Str} {X : List Addr} {σ : Sg} {v : Value}

theorem Fs.le (f : Fs env X h σ) (l : Le h h') : Fs env X h' σ := by
  obtain ⟨k, L, c, i, m, hn, hv⟩ := f
  refine ⟨k, L, fun x q => ?_, i, m, l.ns hn, fun x R q => ?_⟩
  · obtain ⟨c, h1, h2, h3, v, h4⟩ := c x q
    exact ⟨c, h1, h2, h3, v, l.cell h4⟩
  · obtain ⟨mn, v, r, y⟩ := hv x R q
    refine ⟨mn, v, mn.le l r, ?_⟩
    rcases y with y | ⟨y1, c, y2, y3⟩ | ⟨y1, c, y2, y3, y4⟩
    · exact .inl y
    · exact .inr (.inl ⟨y1, c, y2, l.cell y3⟩)
    · exact .inr (.inr ⟨y1, c, y2, y3, l.cell y4⟩)
theorem Fs.ki (f : Fs env X h σ) (l : Ki h h') : Fs env X h' σ := by
  obtain ⟨k, L, c, i, m, hn, hv⟩ := f
  refine ⟨k, L, fun x q => ?_, i, m, l.ns hn, fun x R q => ?_⟩
  · obtain ⟨c, h1, h2, h3, v, h4⟩ := c x q
    exact ⟨c, h1, h2, h3, v, l.cell h4⟩
  · obtain ⟨mn, v, r, y⟩ := hv x R q
    refine ⟨mn, v, mn _ _ _ l.lq r, ?_⟩
    rcases y with y | ⟨y1, c, y2, y3⟩ | ⟨y1, c, y2, y3, y4⟩
    · exact .inl y
    · exact .inr (.inl ⟨y1, c, y2, l.cell y3⟩)
    · exact .inr (.inr ⟨y1, c, y2, y3, l.cell y4⟩)
/-- a list kept by the frame is turned: what is known of values must not hang on the heap -/
def Cst (R : HP) : Prop := ∀ h h' v, R h v → R h' v
theorem Fs.list (f : Fs env X h σ) {D : Addr} {ys : Array Value} (hl : h.IsList D ys) (sb : Heap.SameBut D h h') (hc : ∀ x R, σ.lookup x = some R → Cst R) : Fs env X h' σ := by
  obtain ⟨k, L, c, i, m, ⟨o, es, ep, e, hd, hr⟩, hv⟩ := f
  obtain ⟨o', e', _, n, hd'⟩ := hl
  have cl : ∀ c v, h.IsCell c v → h'.IsCell c v := fun c v q => q.sameBut sb fun z => by
    obtain ⟨o2, e2, d2⟩ := q
    rw [z, e'] at e2; cases e2; rw [hd'] at d2; cases d2
  refine ⟨k, L, fun x q => ?_, i, m, ⟨o, es, ep, (sb.2 _ fun z => by rw [z, e'] at e; cases e; rw [hd'] at hd; cases hd).trans e, hd, hr⟩, fun x R q => ?_⟩
  · obtain ⟨c, h1, h2, h3, v, h4⟩ := c x q
    exact ⟨c, h1, h2, h3, v, cl _ _ h4⟩
  · obtain ⟨mn, v, r, y⟩ := hv x R q
    refine ⟨mn, v, hc x R q _ _ _ r, ?_⟩
    rcases y with y | ⟨y1, c, y2, y3⟩ | ⟨y1, c, y2, y3, y4⟩
    · exact .inl y
    · exact .inr (.inl ⟨y1, c, y2, cl _ _ y3⟩)
    · exact .inr (.inr ⟨y1, c, y2, y3, cl _ _ y4⟩)
theorem Fs.more (f : Fs env X h σ) {Y : List Addr} (hY : ∀ a ∈ X, a ∈ Y) (hn : ∀ x, env.kindOf x ≠ some .free) : Fs env Y h σ := by
  obtain ⟨k, L, c, i, m, hns, hv⟩ := f
  refine ⟨k, hY _ L, fun x q => ?_, i, m, hns, fun x R q => ?_⟩
  · obtain ⟨c, h1, h2, h3⟩ := c x q
    exact ⟨c, h1, hY _ h2, h3⟩
  · obtain ⟨mn, v, r, y⟩ := hv x R q
    refine ⟨mn, v, r, ?_⟩
    rcases y with y | y | ⟨y1, _⟩
    · exact .inl y
    · exact .inr (.inl y)
    · exact absurd y1.1 (hn x)

theorem Fs.bd (f : Fs env X h σ) (e : σ.lookup x = some R) : Bd h env x R ∧ Mn R := by
  obtain ⟨k, L, c, i, m, hn, hv⟩ := f
  obtain ⟨mn, v, r, y⟩ := hv x R e
  refine ⟨⟨k, v, r, ?_⟩, mn⟩
  rcases y with y | ⟨y1, c, y2, y3⟩ | ⟨y1, c, y2, y3, y4⟩
  · exact .inl ⟨y.1, m, hn, y.2⟩
  · exact .inr ⟨.inl y1, c, y2, y3⟩
  · exact .inr ⟨.inr y1, c, y2, y4⟩
theorem Fs.ev (f : Fs env X h σ) {pos : Pos} (e : σ.lookup x = some R) (hd : (x == ("__debug__" : Str)) = false := by decide) : Ev prog w A env h (.Name x pos) R :=
  ev_name (f.bd e).1 (f.bd e).2 hd
/-- a cell of the frame, read in a comprehension -/
theorem Fs.up (f : Fs env X h σ) (e : σ.lookup x = some R) (hx : env.kindOf x = some .cell ∨ env.kindOf x = some .free) {cenv : Env} (hk : cenv.scope.kind = .function) (hx' : cenv.kindOf x = some .cell ∨ cenv.kindOf x = some .free) (hc : cenv.cells.lookup x = env.cells.lookup x) (hcd : (x == ("__classdict__" : Str)) = false) : Bd h cenv x R := by
  obtain ⟨k, L, c, i, m, hn, hv⟩ := f
  obtain ⟨mn, v, r, y⟩ := hv x R e
  refine ⟨hk, v, r, .inr ⟨hx'.imp_right fun q => ⟨q, hcd⟩, ?_⟩⟩
  rcases y with y | ⟨y1, c, y2, y3⟩ | ⟨y1, c, y2, y3, y4⟩
  · rcases hx with hx | hx <;> (rw [hx] at y; cases y.1)
  · exact ⟨c, hc.trans y2, y3⟩
  · exact ⟨c, hc.trans y2, y4⟩

inductive Sub (σ : Sg) : Sg → Prop
  | nil : Sub σ []
  | cons {x : Str} {R R' : HP} {σ' : Sg} : σ.lookup x = some R' → (∀ h v, R' h v → R h v) → Mn R → Sub σ σ' → Sub σ ((x, R) :: σ')
theorem Sub.get : ∀ {σ' : Sg}, Sub σ σ' → ∀ x R, σ'.lookup x = some R → Mn R ∧ ∃ R', σ.lookup x = some R' ∧ ∀ h v, R' h v → R h v
  | _, .nil, x, R, e => by simp at e
  | _, .cons (x := y) a b c d, x, R, e => by
    rw [List.lookup_cons] at e
    cases hb : x == y with
    | true => rw [hb] at e; cases e; rw [beq_iff_eq.mp hb]; exact ⟨c, _, a, b⟩
    | false => rw [hb] at e; exact Sub.get d x R e
theorem Fs.sub {σ' : Sg} (f : Fs env X h σ) (q : Sub σ σ') : Fs env X h σ' := by
  obtain ⟨k, L, c, i, m, hn, hv⟩ := f
  refine ⟨k, L, c, i, m, hn, fun x R e => ?_⟩
  obtain ⟨mn, R', e', im⟩ := q.get x R e
  obtain ⟨_, v, r, y⟩ := hv x R' e'
  exact ⟨mn, v, im _ _ r, y⟩

/-- a store -/
theorem Fs.putL (f : Fs env X s.heap σ) (t : TI s.heap) (hx : env.kindOf x = some .local ∨ env.kindOf x = some .cell) (r : R s.heap v) (mr : Mn R) :
    wpAny (model prog w) A (storeName env x v) (fun _ s' => MvB X s s' ∧ Fs env X s'.heap ((x, R) :: σ) ∧ Lq s.heap s'.heap) F0 s := by
  obtain ⟨k, L, c, i, m, hn, hv⟩ := f
  obtain ⟨oL, esL, epL, eL, dL, rL⟩ := hn
  have key : ∀ pl h' tk, pl ∈ X → (∃ o, s.heap.get? pl = some o ∧ (∀ vs, o.data ≠ .fields vs) ∧ ∀ xs n, o.data ≠ .seq xs n) → Heap.SameBut pl s.heap h' → MvB X s { s with heap := h', toks := tk } ∧ Lq s.heap h' := by
    rintro pl h' tk hp ⟨o, e, hf, hs⟩ sb
    have lq : Lq s.heap h' := fun a o' xs n e' d => (sb.2 a (fun q => by subst q; rw [e] at e'; cases e'; exact hs xs n d)).trans e'
    exact ⟨⟨h', tk, rfl, t, t.step fun a o' e' y => (sb.2 a (fun q => by subst q; rw [e] at e'; cases e'; obtain ⟨vs, d, _⟩ := y; exact hf vs d)).trans e', lq.lt, fun a o' _ _ h3 e' => (sb.2 a (fun q => h3 (q ▸ hp))).trans e'⟩, lq⟩
  rcases hx with hx | hx
  · refine wpAny_storeName_local hx ⟨oL, esL, epL, eL, dL, rL⟩ (fun h' hn' sb => ?_) (by rw [k]; rfl)
    obtain ⟨mv, lq⟩ := key env.locals h' (s.toks + 1) L ⟨oL, eL, fun vs q => (by rw [dL] at q; cases q), fun xs n q => (by rw [dL] at q; cases q)⟩ sb
    have cl : ∀ c v, s.heap.IsCell c v → h'.IsCell c v := fun c v q => q.sameBut sb fun z => by
      obtain ⟨o2, e2, d2⟩ := q
      rw [z, eL] at e2; cases e2; rw [dL] at d2; cases d2
    refine ⟨mv, ⟨k, L, fun y q => ?_, i, _, hn', fun y R' q => ?_⟩, lq⟩
    · obtain ⟨c, h1, h2, h3, v, h4⟩ := c y q
      exact ⟨c, h1, h2, h3, v, cl _ _ h4⟩
    · rw [List.lookup_cons] at q
      cases hb : y == x with
      | true =>
        rw [hb] at q; cases q
        have := beq_iff_eq.mp hb
        subst this
        exact ⟨mr, v, mr _ _ _ lq r, .inl ⟨hx, by simp⟩⟩
      | false =>
        rw [hb] at q
        have hne : y ≠ x := fun z => by subst z; simp at hb
        obtain ⟨mn, u, r', z⟩ := hv y R' q
        refine ⟨mn, u, mn _ _ _ lq r', ?_⟩
        rcases z with ⟨z1, z2⟩ | ⟨z1, c, z2, z3⟩ | ⟨z1, c, z2, z3, z4⟩
        · exact .inl ⟨z1, by simpa [hne] using z2⟩
        · exact .inr (.inl ⟨z1, c, z2, cl _ _ z3⟩)
        · exact .inr (.inr ⟨z1, c, z2, z3, cl _ _ z4⟩)
  · obtain ⟨pl, hpl, hX, hL, v₀, hv₀⟩ := c x hx
    have hv₀' := hv₀
    obtain ⟨o0, e0, d0⟩ := hv₀'
    refine wpAny_storeName_cell k hx hpl hv₀ fun h' hv' sb => ?_
    obtain ⟨mv, lq⟩ := key pl h' s.toks hX ⟨o0, e0, fun vs q => (by rw [d0] at q; cases q), fun xs n q => (by rw [d0] at q; cases q)⟩ sb
    refine ⟨mv, ⟨k, L, fun y q => ?_, i, m, (Heap.Ns.sameBut ⟨oL, esL, epL, eL, dL, rL⟩ sb fun z => hL z.symm), fun y R' q => ?_⟩, lq⟩
    · obtain ⟨c, h1, h2, h3, v, h4⟩ := c y q
      by_cases hc : c = pl
      · subst hc; exact ⟨c, h1, h2, h3, _, hv'⟩
      · exact ⟨c, h1, h2, h3, v, h4.sameBut sb hc⟩
    · rw [List.lookup_cons] at q
      cases hb : y == x with
      | true =>
        rw [hb] at q; cases q
        have := beq_iff_eq.mp hb
        subst this
        exact ⟨mr, v, mr _ _ _ lq r, .inr (.inl ⟨hx, pl, hpl, hv'⟩)⟩
      | false =>
        rw [hb] at q
        have hne : y ≠ x := fun z => by subst z; simp at hb
        obtain ⟨mn, u, r', z⟩ := hv y R' q
        refine ⟨mn, u, mn _ _ _ lq r', ?_⟩
        rcases z with z | ⟨z1, c, z2, z3⟩ | ⟨z1, c, z2, z3, z4⟩
        · exact .inl z
        · exact .inr (.inl ⟨z1, c, z2, z3.sameBut sb fun z => hne (i y x pl z1 hx (z ▸ z2) hpl)⟩)
        · exact .inr (.inr ⟨z1, c, z2, z3, z4.sameBut sb fun z => z3 (z ▸ hX)⟩)
theorem Fs.put (f : Fs env X s.heap σ) (t : TI s.heap) (hx : env.kindOf x = some .local ∨ env.kindOf x = some .cell) (r : R s.heap v) (mr : Mn R) :
    wpAny (model prog w) A (storeName env x v) (fun _ s' => MvB X s s' ∧ Fs env X s'.heap ((x, R) :: σ)) F0 s := wpAny_mono (f.putL t hx r mr) (fun _ _ q => ⟨q.1, q.2.1⟩) fun _ _ q => q
end
end Mine

/-! part 8 -/
open PySem PySem.Spec PySem.Calls PyProof.Rows PySem.W
set_option maxRecDepth 100000
set_option Elab.async false
set_option linter.unusedVariables false
namespace Mine

section
variable {prog : Program} {w : World} {A : Around} {env : Env} {h₀ h h' : Heap} {s : Shared} {R : HP} {x : Str} {X : List Addr} {σ : Sg} {v : Value} {rest : List Stmt} {Q : Flow → Shared → Prop}

theorem weakE {α : Type} {t : Sem α} {Q : α → Shared → Prop} {E : Value → Shared → Prop} (h : wpAny (model prog w) A t Q F0 s) : wpAny (model prog w) A t Q E s := wpAny_mono h (fun _ _ q => q) fun _ _ q => q.elim

/-- statements run -/
def Ru (prog : Program) (w : World) (A : Around) (env : Env) (X : List Addr) (s : Shared) (ss : List Stmt) (Q : Flow → Shared → Prop) : Prop :=
  wpAny (model prog w) A (execs ss env) (fun f s' => MvB X s s' ∧ Q f s') F0 s
theorem Ru.mv {s₁ : Shared} {ss : List Stmt} (m : MvB X s s₁) (r : Ru prog w A env X s₁ ss Q) : wpAny (model prog w) A (execs ss env) (fun f s' => MvB X s s' ∧ Q f s') F0 s₁ :=
  wpAny_mono r (fun f s' q => ⟨m.trans q.1, q.2⟩) fun _ _ q => q
theorem Ru.imp {ss : List Stmt} {Q' : Flow → Shared → Prop} (r : Ru prog w A env X s ss Q) (h : ∀ f s', MvB X s s' → Q f s' → Q' f s') : Ru prog w A env X s ss Q' := wpAny_mono r (fun f s' q => ⟨q.1, h f s' q.1 q.2⟩) fun _ _ q => q
theorem ru_nil (t : TI s.heap) (h : Q .next s) : Ru prog w A env X s [] Q := wpAny_execs_nil ⟨(Mv.refl t).b X, h⟩

theorem ru_assign {px pos : Pos} {val : Expr} (F : Fs env X s.heap σ) (e : Ev prog w A env s.heap val R) (t : TI s.heap) (m : Mn R) (hx : env.kindOf x = some .local ∨ env.kindOf x = some .cell)
    (k : ∀ s', MvB X s s' → Fs env X s'.heap ((x, R) :: σ) → Ru prog w A env X s' rest Q)
    (hs : swapsWith val (some (.Name x px)) pos.line env = pure false := by rfl) : Ru prog w A env X s (.Assign [.Name x px] val pos :: rest) Q := by
  refine wpAny_execs_cons (wpAny_Assign_Name (wpAny_mono (e s (Le.refl t)) (fun v s₁ h₁ => ?_) fun _ _ q => q) hs)
  refine wpAny_mono ((F.le h₁.1.le).put h₁.1.le.t' hx h₁.2 m) (fun _ s₂ h₂ => ?_) fun _ _ q => q
  have := (h₁.1.b X).trans h₂.1
  exact (k s₂ this h₂.2).mv this

theorem Fs.dict (f : Fs env X h σ) {C : Addr} {m : Str → Option Value} (hn : h.Ns C m) (hL : env.locals ≠ C) (sb : Heap.SameBut C h h') : Fs env X h' σ := by
  obtain ⟨k, L, c, i, m', hn', hv⟩ := f
  obtain ⟨o, es, ep, e, hd, _⟩ := hn
  have cl : ∀ c v, h.IsCell c v → h'.IsCell c v := fun c v q => q.sameBut sb fun z => by
    obtain ⟨o2, e2, d2⟩ := q
    rw [z, e] at e2; cases e2; rw [hd] at d2; cases d2
  have lq : Lq h h' := fun a o' xs n e' d => (sb.2 a (fun q => by subst q; rw [e] at e'; cases e'; rw [hd] at d; cases d)).trans e'
  refine ⟨k, L, fun x q => ?_, i, m', hn'.sameBut sb hL, fun x R q => ?_⟩
  · obtain ⟨c, h1, h2, h3, v, h4⟩ := c x q
    exact ⟨c, h1, h2, h3, v, cl _ _ h4⟩
  · obtain ⟨mn, v, r, y⟩ := hv x R q
    refine ⟨mn, v, mn _ _ _ lq r, ?_⟩
    rcases y with y | ⟨y1, c, y2, y3⟩ | ⟨y1, c, y2, y3, y4⟩
    · exact .inl y
    · exact .inr (.inl ⟨y1, c, y2, cl _ _ y3⟩)
    · exact .inr (.inr ⟨y1, c, y2, y3, cl _ _ y4⟩)

/-- x = [.. for ..], the display's own store -/
theorem ru_assign_comp {α β : Type} {Ra : Rep α} {Rb : Rep β} {z : Str} {xs : List α} {p : α → Bool} {f : α → β} {elt iter : Expr} {ifs : List Expr} {px pz pos' pos : Pos} {scope : Scope} {cl : List (Str × Addr)} {Rit : HP}
    (F : Fs env X s.heap σ) (t : TI s.heap) (hxx : env.kindOf x = some .local ∨ env.kindOf x = some .cell) (hXs : ∀ a ∈ X, ∃ o, s.heap.get? a = some o)
    (hsw : swapsWith (.ListComp elt [⟨.Name z pz, iter, ifs, 0⟩] scope pos') (some (.Name x px)) pos.line env = pure true)
    (hclos : closureFor scope env = pure cl) (hkind : scope.kind = .function)
    (hnames : ∀ x ∈ scope.names, x.2 = .local → scope.names.lookup x.1 = some .local)
    (hx : (relabel scope env).names.lookup z = some .local ∨ ((relabel scope env).names.lookup z = some .cell ∧ ∀ n : Nat, ∃ c, n ≤ c ∧ (cellsFrom n scope.names cl).lookup z = some c))
    (hcl : ∀ y c, (y, c) ∈ cl → ∃ v, s.heap.IsCell c v)
    (ei : Ev prog w A env s.heap iter Rit) (src : ∀ s₁ v, Le s.heap s₁.heap → Rit s₁.heap v → Src prog w A s₁ v xs.length (fun i h u => ∃ a, xs[i]? = some a ∧ Ra a h u))
    (mb : MonoT Rb) (ma : Mono Ra) (hsz : xs.length ≤ sizeLine)
    (tests : ∀ a ∈ xs, ∀ C h u, Le s.heap h → Ra a h u → BdV h (compE scope env C (cellsFrom (C + 1) scope.names cl)) z u → EvI prog w A (compE scope env C (cellsFrom (C + 1) scope.names cl)) h ifs (p a))
    (elts : ∀ a ∈ xs, p a = true → ∀ C h u, Le s.heap h → Ra a h u → BdV h (compE scope env C (cellsFrom (C + 1) scope.names cl)) z u → Ev prog w A (compE scope env C (cellsFrom (C + 1) scope.names cl)) h elt (Rb (f a)))
    (k : ∀ s', MvB X s s' → Fs env X s'.heap ((x, LstOf Rb ((xs.filter p).map f)) :: σ) → Ru prog w A env X s' rest Q)
    (hs : ∀ x, foldedSetIterable iter env x = pure x := by intro _; rfl) :
    Ru prog w A env X s (.Assign [.Name x px] (.ListComp elt [⟨.Name z pz, iter, ifs, 0⟩] scope pos') pos :: rest) Q := by
  refine wpAny_execs_cons ?_
  rw [exec_Assign_Name_used _ _ _ _ hsw]
  refine wpAny_bind (wpAny_standAt (wpAny_bind ?_))
  show wpAny _ A (do let _ ← comprehension (.ListComp elt [⟨.Name z pz, iter, ifs, 0⟩] scope pos') scope env _ (newList []) false (eval iter env) (some (assign (.Name x px) env))) _ _ s
  refine wpAny_bind (wpAny_mono (comp_core (use := some (assign (.Name x px) env)) (Q := fun _ s' => MvB X s s' ∧ Fs env X s'.heap ((x, LstOf Rb ((xs.filter p).map f)) :: σ)) hs hclos hkind hnames hx hcl ei src mb ma hsz tests elts (fun s' C D m mv hC hn hl hD => ?_) (Le.refl t)) (fun _ s' hq => wpAny_pure (wpAny_pure ((k s' hq.1 hq.2).mv hq.1))) fun _ _ q => q)
  have hCX : ∀ a ∈ X, a ≠ C := fun a ha z => by obtain ⟨o, e⟩ := hXs a ha; rw [z, hC] at e; cases e
  refine wpAny_assign_Name (wpAny_mono ((F.le mv.le).put mv.le.t' hxx hl (LstOf.mono mb.mono _)) (fun _ s'' h2 => ?_) fun _ _ q => q)
  obtain ⟨m2, f2⟩ := h2
  have hnC : s''.heap.Ns C m := by
    obtain ⟨o, es, ep, e, hd, r⟩ := hn
    have nn := mv.le.t'.ne e (fun vs q => by rw [hd] at q; cases q)
    exact ⟨o, es, ep, m2.le.k C o nn.1 nn.2 (fun q => hCX C q rfl) e, hd, r⟩
  refine ⟨m, hnC, fun h' sb => ⟨?_, f2.dict hnC (hCX _ F.L) sb⟩⟩
  have mm := (mv.b X).trans m2
  obtain ⟨h1, t1, rfl, l1⟩ := mm
  have hh : ∀ a o, s.heap.get? a = some o → a ≠ C := fun a o e z => by rw [z, hC] at e; cases e
  refine ⟨h', t1, rfl, l1.t, l1.t'.step fun a o e y => (sb.2 a (fun z => ?_)).trans e, fun a o xs n e hc d => (sb.2 a (hh a o e)).trans (l1.lt a o xs n e hc d), fun a o h3 h4 h5 e => (sb.2 a (hh a o e)).trans (l1.k a o h3 h4 h5 e)⟩
  subst z
  obtain ⟨o', es, ep, e', hd, _⟩ := hnC
  have e2 : h1.get? a = some o' := e'
  rw [e] at e2; cases e2
  obtain ⟨vs, d, _⟩ := y
  rw [hd] at d; cases d

theorem ru_if {c : Bool} {test : Expr} {body orelse : List Stmt} {pos : Pos} (t : TI s.heap) (e : EvT prog w A env s.heap test c)
    (k : ∀ s', Mv s s' → Ru prog w A env X s' (if c then body else orelse) (fun f s'' => match f with | .next => Ru prog w A env X s'' rest Q | f => Q f s'')) :
    Ru prog w A env X s (.If test body orelse pos :: rest) Q := by
  refine wpAny_execs_cons (wpAny_If (wpAny_mono (e s (Le.refl t)) (fun b s₂ h₂ => ?_) fun _ _ q => q))
  obtain ⟨m2, rfl⟩ := h₂
  have kk := (k s₂ m2).mv (m2.b X)
  have key : wpAny (model prog w) A (execs (if b then body else orelse) env) (fun f s' => match f with | .next => wpAny (model prog w) A (execs rest env) (fun f s' => MvB X s s' ∧ Q f s') F0 s' | f => MvB X s s' ∧ Q f s') F0 s₂ :=
    wpAny_mono kk (fun f s' q => by cases f <;> first | exact q | exact Ru.mv q.1 q.2) fun _ _ q => q
  cases b
  · exact key
  · exact key
/-- a test that holds not, nothing to do else -/
theorem ru_if_no {test : Expr} {body : List Stmt} {pos : Pos} (t : TI s.heap) (e : EvT prog w A env s.heap test false)
    (k : ∀ s', Mv s s' → Ru prog w A env X s' rest Q) :
    Ru prog w A env X s (.If test body [] pos :: rest) Q := ru_if t e fun s' m => ru_nil m.le.t' (k s' m)
theorem ru_ret {val : Expr} {pos : Pos} (t : TI s.heap) (e : Ev prog w A env s.heap val R) (k : ∀ s' v, Mv s s' → R s'.heap v → Q (.ret v) s') : Ru prog w A env X s (.Return (some val) pos :: rest) Q :=
  wpAny_execs_cons (wpAny_Return_some (wpAny_mono (e s (Le.refl t)) (fun v s₁ h₁ => ⟨h₁.1.b X, k _ _ h₁.1 h₁.2⟩) fun _ _ q => q))

/-- the places of a frame: no records -/
def XK (X : List Addr) (h : Heap) : Prop := ∀ a ∈ X, ∃ o, h.get? a = some o ∧ ∀ vs, o.data ≠ .fields vs
theorem XK.of (k : XK X h) : ∀ a ∈ X, ∃ o, h.get? a = some o := fun a ha => by obtain ⟨o, e, _⟩ := k a ha; exact ⟨o, e⟩
theorem XK.le (k : XK X h) (l : Le h h') : XK X h' := fun a ha => by
  obtain ⟨o, e, hf⟩ := k a ha
  have n := l.t.ne e hf
  exact ⟨o, l.k a o n.1 n.2 e, hf⟩
theorem rng_nX {a b : Int} (k : XK X h) (l : Le h h') (r : RngR a b h' v) : ∀ c, v = .ref c → c ∉ X := by
  intro c e hc
  subst e
  obtain ⟨o, e, hf⟩ := (k.le l) c hc
  obtain ⟨r, t, u, q, e', ir⟩ := r
  cases e'
  rw [ir] at e
  cases e
  exact hf _ rfl

theorem ru_for_core {n : Nat} {P : Nat → HP} {iter : Expr} {body : List Stmt} {px pos : Pos} (Inv : Nat → Heap → Prop) (t : TI s.heap) (hX : XK X s.heap)
    (ei : wpAny (model prog w) A (eval iter env) (fun xv s₁ => wpAny (model prog w) A (pyIter xv) (fun it s₂ => ∃ sb, Mv s sb ∧ Mv sb s₂ ∧ ∃ I fp wr Pv St, it = .ref I ∧ SrcAt prog w A sb.heap s₂.heap n P I fp wr Pv St ∧ ∀ b ∈ fp, b ∉ wr → b ∉ X) F0 s₁) F0 s)
    (stab : ∀ i h h', Ki h h' → Inv i h → Inv i h') (i0 : ∀ s', Mv s s' → Inv 0 s'.heap) (pst : ∀ i h h' v, LeB X h h' → P i h v → P i h' v)
    (turn : ∀ i s₁ v, i < n → MvB X s s₁ → Inv i s₁.heap → P i s₁.heap v → wpAny (model prog w) A (storeName env x v) (fun _ s₂ => MvB X s₁ s₂ ∧ Ru prog w A env X s₂ body (fun f s₃ => f = .next ∧ Inv (i + 1) s₃.heap)) F0 s₁)
    (fin : ∀ s', MvB X s s' → Inv n s'.heap → Ru prog w A env X s' rest Q)
    (hs : ∀ x, foldedSetIterable iter env x = pure x := by intro _; rfl) :
    Ru prog w A env X s (.For (.Name x px) iter body [] pos :: rest) Q := by
  refine wpAny_execs_cons (wpAny_For (wpAny_mono ei (fun xv s₀ h₀ => wpAny_mono h₀ (fun it s₂ h₂ => ?_) fun _ _ q => q) fun _ _ q => q) hs)
  obtain ⟨s₁, h₁, m2, I, fp, wr, Pv, St, rfl, S, hfp⟩ := h₂
  have hex : ∀ b ∈ X, ∃ o, s₁.heap.get? b = some o := (hX.le h₁.le).of
  have hfX : ∀ b ∈ fp, b ∉ X := fun b hb hm => by
    by_cases hw : b ∈ wr
    · obtain ⟨o, e⟩ := hex b hm
      rw [S.fresh b hw] at e; cases e
    · exact hfp b hb hw hm
  have sthold : ∀ i (s₃ s₄ : Shared), St i s₃.heap → MvB X s₃ s₄ → LeB X s₁.heap s₃.heap → St i s₄.heap := fun i s₃ s₄ st m l => by
    refine S.W.frame _ _ _ st fun b hb o e => ?_
    have nn : b ≠ 30 ∧ b ≠ 37 := by
      by_cases hw : b ∈ wr
      · obtain ⟨o', e', vs, _, hc, _⟩ := S.itr _ _ st b hw
        exact m.le.t.neC e' hc
      · obtain ⟨o', xs, nn, e', hd⟩ := S.seq _ _ st b hb hw
        exact m.le.t.ne e' fun vs q => by rw [hd] at q; cases q
    exact m.le.k b o nn.1 nn.2 (hfX b hb) e
  refine codeAny_forLoop_any (fun k s' => ∃ i, i ≤ n ∧ k = n - i ∧ MvB X s₁ s' ∧ St i s'.heap ∧ Inv i s'.heap) ?_ n ⟨0, Nat.zero_le _, rfl, m2.b X, S.st, i0 s₂ (h₁.trans m2)⟩
  rintro k s' ⟨i, hi, rfl, mv, st, inv⟩
  have turned : ∀ h' tk, (∀ b o, b ∉ wr → s'.heap.get? b = some o → h'.get? b = some o) → MvB X s₁ { s' with heap := h', toks := tk } ∧ Inv i h' := fun h' tk kp => by
    have ki : Ki s'.heap h' := itr_keep S st kp
    refine ⟨?_, stab i _ _ ki inv⟩
    obtain ⟨h0, t0, rfl, l0⟩ := mv
    refine ⟨h', tk, rfl, l0.t, l0.t'.step fun a o e y => ki a o e fun q => q.not y, fun a o xs n e hc d => ki a o (l0.lt a o xs n e hc d) (not_itr_seq d), fun a o h1 h2 h3 e => kp a o (fun hm => ?_) (l0.k a o h1 h2 h3 e)⟩
    rw [S.fresh a hm] at e; cases e
  have m1b := h₁.b X
  by_cases hlt : i < n
  · refine S.W.item i s' _ _ hlt st fun v h' tk hv st' kp => ?_
    obtain ⟨mv', inv'⟩ := turned h' tk kp
    show wpAny _ A (letOwnedTupleGo (.Name x px) (.ref I) v) _ _ _
    refine wpAny_pure ?_
    refine wpAny_assign_Name (weakE (wpAny_mono (turn i _ v hlt (m1b.trans mv') inv' (pst i _ _ v mv'.le (S.item i v hlt hv))) (fun _ s₃ h₃ => ?_) fun _ _ q => q))
    refine weakE (wpAny_mono h₃.2 (fun f s₄ h₄ => ?_) fun _ _ q => q)
    obtain ⟨m4, rfl, inv4⟩ := h₄
    have m34 := h₃.1.trans m4
    exact ⟨n - (i + 1), by omega, i + 1, hlt, rfl, mv'.trans m34, sthold _ _ _ st' m34 mv'.le, inv4⟩
  · have hi' : i = n := by omega
    subst hi'
    refine S.W.done s' _ _ st fun h' tk kp => ?_
    obtain ⟨mv', inv'⟩ := turned h' tk kp
    refine wpAny_execs_nil ?_
    have mm := m1b.trans mv'
    exact (fin _ mm inv').mv mm
theorem ru_for {n : Nat} {P : Nat → HP} {Rit : HP} {iter : Expr} {body : List Stmt} {px pos : Pos} (Inv : Nat → Heap → Prop) (t : TI s.heap) (hX : XK X s.heap)
    (ei : Ev prog w A env s.heap iter Rit) (src : ∀ s₁ v, Le s.heap s₁.heap → Rit s₁.heap v → Src prog w A s₁ v n P) (hnX : ∀ s₁ v, Le s.heap s₁ → Rit s₁ v → ∀ b, v = .ref b → b ∉ X)
    (stab : ∀ i h h', Ki h h' → Inv i h → Inv i h') (i0 : ∀ s', Mv s s' → Inv 0 s'.heap) (pst : ∀ i h h' v, LeB X h h' → P i h v → P i h' v)
    (turn : ∀ i s₁ v, i < n → MvB X s s₁ → Inv i s₁.heap → P i s₁.heap v → wpAny (model prog w) A (storeName env x v) (fun _ s₂ => MvB X s₁ s₂ ∧ Ru prog w A env X s₂ body (fun f s₃ => f = .next ∧ Inv (i + 1) s₃.heap)) F0 s₁)
    (fin : ∀ s', MvB X s s' → Inv n s'.heap → Ru prog w A env X s' rest Q)
    (hs : ∀ x, foldedSetIterable iter env x = pure x := by intro _; rfl) :
    Ru prog w A env X s (.For (.Name x px) iter body [] pos :: rest) Q := by
  refine ru_for_core Inv t hX (wpAny_mono (ei s (Le.refl t)) (fun xv s₁ h₁ => wpAny_mono (src s₁ xv h₁.1.le h₁.2) (fun it s₂ h₂ => ?_) fun _ _ q => q) fun _ _ q => q) stab i0 pst turn fin hs
  obtain ⟨m2, I, fp, wr, Pv, St, e, S, hfp⟩ := h₂
  exact ⟨s₁, h₁.1, m2, I, fp, wr, Pv, St, e, S, fun b hb hw => hnX _ _ h₁.1.le h₁.2 b (hfp b hb hw)⟩
end
end Mine

/-! part 9 -/
open PySem PySem.Spec PySem.Calls PyProof.Rows PySem.W
set_option maxRecDepth 100000
set_option Elab.async false
set_option linter.unusedVariables false
namespace Mine

section
variable {prog : Program} {w : World} {A : Around} {env : Env} {h₀ h h' : Heap} {s : Shared} {R : HP} {x : Str} {X : List Addr} {σ : Sg} {v : Value} {rest : List Stmt} {Q : Flow → Shared → Prop}

theorem codeRec_le {cd : Value} {q : Str} (x : h.CodeRec cd q) (l : Le h h') : h'.CodeRec cd q := by
  obtain ⟨c, o, vs, t, e1, e2, e3, e4⟩ := x
  have key : c ≠ 30 ∧ c ≠ 37 := by
    obtain ⟨⟨p1, a1, b1⟩, ⟨p2, a2, b2⟩⟩ := l.t
    constructor
    · rintro rfl
      rw [a1] at e2; cases e2
      have e3' : p1 = vs := by injection e3
      subst e3'
      rcases b1 with rfl | ⟨cd, rfl, _⟩
      · simp at e4
      · simp [rawInt] at e4
    · rintro rfl
      rw [a2] at e2; cases e2
      have e3' : p2 = vs := by injection e3
      subst e3'
      rcases b2 with rfl | ⟨cd, rfl, _⟩
      · simp at e4
      · simp [rawInt] at e4
  exact ⟨c, o, vs, t, e1, l.k c o key.1 key.2 e2, e3, e4⟩
theorem noLimit_le (x : h.NoLimit) (l : Le h h') : h'.NoLimit := by
  obtain ⟨mc, a, b⟩ := x
  exact ⟨mc, l.ns a, b⟩

structure DefAt (h : Heap) (a : Addr) (fd : FuncData) : Prop where
  fn : FnAt h a fd
  code : h.CodeRec fd.code fd.qualname
  lim : h.NoLimit
theorem DefAt.le {a : Addr} {fd : FuncData} (d : DefAt h a fd) (l : Le h h') : DefAt h' a fd := ⟨d.fn.le l, codeRec_le d.code l, noLimit_le d.lim l⟩

abbrev fX (env : Env) : List Addr := env.locals :: env.cells.map (·.2)
theorem mv_inCall {L : Addr} {m cm : Str → Option Value} {cs : List (Str × Addr)} {s₁ : Shared} (t : TI s.heap) (x : InCallC s L m cs cm s₁) : Mv s s₁ := by
  obtain ⟨h, tk, e, k⟩ := x.done
  subst e
  exact Mv.of t k tk

/-- a call of a def without a closure -/
theorem call_dY (Y : List Addr) {a : Addr} {fd : FuncData} {body : List Stmt} {vals : List Value} {binds : List (Str × Value)} {n : Nat} {RR : Value → Shared → Prop} (D : DefAt s.heap a fd) (t : TI s.heap) (room : Room A n)
    (hbody : fd.body = .stmts body) (hbind : BindsTo s fd ⟨vals, []⟩ binds) (hclo : fd.closure = [])
    (hkind : ∀ x ∈ binds, fd.scope.names.lookup x.1 = some .local ∨ (fd.scope.names.lookup x.1 = some .cell ∧ ((cellsFrom (s.heap.objs.size + 1) fd.scope.names []).lookup x.1).isSome = true))
    (hcells : ∀ x, fd.scope.names.lookup x = some .cell → ∃ c, (cellsFrom (s.heap.objs.size + 1) fd.scope.names []).lookup x = some c)
    (hnd : ∀ x c, (x, c) ∈ cellsFrom (s.heap.objs.size + 1) fd.scope.names [] → (cellsFrom (s.heap.objs.size + 1) fd.scope.names []).lookup x = some c)
    (hσ : ∀ x R, σ.lookup x = some R → Mn R ∧ ∃ v, R s.heap v ∧ ((fd.scope.names.lookup x = some .local ∧ bindL (callEnvC fd s.heap.objs.size a).kindOf binds (fun _ => none) x = some v) ∨
      (fd.scope.names.lookup x = some .cell ∧ bindC (callEnvC fd s.heap.objs.size a).kindOf binds (fun _ => none) x = some v)))
    (k : ∀ s₁, Mv s s₁ → Fs (callEnvC fd s.heap.objs.size a) (fX (callEnvC fd s.heap.objs.size a)) s₁.heap σ → XK (fX (callEnvC fd s.heap.objs.size a)) s₁.heap → (∀ p ∈ fX (callEnvC fd s.heap.objs.size a), s.heap.get? p = none) →
      Ru prog w (A.deeper (callEnvC fd s.heap.objs.size a)) (callEnvC fd s.heap.objs.size a) (Y ++ fX (callEnvC fd s.heap.objs.size a)) s₁ body (fun f s' => RR (match f with | .ret v => v | _ => .none) s'))
    (hco : fd.scope.isCoroutine = false := by rfl) (hgen : fd.scope.isGenerator = false := by rfl) (hk : fd.scope.kind = .function := by rfl) : wpAny (model prog w) A (call (.ref a) vals) (fun v s' => MvB Y s s' ∧ RR v s') F0 s := by
  obtain ⟨o, ho, hcls, hd⟩ := D.fn
  refine wpAny_call (codeAny_call_function (by have := room.d; omega) ho hd hco hgen hbody D.code (hbind _ _ _ _ ?_))
  rw [hclo]
  refine wpAny_newFunctionEnv_cells hk hkind fun env he s' x => ?_
  have he' : env = callEnvC fd s.heap.objs.size a := he
  clear he
  subst he'
  refine ⟨D.lim.keeps x.toInCall.keep, codeAny_func ?_⟩
  have mv := mv_inCall t x
  have hLfresh : s.heap.objs.size ≤ (callEnvC fd s.heap.objs.size a).locals := x.toInCall.fresh
  have hnew : ∀ p ∈ fX (callEnvC fd s.heap.objs.size a), s.heap.get? p = none := by
    intro p hp
    rcases List.mem_cons.mp hp with rfl | hp
    · exact Heap.get?_none_of_le hLfresh
    · obtain ⟨⟨n, c⟩, hc, rfl⟩ := List.mem_map.mp hp
      exact Heap.get?_none_of_le (Nat.le_trans hLfresh (Nat.le_of_lt (x.above n c hc)))
  have hcc : ∀ n c, (callEnvC fd s.heap.objs.size a).cells.lookup n = some c → ∃ v, s'.heap.IsCell c v := fun n c e => ⟨_, x.cell n c e⟩
  have hxk : XK (fX (callEnvC fd s.heap.objs.size a)) s'.heap := by
    intro p hp
    rcases List.mem_cons.mp hp with rfl | hp
    · obtain ⟨o, es, ep, e, hd, _⟩ := x.toInCall.ns
      exact ⟨o, e, fun vs q => by rw [hd] at q; cases q⟩
    · obtain ⟨⟨n, c⟩, hc, rfl⟩ := List.mem_map.mp hp
      obtain ⟨v, o, e, hd⟩ := hcc n c (hnd n c hc)
      exact ⟨o, e, fun vs q => by rw [hd] at q; cases q⟩
  have fs : Fs (callEnvC fd s.heap.objs.size a) (fX (callEnvC fd s.heap.objs.size a)) s'.heap σ := by
    refine ⟨hk, List.mem_cons_self, fun y hy => ?_, fun y z c _ _ h1 h2 => name_of_addr x.apart (mem_of_lookup h1) (mem_of_lookup h2), _, x.toInCall.ns, fun y R hy => ?_⟩
    · obtain ⟨c, hc⟩ := hcells y hy
      exact ⟨c, hc, List.mem_cons_of_mem _ (List.mem_map.mpr ⟨(y, c), mem_of_lookup hc, rfl⟩), fun q => Nat.lt_irrefl _ (q ▸ x.above y c (mem_of_lookup hc)), hcc y c hc⟩
    · obtain ⟨mn, v, r, q⟩ := hσ y R hy
      refine ⟨mn, v, mn.le mv.le r, ?_⟩
      rcases q with ⟨q1, q2⟩ | ⟨q1, q2⟩
      · exact .inl ⟨q1, q2⟩
      · obtain ⟨c, hc⟩ := hcells y q1
        exact .inr (.inl ⟨q1, c, hc, q2 ▸ x.cell y c hc⟩)
  refine weakE (wpAny_mono (k s' mv fs hxk hnew) (fun f s₂ h₂ => ?_) fun _ _ q => q)
  exact ⟨((mv.b _).trans h₂.1).drop fun p hp => (List.mem_append.mp hp).imp_right (hnew p), h₂.2⟩
theorem call_d {a : Addr} {fd : FuncData} {body : List Stmt} {vals : List Value} {binds : List (Str × Value)} {n : Nat} (D : DefAt s.heap a fd) (t : TI s.heap) (room : Room A n)
    (hbody : fd.body = .stmts body) (hbind : BindsTo s fd ⟨vals, []⟩ binds) (hclo : fd.closure = [])
    (hkind : ∀ x ∈ binds, fd.scope.names.lookup x.1 = some .local ∨ (fd.scope.names.lookup x.1 = some .cell ∧ ((cellsFrom (s.heap.objs.size + 1) fd.scope.names []).lookup x.1).isSome = true))
    (hcells : ∀ x, fd.scope.names.lookup x = some .cell → ∃ c, (cellsFrom (s.heap.objs.size + 1) fd.scope.names []).lookup x = some c)
    (hnd : ∀ x c, (x, c) ∈ cellsFrom (s.heap.objs.size + 1) fd.scope.names [] → (cellsFrom (s.heap.objs.size + 1) fd.scope.names []).lookup x = some c)
    (hσ : ∀ x R, σ.lookup x = some R → Mn R ∧ ∃ v, R s.heap v ∧ ((fd.scope.names.lookup x = some .local ∧ bindL (callEnvC fd s.heap.objs.size a).kindOf binds (fun _ => none) x = some v) ∨
      (fd.scope.names.lookup x = some .cell ∧ bindC (callEnvC fd s.heap.objs.size a).kindOf binds (fun _ => none) x = some v)))
    (k : ∀ s₁, Mv s s₁ → Fs (callEnvC fd s.heap.objs.size a) (fX (callEnvC fd s.heap.objs.size a)) s₁.heap σ → XK (fX (callEnvC fd s.heap.objs.size a)) s₁.heap → (∀ p ∈ fX (callEnvC fd s.heap.objs.size a), s.heap.get? p = none) →
      Ru prog w (A.deeper (callEnvC fd s.heap.objs.size a)) (callEnvC fd s.heap.objs.size a) (fX (callEnvC fd s.heap.objs.size a)) s₁ body (fun f s' => R s'.heap (match f with | .ret v => v | _ => .none)))
    (hco : fd.scope.isCoroutine = false := by rfl) (hgen : fd.scope.isGenerator = false := by rfl) (hk : fd.scope.kind = .function := by rfl) : Do prog w A s (call (.ref a) vals) R := by
  refine wpAny_mono (call_dY [] (RR := fun v s' => R s'.heap v) D t room hbody hbind hclo hkind hcells hnd hσ (fun s₁ m F X hn => ?_) hco hgen hk) (fun v s' q => ⟨q.1.mv (fun p hp => by cases hp), q.2⟩) fun _ _ q => q
  exact k s₁ m F X hn
end
end Mine

/-! part 10 -/
open PySem PySem.Spec PySem.Calls PyProof.Rows PySem.W
set_option maxRecDepth 100000
set_option Elab.async false
set_option linter.unusedVariables false
namespace Mine

/-- and new: not of the older heap -/
def New (h₀ : Heap) (R : HP) : HP := fun h v => R h v ∧ ∀ a, v = .ref a → h₀.get? a = none
theorem Mn.new {h₀ : Heap} {R : HP} (m : Mn R) : Mn (New h₀ R) := fun h h' v l r => ⟨m h h' v l r.1, r.2⟩
theorem Le.none1 {h h' : Heap} (l : Le h h') {a : Addr} (e : h'.get? a = Option.none) : h.get? a = Option.none := by
  cases q : h.get? a with
  | none => rfl
  | some o =>
    exfalso
    by_cases h1 : a = 30
    · obtain ⟨ps, z, _⟩ := l.t'.1; rw [← h1, e] at z; cases z
    · by_cases h2 : a = 37
      · obtain ⟨ps, z, _⟩ := l.t'.2; rw [← h2, e] at z; cases z
      · rw [l.k a o h1 h2 q] at e; cases e
theorem New.old {h₀ h₁ : Heap} {R : HP} (l : Le h₀ h₁) {h : Heap} {v : Value} (r : New h₁ R h v) : New h₀ R h v := ⟨r.1, fun a e => l.none1 (r.2 a e)⟩

section
variable {prog : Program} {w : World} {A : Around} {env : Env} {h₀ h : Heap} {s : Shared} {R R1 R2 : HP}

theorem all2_one {h : Heap} {vs : List Value} : All2 (fun v (R : HP) => R h v) vs [R] → ∃ v, vs = [v] ∧ R h v
  | .cons x .nil => ⟨_, rfl, x⟩
theorem all2_two {h : Heap} {vs : List Value} : All2 (fun v (R : HP) => R h v) vs [R1, R2] → ∃ v u, vs = [v, u] ∧ R1 h v ∧ R2 h u
  | .cons x (.cons y .nil) => ⟨_, _, rfl, x, y⟩
theorem isTup_of {h : Heap} {a : Addr} {vs : Array Value} (x : h.IsTuple a vs) : IsTup h a vs := x

theorem ev_listN {α : Type} {Ra : Rep α} {es : List Expr} {xs : List α} {pos : Pos} (m : Mono Ra) (ee : EvS prog w A env h₀ pos es (xs.map Ra)) (hs : xs.length ≤ sizeLine) : Ev prog w A env h₀ (.List es pos) (New h₀ (LstOf Ra xs)) := fun s k => by
  refine List_ (wpAny_mono (ee s k) (fun vs s₁ h₁ => ?_) fun _ _ q => q)
  have h2 := all2_map h₁.2
  refine wpAny_newList ⟨h₁.1.trans (Mv.of h₁.1.le.t' (fun b o e => Heap.get?_push_of_some _ e) _), ?_, fun a e => ?_⟩ (by rw [h2.length]; exact hs)
  · exact ⟨_, vs.toArray, rfl, ⟨_, Heap.get?_push_size _ rfl, rfl, _, rfl⟩, by
      have : vs.toArray.toList = vs := rfl
      rw [this]; exact h2.mono fun v x q => m x _ _ v (Lq.of fun b o e => Heap.get?_push_of_some _ e) q⟩
  · cases e
    exact (k.trans h₁.1.le).none (Nat.le_refl _)
theorem do_add_lists {α : Type} {Ra : Rep α} {xs ys : List α} {a b : Value} (m : Mono Ra) (t : TI s.heap) (ha : LstOf Ra xs s.heap a) (hb : LstOf Ra ys s.heap b) (hsz : xs.length + ys.length ≤ sizeLine) :
    Do prog w A s (binaryOp .Add a b) (New s.heap (LstOf Ra (xs ++ ys))) := by
  obtain ⟨l, vs, rfl, hl, hx⟩ := ha
  obtain ⟨l2, ws, rfl, hl2, hy⟩ := hb
  obtain ⟨⟨cls, dd, data, sl⟩, ho, hc, n, hd⟩ := id hl
  obtain ⟨⟨cls2, dd2, data2, sl2⟩, ho2, hc2, n2, hd2⟩ := id hl2
  simp only at hc hd hc2 hd2
  subst hc hd hc2 hd2
  refine concat_meets ⟨_, ho, rfl⟩ ⟨_, ho2, rfl⟩ noFill_list_add seq_list_add PySem.F.slot_list_add PySem.F.entry_list_add (PySem.F.args_list_add_2 _ _) (list_addW l l2 vs ws n n2 dd dd2 sl sl2 (by
    have h1 := hx.length
    have h2 := hy.length
    rw [Array.length_toList] at h1 h2
    omega)) ⟨ho, ho2, Mv.of t (fun b o e => Heap.get?_push_of_some _ e) s.toks, ⟨_, vs ++ ws, rfl, ⟨_, Heap.get?_push_size _ rfl, rfl, _, rfl⟩, ?_⟩, fun a e => ?_⟩
  · rw [Array.toList_append]
    exact (hx.append hy).mono fun v x q => m x _ _ v (Lq.of fun b o e => Heap.get?_push_of_some _ e) q
  · cases e
    exact get?_none_size _
theorem do_add_tuples {α : Type} {Ra : Rep α} {xs ys : List α} {a b : Value} (m : Mono Ra) (t : TI s.heap) (ha : TupOf Ra xs s.heap a) (hb : TupOf Ra ys s.heap b) (hsz : xs.length + ys.length ≤ sizeLine) :
    Do prog w A s (binaryOp .Add a b) (TupOf Ra (xs ++ ys)) := by
  obtain ⟨l, vs, rfl, hl, hx⟩ := ha
  obtain ⟨l2, ws, rfl, hl2, hy⟩ := hb
  obtain ⟨⟨cls, dd, data, sl⟩, ho, hc, n, hd⟩ := id hl
  obtain ⟨⟨cls2, dd2, data2, sl2⟩, ho2, hc2, n2, hd2⟩ := id hl2
  simp only at hc hd hc2 hd2
  subst hc hd hc2 hd2
  have h1 := hx.length
  have h2 := hy.length
  rw [Array.length_toList] at h1 h2
  by_cases hv : vs.isEmpty = true
  · have e1 : xs = [] := by
      have : vs.size = 0 := by simpa using hv
      exact List.length_eq_zero_iff.mp (by omega)
    subst e1
    exact concat_meets ⟨_, ho, rfl⟩ ⟨_, ho2, rfl⟩ noFill_tuple_add seq_tuple_add PySem.F.slot_tuple_add PySem.F.entry_tuple_add (PySem.F.args_tuple_add_2 _ _)
      (tuple_addW0 l l2 vs ws n n2 dd dd2 sl sl2 hv) ⟨ho, ho2, Mv.refl t, l2, ws, rfl, hl2, hy⟩
  · by_cases hw : ws.isEmpty = true
    · have e1 : ys = [] := by
        have : ws.size = 0 := by simpa using hw
        exact List.length_eq_zero_iff.mp (by omega)
      subst e1
      exact concat_meets ⟨_, ho, rfl⟩ ⟨_, ho2, rfl⟩ noFill_tuple_add seq_tuple_add PySem.F.slot_tuple_add PySem.F.entry_tuple_add (PySem.F.args_tuple_add_2 _ _)
        (tuple_addW1 l l2 vs ws n n2 dd dd2 sl sl2 hv hw) ⟨ho, ho2, Mv.refl t, l, vs, rfl, hl, by simpa using hx⟩
    · refine concat_meets ⟨_, ho, rfl⟩ ⟨_, ho2, rfl⟩ noFill_tuple_add seq_tuple_add PySem.F.slot_tuple_add PySem.F.entry_tuple_add (PySem.F.args_tuple_add_2 _ _)
        (tuple_addW2 l l2 vs ws n n2 dd dd2 sl sl2 hv hw (by omega)) ⟨ho, ho2, Mv.of t (fun b o e => Heap.get?_push_of_some _ e) s.toks, ⟨_, vs ++ ws, rfl, ⟨_, Heap.get?_push_size _ rfl, rfl, _, rfl⟩, ?_⟩⟩
      rw [Array.toList_append]
      exact (hx.append hy).mono fun v x q => m x _ _ v (Lq.of fun b o e => Heap.get?_push_of_some _ e) q
theorem do_min {a b : Int} {vs : List Value} (hh : A.handled = none) (t : TI s.heap) (q : All2 (fun v (R : HP) => R s.heap v) vs [IntR a, IntR b]) : Do prog w A s (call (.builtin "min") vs) (IntR (min a b)) := by
  obtain ⟨x1, x2, rfl, q1, q2⟩ := all2_two q
  obtain ⟨t1, rfl⟩ := q1
  obtain ⟨t2, rfl⟩ := q2
  refine min_two_ints hh fun h' tk k => ⟨Mv.of t k tk, ?_⟩
  by_cases h : b < a
  · rw [if_pos h, Int.min_eq_right (by omega)]; exact ⟨_, rfl⟩
  · rw [if_neg h, Int.min_eq_left (by omega)]; exact ⟨_, rfl⟩
theorem do_range2 {a b : Int} {vs : List Value} (t : TI s.heap) (q : All2 (fun v (R : HP) => R s.heap v) vs [IntR a, IntR b]) : Do prog w A s (call (.type "range") vs) (RngR a b) := by
  obtain ⟨x1, x2, rfl, q1, q2⟩ := all2_two q
  obtain ⟨t1, rfl⟩ := q1
  obtain ⟨t2, rfl⟩ := q2
  exact PySem.call_range_2 ⟨Mv.of t (fun b o e => Heap.get?_push_of_some _ e) _, _, _, _, _, rfl, Heap.get?_push_size _ rfl⟩
theorem do_range1 {b : Int} {vs : List Value} (t : TI s.heap) (q : All2 (fun v (R : HP) => R s.heap v) vs [IntR b]) : Do prog w A s (call (.type "range") vs) (RngR 0 b) := by
  obtain ⟨x1, rfl, q1⟩ := all2_one q
  obtain ⟨t1, rfl⟩ := q1
  exact PySem.call_range_1 ⟨Mv.of t (fun b o e => Heap.get?_push_of_some _ e) _, _, _, _, _, rfl, Heap.get?_push_size _ rfl⟩
theorem do_len_list {α : Type} {Ra : Rep α} {xs : List α} {vs : List Value} (t : TI s.heap) (q : All2 (fun v (R : HP) => R s.heap v) vs [LstOf Ra xs]) (hs : xs.length < 2 ^ 62) : Do prog w A s (call (.builtin "len") vs) (IntR xs.length) := by
  obtain ⟨x1, rfl, q1⟩ := all2_one q
  obtain ⟨a, us, rfl, hl, hr⟩ := q1
  have hlen := hr.length
  rw [Array.length_toList] at hlen
  exact call_len_list hl (by omega) ⟨Mv.tok t _, by rw [hlen]; exact ⟨_, rfl⟩⟩
theorem do_len_tuple {α : Type} {Ra : Rep α} {xs : List α} {vs : List Value} (t : TI s.heap) (q : All2 (fun v (R : HP) => R s.heap v) vs [TupOf Ra xs]) (hs : xs.length < 2 ^ 62) : Do prog w A s (call (.builtin "len") vs) (IntR xs.length) := by
  obtain ⟨x1, rfl, q1⟩ := all2_one q
  obtain ⟨a, us, rfl, hl, hr⟩ := q1
  have hlen := hr.length
  rw [Array.length_toList] at hlen
  exact PyProof.Rows.len_tuple (isTup_of hl) (by omega) ⟨Mv.tok t _, by rw [hlen]; exact ⟨_, rfl⟩⟩

theorem ev_compN {α β : Type} {Ra : Rep α} {Rb : Rep β} {x : Str} {xs : List α} {p : α → Bool} {f : α → β} {elt iter : Expr} {ifs : List Expr} {px pos : Pos} {scope : Scope} {cl : List (Str × Addr)} {Rit : HP}
    (hclos : closureFor scope env = pure cl) (hkind : scope.kind = .function)
    (hnames : ∀ x ∈ scope.names, x.2 = .local → scope.names.lookup x.1 = some .local)
    (hx : (relabel scope env).names.lookup x = some .local ∨ ((relabel scope env).names.lookup x = some .cell ∧ ∀ n : Nat, ∃ c, n ≤ c ∧ (cellsFrom n scope.names cl).lookup x = some c))
    (hcl : ∀ y c, (y, c) ∈ cl → ∃ v, h₀.IsCell c v)
    (ei : Ev prog w A env h₀ iter Rit) (src : ∀ s v, Le h₀ s.heap → Rit s.heap v → Src prog w A s v xs.length (fun i h u => ∃ a, xs[i]? = some a ∧ Ra a h u))
    (mb : MonoT Rb) (ma : Mono Ra) (hsz : xs.length ≤ sizeLine)
    (tests : ∀ a ∈ xs, ∀ C h u, Le h₀ h → Ra a h u → BdV h (compE scope env C (cellsFrom (C + 1) scope.names cl)) x u → EvI prog w A (compE scope env C (cellsFrom (C + 1) scope.names cl)) h ifs (p a))
    (elts : ∀ a ∈ xs, p a = true → ∀ C h u, Le h₀ h → Ra a h u → BdV h (compE scope env C (cellsFrom (C + 1) scope.names cl)) x u → Ev prog w A (compE scope env C (cellsFrom (C + 1) scope.names cl)) h elt (Rb (f a)))
    (hs : ∀ x, foldedSetIterable iter env x = pure x := by intro _; rfl) :
    Ev prog w A env h₀ (.ListComp elt [⟨.Name x px, iter, ifs, 0⟩] scope pos) (New h₀ (LstOf Rb ((xs.filter p).map f))) := fun s l => by
  rw [eval_ListComp]
  refine comp_core (use := none) (Q := fun v s' => Mv s s' ∧ New h₀ (LstOf Rb ((xs.filter p).map f)) s'.heap v) hs hclos hkind hnames hx hcl ei src mb ma hsz tests elts (fun s' C D m mv hC hn hl hD => ?_) l
  refine ⟨m, hn, fun h' sb => ?_⟩
  have := ns_le mv.le hC hn sb
  obtain ⟨h1, t1, rfl, _⟩ := mv
  exact ⟨⟨h', t1, rfl, this.1⟩, (LstOf.mono mb.mono) _ _ _ _ this.2 hl, fun a e => by cases e; exact l.none1 hD⟩
end
theorem cells_acc : ∀ (names : List (Str × NameKind)) (n : Nat) (acc : List (Str × Addr)) (x : Str), (∃ c, acc.lookup x = some c) → ∃ c, (cellsFrom n names acc).lookup x = some c
  | [], _, _, _, h => h
  | (y, k) :: r, n, acc, x, h => by
    unfold cellsFrom
    split
    · refine cells_acc r (n + 1) _ x ?_
      rw [List.lookup_cons]
      cases x == y with
      | true => exact ⟨_, rfl⟩
      | false => exact h
    · exact cells_acc r n acc x h
theorem cells_have : ∀ (names : List (Str × NameKind)) (n : Nat) (acc : List (Str × Addr)) (x : Str), names.lookup x = some .cell → ∃ c, (cellsFrom n names acc).lookup x = some c
  | [], _, _, _, h => by simp at h
  | (y, k) :: r, n, acc, x, h => by
    rw [List.lookup_cons] at h
    unfold cellsFrom
    cases hb : x == y with
    | true =>
      rw [hb] at h
      cases h
      rw [if_pos (by decide)]
      exact cells_acc r _ _ x ⟨n, by rw [List.lookup_cons, hb]⟩
    | false =>
      rw [hb] at h
      split
      · exact cells_have r _ _ x h
      · exact cells_have r _ _ x h
theorem Fs.cl {env : Env} {X : List Addr} {h : Heap} {σ : Sg} (f : Fs env X h σ) {y : Str} {c : Addr} (e : env.kindOf y = some .cell) (e' : env.cells.lookup y = some c) : ∃ v, h.IsCell c v := by
  obtain ⟨c', a, _, _, b⟩ := f.c y e
  rw [e'] at a; cases a
  exact b
theorem Fs.xk {env : Env} {X : List Addr} {h : Heap} {σ : Sg} (f : Fs env X h σ) (hcs : ∀ n c, (n, c) ∈ env.cells → env.kindOf n = some .cell ∧ env.cells.lookup n = some c) : XK (fX env) h := by
  intro p hp
  rcases List.mem_cons.mp hp with rfl | hp
  · obtain ⟨m, ⟨o, es, ep, e, hd, _⟩, _⟩ := f.v
    exact ⟨o, e, fun vs q => by rw [hd] at q; cases q⟩
  · obtain ⟨⟨n, c⟩, hc, rfl⟩ := List.mem_map.mp hp
    obtain ⟨k1, k2⟩ := hcs n c hc
    obtain ⟨v, o, e, hd⟩ := f.cl k1 k2
    exact ⟨o, e, fun vs q => by rw [hd] at q; cases q⟩
theorem src_range1 {prog : Program} {w : World} {A : Around} {s : Shared} {m : Int} {v : Value} (hh : A.handled = none) (t : TI s.heap) (r : RngR 1 (m + 1) s.heap v) (h1 : -1000000 ≤ m) (h2 : m ≤ 1000000) :
    Src prog w A s v m.toNat (fun i => IntR ((1 + i : Nat) : Int)) := by
  have q := src_range (prog := prog) (w := w) (A := A) (h := s.heap) hh t r (by decide) (by decide) (by omega) (by omega)
  have e : (m + 1 - 1).toNat = m.toNat := by omega
  rw [e] at q
  have e3 : (fun (i : Nat) => IntR ((1 + i : Nat) : Int)) = fun (i : Nat) (_ : Heap) (u : Value) => IntR (1 + (i : Int)) s.heap u := by
    funext i h u
    simp [IntR]
  rw [e3]
  exact q
inductive Bnds (h : Heap) (P : Str → Value → Prop) : Sg → Prop
  | nil : Bnds h P []
  | cons {x : Str} {R : HP} {v : Value} {σ : Sg} : Mn R → R h v → P x v → Bnds h P σ → Bnds h P ((x, R) :: σ)
theorem Bnds.get {h : Heap} {P : Str → Value → Prop} : ∀ {σ : Sg}, Bnds h P σ → ∀ x R, σ.lookup x = some R → Mn R ∧ ∃ v, R h v ∧ P x v
  | _, .nil, x, R, e => by simp at e
  | _, .cons (x := y) a b c d, x, R, e => by
    rw [List.lookup_cons] at e
    cases hb : x == y with
    | true => rw [hb] at e; cases e; rw [beq_iff_eq.mp hb]; exact ⟨a, _, b, c⟩
    | false => rw [hb] at e; exact Bnds.get d x R e
theorem Do.imp {prog : Program} {w : World} {A : Around} {s : Shared} {t : Sem Value} {R R' : HP} (d : Do prog w A s t R) (i : ∀ h v, R h v → R' h v) : Do prog w A s t R' := wpAny_mono d (fun v s' q => ⟨q.1, i _ _ q.2⟩) fun _ _ q => q
end Mine

/-! part 11 -/
open PySem PySem.Spec PySem.Calls PyProof.Rows PySem.W
set_option maxRecDepth 100000
set_option Elab.async false
set_option linter.unusedVariables false
namespace Mine

/-! the program's parts -/
def dArgs : Stmt → Arguments
  | .FunctionDef _ a _ _ _ _ _ _ _ _ => a
  | _ => { posonlyargs := [], args := [], vararg := none, kwonlyargs := [], kw_defaults := [], kwarg := none, defaults := [] }
def dBody : Stmt → List Stmt
  | .FunctionDef _ _ b _ _ _ _ _ _ _ => b
  | _ => []
def dScope : Stmt → Scope
  | .FunctionDef _ _ _ _ _ _ sc _ _ _ => sc
  | _ => { kind := .function, names := [], isGenerator := false, isCoroutine := false, more := [] }
def sAt (i : Nat) : Stmt := (PySem.Challenge.pw_gz0004_01.main.body).getD i (.Pass default)

/-! the lots -/
def genF (ok : Nat → Bool) (gap : Int) : Nat → Nat → Int → List (List Int)
  | 0, w, _ => if w = 0 then [[]] else []
  | n + 1, w, m => if w = 0 then [[]] else (List.range (min (w : Int) m).toNat).flatMap fun j => if ok (1 + j) then (genF ok gap n (w - (1 + j)) (((1 + j : Nat) : Int) - gap)).map fun r => ((1 + j : Nat) : Int) :: r else []
/-- what is found till the turn i -/
def accF (ok : Nat → Bool) (gap : Int) (n w i : Nat) : List (List Int) := (List.range i).flatMap fun j => if ok (1 + j) then (genF ok gap n (w - (1 + j)) (((1 + j : Nat) : Int) - gap)).map fun r => ((1 + j : Nat) : Int) :: r else []
theorem filter_tt {α : Type} (l : List α) : l.filter (fun _ => true) = l := List.filter_eq_self.mpr fun _ _ => rfl
theorem accF_zero {ok : Nat → Bool} {gap : Int} {n w : Nat} : accF ok gap n w 0 = [] := rfl
theorem accF_succ {ok : Nat → Bool} {gap : Int} {n w i : Nat} : accF ok gap n w (i + 1) = accF ok gap n w i ++ (if ok (1 + i) then (genF ok gap n (w - (1 + i)) (((1 + i : Nat) : Int) - gap)).map fun r => ((1 + i : Nat) : Int) :: r else []) := by
  unfold accF
  rw [List.range_succ, List.flatMap_append]
  simp
theorem genF_len (ok : Nat → Bool) (gap : Int) : ∀ (n w : Nat) (m : Int), (genF ok gap n w m).length ≤ 2 ^ w
  | 0, w, m => by
    unfold genF
    split
    · simp; exact Nat.one_le_two_pow
    · simp
  | n + 1, w, m => by
    unfold genF
    split
    · simp; exact Nat.one_le_two_pow
    · have key : ∀ k, k ≤ w → (accF ok gap n w k).length + 2 ^ (w - k) ≤ 2 ^ w := by
        intro k
        induction k with
        | zero => intro _; simp [accF_zero]
        | succ k ih =>
          intro hk
          have h1 := ih (by omega)
          rw [accF_succ, List.length_append]
          have e : w - k = (w - (k + 1)) + 1 := by omega
          rw [e, Nat.pow_succ] at h1
          have h2 : (if ok (1 + k) then (genF ok gap n (w - (1 + k)) (((1 + k : Nat) : Int) - gap)).map fun r => ((1 + k : Nat) : Int) :: r else []).length ≤ 2 ^ (w - (k + 1)) := by
            split
            · rw [List.length_map, Nat.add_comm 1 k]
              exact genF_len ok gap n _ _
            · simp
          omega
      have := key (min (w : Int) m).toNat (by omega)
      have h3 := Nat.one_le_two_pow (n := w - (min (w : Int) m).toNat)
      unfold accF at this
      omega
theorem accF_len {ok : Nat → Bool} {gap : Int} {n w i : Nat} (h : i ≤ w) : (accF ok gap n w i).length ≤ 2 ^ w := by
  have := genF_len ok gap (n + 1) w (i : Int)
  unfold genF at this
  split at this
  · have : i = 0 := by omega
    subst this
    simp [accF_zero]
  · have e : (min (w : Int) (i : Int)).toNat = i := by omega
    rw [e] at this
    exact this
theorem genF_row (ok : Nat → Bool) (gap : Int) : ∀ (n w : Nat) (m : Int) (r : List Int), r ∈ genF ok gap n w m → r.length ≤ w
  | 0, w, m, r, h => by
    unfold genF at h
    split at h
    · simp at h; simp [h]
    · simp at h
  | n + 1, w, m, r, h => by
    unfold genF at h
    split at h
    · simp at h; simp [h]
    · obtain ⟨j, hj, h⟩ := List.mem_flatMap.mp h
      rw [List.mem_range] at hj
      split at h
      · obtain ⟨r', hr, rfl⟩ := List.mem_map.mp h
        have := genF_row ok gap n _ _ r' hr
        simp; omega
      · simp at h

abbrev apartFd (name qual : Str) (doc pm : Value) (an : Option Addr) (cdv ct : Value) : FuncData := fnOf name qual (dArgs (sAt 12)) (dBody (sAt 12)) (dScope (sAt 12)) .none .none doc pm an cdv ct

section
variable {name qual : Str} {doc pm : Value} {an : Option Addr} {cdv ct : Value} {L a : Addr}
theorem genF_zero {ok : Nat → Bool} {gap : Int} {n : Nat} {m : Int} : genF ok gap n 0 m = [[]] := by cases n <;> rfl
theorem genF_succ {ok : Nat → Bool} {gap : Int} {n k : Nat} {m : Int} (h : k ≠ 0) : genF ok gap (n + 1) k m = accF ok gap n k (min (k : Int) m).toNat := by
  unfold genF accF
  rw [if_neg h]

variable {prog : Program} {wd : World} {hb : Heap} {A : Around} {s : Shared}
def ApartOk (prog : Program) (wd : World) (hb : Heap) (a : Addr) (n : Nat) : Prop :=
  ∀ (k : Nat) (most gap : Int) (A : Around) (s : Shared) (vs : List Value), k ≤ n → k ≤ 20 → -100 ≤ most → most ≤ 100 → 0 ≤ gap → gap ≤ 50 → Le hb s.heap → Room A (3 * n + 3) → All2 (fun v (R : HP) => R s.heap v) vs [IntR k, IntR most, IntR gap] →
    Do prog wd A s (call (.ref a) vs) (New s.heap (LstT (genF (fun _ => true) gap n k most)))

theorem apart_step (D : DefAt hb a (apartFd name qual doc pm an cdv ct)) (gm : Glo hb "min" (.builtin "min")) (gr : Glo hb "range" (.type "range")) (gs : Glo hb "_law_apart" (.ref a)) (n : Nat)
    (ih : ∀ j, n = j + 1 → ApartOk prog wd hb a j) : ApartOk prog wd hb a n := by
  intro k most gap A s vs hkn hk20 hm1 hm2 hg1 hg2 l room hv
  obtain ⟨v1, v2, v3, rfl, r1, r2, r3⟩ : ∃ v1 v2 v3, vs = [v1, v2, v3] ∧ IntR k s.heap v1 ∧ IntR most s.heap v2 ∧ IntR gap s.heap v3 := by
    cases hv with | cons a1 hv => cases hv with | cons a2 hv => cases hv with | cons a3 hv => cases hv with | nil => exact ⟨_, _, _, rfl, a1, a2, a3⟩
  refine call_d (σ := [("whole", IntR k), ("most", IntR most), ("gap", IntR gap)]) (binds := [("whole", v1), ("most", v2), ("gap", v3)]) (D.le l) l.t' room rfl (BindsTo.of_eq rfl) rfl ?_ ?_ ?_ ?_ fun s₁ mv F hX hnew => ?_
  · intro x hx
    simp only [List.mem_cons, List.not_mem_nil, or_false] at hx
    rcases hx with rfl | rfl | rfl <;> exact .inl rfl
  · exact fun x hx => cells_have _ _ _ x hx
  · intro x c hx
    have hx' : (x, c) ∈ [(("first" : Str), s.heap.objs.size + 1)] := hx
    simp only [List.mem_cons, List.not_mem_nil, or_false, Prod.mk.injEq] at hx'
    obtain ⟨rfl, rfl⟩ := hx'
    rfl
  · exact Bnds.get (.cons (Mn.int _) r1 (.inl ⟨rfl, rfl⟩) (.cons (Mn.int _) r2 (.inl ⟨rfl, rfl⟩) (.cons (Mn.int _) r3 (.inl ⟨rfl, rfl⟩) .nil)))
  · conv => arg 7; whnf
    refine ru_if mv.le.t' (evT_eq (F.ev rfl) ev_int) fun s₂ m₂ => ?_
    by_cases h0 : k = 0
    · subst h0
      rw [if_pos (by simp)]
      refine ru_ret (R := New s₂.heap (LstT [[]])) m₂.le.t' (ev_listN (xs := [[]]) TupI.mono (evS_cons (ev_tuple (xs := []) IntR.mono evS_nil (by simp)) (TupI.mono.mn _) evS_nil) (by simp [sizeLine_eq])) fun s₃ v m₃ r => ?_
      rw [genF_zero]
      exact r.old (mv.le.trans m₂.le)
    · rw [if_neg (by simp; omega)]
      obtain ⟨j, rfl⟩ : ∃ j, n = j + 1 := ⟨n - 1, by omega⟩
      have IH := ih j rfl
      have M2 := mv.trans m₂
      have hcs : ∀ n c, (n, c) ∈ (callEnvC (apartFd name qual doc pm an cdv ct) s.heap.objs.size a).cells → (callEnvC (apartFd name qual doc pm an cdv ct) s.heap.objs.size a).kindOf n = some .cell ∧ (callEnvC (apartFd name qual doc pm an cdv ct) s.heap.objs.size a).cells.lookup n = some c := by
        intro x c hx
        have hx' : (x, c) ∈ [(("first" : Str), s.heap.objs.size + 1)] := hx
        simp only [List.mem_cons, List.not_mem_nil, or_false, Prod.mk.injEq] at hx'
        obtain ⟨rfl, rfl⟩ := hx'
        exact ⟨rfl, rfl⟩
      refine ru_nil m₂.le.t' ?_
      refine ru_assign (R := New s.heap (LstT (accF (fun _ => true) gap j k 0))) (F.le m₂.le) ((ev_listN (Ra := TupI) (xs := []) TupI.mono evS_nil (by simp)).imp fun h v r => r.old M2.le) m₂.le.t' ((LstT.mono.mn _).new) (.inl rfl) fun s₃ m₃ F₃ => ?_
      have B3 := (M2.b _).trans m₃
      have M3 := B3.mv hnew
      refine ru_for (n := (min (k : Int) most).toNat) (P := fun i => IntR ((1 + i : Nat) : Int)) (Rit := RngR 1 (min (k : Int) most + 1))
        (Inv := fun i h => Fs (callEnvC (apartFd name qual doc pm an cdv ct) s.heap.objs.size a) (fX (callEnvC (apartFd name qual doc pm an cdv ct) s.heap.objs.size a)) h [("found", New s.heap (LstT (accF (fun _ => true) gap j k i))), ("whole", IntR k), ("most", IntR most), ("gap", IntR gap)])
        M3.le.t' (F₃.xk hcs) (ev_call_t (Rs := [IntR 1, IntR (min (k : Int) most + 1)]) (ev_glob ⟨rfl, rfl, rfl, rfl⟩ (gr.le (l.trans M3.le))) (evS_cons ev_int (Mn.int _) (evS_cons (ev_add (ev_call_b (Rs := [IntR k, IntR most]) (ev_glob ⟨rfl, rfl, rfl, rfl⟩ (gm.le (l.trans M3.le))) (evS_cons (F₃.ev rfl) (Mn.int _) (evS_cons (F₃.ev rfl) (Mn.int _) evS_nil)) (fun s' vs l' q => do_min room.h l'.t' q) ⟨_, _, rfl⟩ rfl) ev_int) (Mn.int _) evS_nil)) (fun s' vs l' q => do_range2 l'.t' q) ⟨_, _, rfl⟩ rfl)
        (fun s' v l' r => src_range1 room.h l'.t' r (by omega) (by omega)) (fun s' v l' r => rng_nX (F₃.xk hcs) l' r) (fun i h h' ki f => f.ki ki) (fun s' m' => (F₃.le m'.le).sub (.cons rfl (fun _ _ q => q) ((LstT.mono.mn _).new) (.cons rfl (fun _ _ q => q) (Mn.int _) (.cons rfl (fun _ _ q => q) (Mn.int _) (.cons rfl (fun _ _ q => q) (Mn.int _) .nil))))) (fun i h h' v _ q => q) ?_ ?_
      · intro i s₄ v hi m₄ F₄ r
        have hik : i < k := by omega
        refine wpAny_mono (F₄.put m₄.le.t' (.inr rfl) r (Mn.int _)) (fun _ s₅ h₅ => ⟨h₅.1, ?_⟩) fun _ _ q => q
        have F₅ := h₅.2
        have M5 := ((B3.trans m₄).trans h₅.1).mv hnew
        have hsz : (genF (fun _ => true) gap j (k - (1 + i)) (((1 + i : Nat) : Int) - gap)).length ≤ 2 ^ 20 := Nat.le_trans (genF_len _ _ _ _ _) (Nat.pow_le_pow_right (by decide) (by omega))
        refine ru_assign (R := New s.heap (LstT (accF (fun _ => true) gap j k (i + 1)))) F₅ (Ev.imp (ev_bin (R1 := LstT (accF (fun _ => true) gap j k i)) (R2 := LstT (((genF (fun _ => true) gap j (k - (1 + i)) (((1 + i : Nat) : Int) - gap)).filter (fun _ => true)).map fun r => ((1 + i : Nat) : Int) :: r)) (R := New s.heap (LstT (accF (fun _ => true) gap j k i ++ ((genF (fun _ => true) gap j (k - (1 + i)) (((1 + i : Nat) : Int) - gap)).filter (fun _ => true)).map fun r => ((1 + i : Nat) : Int) :: r)))
          ((F₅.ev rfl).imp fun h v q => q.1) (ev_comp (Ra := TupI) (xs := genF (fun _ => true) gap j (k - (1 + i)) (((1 + i : Nat) : Int) - gap)) (p := fun _ => true) (f := fun r => ((1 + i : Nat) : Int) :: r) (cl := [("first", s.heap.objs.size + 1)]) (Rit := LstT (genF (fun _ => true) gap j (k - (1 + i)) (((1 + i : Nat) : Int) - gap))) rfl rfl (by decide) (.inl rfl) ?_ ?_ (fun s' v l' r => src_list room.h l'.t' r) TupI.monoT TupI.mono (Nat.le_trans hsz (by decide)) (fun _ _ _ _ _ _ _ _ => evI_nil) ?_) (LstT.mono.mn _) ?_) ?_) M5.le.t' ((LstT.mono.mn _).new) (.inl rfl) fun s₆ m₆ F₆ => ru_nil m₆.le.t' ⟨rfl, F₆.sub (.cons rfl (fun _ _ q => q) ((LstT.mono.mn _).new) (.cons rfl (fun _ _ q => q) (Mn.int _) (.cons rfl (fun _ _ q => q) (Mn.int _) (.cons rfl (fun _ _ q => q) (Mn.int _) .nil))))⟩
        · intro y c hm
          simp only [List.mem_cons, List.not_mem_nil, or_false, Prod.mk.injEq] at hm
          obtain ⟨rfl, rfl⟩ := hm
          exact F₅.cl (y := "first") rfl rfl
        · refine ev_call_d (Rs := [IntR ((k - (1 + i) : Nat) : Int), IntR (((1 + i : Nat) : Int) - gap), IntR gap]) (D.fn.le (l.trans M5.le)) (ev_glob ⟨rfl, rfl, rfl, rfl⟩ (gs.le (l.trans M5.le)))
            (evS_cons ((ev_sub (F₅.ev rfl) (F₅.ev rfl)).imp ?_) (Mn.int _) (evS_cons (ev_sub (F₅.ev rfl) (F₅.ev rfl)) (Mn.int _) (evS_cons (F₅.ev rfl) (Mn.int _) evS_nil))) (fun s' vs l' q => (IH _ _ _ _ s' vs (by omega) (by omega) (by omega) (by omega) hg1 hg2 ((l.trans M5.le).trans l') (Room.le (room.deeper _) (by omega)) q).imp fun h v q => q.1) ⟨_, _, rfl⟩ rfl
          intro h v q
          rw [show ((k - (1 + i) : Nat) : Int) = (k : Int) - ((1 + i : Nat) : Int) by omega]
          exact q
        · intro r hr _ C h u l' hru hbd
          have hrl := genF_row _ _ _ _ _ r hr
          refine ev_bin (R1 := TupI [((1 + i : Nat) : Int)]) (ev_tuple (xs := [((1 + i : Nat) : Int)]) IntR.mono (evS_cons (ev_name (F₅.le l' |>.up rfl (.inl rfl) rfl (.inl rfl) rfl rfl) (Mn.int _)) (Mn.int _) evS_nil) (by simp [sizeLine_eq])) (ev_name (hbd.bd rfl hru) (TupI.mono.mn r)) (TupI.mono.mn _) (fun s' x y l' hx hy => do_add_tuples IntR.mono l'.t' hx hy (by simp [sizeLine_eq]; omega))
        · intro s' x y l' hx hy
          refine (do_add_lists TupI.mono l'.t' hx hy ?_).imp fun h v q => q.old (M5.le.trans l')
          have h1 : (accF (fun _ => true) gap j k i).length ≤ 2 ^ 20 := Nat.le_trans (accF_len (by omega)) (Nat.pow_le_pow_right (by decide) (by omega))
          have h2 : (((genF (fun _ => true) gap j (k - (1 + i)) (((1 + i : Nat) : Int) - gap)).filter (fun _ => true)).map fun r => ((1 + i : Nat) : Int) :: r).length ≤ 2 ^ 20 := by
            rw [List.length_map]
            exact Nat.le_trans (List.length_filter_le _ _) hsz
          rw [sizeLine_eq]
          omega
        · intro h v q
          rw [accF_succ, if_pos rfl]
          rwa [filter_tt] at q
      · intro s₄ m₄ F₄
        refine ru_ret (R := New s.heap (LstT (accF (fun _ => true) gap j k (min (k : Int) most).toNat))) m₄.le.t' (F₄.ev rfl) fun s₅ v m₅ r => ?_
        rw [genF_succ h0]
        exact r
theorem apart_ok (D : DefAt hb a (apartFd name qual doc pm an cdv ct)) (gm : Glo hb "min" (.builtin "min")) (gr : Glo hb "range" (.type "range")) (gs : Glo hb "_law_apart" (.ref a)) : ∀ n, ApartOk prog wd hb a n
  | 0 => apart_step D gm gr gs 0 fun j e => by cases e
  | n + 1 => apart_step D gm gr gs (n + 1) fun j e => by cases e; exact apart_ok D gm gr gs n
end
end Mine

/-! part 12 -/
open PySem PySem.Spec PySem.Calls PyProof.Rows PySem.W
set_option maxRecDepth 100000
set_option Elab.async false
set_option linter.unusedVariables false
namespace Mine

/-- a row of the numbers below N, in some order -/
def Pm (N : Nat) (p : Array Nat) : Prop := p.Perm (List.toArray (List.range N))
theorem Pm.get {N : Nat} {p : Array Nat} (h : Pm N p) (hN : 0 < N) (i : Nat) : p.getD i 0 < N := by
  by_cases hi : i < p.size
  · have e : p.getD i 0 = p[i] := by simp [Array.getD, hi]
    have h2 : p.toList.Perm (List.range N) := h.toList
    have : p[i] ∈ p.toList := Array.mem_toList_iff.mpr (Array.getElem_mem hi)
    rw [e]
    exact List.mem_range.mp (h2.mem_iff.mp this)
  · have e : p.getD i 0 = 0 := by simp [Array.getD, hi]
    rw [e]; exact hN
theorem Pm.rev {N : Nat} {p : Array Nat} (h : Pm N p) (i j : Nat) : Pm N (kas_rev p i j) := (mirror_perm _ _ _ _).trans h
theorem Pm.bub {N : Nat} {p : Array Nat} (h : Pm N p) (i j : Nat) : Pm N (bubble p i j) := (bubble_perm _ _ _).trans h

inductive KAll {α : Type} (N : Nat) (G : α → Prop) : KasT α → Prop
  | ret {a : α} : G a → KAll N G (.ret a)
  | ask {i j : Nat} {k : Bool → KasT α} : i < N → j < N → (∀ b, KAll N G (k b)) → KAll N G (.ask i j k)
theorem KAll.bind {α β : Type} {N : Nat} {G : α → Prop} {G' : β → Prop} {f : α → KasT β} (hf : ∀ a, G a → KAll N G' (f a)) : ∀ {t : KasT α}, KAll N G t → KAll N G' (t.bind f)
  | _, .ret g => hf _ g
  | _, .ask h1 h2 h3 => .ask h1 h2 fun b => KAll.bind hf (h3 b)
theorem KAll.ite {α : Type} {N : Nat} {G : α → Prop} {c : Prop} [Decidable c] {a b : KasT α} (h1 : KAll N G a) (h2 : KAll N G b) : KAll N G (if c then a else b) := by split <;> assumption

section
variable {N : Nat} (hN : 0 < N)
include hN
theorem asc_all {p : Array Nat} (hp : Pm N p) : ∀ f n, KAll N (fun _ => True) (kas_asc p f n)
  | 0, n => .ret trivial
  | f + 1, n => .ask (hp.get hN _) (hp.get hN _) fun b => .ite (.ret trivial) (asc_all hp f (n + 1))
theorem desc_all : ∀ f p n q, Pm N p → KAll N (fun r : Array Nat × Nat × Nat => Pm N r.1) (kas_desc f p n q)
  | 0, p, n, q, hp => .ret hp
  | f + 1, p, n, q, hp => .ask (hp.get hN _) (hp.get hN _) fun b => .ite (.ite (desc_all f _ _ _ (hp.rev _ _)) (desc_all f _ _ _ hp)) (.ask (hp.get hN _) (hp.get hN _) fun d => .ite (.ret hp) (desc_all f _ _ _ hp))
theorem tail3_all {p : Array Nat} (hp : Pm N p) (n nrem : Nat) : KAll N (fun r : Nat × Array Nat => Pm N r.2) (kas_tail3 n nrem p) :=
  by
  unfold kas_tail3
  exact KAll.bind (fun m _ => KAll.ret (G := fun r : Nat × Array Nat => Pm N r.2) (a := (m, _)) (hp.rev _ _)) (asc_all hN (hp.rev _ _) _ _)
theorem descPart_all {p : Array Nat} (hp : Pm N p) (n nrem : Nat) : KAll N (fun r : Nat × Array Nat => Pm N r.2) (kas_descPart n nrem p) :=
  by
  unfold kas_descPart
  exact KAll.bind (fun r hr => .ite (tail3_all hN (hr.rev _ _) _ _) (tail3_all hN hr _ _)) (desc_all hN _ _ _ _ hp)
theorem count_all {p : Array Nat} (hp : Pm N p) (nrem : Nat) : KAll N (fun r : Nat × Array Nat => Pm N r.2) (kas_count nrem p) :=
  by
  unfold kas_count
  refine KAll.bind (fun n _ => ?_) (asc_all hN hp _ _)
  refine .ite (.ret hp) (.ite (.ask (hp.get hN _) (hp.get hN _) fun b => ?_) (descPart_all hN hp _ _))
  exact .ite (.ret hp) (descPart_all hN (hp.rev _ _) _ _)
theorem place_all {p : Array Nat} (hp : Pm N p) (k : Nat) : ∀ f l r, KAll N (fun _ => True) (kas_place p k f l r)
  | 0, l, r => .ret trivial
  | f + 1, l, r => .ite (.ret trivial) (.ask (hp.get hN _) (hp.get hN _) fun b => .ite (place_all hp k f _ _) (place_all hp k f _ _))
theorem bin_all : ∀ f p k, Pm N p → KAll N (Pm N) (kas_bin f p k)
  | 0, p, k, hp => .ret hp
  | f + 1, p, k, hp => KAll.bind (fun l _ => bin_all f _ _ (hp.bub _ _)) (place_all hN hp k k 0 k)
theorem sort_all : KAll N (Pm N) (kas_sort N) :=
  by
  unfold kas_sort
  exact KAll.bind (fun r hr => .ite (bin_all hN _ _ _ hr) (.ret hr)) (count_all hN (Array.Perm.refl _) N)
end

/-- the tree run by a plain order -/
def krun {α : Type} (lt : Nat → Nat → Bool) : KasT α → α
  | .ret a => a
  | .ask i j k => krun lt (k (lt i j))
theorem krun_all {α : Type} {N : Nat} {G : α → Prop} (lt : Nat → Nat → Bool) : ∀ {t : KasT α}, KAll N G t → G (krun lt t)
  | .ret _, .ret g => g
  | .ask i j k, .ask _ _ h => show G (krun lt (k (lt i j))) from krun_all lt (h _)
theorem krun_wp {α : Type} {N : Nat} {G : α → Prop} {lt : Nat → Nat → Bool} {cmp : Nat → Nat → (Bool → Shared → Prop) → Shared → Prop} {s : Shared} (hc : ∀ i j (C : Bool → Shared → Prop), i < N → j < N → C (lt i j) s → cmp i j C s) {Q : α → Shared → Prop} :
    ∀ {t : KasT α}, KAll N G t → Q (krun lt t) s → t.kasWp cmp Q s
  | .ret _, .ret g, h => h
  | .ask _ _ _, .ask h1 h2 h3, h => hc _ _ _ h1 h2 (krun_wp hc (h3 _) h)

/-- rows of numbers by their order in Python -/
def ltL : List Int → List Int → Bool
  | [], [] => false
  | [], _ :: _ => true
  | _ :: _, [] => false
  | x :: xs, y :: ys => if x == y then ltL xs ys else decide (x < y)
def permOf {α : Type} (lt : α → α → Bool) (d : α) (xs : List α) : List Nat := (krun (fun i j => lt (xs.getD i d) (xs.getD j d)) (kas_sort xs.length)).toList
/-- what the sorting gives -/
def srtF (xs : List (List Int)) : List (List Int) := if xs.length < 2 then xs else (permOf ltL [] xs).map fun i => xs.getD i []
theorem permOf_perm {α : Type} {lt : α → α → Bool} {d : α} {xs : List α} (h : 0 < xs.length) : (permOf lt d xs).Perm (List.range xs.length) := by
  have := krun_all (fun i j => lt (xs.getD i d) (xs.getD j d)) (sort_all h)
  exact Array.Perm.toList this

/-! the walk of a sorting -/
section
variable {prog : Program} {w : World} {A : Around} {E : Value → Shared → Prop} {s : Shared}
theorem lex_ints {fin : Bool} {Q : Bool → Shared → Prop} : ∀ (vs us : List Value) (xs ys : List Int) (i : Nat), All2 (fun v x => IntR x s.heap v) vs xs → All2 (fun v x => IntR x s.heap v) us ys → fin = decide (xs.length < ys.length) → Q (ltL xs ys) s → KatLex prog w A true fin Q (vs.zip us) i s
  | [], [], _, _, i, .nil, .nil, e, h => by subst e; exact kat_nil h
  | [], _ :: _, _, _, i, .nil, .cons _ _, e, h => by subst e; exact kat_nil (by simpa [ltL] using h)
  | _ :: _, [], _, _, i, .cons _ _, .nil, e, h => by subst e; exact kat_nil (by simpa [ltL] using h)
  | _ :: vs, _ :: us, _, _, i, .cons (a := x) (b := a) ⟨t, hx⟩ r1, .cons (b := b) ⟨u, hy⟩ r2, e, h => by
    subst hx
    subst hy
    refine kat_cons (wpAny_eqBool_int ?_)
    unfold ltL at h
    by_cases hab : a == b
    · rw [if_pos hab] at h
      rw [hab]
      exact kat_yes (lex_ints vs us _ _ (i + 1) r1 r2 (by simpa using e) h)
    · rw [if_neg hab] at h
      rw [Bool.eq_false_iff.mpr hab]
      refine kat_no ?_
      by_cases hi : i = 0
      · subst hi
        exact oneLt_int h
      · have : (true && i == 0) = false := by simp [hi]
        rw [this]
        exact kat_one _ _ (lt_int h)

theorem tups_of {h : Heap} : ∀ {vs : List Value} {xs : List (List Int)}, All2 (fun v x => TupI x h v) vs xs → (∀ x ∈ xs, x ≠ []) → ∃ fs, KatTups h vs fs ∧ fs.length = vs.length ∧ ∀ v ∈ fs, ∃ i t, v = .int i t
  | [], [], .nil, _ => ⟨[], KatTups.nil, rfl, fun v hv => by cases hv⟩
  | _ :: vs, x :: xs, .cons ⟨a, ws, e, ⟨o, ho, hc, n, hd⟩, hr⟩ r, hne => by
    obtain ⟨fs, h1, h2, h3⟩ := tups_of r fun y hy => hne y (List.mem_cons_of_mem _ hy)
    obtain ⟨i, is, rfl⟩ : ∃ i is, x = i :: is := by
      match x, hne x List.mem_cons_self with
      | i :: is, _ => exact ⟨i, is, rfl⟩
    have : ∃ f, ws[0]? = some f ∧ ∃ i t, f = Value.int i t := by
      have hl := hr.length
      cases hw : ws.toList with
      | nil => rw [hw] at hl; simp at hl
      | cons f r' =>
        rw [hw] at hr
        cases hr with
        | cons q _ =>
          obtain ⟨t, ht⟩ := q
          exact ⟨f, by rw [← Array.getElem?_toList, hw]; rfl, _, t, ht⟩
    obtain ⟨f, hf, hfi⟩ := this
    subst e
    refine ⟨f :: fs, KatTups.cons ho hc hd hf h1, by simp [h2], fun v hv => ?_⟩
    rcases List.mem_cons.mp hv with rfl | hv
    · exact hfi
    · exact h3 v hv
theorem getD_some {α : Type} {l : List α} {i : Nat} {d : α} (h : i < l.length) : l[i]? = some (l.getD i d) := by
  simp [List.getD, h]
theorem all2_perm {α β : Type} {F : α → β → Prop} {as : List α} {bs : List β} {d : α} {e : β} (h : All2 F as bs) : ∀ (p : List Nat), (∀ i ∈ p, i < as.length) → All2 F (p.map fun i => as.getD i d) (p.map fun i => bs.getD i e)
  | [], _ => .nil
  | i :: p, hp => by
    refine .cons ?_ (all2_perm h p fun j hj => hp j (List.mem_cons_of_mem _ hj))
    have hi := hp i List.mem_cons_self
    obtain ⟨b, hb, hf⟩ := h.get i _ (getD_some (d := d) hi)
    have : bs.getD i e = b := by simp [List.getD, hb]
    show F (as.getD i d) (bs.getD i e)
    rw [this]
    exact hf

/-- the list at a is turned into out -/
theorem sort_tups {a : Addr} {vs : List Value} {xs : List (List Int)} {n : Nat} {P : PySem.Fin → Shared → Prop} {hb : Heap} (lt : Lt hb s.heap) (ho : s.heap.get? a = some (seqObj "list" vs.toArray n)) (hr : All2 (fun v x => TupI x hb v) vs xs) (h64 : xs.length < 64) (hne : xs.length < 2 ∨ ∀ x ∈ xs, x ≠ [])
    (h : ∀ out : List Value, All2 (fun v x => TupI x hb v) out (srtF xs) → P (.done (.ret .none)) { s with heap := sortedHeap s.heap a vs out.toArray }) :
    wpAny (model prog w) A (Builtin.«list.sort» ⟨[.ref a], []⟩) P E s := by
  have hlen := hr.length
  have ha : a < s.heap.objs.size := Heap.lt_size ho
  obtain ⟨e1, ho1⟩ : ∃ e1, (s.heap.update a (Obj.mapSeq fun _ => (#[] : Array Value))).get? a = some (seqObj "list" #[] e1) := ⟨_, get?_update_seq ho fun _ => #[]⟩
  rw [list_sort_plain]
  refine wpAny_bind (listItems_at ho rfl ?_)
  refine wpAny_bind (listUpdate_at ho rfl ?_ (by rw [List.size_toArray, sizeLine_eq]; omega) (Nat.zero_le _))
  refine wpAny_bind (seqEpoch_at ho1 rfl ?_)
  refine wpAny_bind (wpAny_newTuple ?_ (by show vs.length ≤ _; rw [sizeLine_eq]; omega))
  refine wpAny_bind (wpAny_newList ?_ (Nat.zero_le _))
  refine wpAny_holding ?_
  show wpAny (model prog w) A _ P E { s with heap := ((s.heap.update a (Obj.mapSeq fun _ => (#[] : Array Value))).push (seqObj "tuple" vs.toArray 0)).push (seqObj "list" #[] 0) }
  generalize hH : ((s.heap.update a (Obj.mapSeq fun _ => (#[] : Array Value))).push (seqObj "tuple" vs.toArray 0)).push (seqObj "list" #[] 0) = H
  have hoH : H.get? a = some (seqObj "list" #[] e1) := by
    rw [← hH, Heap.get?_push_ne _ _ _ (by rw [size_push', Heap.size_update]; exact Nat.ne_of_lt (Nat.lt_succ_of_lt ha)), Heap.get?_push_ne _ _ _ (by rw [Heap.size_update]; exact Nat.ne_of_lt ha)]
    exact ho1
  have keep : ∀ b o, b ≠ a → s.heap.get? b = some o → H.get? b = some o := fun b o hb e => by
    rw [← hH]
    refine Heap.get?_push_of_some _ (Heap.get?_push_of_some _ ?_)
    rw [Heap.get?_update_ne _ _ _ _ hb]
    exact e
  have hrH : All2 (fun v x => TupI x H v) vs xs := hr.mono fun v x q => TupI.monoT x _ _ v (fun b o ys k e hc hd => keep b o (fun z => by subst z; rw [ho] at e; cases e; exact absurd hc (by simp)) e) (TupI.monoT x _ _ v lt q)
  have hsH : ∀ out : List Value, H.update a (Obj.mapSeq fun _ => out.toArray) = sortedHeap s.heap a vs out.toArray := fun out => by rw [← hH]; rfl
  dsimp only
  by_cases h2 : vs.toArray.size < 2
  · rw [if_pos h2, if_pos h2]
    rw [List.size_toArray] at h2
    refine wpAny_bind (wpAny_pure ?_)
    rw [StateT.run_pure]
    refine wpAny_bind (wpAny_pure ?_)
    dsimp only
    have hsn : (arrOf (SortSt.mk' general' (vs.toArray.zip vs.toArray) #[] 7 none)).map (·.2) = vs.toArray := by
      show (vs.toArray.zip vs.toArray).map (·.2) = vs.toArray
      apply Array.toList_inj.mp
      simp [List.map_snd_zip]
    rw [hsn]
    refine wpAny_bind (seqEpoch_at hoH rfl ?_)
    refine wpAny_bind (listUpdate_at hoH rfl ?_ (Nat.zero_le _) (by rw [List.size_toArray, sizeLine_eq]; omega))
    simp only [bne_self_eq_false, Bool.false_eq_true, if_false]
    refine wpAny_pure ?_
    have := h vs (by unfold srtF; rw [if_pos (by omega)]; exact hr)
    rw [← hsH] at this
    exact this
  · rw [if_neg h2, if_neg h2]
    rw [List.size_toArray] at h2
    have hne' : ∀ x ∈ xs, x ≠ [] := hne.resolve_left (by omega)
    obtain ⟨fs, k1, k2, k3⟩ := tups_of hrH hne'
    refine wpAny_bind (kat_kind (T := .type "int") k1 (by omega) (fun v hv => by obtain ⟨i, t, rfl⟩ := k3 v hv; exact Looks.of_pure rfl) rfl ?_)
    have ask : ∀ i j (C : Bool → Shared → Prop), i < vs.length → j < vs.length → C (ltL (xs.getD i []) (xs.getD j [])) { s with heap := H } →
        kas_ask prog w A (tuples' (Value.type "int" != Value.type "tuple")) vs i j C { s with heap := H } := by
      intro i j C hi hj hC
      obtain ⟨x, hx, a1, us, e1', ⟨o1, ho1', hc1, n1, hd1⟩, hr1⟩ := hrH.get i _ (getD_some (d := Value.none) hi)
      obtain ⟨y, hy, a2, ws, e2', ⟨o2, ho2', hc2, n2, hd2⟩, hr2⟩ := hrH.get j _ (getD_some (d := Value.none) hj)
      have ex : xs.getD i [] = x := by simp [List.getD, hx]
      have ey : xs.getD j [] = y := by simp [List.getD, hy]
      rw [ex, ey] at hC
      unfold kas_ask
      rw [e1', e2']
      have l1 := hr1.length
      have l2 := hr2.length
      refine kat_lt (b := true) ho1' hd1 ho2' hd2 (lex_ints _ _ _ _ 0 hr1 hr2 ?_ hC)
      rw [← l1, ← l2, Array.length_toList, Array.length_toList]
    have hk : (kas_sort vs.length).kasWp (kas_ask prog w A (tuples' (Value.type "int" != Value.type "tuple")) vs) (fun p s' => p = krun (fun i j => ltL (xs.getD i []) (xs.getD j [])) (kas_sort vs.length) ∧ s' = { s with heap := H }) { s with heap := H } :=
      krun_wp ask (sort_all (by omega)) ⟨rfl, rfl⟩
    refine wpAny_bind (wpAny_mono (kat_run (Q := fun st' s' => ∃ p : Array Nat, p.size = vs.length ∧ arrOf st' = p.map (kas_item (vs.toArray.zip vs.toArray)) ∧ failedOf st' = none ∧ p = krun (fun i j => ltL (xs.getD i []) (xs.getD j [])) (kas_sort vs.length) ∧ s' = { s with heap := H })
      rfl (by omega) (by omega) (fun p' st' s' a1 a2 a3 a4 => ⟨p', a1, a2, a3, a4⟩) hk) ?_ fun _ _ e => e)
    rintro ⟨⟨⟩, st'⟩ s' ⟨p, hp, har, hf, hpe, rfl⟩
    dsimp only
    rw [kat_snds rfl har]
    have hsz : (List.toArray (p.toList.map fun i => vs.getD i Value.none)).size = vs.length := by rw [List.size_toArray, List.length_map, Array.length_toList, hp]
    refine wpAny_bind (seqEpoch_at hoH rfl ?_)
    refine wpAny_bind (listUpdate_at hoH rfl ?_ (Nat.zero_le _) (Nat.le_trans (Nat.le_of_eq hsz) (by rw [sizeLine_eq]; omega)))
    rw [hf]
    simp only [bne_self_eq_false, Bool.false_eq_true, if_false]
    refine wpAny_pure ?_
    have hpl : p.toList = permOf ltL [] xs := by unfold permOf; rw [hpe, hlen]
    have := h (p.toList.map fun i => vs.getD i Value.none) (by
      unfold srtF
      rw [if_neg (by omega), hpl]
      refine all2_perm hr _ fun i hi => ?_
      have := (permOf_perm (lt := ltL) (d := []) (xs := xs) (by omega)).mem_iff.mp hi
      rw [hlen]
      exact List.mem_range.mp this)
    rw [← hsH] at this
    exact this
end
end Mine

/-! part 13 -/
open PySem PySem.Spec PySem.Calls PyProof.Rows PySem.W
set_option maxRecDepth 100000
set_option Elab.async false
set_option linter.unusedVariables false
namespace Mine
section
variable {prog : Program} {w : World} {A : Around} {s : Shared} {R : HP}

/-- what is walked into a new list -/
def SeqIt (h : Heap) (v : Value) (vs : List Value) : Prop := ∃ a T o n, v = .ref a ∧ (T = "list" ∨ T = "tuple") ∧ h.get? a = some o ∧ o.cls = .type T ∧ o.data = .seq vs.toArray n
theorem LstOf.seq {α : Type} {Ra : Rep α} {xs : List α} {h : Heap} {v : Value} (r : LstOf Ra xs h v) : ∃ vs, SeqIt h v vs ∧ All2 (fun u x => Ra x h u) vs xs := by
  obtain ⟨a, vs, e, ⟨o, ho, hc, n, hd⟩, hr⟩ := r
  exact ⟨vs.toList, ⟨a, "list", o, n, e, .inl rfl, ho, hc, hd⟩, hr⟩
theorem TupOf.seq {α : Type} {Ra : Rep α} {xs : List α} {h : Heap} {v : Value} (r : TupOf Ra xs h v) : ∃ vs, SeqIt h v vs ∧ All2 (fun u x => Ra x h u) vs xs := by
  obtain ⟨a, vs, e, ⟨o, ho, hc, n, hd⟩, hr⟩ := r
  exact ⟨vs.toList, ⟨a, "tuple", o, n, e, .inr rfl, ho, hc, hd⟩, hr⟩

theorem do_sort_core {v : Value} {vs : List Value} {G : List Value → Prop} (t : TI s.heap) (hv : SeqIt s.heap v vs) (hsz : vs.length < 64)
    (hs : ∀ (s' : Shared) (a n : Nat) (P : PySem.Fin → Shared → Prop), Mv s s' → s'.heap.get? a = some (seqObj "list" vs.toArray n) → (∀ out, G out → P (.done (.ret .none)) { s' with heap := sortedHeap s'.heap a vs out.toArray }) →
      wpAny (model prog w) A.in1.in1 (Builtin.«list.sort» ⟨[.ref a], []⟩) P (fun _ _ => False) s')
    (hG : ∀ (s' : Shared) D out, Mv s s' → G out → s'.heap.IsList D out.toArray → s.heap.get? D = none → R s'.heap (.ref D)) : Do prog w A s (call (.builtin "sorted") [v]) R := by
  obtain ⟨l, T, o, n, rfl, hT, ho, hc, hd⟩ := hv
  refine Calls.call_function_entry kind_sorted plain_sorted entry_sorted (args_sorted1 _) ?_
  unfold Builtin.«sorted»
  refine wpAny_bind (m := checkCount "sorted" 1 1 _) (wpAny_pure ?_)
  refine wpAny_bind (wpAny_collect_seq l hT ho hc hd (fun h' hk => ?_) (by rw [List.size_toArray, sizeLine_eq]; omega))
  refine wpAny_bind (wpAny_newList ?_ (by show vs.length ≤ _; rw [sizeLine_eq]; omega))
  have hoL : (h'.push (seqObj "list" vs.toArray 0)).get? h'.objs.size = some (seqObj "list" vs.toArray 0) := Heap.get?_push_size _ rfl
  show wpAny _ _ _ _ _ { s with heap := h'.push (seqObj "list" vs.toArray 0) }
  have mv : Mv s { s with heap := h'.push (seqObj "list" vs.toArray 0) } := Mv.of t (fun b o e => Heap.get?_push_of_some _ (hk b o e)) s.toks
  have hfresh : s.heap.get? h'.objs.size = none := (Le.keeps t hk).none (Nat.le_refl _)
  refine wpAny_bind (wpAny_holding (wpAny_call_entry slot_list_sort ⟨_, hoL, rfl⟩ entry_list_sort (weakE (hs _ h'.objs.size 0 _ mv hoL fun out ho' => ⟨_, rfl, ?_⟩)) (args_list_sort _)))
  refine wpAny_pure ⟨_, rfl, ?_⟩
  have mv2 : Mv s { s with heap := sortedHeap (h'.push (seqObj "list" vs.toArray 0)) h'.objs.size vs out.toArray } := by
    refine Mv.of t (fun b o e => ?_) s.toks
    have hb : b < h'.objs.size := Heap.lt_size (hk b o e)
    rw [sortedHeap_old (Nat.ne_of_lt hb) (by rw [size_push']; exact Nat.lt_succ_of_lt hb)]
    exact Heap.get?_push_of_some _ (hk b o e)
  obtain ⟨e, he⟩ := sortedHeap_at (out := out.toArray) hoL
  exact ⟨mv2, hG _ _ out mv2 ho' ⟨_, he, rfl, e, rfl⟩ hfresh⟩

theorem do_sorted_tups {xs : List (List Int)} {vs : List Value} (t : TI s.heap) (q : All2 (fun v (R : HP) => R s.heap v) vs [LstT xs]) (h64 : xs.length < 64) (hne : xs.length < 2 ∨ ∀ x ∈ xs, x ≠ []) :
    Do prog w A s (call (.builtin "sorted") vs) (New s.heap (LstT (srtF xs))) := by
  obtain ⟨v, rfl, r⟩ := all2_one q
  obtain ⟨us, h1, h2⟩ := r.seq
  have hl := h2.length
  refine do_sort_core (G := fun out => All2 (fun v x => TupI x s.heap v) out (srtF xs)) t h1 (by omega) (fun s' a n P mv ha k => ?_) (fun s' D out mv ho hD hn => ?_)
  · exact sort_tups mv.le.lq.lt ha h2 h64 hne fun out ho => k out ho
  · exact ⟨⟨D, out.toArray, rfl, hD, ho.mono fun v x q => TupI.mono x _ _ v mv.le.lq q⟩, fun a e => by cases e; exact hn⟩

theorem intsAre_of {h : Heap} : ∀ {vs : List Value} {xs : List Int}, All2 (fun v x => IntR x h v) vs xs → IntsAre vs xs
  | _, _, .nil => .nil
  | _, _, .cons ⟨t, e⟩ r => e ▸ .cons _ t (intsAre_of r)
theorem of_intsAre {h : Heap} : ∀ {vs : List Value} {xs : List Int}, IntsAre vs xs → All2 (fun v x => IntR x h v) vs xs
  | _, _, .nil => .nil
  | _, _, .cons _ t r => .cons ⟨t, rfl⟩ (of_intsAre r)
def leI (a b : Int) : Bool := decide (a ≤ b)
/-- numbers in order -/
def insI (x : Int) : List Int → List Int
  | [] => [x]
  | y :: r => if x ≤ y then x :: y :: r else y :: insI x r
def srtI : List Int → List Int
  | [] => []
  | x :: r => insI x (srtI r)
theorem insI_perm (x : Int) : ∀ l, (insI x l).Perm (x :: l)
  | [] => List.Perm.refl _
  | y :: r => by
    unfold insI
    split
    · exact List.Perm.refl _
    · exact ((insI_perm x r).cons y).trans (List.Perm.swap ..)
theorem srtI_perm : ∀ l, (srtI l).Perm l
  | [] => List.Perm.refl _
  | x :: r => (insI_perm x _).trans ((srtI_perm r).cons x)
theorem insI_pw (x : Int) : ∀ l : List Int, l.Pairwise (· ≤ ·) → (insI x l).Pairwise (· ≤ ·)
  | [], _ => by simp [insI]
  | y :: r, h => by
    unfold insI
    obtain ⟨h1, h2⟩ := List.pairwise_cons.mp h
    split
    · rename_i hxy
      exact List.pairwise_cons.mpr ⟨fun z hz => by rcases List.mem_cons.mp hz with rfl | hz; exact hxy; exact Int.le_trans hxy (h1 z hz), h⟩
    · rename_i hxy
      exact List.pairwise_cons.mpr ⟨fun z hz => by rcases List.mem_cons.mp ((insI_perm x r).mem_iff.mp hz) with rfl | hz; omega; exact h1 z hz, insI_pw x r h2⟩
theorem srtI_pw : ∀ l, (srtI l).Pairwise (· ≤ ·)
  | [] => List.Pairwise.nil
  | x :: r => insI_pw x _ (srtI_pw r)
theorem srtI_of {l l' : List Int} (hp : l'.Perm l) (hs : l'.Pairwise (· ≤ ·)) : l' = srtI l :=
  List.Perm.eq_of_pairwise (le := fun a b => a ≤ b) (fun a b _ _ h1 h2 => Int.le_antisymm h1 h2) hs (srtI_pw l) (hp.trans (srtI_perm l).symm)

theorem do_sorted_ints {xs : List Int} {vs : List Value} (t : TI s.heap) (q : All2 (fun v (R : HP) => R s.heap v) vs [TupI xs]) (h64 : xs.length < 64) :
    Do prog w A s (call (.builtin "sorted") vs) (New s.heap (LstI (srtI xs))) := by
  obtain ⟨v, rfl, r⟩ := all2_one q
  obtain ⟨us, h1, h2⟩ := r.seq
  have hl := h2.length
  refine do_sort_core (G := fun out => All2 (fun v x => IntR x s.heap v) out (srtI xs)) t h1 (by omega) (fun s' a n P mv ha k => ?_) (fun s' D out mv ho hD hn => ?_)
  · refine list_sort_tree ha (intsAre_of h2) (by omega) fun out ns' h1 h2 h3 => ?_
    have := k out.toList (by rw [← srtI_of h2 h3]; exact of_intsAre h1)
    rwa [Array.toArray_toList] at this
  · exact ⟨⟨D, out.toArray, rfl, hD, ho⟩, fun a e => by cases e; exact hn⟩

theorem do_tuple {α : Type} {Ra : Rep α} {xs : List α} {vs : List Value} (m : Mono Ra) (t : TI s.heap) (q : All2 (fun v (R : HP) => R s.heap v) vs [LstOf Ra xs]) (hs : xs.length ≤ sizeLine) :
    Do prog w A s (call (.type "tuple") vs) (TupOf Ra xs) := by
  obtain ⟨v, rfl, r⟩ := all2_one q
  obtain ⟨a, us, rfl, hl, hr⟩ := r
  have hlen := hr.length
  rw [Array.length_toList] at hlen
  refine call_tuple_list hl (fun h' hk => ?_) (by omega)
  have k2 : ∀ b o, s.heap.get? b = some o → (h'.push { cls := .type "tuple", data := .seq us }).get? b = some o := fun b o e => Heap.get?_push_of_some _ (hk b o e)
  exact ⟨Mv.of t k2 s.toks, _, us, rfl, ⟨_, Heap.get?_push_size _ rfl, rfl, _, rfl⟩, hr.mono fun v x q => m x _ _ v (Lq.of k2) q⟩
theorem do_list {α : Type} {Ra : Rep α} {xs : List α} {vs : List Value} (m : Mono Ra) (t : TI s.heap) (q : All2 (fun v (R : HP) => R s.heap v) vs [TupOf Ra xs]) (hs : xs.length ≤ sizeLine) :
    Do prog w A s (call (.type "list") vs) (LstOf Ra xs) := by
  obtain ⟨v, rfl, r⟩ := all2_one q
  obtain ⟨a, us, rfl, ⟨o, ho, hc, n, hd⟩, hr⟩ := r
  have hlen := hr.length
  rw [Array.length_toList] at hlen
  refine call_list_seq a (.inr rfl) ho hc hd (fun h' c' hk hD => ?_) (by omega)
  exact ⟨Mv.of t hk s.toks, _, us, rfl, ⟨_, hD, rfl, c', rfl⟩, hr.mono fun v x q => m x _ _ v (Lq.of hk) q⟩
end
end Mine

/-! part 14 -/
open PySem PySem.Spec PySem.Calls PyProof.Rows PySem.W
open PySem.SeqAt (shaped)
set_option maxRecDepth 100000
set_option Elab.async false
set_option linter.unusedVariables false
namespace Mine

/-- data of one reading, by whose equality Python's == answers -/
structure Enc {α : Type} [DecidableEq α] (R : Rep α) (e : α → PyData) (k : Nat) : Prop where
  reads : ReadsAs R e
  lay : ∀ x, (e x).canLay0 = true
  dep : ∀ x, (e x).depth ≤ k
  inj : ∀ x y, PyData.eqv (e x) (e y) = decide (x = y)
theorem encInt : Enc IntR PyData.int 0 := ⟨IntR.reads, fun _ => rfl, fun _ => by simp [PyData.depth], fun x y => by simp [PyData.eqv]; rfl⟩
section
variable {α : Type} [DecidableEq α] {R : Rep α} {e : α → PyData} {k : Nat}
theorem Enc.layAll (c : Enc R e k) : ∀ xs : List α, PyData.canLayAll0 (xs.map e) = true
  | [] => rfl
  | x :: xs => by simp [PyData.canLayAll0, c.lay x, c.layAll xs]
theorem Enc.depAll (c : Enc R e k) : ∀ xs : List α, PyData.depthAll (xs.map e) ≤ k
  | [] => by simp [PyData.depthAll]
  | x :: xs => by simp [PyData.depthAll]; exact Nat.max_le.mpr ⟨c.dep x, c.depAll xs⟩
theorem Enc.injAll (c : Enc R e k) : ∀ xs ys : List α, PyData.eqvAll (xs.map e) (ys.map e) = decide (xs = ys)
  | [], [] => by simp [PyData.eqvAll]
  | [], _ :: _ => by simp [PyData.eqvAll]
  | _ :: _, [] => by simp [PyData.eqvAll]
  | x :: xs, y :: ys => by simp [PyData.eqvAll, c.inj x y, c.injAll xs ys]
theorem Enc.tup (c : Enc R e k) : Enc (TupOf R) (fun xs => .tuple (xs.map e)) (k + 1) :=
  ⟨TupOf.reads c.reads, fun xs => by simp [PyData.canLay0, c.layAll xs], fun xs => by simp [PyData.depth, c.depAll xs], fun xs ys => by simp [PyData.eqv, c.injAll xs ys]⟩
theorem Enc.lst (c : Enc R e k) : Enc (LstOf R) (fun xs => .list (xs.map e)) (k + 1) :=
  ⟨LstOf.reads c.reads, fun xs => by simp [PyData.canLay0, c.layAll xs], fun xs => by simp [PyData.depth, c.depAll xs], fun xs ys => by simp [PyData.eqv, c.injAll xs ys]⟩
end

section
variable {prog : Program} {w : World} {A : Around} {env : Env} {h₀ h : Heap} {s : Shared} {R1 R2 : HP} {l r : Expr} {pos : Pos}
section
variable {α : Type} [DecidableEq α] {Ra : Rep α} {e : α → PyData} {k : Nat} {x y : α} (c : Enc Ra e k) (hk : k ≤ 64) (hu : A.units + 128 < cLine)
include c hk hu
theorem Enc.shp (x : α) : shaped (e x) = true := by
  unfold shaped
  rw [c.lay x, Bool.true_and, decide_eq_true_eq]
  exact Nat.le_trans (c.dep x) hk
theorem evT_deq (el : Ev prog w A env h₀ l (Ra x)) (er : Ev prog w A env h₀ r (Ra y)) (m : Mono Ra) : EvT prog w A env h₀ (.Compare l [.Eq] [r] pos) (decide (x = y)) :=
  evT_cmp el er (m.mn x) (fun s a b l' ha hb => by
    obtain ⟨as, ra⟩ := c.reads _ _ _ ha
    obtain ⟨bs, rb⟩ := c.reads _ _ _ hb
    exact eq_dataH ra rb (c.shp hk hu x) (c.shp hk hu y) (by omega) ⟨Mv.refl l'.t', by rw [c.inj]⟩) (bim rfl)
theorem evT_dne (el : Ev prog w A env h₀ l (Ra x)) (er : Ev prog w A env h₀ r (Ra y)) (m : Mono Ra) : EvT prog w A env h₀ (.Compare l [.NotEq] [r] pos) (!decide (x = y)) :=
  evT_cmp el er (m.mn x) (fun s a b l' ha hb => by
    obtain ⟨as, ra⟩ := c.reads _ _ _ ha
    obtain ⟨bs, rb⟩ := c.reads _ _ _ hb
    exact ne_dataH ra rb (c.shp hk hu x) (c.shp hk hu y) (by omega) ⟨Mv.refl l'.t', by rw [c.inj]⟩) (bim rfl)
theorem evT_inL {xs : List α} (el : Ev prog w A env h₀ l (Ra x)) (er : Ev prog w A env h₀ r (LstOf Ra xs)) (m : Mono Ra) (hm : behindInMarks .In r = false) : EvT prog w A env h₀ (.Compare l [.In] [r] pos) (xs.any fun y => decide (y = x)) :=
  evT_cmp el er (m.mn x) (fun s a b l' ha hb => by
    obtain ⟨as, ra⟩ := c.reads _ _ _ ha
    obtain ⟨bs, rb⟩ := c.lst.reads _ _ _ hb
    have hd : min (PyData.depthAll (xs.map e)) (e x).depth ≤ 64 := Nat.le_trans (Nat.min_le_right _ _) (Nat.le_trans (c.dep x) hk)
    refine SeqAt.in_list_reads rb ra (c.layAll xs) (c.lay x) (by omega) ⟨Mv.refl l'.t', ?_⟩
    rw [List.any_map]
    congr 2
    funext y
    exact c.inj y x) hm
theorem evT_ninT {xs : List α} (el : Ev prog w A env h₀ l (Ra x)) (er : Ev prog w A env h₀ r (TupOf Ra xs)) (m : Mono Ra) (hm : behindInMarks .NotIn r = false) : EvT prog w A env h₀ (.Compare l [.NotIn] [r] pos) (!xs.any fun y => decide (y = x)) :=
  evT_cmp el er (m.mn x) (fun s a b l' ha hb => by
    obtain ⟨as, ra⟩ := c.reads _ _ _ ha
    obtain ⟨bs, rb⟩ := c.tup.reads _ _ _ hb
    have hd : min (PyData.depthAll (xs.map e)) (e x).depth ≤ 64 := Nat.le_trans (Nat.min_le_right _ _) (Nat.le_trans (c.dep x) hk)
    refine SeqAt.notIn_tuple_reads rb ra (c.layAll xs) (c.lay x) (by omega) ⟨Mv.refl l'.t', ?_⟩
    rw [List.any_map]
    congr 3
    funext y
    exact c.inj y x) hm
end
theorem evT_ne {a b : Int} (el : Ev prog w A env h₀ l (IntR a)) (er : Ev prog w A env h₀ r (IntR b)) : EvT prog w A env h₀ (.Compare l [.NotEq] [r] pos) (a != b) := evT_cmp el er (Mn.int a) (fun s _ _ k ⟨t, e⟩ ⟨u, f⟩ => by subst e; subst f; exact ne_int ⟨Mv.refl k.t', rfl⟩) (bim rfl)
theorem evT_le {a b : Int} (el : Ev prog w A env h₀ l (IntR a)) (er : Ev prog w A env h₀ r (IntR b)) : EvT prog w A env h₀ (.Compare l [.LtE] [r] pos) (decide (a ≤ b)) := evT_cmp el er (Mn.int a) (fun s _ _ k ⟨t, e⟩ ⟨u, f⟩ => by subst e; subst f; exact PySem.P.le_int ⟨Mv.refl k.t', rfl⟩) (bim rfl)
theorem evT_ge {a b : Int} (el : Ev prog w A env h₀ l (IntR a)) (er : Ev prog w A env h₀ r (IntR b)) : EvT prog w A env h₀ (.Compare l [.GtE] [r] pos) (decide (b ≤ a)) := evT_cmp el er (Mn.int a) (fun s _ _ k ⟨t, e⟩ ⟨u, f⟩ => by subst e; subst f; exact PySem.P.ge_int ⟨Mv.refl k.t', rfl⟩) (bim rfl)
theorem ev_mul {a b : Int} (ha : -1000000 ≤ a ∧ a ≤ 1000000) (hb : -1000000 ≤ b ∧ b ≤ 1000000) (el : Ev prog w A env h₀ l (IntR a)) (er : Ev prog w A env h₀ r (IntR b)) : Ev prog w A env h₀ (.BinOp l .Mult r pos) (IntR (a * b)) := ev_bin el er (Mn.int a) fun s _ _ k ⟨t, e⟩ ⟨u, f⟩ => by subst e; subst f; exact mul_int ⟨Mv.tok k.t' _, ⟨_, rfl⟩⟩
theorem ev_fdiv {a b : Int} (el : Ev prog w A env h₀ l (IntR a)) (er : Ev prog w A env h₀ r (IntR b)) (hb : b ≠ 0) (hb2 : b.natAbs < 1073741824) : Ev prog w A env h₀ (.BinOp l .FloorDiv r pos) (IntR (a.fdiv b)) := ev_bin el er (Mn.int a) fun s _ _ k ⟨t, e⟩ ⟨u, f⟩ => by subst e; subst f; exact floordiv_int hb ⟨Mv.tok k.t' _, ⟨_, rfl⟩⟩
theorem ev_neg {a : Int} (el : Ev prog w A env h₀ l (IntR a)) : Ev prog w A env h₀ (.UnaryOp .USub l pos) (IntR (-a)) := fun s k => by
  refine UnaryOp_ (wpAny_mono (el s k) (fun v s₁ h₁ => ?_) fun _ _ q => q)
  obtain ⟨m, t, rfl⟩ := h₁
  exact PySem.P.neg_int ⟨m.trans (Mv.tok m.le.t' _), _, rfl⟩

/-! items -/
theorem ev_itemL {α : Type} {Ra : Rep α} {xs : List α} {i : Int} {x : α} (m : Mono Ra) (el : Ev prog w A env h₀ l (LstOf Ra xs)) (er : Ev prog w A env h₀ r (IntR i)) (h0 : 0 ≤ i) (hi : i < 2 ^ 62) (hx : xs[i.toNat]? = some x)
    (hs : ∀ a k u, subscripted r false (.ref a) (.int k u) = operate [.ref a, .int k u] (getItem (.ref a) (.int k u)) := by intros; with_unfolding_all rfl) : Ev prog w A env h₀ (.Subscript l r pos) (Ra x) := fun s k => by
  refine Subscript_ (wpAny_mono (el s k) (fun v s₁ h₁ => wpAny_mono (er s₁ (k.trans h₁.1.le)) (fun u s₂ h₂ => ?_) fun _ _ q => q) fun _ _ q => q)
  obtain ⟨a, vs, rfl, hl, hr⟩ := (LstOf.mono m).mn xs |>.le h₂.1.le h₁.2
  obtain ⟨m2, t, rfl⟩ := h₂
  have hlt : i.toNat < vs.toList.length := by
    rw [hr.length]
    exact (List.getElem?_eq_some_iff.mp hx).1
  obtain ⟨y, hy, q⟩ := hr.get i.toNat _ (List.getElem?_eq_getElem hlt)
  rw [hx] at hy; cases hy
  exact tail_any hl.typeIs slot_list_getitem.lookup (wpAny_getItem_list hl h0 (by omega) (by rw [← Array.getElem?_toList]; exact List.getElem?_eq_getElem hlt) ⟨h₁.1.trans m2, q⟩) (hs _ _ _)
theorem ev_itemT {α : Type} {Ra : Rep α} {xs : List α} {i : Int} {j : Nat} {x : α} (m : Mono Ra) (el : Ev prog w A env h₀ l (TupOf Ra xs)) (er : Ev prog w A env h₀ r (IntR i)) (h0 : -(2 ^ 62) ≤ i) (hi : i < 2 ^ 62) (hj : seqIndex? i xs.length = some j) (hx : xs[j]? = some x)
    (hs : ∀ a k u, subscripted r false (.ref a) (.int k u) = operate [.ref a, .int k u] (getItem (.ref a) (.int k u)) := by intros; with_unfolding_all rfl) : Ev prog w A env h₀ (.Subscript l r pos) (Ra x) := fun s k => by
  refine Subscript_ (wpAny_mono (el s k) (fun v s₁ h₁ => wpAny_mono (er s₁ (k.trans h₁.1.le)) (fun u s₂ h₂ => ?_) fun _ _ q => q) fun _ _ q => q)
  obtain ⟨a, vs, rfl, hl, hr⟩ := (TupOf.mono m).mn xs |>.le h₂.1.le h₁.2
  obtain ⟨m2, t, rfl⟩ := h₂
  have hlen := hr.length
  have hlt : j < vs.toList.length := by
    rw [hlen]
    exact (List.getElem?_eq_some_iff.mp hx).1
  obtain ⟨y, hy, q⟩ := hr.get j _ (List.getElem?_eq_getElem hlt)
  rw [hx] at hy; cases hy
  exact tail_any (isTup_of hl).typeIs slot_tuple_getitem.lookup (getItem_tuple (isTup_of hl) (by omega) (by omega) (by rw [← Array.length_toList, hlen]; exact hj) (by rw [← Array.getElem?_toList]; exact List.getElem?_eq_getElem hlt) ⟨h₁.1.trans m2, q⟩) (hs _ _ _)
/-- [::-1] -/
theorem ev_rev {α : Type} {Ra : Rep α} {xs : List α} {st : Expr} {p : Pos} (m : Mono Ra) (el : Ev prog w A env h₀ l (LstOf Ra xs)) (er : Ev prog w A env h₀ st (IntR (-1))) (hsz : xs.length ≤ sizeLine)
    (hs : ∃ ops : Value → Value → List Value, ∀ a b, subscripted (.Slice none none (some st) p) false (.ref a) (.ref b) = operate (ops (.ref a) (.ref b)) (getItem (.ref a) (.ref b)) := by exact ⟨fun a b => [a, b], fun a b => rfl⟩) : Ev prog w A env h₀ (.Subscript l (.Slice none none (some st) p) pos) (LstOf Ra xs.reverse) := fun s k => by
  refine Subscript_ (wpAny_mono (el s k) (fun v s₁ h₁ => wpAny_Slice ?_) fun _ _ q => q)
  rw [evalPart_none, evalPart_some]
  refine wpAny_pure (wpAny_pure (wpAny_mono (er s₁ (k.trans h₁.1.le)) (fun u s₂ h₂ => ?_) fun _ _ q => q))
  obtain ⟨a, vs, rfl, hl, hr⟩ := (LstOf.mono m).mn xs |>.le h₂.1.le h₁.2
  obtain ⟨m2, t, rfl⟩ := h₂
  obtain ⟨ops, hs⟩ := hs
  have hlen := hr.length
  rw [Array.length_toList] at hlen
  have hl2 : (s₂.heap.push { cls := .type "slice", data := .fields #[.none, .none, .int (-1) t] }).IsList a vs := hl.push _
  refine tail_any (Heap.IsList.typeIs (s := { s₂ with heap := s₂.heap.push { cls := .type "slice", data := .fields #[.none, .none, .int (-1) t] } }) hl2) slot_list_getitem.lookup
    (wpAny_getItem_list_slice hl2 (Heap.IsSliceOf.new ..) .none .none (.int (-1) t) (by decide) ?_ (by omega)) (hs _ _)
  have k2 : ∀ b o, s₂.heap.get? b = some o → ((s₂.heap.push { cls := .type "slice", data := .fields #[.none, .none, .int (-1) t] }).push { cls := .type "list", data := .seq (slicePick vs none none (some (-1))) }).get? b = some o := fun b o e => Heap.get?_push_of_some _ (Heap.get?_push_of_some _ e)
  refine ⟨(h₁.1.trans m2).trans (Mv.of m2.le.t' k2 s₂.toks), _, slicePick vs none none (some (-1)), rfl, ⟨_, Heap.get?_push_size _ rfl, rfl, _, rfl⟩, ?_⟩
  rw [show (slicePick vs none none (some (-1))).toList = vs.toList.reverse by rw [krv_pick]]
  exact (hr.mono fun v x q => m x _ _ v (Lq.of k2) q).reverse
end
end Mine

/-! part 15 -/
open PySem PySem.Spec PySem.Calls PyProof.Rows PySem.W
open PySem.AutoSeq1 (wpAny_loadPart')
set_option maxRecDepth 100000
set_option Elab.async false
set_option linter.unusedVariables false
namespace Mine

theorem ltL_end {xs ys : List Int} {i : Nat} (h : min xs.length ys.length ≤ i) (h1 : i ≤ xs.length) (h2 : i ≤ ys.length) : ltL (xs.drop i) (ys.drop i) = decide (xs.length < ys.length) := by
  cases hx : xs.drop i with
  | nil =>
    have lx : xs.length - i = 0 := by rw [← List.length_drop, hx]; rfl
    cases hy : ys.drop i with
    | nil =>
      have ly : ys.length - i = 0 := by rw [← List.length_drop, hy]; rfl
      have : ¬ xs.length < ys.length := by omega
      simp [ltL, this]
    | cons b r =>
      have ly : ys.length - i = r.length + 1 := by rw [← List.length_drop, hy]; rfl
      have : xs.length < ys.length := by omega
      simp [ltL, this]
  | cons a r =>
    have lx : xs.length - i = r.length + 1 := by rw [← List.length_drop, hx]; rfl
    cases hy : ys.drop i with
    | nil =>
      have : ¬ xs.length < ys.length := by omega
      simp [ltL, this]
    | cons b r2 =>
      have ly : ys.length - i = r2.length + 1 := by rw [← List.length_drop, hy]; rfl
      omega
theorem tuple_lt_ints (l b : Addr) (items items2 : Array Value) (n n2 : Nat) (dd dd2 : Option Addr) (sl sl2 : Array (Option Value)) (xs ys : List Int) (h₀ : Heap)
    (hx : All2 (fun v x => IntR x h₀ v) items.toList xs) (hy : All2 (fun v x => IntR x h₀ v) items2.toList ys) :
    Meets (Builtin.«tuple.__lt__» ⟨[.ref l, .ref b], []⟩)
      (fun A R s => s.heap.get? l = some { cls := .type "tuple", dict := dd, data := .seq items n, slots := sl } ∧ s.heap.get? b = some { cls := .type "tuple", dict := dd2, data := .seq items2 n2, slots := sl2 } ∧
        R (.ok (.ret (.bool (ltL xs ys)))) s) :=
  .of_wp fun prog w A R s h => by
    obtain ⟨hp, g, d, tk, os⟩ := s; obtain ⟨hl, hb, h⟩ := h
    have f2 := AutoSeq1.sub_tuple_tuple
    have lx := hx.length
    have ly := hy.length
    have hZ : (items.toList.zip items2.toList).length = min xs.length ys.length := by rw [List.length_zip, lx, ly]
    wp_walk using wpAny_loadPart' hl, wpAny_loadPart' hb, wpAny_forIn_list _ (fun rest b s' => b.1 = none ∧ s' = ⟨hp, g, d, tk, os⟩ ∧ ∃ i, rest = (items.toList.zip items2.toList).drop i ∧ i ≤ xs.length ∧ i ≤ ys.length ∧
      R (.ok (.ret (.bool (ltL (xs.drop i) (ys.drop i))))) ⟨hp, g, d, tk, os⟩) _
    case turn =>
      rintro ⟨y, x⟩ rest b s' ⟨hb', rfl, i, hz, hi1, hi2, hR⟩
      have hlt : i < (items.toList.zip items2.toList).length := by
        rcases Nat.lt_or_ge i (items.toList.zip items2.toList).length with h' | h'
        · exact h'
        · rw [List.drop_of_length_le h'] at hz; cases hz
      have hm : i < min xs.length ys.length := hZ ▸ hlt
      have h1 : i < xs.length := Nat.lt_of_lt_of_le hm (Nat.min_le_left _ _)
      have h2 : i < ys.length := Nat.lt_of_lt_of_le hm (Nat.min_le_right _ _)
      rw [List.drop_eq_getElem_cons hlt] at hz
      injection hz with hyx hrest
      have hy0 : y = items.toList[i]'(by omega) := by have := congrArg Prod.fst hyx; simpa using this
      have hx0 : x = items2.toList[i]'(by omega) := by have := congrArg Prod.snd hyx; simpa using this
      obtain ⟨a, ea, t1, hy1⟩ := hx.get i y (by rw [hy0]; exact List.getElem?_eq_getElem _)
      obtain ⟨c, ec, t2, hx1⟩ := hy.get i x (by rw [hx0]; exact List.getElem?_eq_getElem _)
      subst hy1 hx1
      rw [List.drop_eq_getElem_cons h1, List.drop_eq_getElem_cons h2] at hR
      have ea' : xs[i] = a := by rw [List.getElem?_eq_getElem h1] at ea; exact Option.some.inj ea
      have ec' : ys[i] = c := by rw [List.getElem?_eq_getElem h2] at ec; exact Option.some.inj ec
      rw [ea', ec'] at hR
      unfold ltL at hR
      refine wpAny_bind (wpAny_eqBool_int ?_)
      by_cases hac : (a == c) = true
      · rw [if_pos hac] at hR
        rw [hac]
        wp_walk
        exact ⟨rfl, rfl, i + 1, hrest, h1, h2, hR⟩
      · rw [if_neg hac] at hR
        rw [Bool.eq_false_iff.mpr hac]
        simp only [Bool.not_false, if_true]
        refine wpAny_bind (wpAny_rule (wpAny_bind ?_))
        refine (lt_int ?_ : wpAny (model prog w) A.in1 (compareOp .Lt (.int a t1) (.int c t2)) _ _ _)
        wp_walk
        exact ⟨_, rfl, hR⟩
    case fin =>
      rintro ⟨b1, b2⟩ s' ⟨hb', rfl, i, hz, hi1, hi2, hR⟩
      simp only at hb'
      subst hb'
      have hge : min xs.length ys.length ≤ i := by
        rcases Nat.lt_or_ge i (items.toList.zip items2.toList).length with h' | h'
        · rw [List.drop_eq_getElem_cons h'] at hz; cases hz
        · exact hZ ▸ h'
      wp_walk
      rw [ltL_end hge hi1 hi2] at hR
      refine ⟨_, rfl, ?_⟩
      rw [Array.length_toList] at lx ly
      simpa [Builtin.Tuple.tupleCompareSizes, lx, ly] using hR
    case h =>
      exact ⟨rfl, rfl, 0, rfl, Nat.zero_le _, Nat.zero_le _, by simpa using h⟩

section
variable {prog : Program} {w : World} {A : Around} {env : Env} {h₀ h : Heap} {s : Shared} {R : HP} {l r : Expr} {pos : Pos}
theorem evT_ltT {xs ys : List Int} (hu : A.units < cLine) (el : Ev prog w A env h₀ l (TupI xs)) (er : Ev prog w A env h₀ r (TupI ys)) : EvT prog w A env h₀ (.Compare l [.Lt] [r] pos) (ltL xs ys) :=
  evT_cmp el er (TupI.mono.mn xs) (fun s a b l' ha hb => by
    obtain ⟨l, vs, rfl, hl, hx⟩ := ha
    obtain ⟨l2, ws, rfl, hl2, hy⟩ := hb
    obtain ⟨⟨cls, dd, data, sl⟩, ho, hc, n, hd⟩ := id hl
    obtain ⟨⟨cls2, dd2, data2, sl2⟩, ho2, hc2, n2, hd2⟩ := id hl2
    simp only at hc hd hc2 hd2
    subst hc hd hc2 hd2
    exact richCompare_meets_room (op := .Lt) ⟨_, ho, rfl⟩ ⟨_, ho2, rfl⟩ F.slot_tuple_lt F.entry_tuple_lt (F.args_tuple_lt_2 _ _) (tuple_lt_ints l l2 vs ws n n2 dd dd2 sl sl2 xs ys s.heap hx hy)
      ⟨ho, ho2, show Value.bool (ltL xs ys) ≠ Value.notImplemented ∧ _ from ⟨(fun x => nomatch x), Mv.refl l'.t', rfl⟩⟩ hu) (bim rfl)
end
end Mine

/-! part 16 -/
open PySem PySem.Spec PySem.Calls PyProof.Rows PySem.W
set_option maxRecDepth 100000
set_option Elab.async false
set_option linter.unusedVariables false
namespace Mine

section
variable {prog : Program} {w : World} {A : Around} {env : Env} {h₀ h h' : Heap} {s : Shared} {R : HP} {x : Str} {X : List Addr} {σ : Sg} {v : Value} {rest : List Stmt} {Q : Flow → Shared → Prop} {l r : Expr} {pos : Pos}

theorem ru_while {test : Expr} {body : List Stmt} (Inv : Nat → Heap → Prop) (n : Nat) (i0 : Inv n s.heap) (t : TI s.heap)
    (turn : ∀ n s₁, MvB X s s₁ → Inv n s₁.heap → ∃ c, EvT prog w A env s₁.heap test c ∧
      (c = true → ∀ s₂, Mv s₁ s₂ → Ru prog w A env X s₂ body (fun f s₃ => f = .next ∧ ∃ m, m < n ∧ Inv m s₃.heap)) ∧ (c = false → ∀ s₂, Mv s₁ s₂ → Ru prog w A env X s₂ rest Q)) :
    Ru prog w A env X s (.While test body [] pos :: rest) Q := by
  refine wpAny_execs_cons (wpAny_While (codeAny_whileLoop (fun k s' => MvB X s s' ∧ Inv k s'.heap) (fun k s₁ h₁ => ?_) n ⟨(Mv.refl t).b X, i0⟩))
  obtain ⟨c, ec, h1, h2⟩ := turn k s₁ h₁.1 h₁.2
  refine weakE (wpAny_mono (ec s₁ (Le.refl h₁.1.le.t')) (fun b s₂ q => ?_) fun _ _ q => q)
  obtain ⟨m2, rfl⟩ := q
  cases b with
  | true =>
    simp only [if_true]
    refine weakE (wpAny_mono (h1 rfl s₂ m2) (fun f s₃ q => ?_) fun _ _ q => q)
    obtain ⟨m3, rfl, m, hm, inv⟩ := q
    exact ⟨m, hm, (h₁.1.trans (m2.b X)).trans m3, inv⟩
  | false =>
    simp only [Bool.false_eq_true, if_false]
    refine wpAny_execs_nil ?_
    have mm := h₁.1.trans (m2.b X)
    exact (h2 rfl s₂ m2).mv mm

theorem evT_isNone (el : Ev prog w A env h₀ l (fun _ v => v = .none)) (er : Ev prog w A env h₀ r (fun _ v => v = .none)) : EvT prog w A env h₀ (.Compare l [.Is] [r] pos) true :=
  evT_cmp el er (fun _ _ _ _ q => q) (fun s a b l' ha hb => by subst ha; subst hb; exact wpAny_is_plain rfl ⟨Mv.refl l'.t', rfl⟩) (bim rfl)

/-- a call of a method of a list, alone on its row -/
theorem ru_method {name : Str} {id : String} {o : Expr} {args : List Expr} {apos cpos spos : Pos} {D : Addr} {ys : Array Value} {Rs : List HP} (t : TI s.heap) (eo : Ev prog w A env s.heap o (fun _ v => v = .ref D)) (hD : s.heap.PlainList D ys)
    (slot : Slot "list" name id) (hty : typeOf (.builtin id) = pure (.type "method_descriptor"))
    (ea : EvS prog w A env s.heap cpos args Rs)
    (hc : ∀ s' vs, Mv s s' → All2 (fun v (R : HP) => R s'.heap v) vs Rs → s'.heap.PlainList D ys → wpAny (model prog w) A (call (.builtin id) (.ref D :: vs)) (fun v s'' => v = .none ∧ MvB X s' s'' ∧ Ru prog w A env X s'' rest Q) F0 s')
    (hne : ∃ t r, backTo cpos (starEach args env) = (false, t) :: r) (hp : (backTo cpos (starEach args env)).any (·.1) = false)
    (hi : interactive env = false := by rfl) (hs : swapsWith (.Call (.Attribute o name apos) args [] cpos) none spos.line env = pure false := by rfl)
    (he : ∃ pl, eval (.Call (.Attribute o name apos) args [] cpos) env = (do
      let ov ← eval o env
      standAt apos.atName
      let (f, first) ← holding [ov] (getMethod ov name pl)
      callWith cpos f first (backTo cpos (starEach args env)) []) := by exact ⟨_, rfl⟩) :
    Ru prog w A env X s (.Expr (.Call (.Attribute o name apos) args [] cpos) spos :: rest) Q := by
  refine wpAny_execs_cons (wpAny_Expr ?_ hi hs)
  obtain ⟨pl, he⟩ := he
  rw [he]
  refine wpAny_bind (wpAny_mono (eo s (Le.refl t)) (fun v s₁ h₁ => ?_) fun _ _ q => q)
  obtain ⟨m1, rfl⟩ := h₁
  obtain ⟨n, ho⟩ := hD
  have keepD : ∀ s', Mv s s' → s'.heap.get? D = some { cls := .type "list", data := .seq ys n } := fun s' m => m.le.lq _ _ _ _ ho rfl
  refine wpAny_bind (wpAny_standAt (wpAny_bind (wpAny_holding (getMethod_builtin ⟨_, keepD s₁ m1, rfl⟩ PySem.F.plainAttrs_list slot hty (fun a e => by cases e; exact ⟨_, keepD s₁ m1, rfl⟩) ?_))))
  refine callWith_builtin hp ?_
  have hx := ea s₁ m1.le
  obtain ⟨t0, r0, et⟩ := hne
  rw [et] at hx ⊢
  refine evalArgs_plain (wpAny_mono hx (fun vs s₂ h₂ => ?_) fun _ _ q => q)
  have m2 := m1.trans h₂.1
  refine wpAny_mono (hc s₂ vs m2 h₂.2 ⟨n, keepD s₂ m2⟩) (fun u s₃ h₃ => ?_) fun _ _ q => q
  obtain ⟨rfl, m3, k⟩ := h₃
  have mm := (m2.b X).trans m3
  exact k.mv mm

theorem mvB_list {D : Addr} {ys : Array Value} (t : TI s.heap) (hD : s.heap.PlainList D ys) (sb : Heap.SameBut D s.heap h') {tk : Nat} : MvB [D] s { s with heap := h', toks := tk } := by
  obtain ⟨n, ho⟩ := hD
  refine ⟨h', tk, rfl, t, t.step fun a o e y => (sb.2 a fun z => ?_).trans e, fun a o xs k e hc d => (sb.2 a fun z => ?_).trans e, fun a o _ _ h3 e => (sb.2 a fun z => h3 (by simp [z])).trans e⟩
  · subst z
    rw [ho] at e; cases e
    obtain ⟨vs, d, _⟩ := y
    cases d
  · subst z
    rw [ho] at e; cases e
    exact absurd hc (by simp)
theorem call_insert {D : Addr} {ys : Array Value} {i : Nat} {x : Int} {k : Tok} {y : Value} (t : TI s.heap) (hD : s.heap.PlainList D ys) (hx : x = (i : Int)) (hi : i ≤ ys.size) (hs : ys.size ≤ 1000) :
    wpAny (model prog w) A (call (.builtin "list.insert") [.ref D, .int x k, y]) (fun v s' => v = .none ∧ MvB [D] s s' ∧ s'.heap.PlainList D (ys.toList.take i ++ y :: ys.toList.drop i).toArray ∧ Heap.SameBut D s.heap s'.heap) F0 s := by
  obtain ⟨n, ho⟩ := hD
  have hfit : Builtin.List.listFitsIndex x = true := fitsIndex_of (by omega) (by omega)
  have hsz : ys.size ≤ sizeLine := by rw [sizeLine_eq]; omega
  have q := get?_update_seq (c := "list") ho (fun xs : Array Value => have k := if x < 0 then (x + ((xs.size : Nat) : Int)).toNat else min x.toNat xs.size; (xs.extract 0 k).push y ++ xs.extract k)
  have e : (have k := if x < 0 then (x + ((ys.size : Nat) : Int)).toNat else min x.toNat ys.size; (ys.extract 0 k).push y ++ ys.extract k) = (ys.toList.take i ++ y :: ys.toList.drop i).toArray := by
    have hk : (if x < 0 then (x + ((ys.size : Nat) : Int)).toNat else min x.toNat ys.size) = i := by
      rw [if_neg (by omega)]; omega
    simp only [hk]
    have := kl_ins_eq ys.toList i y
    rwa [Array.toArray_toList] at this
  rw [e] at q
  refine call_meets PySem.F.slot_list_insert ⟨_, ho, rfl⟩ PySem.F.entry_list_insert (PySem.F.args_list_insert_3 _ _ _) (PySem.AutoSeq1.list_insert_list_int_val_1 D ys n x k y (by simp [hfit]) hsz) ⟨ho, ?_⟩
  exact ⟨rfl, mvB_list t ⟨n, ho⟩ (Heap.SameBut.update ..), ⟨_, q⟩, Heap.SameBut.update ..⟩

theorem binds_kw {fd : FuncData} {args : Args} {binds : List (Str × Value)} {T Kd : Addr} {items : Array Value} {m : Str → Option Value} {nm : Str} {β γ : Type}
    {k : Option (Array Value) → Sem (List (Str × Value))} {k2 : Option Value → Sem β} {k3 : β → Sem γ} {k4 : γ → Sem (List (Str × Value))} (hd : fd.defaults = .ref T) (hT : s.heap.IsTuple T items) (hn : s.heap.Ns Kd m) (hk : m nm = some .none)
    (h₁ : bindArgs fd args = seqItems? fd.defaults >>= k) (h₂ : k (some items) = ((nsGet Kd nm >>= k2) >>= k3) >>= k4) (h₃ : ((k2 (some .none) >>= k3) >>= k4) = pure binds) : BindsTo s fd args binds := fun M A E Q hq => by
  obtain ⟨o, ho, hc, n, hdat⟩ := hT
  rw [h₁, hd]
  refine wpAny_bind (wpAny_seqItems ho hdat ?_)
  rw [h₂, bind_assoc, bind_assoc]
  refine wpAny_bind (wpAny_nsGet hn ?_)
  rw [hk]
  rw [bind_assoc] at h₃
  rw [h₃]
  exact wpAny_pure hq

theorem Fs.pick (f : Fs env X h σ) (e : σ.lookup x = some R) : ∃ v, R h v ∧ Fs env X h ((x, fun _ u => u = v) :: σ) := by
  obtain ⟨k, L, c, i, m, hn, hv⟩ := f
  obtain ⟨mn, v, r, q⟩ := hv x R e
  refine ⟨v, r, k, L, c, i, m, hn, fun y R' e' => ?_⟩
  rw [List.lookup_cons] at e'
  cases hb : y == x with
  | true =>
    rw [hb] at e'
    cases e'
    rw [beq_iff_eq.mp hb]
    exact ⟨fun _ _ _ _ q => q, v, rfl, q⟩
  | false =>
    rw [hb] at e'
    exact hv y R' e'
end
end Mine

/-! part 17 -/
open PySem PySem.Spec PySem.Calls PyProof.Rows PySem.W
set_option maxRecDepth 100000
set_option Elab.async false
set_option linter.unusedVariables false
namespace Mine

/-- the place found -/
def bisF (xs : List (List Int)) (x : List Int) : Nat → Nat → Nat → Nat
  | 0, lo, _ => lo
  | n + 1, lo, hi => if lo < hi then (if ltL (xs.getD ((lo + hi) / 2) []) x then bisF xs x n ((lo + hi) / 2 + 1) hi else bisF xs x n lo ((lo + hi) / 2)) else lo
theorem bisF_done {xs : List (List Int)} {x : List Int} {n lo hi : Nat} (h : ¬ lo < hi) : bisF xs x n lo hi = lo := by
  cases n with
  | zero => rfl
  | succ n => unfold bisF; rw [if_neg h]
theorem bisF_le {xs : List (List Int)} {x : List Int} {N : Nat} : ∀ {n lo hi : Nat}, lo ≤ N → hi ≤ N → bisF xs x n lo hi ≤ N
  | 0, lo, hi, h, _ => h
  | n + 1, lo, hi, h1, h2 => by
    unfold bisF
    split
    · split
      · exact bisF_le (by omega) h2
      · exact bisF_le h1 (by omega)
    · exact h1

abbrev bisFd (name qual : Str) (T Kd : Addr) (doc pm : Value) (an : Option Addr) (cdv ct : Value) : FuncData := fnOf name qual (dArgs (sAt 10)) (dBody (sAt 10)) (dScope (sAt 10)) (.ref T) (.ref Kd) doc pm an cdv ct
/-- the defaults of a def: nought and None; key None -/
structure DfAt (h : Heap) (T Kd : Addr) (t0 : Tok) : Prop where
  t : h.IsTuple T #[.int 0 t0, .none]
  k : ∃ m, h.Ns Kd m ∧ m "key" = some .none
theorem DfAt.le {h h' : Heap} {T Kd : Addr} {t0 : Tok} (d : DfAt h T Kd t0) (l : Le h h') : DfAt h' T Kd t0 := ⟨Le.tuple l.lq d.t, by obtain ⟨m, a, b⟩ := d.k; exact ⟨m, l.ns a, b⟩⟩

section
variable {name qual : Str} {doc pm : Value} {an : Option Addr} {cdv ct : Value} {L a T Kd : Addr} {prog : Program} {wd : World} {hb : Heap} {A : Around} {s : Shared} {X : List Addr} {xs : List (List Int)} {x : List Int}
abbrev IsN : HP := fun _ v => v = .none
theorem IsN.mn : Mn IsN := fun _ _ _ _ q => q

theorem bisect_run (F : Fs (callEnvC (bisFd name qual T Kd doc pm an cdv ct) L a) X s.heap [("a", LstT xs), ("x", TupI x), ("lo", IntR 0), ("hi", IsN), ("key", IsN)]) (t : TI s.heap) (gl : Glo s.heap "len" (.builtin "len")) (room : Room A 1) (hlen : xs.length ≤ 1000)
    (gl' : ∀ s', MvB X s s' → Glo s'.heap "len" (.builtin "len")) :
    Ru prog wd A (callEnvC (bisFd name qual T Kd doc pm an cdv ct) L a) X s (dBody (sAt 10)) (fun f s' => ∃ v, f = .ret v ∧ IntR (bisF xs x xs.length 0 xs.length) s'.heap v) := by
  generalize hr0 : bisF xs x xs.length 0 xs.length = r0
  conv => arg 7; whnf
  refine ru_if t (evT_lt (F.ev rfl) ev_int) fun s₁ m₁ => ?_
  rw [if_neg (by decide)]
  refine ru_nil m₁.le.t' ?_
  have F₁ := F.le m₁.le
  refine ru_if m₁.le.t' (evT_isNone (F₁.ev rfl) ev_none) fun s₂ m₂ => ?_
  rw [if_pos rfl]
  have F₂ := F₁.le m₂.le
  refine ru_assign (R := IntR xs.length) F₂ (ev_call_b (Rs := [LstT xs]) (ev_glob ⟨rfl, rfl, rfl, rfl⟩ ((gl.le m₁.le).le m₂.le)) (evS_cons (F₂.ev rfl) (LstT.mono.mn _) evS_nil) (fun s' vs l' q => do_len_list l'.t' q (by omega)) ⟨_, _, rfl⟩ rfl) m₂.le.t' (Mn.int _) (.inl rfl) fun s₃ m₃ F₃ => ?_
  refine ru_nil m₃.le.t' ?_
  refine ru_if m₃.le.t' (evT_isNone (F₃.ev rfl) ev_none) fun s₄ m₄ => ?_
  rw [if_pos rfl]
  have F₄ := F₃.le m₄.le
  refine ru_while (fun n h => ∃ lo hi : Nat, hi - lo ≤ n ∧ lo ≤ xs.length ∧ hi ≤ xs.length ∧ bisF xs x n lo hi = r0 ∧ Fs (callEnvC (bisFd name qual T Kd doc pm an cdv ct) L a) X h [("a", LstT xs), ("x", TupI x), ("lo", IntR (lo : Int)), ("hi", IntR (hi : Int))])
    xs.length ⟨0, xs.length, Nat.le_refl _, Nat.zero_le _, Nat.le_refl _, hr0, F₄.sub (.cons rfl (fun _ _ q => q) (LstT.mono.mn _) (.cons rfl (fun _ _ q => q) (TupI.mono.mn _) (.cons rfl (fun _ _ q => q) (Mn.int _) (.cons rfl (fun _ _ q => q) (Mn.int _) .nil))))⟩ m₄.le.t' ?_
  rintro n s₅ m₅ ⟨lo, hi, hn, h1, h2, hr, F₅⟩
  refine ⟨decide ((lo : Int) < hi), evT_lt (F₅.ev rfl) (F₅.ev rfl), fun hlt s₆ m₆ => ?_, fun hge s₆ m₆ => ?_⟩
  · have hlt' : lo < hi := by have := of_decide_eq_true hlt; omega
    obtain ⟨n, rfl⟩ : ∃ n', n = n' + 1 := ⟨n - 1, by omega⟩
    have F₆ := F₅.le m₆.le
    unfold bisF at hr
    rw [if_pos hlt'] at hr
    refine ru_assign (R := IntR (((lo + hi) / 2 : Nat) : Int)) F₆ ((ev_fdiv (ev_add (F₆.ev rfl) (F₆.ev rfl)) ev_int (by decide) (by decide)).imp ?_) m₆.le.t' (Mn.int _) (.inl rfl) fun s₇ m₇ F₇ => ?_
    · intro h v q
      have : ((lo : Int) + hi).fdiv 2 = (((lo + hi) / 2 : Nat) : Int) := by
        rw [Int.fdiv_eq_ediv_of_nonneg _ (by decide)]
        omega
      rw [← this]
      exact q
    · have hmid : (lo + hi) / 2 < xs.length := by omega
      refine ru_if m₇.le.t' (evT_ltT (xs := xs.getD ((lo + hi) / 2) []) (by have := room.u; omega) (ev_itemL TupI.mono (F₇.ev rfl) (F₇.ev rfl) (by omega) (by omega) (by rw [Int.toNat_natCast]; exact getD_some hmid)) (F₇.ev rfl)) fun s₈ m₈ => ?_
      have F₈ := F₇.le m₈.le
      by_cases hc : ltL (xs.getD ((lo + hi) / 2) []) x = true
      · rw [if_pos hc] at hr ⊢
        refine ru_assign (R := IntR (((lo + hi) / 2 + 1 : Nat) : Int)) F₈ ((ev_add (F₈.ev rfl) ev_int).imp fun h v q => by rw [Int.natCast_add]; exact q) m₈.le.t' (Mn.int _) (.inl rfl) fun s₉ m₉ F₉ => ru_nil m₉.le.t' (ru_nil m₉.le.t' ⟨rfl, n, Nat.lt_succ_self _, (lo + hi) / 2 + 1, hi, by omega, by omega, h2, hr, F₉.sub ?_⟩)
        exact .cons rfl (fun _ _ q => q) (LstT.mono.mn _) (.cons rfl (fun _ _ q => q) (TupI.mono.mn _) (.cons rfl (fun _ _ q => q) (Mn.int _) (.cons rfl (fun _ _ q => q) (Mn.int _) .nil)))
      · rw [if_neg hc] at hr ⊢
        refine ru_assign (R := IntR (((lo + hi) / 2 : Nat) : Int)) F₈ (F₈.ev rfl) m₈.le.t' (Mn.int _) (.inl rfl) fun s₉ m₉ F₉ => ru_nil m₉.le.t' (ru_nil m₉.le.t' ⟨rfl, n, Nat.lt_succ_self _, lo, (lo + hi) / 2, by omega, h1, by omega, hr, F₉.sub ?_⟩)
        exact .cons rfl (fun _ _ q => q) (LstT.mono.mn _) (.cons rfl (fun _ _ q => q) (TupI.mono.mn _) (.cons rfl (fun _ _ q => q) (Mn.int _) (.cons rfl (fun _ _ q => q) (Mn.int _) .nil)))
  · have hge' : ¬ lo < hi := by have := of_decide_eq_false hge; omega
    rw [bisF_done hge'] at hr
    refine ru_nil m₆.le.t' (ru_ret m₆.le.t' ((F₅.le m₆.le).ev rfl) fun s₇ v m₇ r => ⟨v, rfl, ?_⟩)
    rw [← hr]
    exact r

def insF (xs : List (List Int)) (x : List Int) : List (List Int) := xs.take (bisF xs x xs.length 0 xs.length) ++ x :: xs.drop (bisF xs x xs.length 0 xs.length)

def BisOk (prog : Program) (wd : World) (hb : Heap) (a : Addr) (four : Bool) : Prop :=
  ∀ (A : Around) (s : Shared) (vs : List Value) (xs : List (List Int)) (x : List Int), xs.length ≤ 1000 → Le hb s.heap → Room A 3 → All2 (fun v (R : HP) => R s.heap v) vs (if four then [LstT xs, TupI x, IntR 0, IsN] else [LstT xs, TupI x]) →
    Do prog wd A s (call (.ref a) vs) (IntR (bisF xs x xs.length 0 xs.length))

theorem bis_kind {vals : List (Str × Value)} (h : vals.map (·.1) = (["a", "x", "lo", "hi", "key"] : List Str)) : ∀ y ∈ vals, (dScope (sAt 10)).names.lookup y.1 = some .local := by
  intro y hy
  have : y.1 ∈ (["a", "x", "lo", "hi", "key"] : List Str) := by rw [← h]; exact List.mem_map_of_mem hy
  simp only [List.mem_cons, List.not_mem_nil, or_false] at this
  rcases this with e | e | e | e | e <;> (rw [e]; rfl)

theorem bisect_ok {t0 : Tok} (D : DefAt hb a (bisFd name qual T Kd doc pm an cdv ct)) (df : DfAt hb T Kd t0) (gl : Glo hb "len" (.builtin "len")) (four : Bool) : BisOk prog wd hb a four := by
  intro A s vs xs x hlen l room hv
  obtain ⟨v1, v2, v3, v4, hbind, r1, r2, r3, r4⟩ : ∃ v1 v2 v3 v4, BindsTo s (bisFd name qual T Kd doc pm an cdv ct) ⟨vs, []⟩ [("a", v1), ("x", v2), ("lo", v3), ("hi", v4), ("key", .none)] ∧ LstT xs s.heap v1 ∧ TupI x s.heap v2 ∧ IntR 0 s.heap v3 ∧ IsN s.heap v4 := by
    have df' := df.le l
    obtain ⟨m, hm, hk⟩ := df'.k
    cases four with
    | true =>
      simp only [if_true] at hv
      cases hv with | cons q1 hv => cases hv with | cons q2 hv => cases hv with | cons q3 hv => cases hv with | cons q4 hv => cases hv with | nil =>
      exact ⟨_, _, _, _, binds_kw (nm := "key") rfl df'.t hm hk rfl rfl rfl, q1, q2, q3, q4⟩
    | false =>
      simp only [Bool.false_eq_true, if_false] at hv
      obtain ⟨v1, v2, rfl, q1, q2⟩ := all2_two hv
      exact ⟨_, _, _, _, binds_kw (nm := "key") rfl df'.t hm hk rfl rfl rfl, q1, q2, ⟨t0, rfl⟩, rfl⟩
  refine call_d (σ := [("a", LstT xs), ("x", TupI x), ("lo", IntR 0), ("hi", IsN), ("key", IsN)]) (D.le l) l.t' room rfl hbind rfl (fun y hy => .inl (bis_kind rfl y hy)) (fun x hx => cells_have _ _ _ x hx) (fun x c hx => by cases hx) ?_ fun s₁ mv F hX hnew => ?_
  · exact Bnds.get (.cons (LstT.mono.mn _) r1 (.inl ⟨rfl, rfl⟩) (.cons (TupI.mono.mn _) r2 (.inl ⟨rfl, rfl⟩) (.cons (Mn.int _) r3 (.inl ⟨rfl, rfl⟩) (.cons IsN.mn r4 (.inl ⟨rfl, rfl⟩) (.cons IsN.mn rfl (.inl ⟨rfl, rfl⟩) .nil)))))
  · refine (bisect_run F mv.le.t' (gl.le (l.trans mv.le)) ((room.deeper _).le (by decide)) hlen (fun s' m => gl.le (l.trans (((mv.b _).trans m).mv hnew).le))).imp fun f s' m q => ?_
    obtain ⟨v, rfl, r⟩ := q
    exact r
end
end Mine

/-! part 18 -/
open PySem PySem.Spec PySem.Calls PyProof.Rows PySem.W
set_option maxRecDepth 100000
set_option Elab.async false
set_option linter.unusedVariables false
namespace Mine

abbrev insFd (name qual : Str) (T Kd : Addr) (doc pm : Value) (an : Option Addr) (cdv ct : Value) : FuncData := fnOf name qual (dArgs (sAt 9)) (dBody (sAt 9)) (dScope (sAt 9)) (.ref T) (.ref Kd) doc pm an cdv ct
/-- a list that is turned in place -/
def AtL (D : Addr) (xs : List (List Int)) (h : Heap) : Prop := ∃ ys, h.PlainList D ys ∧ All2 (fun v x => TupI x h v) ys.toList xs
theorem AtL.lq {D : Addr} {xs : List (List Int)} {h h' : Heap} (l : Lq h h') (a : AtL D xs h) : AtL D xs h' := by
  obtain ⟨ys, ⟨n, e⟩, hr⟩ := a
  exact ⟨ys, ⟨n, l _ _ _ _ e rfl⟩, hr.mono fun v x q => TupI.mono x _ _ v l q⟩
theorem AtL.lst {D : Addr} {xs : List (List Int)} {h : Heap} (a : AtL D xs h) : LstT xs h (.ref D) := by
  obtain ⟨ys, hp, hr⟩ := a
  exact ⟨D, ys, rfl, hp.isList, hr⟩
abbrev AtR (D : Addr) (xs : List (List Int)) : HP := fun h v => v = .ref D ∧ AtL D xs h
theorem AtR.mn {D : Addr} {xs : List (List Int)} : Mn (AtR D xs) := fun h h' v l r => ⟨r.1, r.2.lq l⟩
theorem AtR.imp {D : Addr} {xs : List (List Int)} (h : Heap) (v : Value) (r : AtR D xs h v) : LstT xs h v := by
  obtain ⟨rfl, r⟩ := r
  exact r.lst

section
variable {name qual : Str} {doc pm : Value} {an : Option Addr} {cdv ct : Value} {a b T Kd D : Addr} {prog : Program} {wd : World} {hb : Heap} {A : Around} {s : Shared} {xs : List (List Int)} {x : List Int}

theorem evS_map {env : Env} {h₀ : Heap} {pos : Pos} {es : List Expr} {Rs Rs' : List HP} (e : EvS prog wd A env h₀ pos es Rs) (i : ∀ h vs, All2 (fun v (R : HP) => R h v) vs Rs → All2 (fun v (R : HP) => R h v) vs Rs') : EvS prog wd A env h₀ pos es Rs' :=
  fun s k => wpAny_mono (e s k) (fun v s' q => ⟨q.1, i _ _ q.2⟩) fun _ _ q => q

theorem insort_ok {t0 : Tok} {fdb : FuncData} (Dd : DefAt hb a (insFd name qual T Kd doc pm an cdv ct)) (df : DfAt hb T Kd t0) (fb : FnAt hb b fdb) (bis : BisOk prog wd hb b true) (gb : Glo hb "bisect_left" (.ref b))
    {v : Value} (l : Le hb s.heap) (room : Room A 6) (hD : AtL D xs s.heap) (hx : TupI x s.heap v) (hlen : xs.length ≤ 900) :
    wpAny (model prog wd) A (call (.ref a) [.ref D, v]) (fun r s' => MvB [D] s s' ∧ (r = .none ∧ AtL D (insF xs x) s'.heap)) F0 s := by
  have df' := df.le l
  obtain ⟨m, hm, hk⟩ := df'.k
  refine call_dY [D] (RR := fun r s' => r = .none ∧ AtL D (insF xs x) s'.heap) (σ := [("a", AtR D xs), ("x", TupI x), ("lo", IntR 0), ("hi", IsN), ("key", IsN)]) (binds := [("a", .ref D), ("x", v), ("lo", .int 0 t0), ("hi", .none), ("key", .none)]) (Dd.le l) l.t' room rfl
    (binds_kw (nm := "key") rfl df'.t hm hk rfl rfl rfl) rfl (fun y hy => .inl ?_) (fun x hx => cells_have _ _ _ x hx) (fun x c hx => by cases hx) ?_ fun s₁ mv F hX hnew => ?_
  · simp only [List.mem_cons, List.not_mem_nil, or_false] at hy
    rcases hy with rfl | rfl | rfl | rfl | rfl <;> rfl
  · exact Bnds.get (.cons AtR.mn ⟨rfl, hD⟩ (.inl ⟨rfl, rfl⟩) (.cons (TupI.mono.mn _) hx (.inl ⟨rfl, rfl⟩) (.cons (Mn.int _) ⟨t0, rfl⟩ (.inl ⟨rfl, rfl⟩) (.cons IsN.mn rfl (.inl ⟨rfl, rfl⟩) (.cons IsN.mn rfl (.inl ⟨rfl, rfl⟩) .nil)))))
  · have F := F.more (Y := [D] ++ fX (callEnvC (insFd name qual T Kd doc pm an cdv ct) s.heap.objs.size a)) (fun p hp => List.mem_append_right _ hp) (fun y hy => by
      have hm := mem_of_lookup hy
      have : ∀ p ∈ (dScope (sAt 9)).names, p.2 ≠ .free := by decide
      exact this _ hm rfl)
    conv => arg 7; whnf
    refine ru_if mv.le.t' (evT_isNone (F.ev rfl) ev_none) fun s₂ m₂ => ?_
    rw [if_pos rfl]
    have F₂ := F.le m₂.le
    have l₂ := l.trans (mv.trans m₂).le
    refine ru_assign (R := IntR (bisF xs x xs.length 0 xs.length)) F₂ (ev_call_d (Rs := [LstT xs, TupI x, IntR 0, IsN]) (fb.le l₂) (ev_glob ⟨rfl, rfl, rfl, rfl⟩ (gb.le l₂)) (evS_cons ((F₂.ev rfl).imp AtR.imp) (LstT.mono.mn _) (evS_cons (F₂.ev rfl) (TupI.mono.mn _) (evS_cons (F₂.ev rfl) (Mn.int _) (evS_cons (F₂.ev rfl) IsN.mn evS_nil))))
      (fun s' vs l' q => bis _ s' vs xs x (by omega) (l₂.trans l') ((room.deeper _).le (by decide)) q) ⟨_, _, rfl⟩) m₂.le.t' (Mn.int _) (.inl rfl) fun s₃ m₃ F₃ => ?_
    refine ru_nil m₃.le.t' ?_
    obtain ⟨mloc, _, hvv⟩ := F₃.v
    obtain ⟨_, va, ⟨rfl, ys, hp, hr⟩, _⟩ := hvv "a" (AtR D xs) rfl
    have hbl := bisF_le (xs := xs) (x := x) (N := xs.length) (n := xs.length) (Nat.zero_le _) (Nat.le_refl _)
    have hyl : ys.size = xs.length := by rw [← Array.length_toList]; exact hr.length
    refine ru_method (Rs := [IntR (bisF xs x xs.length 0 xs.length), TupI x]) m₃.le.t' ((F₃.ev rfl).imp fun h v q => q.1) hp PySem.F.slot_list_insert PySem.F.type_list_insert (evS_cons (F₃.ev rfl) (Mn.int _) (evS_cons (F₃.ev rfl) (TupI.mono.mn _) evS_nil))
      (fun s₄ vs m₄ q hp4 => ?_) ⟨_, _, rfl⟩ rfl
    obtain ⟨w1, w2, rfl, ⟨k, rfl⟩, q2⟩ := all2_two q
    refine wpAny_mono (call_insert m₄.le.t' hp4 rfl (by omega) (by omega)) (fun r s₅ h₅ => ?_) fun _ _ q => q
    obtain ⟨rfl, m₅, hp5, sb⟩ := h₅
    refine ⟨rfl, m₅.mono fun p hp => by simp at hp; simp [hp], ru_nil m₅.le.t' ⟨rfl, _, hp5, ?_⟩⟩
    have lt := m₅.le.lt
    have hr5 : All2 (fun v x => TupI x s₅.heap v) ys.toList xs := hr.mono fun v x q => TupI.monoT x _ _ v lt (TupI.mono x _ _ v m₄.le.lq q)
    exact (hr5.take _).append (.cons (TupI.monoT x _ _ _ lt q2) (hr5.drop _))
end
end Mine

/-! part 19 -/
open PySem PySem.Spec PySem.Calls PyProof.Rows PySem.W
set_option maxRecDepth 100000
set_option Elab.async false
set_option linter.unusedVariables false
namespace Mine

section
variable {prog : Program} {w : World} {A : Around} {env : Env} {h₀ h h' : Heap} {s : Shared} {R R1 R2 : HP} {x y : Str} {X : List Addr} {σ : Sg} {v : Value} {rest : List Stmt} {Q : Flow → Shared → Prop} {l r : Expr} {pos : Pos}

/-! operations on numbers -/
theorem Ev.toI {a b : Int} {e : Expr} (x : Ev prog w A env h₀ e (IntR a)) (q : a = b) : Ev prog w A env h₀ e (IntR b) := q ▸ x
theorem ev_lsh {a b : Int} (el : Ev prog w A env h₀ l (IntR a)) (er : Ev prog w A env h₀ r (IntR b)) (hb : 0 ≤ b) (hb2 : b ≤ 1000) (ha : a.natAbs < 2 ^ 64) : Ev prog w A env h₀ (.BinOp l .LShift r pos) (IntR (a * 2 ^ b.toNat)) := ev_bin el er (Mn.int a) fun s _ _ k ⟨t, e⟩ ⟨u, f⟩ => by subst e; subst f; exact lshift_int_small hb (by omega) ha ⟨Mv.tok k.t' _, ⟨_, rfl⟩⟩
theorem ev_rsh {a b : Int} (el : Ev prog w A env h₀ l (IntR a)) (er : Ev prog w A env h₀ r (IntR b)) (hb : 0 ≤ b) : Ev prog w A env h₀ (.BinOp l .RShift r pos) (IntR (a.fdiv (2 ^ b.toNat))) := ev_bin el er (Mn.int a) fun s _ _ k ⟨t, e⟩ ⟨u, f⟩ => by subst e; subst f; exact rshift_int hb ⟨Mv.tok k.t' _, ⟨_, rfl⟩⟩
theorem ev_xor {a b : Int} (el : Ev prog w A env h₀ l (IntR a)) (er : Ev prog w A env h₀ r (IntR b)) : Ev prog w A env h₀ (.BinOp l .BitXor r pos) (IntR (Builtin.bitXor a b)) := ev_bin el er (Mn.int a) fun s _ _ k ⟨t, e⟩ ⟨u, f⟩ => by subst e; subst f; exact xor_int ⟨Mv.tok k.t' _, ⟨_, rfl⟩⟩
theorem evT_int {a : Int} (el : Ev prog w A env h₀ l (IntR a)) (he : ∀ whole, isTrue l env whole = (do let v ← whole; standAt l.pos; holding [v] (truthy v)) := by intro _; rfl) : EvT prog w A env h₀ l (a != 0) := fun s k => by
  refine isTrue_plain (wpAny_mono (el s k) (fun v s₁ h₁ => ?_) fun _ _ q => q) (he _)
  obtain ⟨m, t, rfl⟩ := h₁
  exact PySem.P.truthy_int ⟨m, rfl⟩
theorem evT_list {α : Type} {Ra : Rep α} {xs : List α} (el : Ev prog w A env h₀ l (LstOf Ra xs)) (hl : xs.length ≤ 1000) (he : ∀ whole, isTrue l env whole = (do let v ← whole; standAt l.pos; holding [v] (truthy v)) := by intro _; rfl) : EvT prog w A env h₀ l (!xs.isEmpty) := fun s k => by
  refine isTrue_plain (wpAny_mono (el s k) (fun v s₁ h₁ => ?_) fun _ _ q => q) (he _)
  obtain ⟨m, a, vs, rfl, hli, hr⟩ := h₁
  have hlen := hr.length
  rw [Array.length_toList] at hlen
  refine wpAny_truthy_list hli (by omega) ⟨m.trans (Mv.tok m.le.t' _), ?_⟩
  cases xs with
  | nil =>
    have : vs = #[] := by simpa using hlen
    rw [this]; rfl
  | cons x r =>
    have : vs.isEmpty = false := by
      rw [Array.isEmpty_eq_false_iff]
      intro q
      rw [q] at hlen
      simp at hlen
    rw [this]; rfl
theorem ev_bits {a : Int} {apos : Pos} (el : Ev prog w A env h₀ l (IntR a)) (hp : (backTo pos (starEach [] env)).any (·.1) = false := by rfl)
    (he : ∃ pl, eval (.Call (.Attribute l "bit_length" apos) [] [] pos) env = (do
      let ov ← eval l env
      standAt apos.atName
      let (f, first) ← holding [ov] (getMethod ov "bit_length" pl)
      callWith pos f first (backTo pos (starEach [] env)) []) := by exact ⟨_, rfl⟩) :
    Ev prog w A env h₀ (.Call (.Attribute l "bit_length" apos) [] [] pos) (IntR (Builtin.Int.intBits a)) := fun s k => by
  obtain ⟨pl, he⟩ := he
  rw [he]
  refine wpAny_bind (wpAny_mono (el s k) (fun v s₁ h₁ => ?_) fun _ _ q => q)
  obtain ⟨m, t, rfl⟩ := h₁
  refine wpAny_bind (wpAny_standAt (wpAny_bind (wpAny_holding (getMethod_int_bit_length ?_))))
  refine callWith_builtin hp ?_
  show wpAny _ _ (evalArgs _ _ [] []) _ _ _
  exact PyProof.Rows.evalArgs_none (call_int_bit_length ⟨m.trans (Mv.tok m.le.t' _), _, rfl⟩)
theorem do_divmod {a b : Int} {vs : List Value} (hb : b ≠ 0) (hb2 : b.natAbs < 1073741824) (t : TI s.heap) (q : All2 (fun v (R : HP) => R s.heap v) vs [IntR a, IntR b]) : Do prog w A s (call (.builtin "divmod") vs) (TupI [a.fdiv b, a.fmod b]) := by
  obtain ⟨x1, x2, rfl, ⟨t1, rfl⟩, ⟨t2, rfl⟩⟩ := all2_two q
  exact divmod_int hb ⟨Mv.of t (fun b o e => Heap.get?_push_of_some _ e) _, _, _, rfl, ⟨_, Heap.get?_push_size _ rfl, rfl, _, rfl⟩, .cons ⟨_, rfl⟩ (.cons ⟨_, rfl⟩ .nil)⟩
theorem ev_globi {i : Int} {t : Tok} (e : Glob1 env x) (g : Glo h₀ x (.int i t)) (hd : (x == ("__debug__" : Str)) = false := by decide) : Ev prog w A env h₀ (.Name x pos) (IntR i) :=
  (ev_glob e g hd).imp fun h v q => ⟨t, q⟩

theorem Ev.val {v : Value} {e : Expr} (x : Ev prog w A env h₀ e (fun _ u => u = v)) (m : Mn R) (r : R h₀ v) : Ev prog w A env h₀ e R := fun s k => wpAny_mono (x s k) (fun u s' q => ⟨q.1, by obtain ⟨q1, rfl⟩ := q; exact m.le (k.trans q1.le) r⟩) fun _ _ q => q
/-! lists turned in place -/
def AtG {α : Type} (Ra : Rep α) (D : Addr) (xs : List α) (h : Heap) : Prop := ∃ ys, h.PlainList D ys ∧ All2 (fun v x => Ra x h v) ys.toList xs
theorem AtG.lq {α : Type} {Ra : Rep α} (m : Mono Ra) {D : Addr} {xs : List α} (l : Lq h h') (a : AtG Ra D xs h) : AtG Ra D xs h' := by
  obtain ⟨ys, ⟨n, e⟩, hr⟩ := a
  exact ⟨ys, ⟨n, l _ _ _ _ e rfl⟩, hr.mono fun v x q => m x _ _ v l q⟩
theorem AtG.lst {α : Type} {Ra : Rep α} {D : Addr} {xs : List α} (a : AtG Ra D xs h) : LstOf Ra xs h (.ref D) := by
  obtain ⟨ys, hp, hr⟩ := a
  exact ⟨D, ys, rfl, hp.isList, hr⟩
theorem AtG.atL {D : Addr} {xs : List (List Int)} (a : AtG TupI D xs h) : AtL D xs h := a
theorem AtL.atG {D : Addr} {xs : List (List Int)} (a : AtL D xs h) : AtG TupI D xs h := a
theorem ev_nilP {α : Type} {Ra : Rep α} : Ev prog w A env h₀ (.List [] pos) (New h₀ (fun h v => ∃ D, v = .ref D ∧ AtG Ra D [] h)) := fun s k => by
  refine List_ (spliced_nil (wpAny_newList ⟨Mv.of k.t' (fun b o e => Heap.get?_push_of_some _ e) _, ⟨_, rfl, _, ⟨_, Heap.get?_push_size _ rfl⟩, .nil⟩, fun a e => ?_⟩ (Nat.zero_le _)))
  cases e
  exact k.none (Nat.le_refl _)

/-- a name bound to a new list, that is turned later -/
theorem ru_assign_new {α : Type} {Ra : Rep α} {xs : List α} {px pos : Pos} {val : Expr} (ma : Mono Ra) (F : Fs env X s.heap σ) (hfree : ∀ x, env.kindOf x ≠ some .free) (e : Ev prog w A env s.heap val (New s.heap (fun h v => ∃ D, v = .ref D ∧ AtG Ra D xs h))) (t : TI s.heap) (hx : env.kindOf x = some .local ∨ env.kindOf x = some .cell)
    (k : ∀ s' D, MvB X s s' → s.heap.get? D = none → AtG Ra D xs s'.heap → Fs env (D :: X) s'.heap ((x, fun h u => u = .ref D ∧ AtG Ra D xs h) :: σ) → Ru prog w A env (D :: X) s' rest Q)
    (hs : swapsWith val (some (.Name x px)) pos.line env = pure false := by rfl) : Ru prog w A env X s (.Assign [.Name x px] val pos :: rest) Q := by
  refine wpAny_execs_cons (wpAny_Assign_Name (wpAny_mono (e s (Le.refl t)) (fun v s₁ h₁ => ?_) fun _ _ q => q) hs)
  obtain ⟨m1, ⟨D, rfl, hD⟩, hn⟩ := h₁
  refine wpAny_mono ((F.le m1.le).put (R := fun h u => u = .ref D ∧ AtG Ra D xs h) m1.le.t' hx ⟨rfl, hD⟩ (fun h h' v l r => ⟨r.1, r.2.lq ma l⟩)) (fun _ s₂ h₂ => ?_) fun _ _ q => q
  have mm := (m1.b X).trans h₂.1
  have hn' := hn D rfl
  obtain ⟨mloc, _, hvv⟩ := h₂.2.v
  obtain ⟨_, u, ⟨_, hAt⟩, _⟩ := hvv x (fun h u => u = .ref D ∧ AtG Ra D xs h) (by rw [List.lookup_cons]; simp)
  have F2 := h₂.2.more (Y := D :: X) (fun p hp => List.mem_cons_of_mem _ hp) hfree
  refine wpAny_mono (k s₂ D mm hn' hAt F2) (fun f s₃ h₃ => ⟨((mm.mono fun p hp => List.mem_cons_of_mem _ hp).trans h₃.1).drop fun p hp => ?_, h₃.2⟩) fun _ _ q => q
  rcases List.mem_cons.mp hp with rfl | hp
  · exact .inr hn'
  · exact .inl hp

/-- x, y = a pair -/
theorem ru_unpack2 {Ra Rb : HP} {px py tp pos : Pos} {k : Nat} {val : Expr} (hA : A.handled = none) (F : Fs env X s.heap σ) (e : Ev prog w A env s.heap val R) (t : TI s.heap)
    (hR : ∀ h v, R h v → ∃ a u1 u2, v = .ref a ∧ h.IsTuple a #[u1, u2] ∧ Ra h u1 ∧ Rb h u2) (ma : Mn Ra) (mb : Mn Rb)
    (hx : env.kindOf x = some .local ∨ env.kindOf x = some .cell) (hy : env.kindOf y = some .local ∨ env.kindOf y = some .cell)
    (kk : ∀ s', MvB X s s' → Fs env X s'.heap ((y, Rb) :: (x, Ra) :: σ) → Ru prog w A env X s' rest Q)
    (hs : swapsWithSole [.Tuple [.Name x px, .Name y py] k tp] val pos.line env = pure false := by rfl)
    (hw : swappedStores [.Tuple [.Name x px, .Name y py] k tp] val env = pure none := by rfl) :
    Ru prog w A env X s (.Assign [.Tuple [.Name x px, .Name y py] k tp] val pos :: rest) Q := by
  refine wpAny_execs_cons (Assign_Tuple (wpAny_mono (e s (Le.refl t)) (fun v s₁ h₁ => ?_) fun _ _ q => q) hs hw)
  obtain ⟨m1, r⟩ := h₁
  obtain ⟨a, u1, u2, rfl, ht, q1, q2⟩ := hR _ _ r
  refine assign_Tuple_tuple hA (isTup_of ht) rfl rfl fun h' he => ?_
  have k2 : ∀ b o, s₁.heap.get? b = some o → h'.get? b = some o := fun b o e => he b o (Nat.ne_of_lt (Heap.lt_size e)) e
  have m2 : Mv s₁ { s₁ with heap := h' } := Mv.of m1.le.t' k2 s₁.toks
  have m12 := m1.trans m2
  refine assignInOrder_cons ?_
  show wpAny _ A (assign (.Name x px) env u1) _ _ _
  refine wpAny_assign_Name (wpAny_mono ((F.le m12.le).putL m12.le.t' hx (ma.le m2.le q1) ma) (fun _ s₃ h₃ => ?_) fun _ _ q => q)
  refine assignInOrder_cons ?_
  show wpAny _ A (assign (.Name y py) env u2) _ _ _
  have mm := (m12.b X).trans h₃.1
  have lq3 : Rb s₃.heap u2 := mb _ _ _ h₃.2.2 (mb.le m2.le q2)
  refine wpAny_assign_Name (wpAny_mono (h₃.2.1.put mm.le.t' hy lq3 mb) (fun _ s₄ h₄ => assignInOrder_nil ?_) fun _ _ q => q)
  have mm4 := mm.trans h₄.1
  exact (kk s₄ mm4 h₄.2).mv mm4

theorem all2_set {α β : Type} {F : α → β → Prop} {a : α} {b : β} : ∀ {as : List α} {bs : List β}, All2 F as bs → F a b → ∀ n, All2 F (as.set n a) (bs.set n b)
  | _, _, .nil, _, n => by simp; exact .nil
  | _, _, .cons x r, q, 0 => .cons q r
  | _, _, .cons x r, q, n + 1 => .cons x (all2_set r q n)
/-- a list's place filled anew -/
theorem ru_setitem {α : Type} {Ra : Rep α} {o i val : Expr} {p' pos : Pos} {D : Addr} {xs : List α} {n : Nat} {z : α} (ma : Mono Ra) (t : TI s.heap) (ev : Ev prog w A env s.heap val (Ra z)) (eo : Ev prog w A env s.heap o (fun _ v => v = .ref D)) (ei : Ev prog w A env s.heap i (IntR (n : Int)))
    (hD : LstOf Ra xs s.heap (.ref D)) (hR : MonoT Ra) (hn : n < xs.length) (hl : xs.length ≤ 1000)
    (k : ∀ s', MvB [D] s s' → LstOf Ra (xs.set n z) s'.heap (.ref D) → (∃ s₁, Mv s s₁ ∧ Heap.SameBut D s₁.heap s'.heap) → wpAny (model prog w) A (execs rest env) (fun f s'' => MvB X s s'' ∧ Q f s'') F0 s')
    (hs : swapsWith val (some (.Subscript o i p')) pos.line env = pure false := by rfl) :
    Ru prog w A env X s (.Assign [.Subscript o i p'] val pos :: rest) Q := by
  refine wpAny_execs_cons (wpAny_Assign_Subscript (wpAny_mono (ev s (Le.refl t)) (fun v s₁ h₁ => wpAny_mono (eo s₁ h₁.1.le) (fun u s₂ h₂ => wpAny_mono (ei s₂ (h₁.1.trans h₂.1).le) (fun j s₃ h₃ => ?_) fun _ _ q => q) fun _ _ q => q) fun _ _ q => q) hs)
  obtain ⟨m2, rfl⟩ := h₂
  obtain ⟨m3, tk, rfl⟩ := h₃
  have m := (h₁.1.trans m2).trans m3
  obtain ⟨a, vs, e, hl3, hr⟩ := (LstOf.mono ma).mn xs |>.le m.le hD
  cases e
  have hz := ma.mn z |>.le (m2.trans m3).le h₁.2
  have hlen := hr.length
  rw [Array.length_toList] at hlen
  refine wpAny_setItem_list hl3 (by omega) (by omega) (by omega) fun h' hl' sb => ?_
  obtain ⟨oD, eD, cD, nD, dD⟩ := hl3
  have lt : Lt s₃.heap h' := fun a o xs k e hc d => (sb.2 a fun z => by subst z; rw [eD] at e; cases e; exact absurd (cD.symm.trans hc) (by simp)).trans e
  have mb : MvB [D] s { s₃ with heap := h' } := by
    obtain ⟨h3, t3, rfl, l3⟩ := m
    refine ⟨h', t3, rfl, l3.t, l3.t'.step fun a o e y => (sb.2 a fun z => ?_).trans e, fun a o xs k e hc d => lt a o xs k (l3.lq.lt a o xs k e hc d) hc d, fun a o h1 h2 hne e => (sb.2 a fun z => hne (by simp [z])).trans (l3.k a o h1 h2 e)⟩
    subst z
    have e2 : h3.get? a = some oD := eD
    rw [e] at e2; cases e2
    obtain ⟨ws, d, _⟩ := y
    rw [dD] at d; cases d
  refine k _ mb ⟨D, _, rfl, hl', ?_⟩ ⟨s₃, m, sb⟩
  rw [Array.toList_setIfInBounds]
  have hr' : All2 (fun v x => Ra x h' v) vs.toList xs := hr.mono fun v x q => hR x _ _ v lt q
  have hz' := hR z _ _ v lt hz
  rw [Int.toNat_natCast]
  exact all2_set hr' hz' n

/-- a call of a def, alone on its row, that gives None -/
theorem ru_call {Y : List Addr} {a : Addr} {fd : FuncData} {f : Expr} {args : List Expr} {Rs : List HP} {cpos spos : Pos} (t : TI s.heap) (fa : FnAt s.heap a fd) (ef : Ev prog w A env s.heap f (fun _ v => v = .ref a)) (ea : EvS prog w A env s.heap cpos args Rs)
    (hc : ∀ s' vs, Mv s s' → All2 (fun v (R : HP) => R s'.heap v) vs Rs → wpAny (model prog w) A (call (.ref a) vs) (fun v s'' => v = .none ∧ MvB X s' s'' ∧ Ru prog w A env X s'' rest Q) F0 s')
    (hne : ∃ t r, backTo cpos (starEach args env) = (false, t) :: r)
    (hi : interactive env = false := by rfl) (hs : swapsWith (.Call f args [] cpos) none spos.line env = pure false := by rfl)
    (hf : eval (.Call f args [] cpos) env = (do callWith cpos (← eval f env) [] (backTo cpos (starEach args env)) []) := by rfl) :
    Ru prog w A env X s (.Expr (.Call f args [] cpos) spos :: rest) Q := by
  refine wpAny_execs_cons (wpAny_Expr ?_ hi hs)
  rw [hf]
  refine wpAny_bind (wpAny_mono (ef s (Le.refl t)) (fun v s₁ h₁ => ?_) fun _ _ q => q)
  obtain ⟨h1, e⟩ := h₁
  subst e
  have hx := ea s₁ h1.le
  obtain ⟨t0, r0, et⟩ := hne
  obtain ⟨o, e1, e2, e3⟩ := fa.le h1.le
  refine callWith_function (o := o) (fd := fd) ?_
  rw [et] at hx ⊢
  refine evalArgs_plain (wpAny_mono hx (fun vs s₂ h₂ => ?_) fun _ _ q => q)
  have nn := h1.le.t'.neC e1 e2
  refine ⟨⟨h₂.1.le.k _ _ nn.1 nn.2 e1, e3⟩, ?_⟩
  refine wpAny_mono (hc s₂ vs (h1.trans h₂.1) h₂.2) (fun u s₃ h₃ => ?_) fun _ _ q => q
  obtain ⟨rfl, m3, k⟩ := h₃
  have mm := ((h1.trans h₂.1).b X).trans m3
  exact k.mv mm

/-- a method of a list without arguments -/
theorem ru_method0 {name : Str} {id : String} {o : Expr} {apos cpos spos : Pos} {D : Addr} {ys : Array Value} (t : TI s.heap) (eo : Ev prog w A env s.heap o (fun _ v => v = .ref D)) (hD : s.heap.PlainList D ys)
    (slot : Slot "list" name id) (hty : typeOf (.builtin id) = pure (.type "method_descriptor"))
    (hc : ∀ s', Mv s s' → s'.heap.PlainList D ys → wpAny (model prog w) A (call (.builtin id) [.ref D]) (fun v s'' => v = .none ∧ MvB X s' s'' ∧ Ru prog w A env X s'' rest Q) F0 s')
    (hi : interactive env = false := by rfl) (hs : swapsWith (.Call (.Attribute o name apos) [] [] cpos) none spos.line env = pure false := by rfl) (hp : (backTo cpos (starEach [] env)).any (·.1) = false := by rfl)
    (he : ∃ pl, eval (.Call (.Attribute o name apos) [] [] cpos) env = (do
      let ov ← eval o env
      standAt apos.atName
      let (f, first) ← holding [ov] (getMethod ov name pl)
      callWith cpos f first (backTo cpos (starEach [] env)) []) := by exact ⟨_, rfl⟩) :
    Ru prog w A env X s (.Expr (.Call (.Attribute o name apos) [] [] cpos) spos :: rest) Q := by
  refine wpAny_execs_cons (wpAny_Expr ?_ hi hs)
  obtain ⟨pl, he⟩ := he
  rw [he]
  refine wpAny_bind (wpAny_mono (eo s (Le.refl t)) (fun v s₁ h₁ => ?_) fun _ _ q => q)
  obtain ⟨m1, rfl⟩ := h₁
  obtain ⟨n, ho⟩ := hD
  have keepD : ∀ s', Mv s s' → s'.heap.get? D = some { cls := .type "list", data := .seq ys n } := fun s' m => m.le.lq _ _ _ _ ho rfl
  refine wpAny_bind (wpAny_standAt (wpAny_bind (wpAny_holding (getMethod_builtin ⟨_, keepD s₁ m1, rfl⟩ PySem.F.plainAttrs_list slot hty (fun a e => by cases e; exact ⟨_, keepD s₁ m1, rfl⟩) ?_))))
  refine callWith_builtin hp ?_
  show wpAny _ _ (evalArgs _ _ [] []) _ _ _
  refine PyProof.Rows.evalArgs_none (wpAny_mono (hc s₁ m1 ⟨n, keepD s₁ m1⟩) (fun u s₃ h₃ => ?_) fun _ _ q => q)
  obtain ⟨rfl, m3, k⟩ := h₃
  have mm := (m1.b X).trans m3
  exact k.mv mm
end
end Mine

/-! part 20 -/
open PySem PySem.Spec PySem.Calls PyProof.Rows PySem.W
set_option maxRecDepth 100000
set_option Elab.async false
set_option linter.unusedVariables false
namespace Mine

section
variable {prog : Program} {w : World} {A : Around} {env : Env} {h₀ h h' : Heap} {s : Shared} {R R1 R2 : HP} {x y : Str} {X : List Addr} {σ : Sg} {v : Value} {rest : List Stmt} {Q : Flow → Shared → Prop} {l r : Expr} {pos : Pos}

theorem codeHd_le {c P : Addr} (x : CodeHd h c P) (l : Le h h') : CodeHd h' c P := by
  obtain ⟨o, vs, file, tf, flags, tg, inF, text, tt, e, hc, r⟩ := x
  have n := l.t.neC e (by rw [hc]; simp)
  exact ⟨o, vs, file, tf, flags, tg, inF, text, tt, l.k c o n.1 n.2 e, hc, r⟩
theorem codeRec_leB {cd : Value} {q : Str} (k : XK X h) (x : h.CodeRec cd q) (l : LeB X h h') : h'.CodeRec cd q := by
  obtain ⟨c, o, vs, t, e1, e2, e3, e4⟩ := x
  have key : c ≠ 30 ∧ c ≠ 37 := by
    obtain ⟨⟨p1, a1, b1⟩, ⟨p2, a2, b2⟩⟩ := l.t
    constructor
    · rintro rfl
      rw [a1] at e2; cases e2
      have e3' : p1 = vs := by injection e3
      subst e3'
      rcases b1 with rfl | ⟨cd, rfl, _⟩
      · simp at e4
      · simp [rawInt] at e4
    · rintro rfl
      rw [a2] at e2; cases e2
      have e3' : p2 = vs := by injection e3
      subst e3'
      rcases b2 with rfl | ⟨cd, rfl, _⟩
      · simp at e4
      · simp [rawInt] at e4
  refine ⟨c, o, vs, t, e1, l.k c o key.1 key.2 (fun q => ?_) e2, e3, e4⟩
  obtain ⟨o', e', hf⟩ := k c q
  rw [e2] at e'; cases e'
  exact hf vs e3
/-- what the making of a def inside needs -/
structure Nest (h : Heap) (c P : Addr) : Prop where
  code : CodeHd h c P
  g : ∃ mg, h.Ns mainGlobals mg ∧ h.BuiltinsAt mg P
theorem Nest.le {c P : Addr} (n : Nest h c P) (l : Le h h') : Nest h' c P := by
  obtain ⟨cd, mg, hm, bm, o, h1, h2, h3, h4, h5, h6, r⟩ := n
  have nn := l.t.neC h5 (by rw [h6]; simp)
  exact ⟨codeHd_le cd l, mg, l.ns hm, bm, o, h1, h2, h3, h4, l.k _ _ nn.1 nn.2 h5, h6, r⟩

theorem mk_inner {name qual : Str} {params : Arguments} {body : List Stmt} {scope : Scope} {clos : List (Str × Addr)} {c P : Addr} {pos : Pos} {firstLine li co : Nat} (t : TI s.heap) (hcl : closureFor scope env = pure clos) (hge : env.globals = mainGlobals) (hcode : env.code = .ref c) (N : Nest s.heap c P)
    (hP : P = 30 ∨ P = 37) (hT : TabOk s.heap P qual li co) (hl : pos.line = li) (hc : pos.col = co)
    (hTI : ∀ h', (∀ a o, a ≠ P → s.heap.get? a = some o → h'.get? a = some o) → TabOk h' P qual li co → TI h') :
    wpAny (model prog w) A (makeFunction name qual params (.stmts body) scope env [] [] [] pos firstLine)
      (fun v s' => Mv s s' ∧ ∃ F doc pm cdv ctv, v = .ref F ∧ s'.heap.get? F = some { cls := .type "function", data := .func (fnX name qual params body scope clos .none .none doc pm none cdv ctv) } ∧ s'.heap.CodeRec cdv qual ∧ s.heap.get? F = none) F0 s := by
  obtain ⟨ps, hps, hcase⟩ := hT
  obtain ⟨mg, hmg, hb⟩ := N.g
  have hgP : mainGlobals ≠ P := fun q => by
    obtain ⟨o, es, ep, e, hd, _⟩ := hmg
    rw [q, hps] at e; cases e; cases hd
  rcases hcase with rfl | ⟨cd, rfl, n30, n37, hrec⟩
  · refine makeFunction_K hcl hge hmg hcode N.code hps trivial rfl hgP hb fun c' ctv doc h' tk hx hge' hlt hrec' htb => ?_
    have n30 : c' ≠ 30 := fun q => by
      obtain ⟨ps', e, _⟩ := t.1
      have h1 : @LT.lt Nat _ 30 s.heap.objs.size := Heap.lt_size e
      have h2 : @LE.le Nat _ s.heap.objs.size 30 := q ▸ hge'
      omega
    have n37 : c' ≠ 37 := fun q => by
      obtain ⟨ps', e, _⟩ := t.2
      have h1 : @LT.lt Nat _ 37 s.heap.objs.size := Heap.lt_size e
      have h2 : @LE.le Nat _ s.heap.objs.size 37 := q ▸ hge'
      omega
    have kp : ∀ a o, a ≠ P → s.heap.get? a = some o → (h'.push (fnMade name qual params body scope clos doc ((mg "__name__").getD .none) c' ctv)).get? a = some o := fun a o ha e => Heap.get?_push_of_some _ (hx a o ha e)
    have tabn : TabOk (h'.push (fnMade name qual params body scope clos doc ((mg "__name__").getD .none) c' ctv)) P qual li co := by
      refine ⟨_, Heap.get?_push_of_some _ htb, .inr ⟨c', ?_, n30, n37, hrec'.push _⟩⟩
      rw [hl, hc]
      rfl
    refine ⟨⟨_, tk, rfl, t, hTI _ kp tabn, fun a o h1 h2 e => kp a o (fun q => by rcases hP with hP | hP; exact h1 (q.trans hP); exact h2 (q.trans hP)) e⟩, h'.objs.size, doc, _, _, ctv, rfl, Heap.get?_push_size _ rfl, hrec'.push _, Heap.get?_none_of_le (Nat.le_of_lt (Nat.lt_of_le_of_lt hge' hlt))⟩
  · refine makeFunction_hit hcl hge hmg hcode N.code hps (by simp [TriplesOk, rawInt]) (cv := .ref cd) (by simp [codeAmong, rawInt, hl, hc]) hb fun ctv doc h' tk hk hsz => ?_
    refine ⟨Mv.of t (fun b o e => Heap.get?_push_of_some _ (hk b o e)) tk, h'.objs.size, doc, _, _, ctv, rfl, Heap.get?_push_size _ rfl, (hrec.keeps hk).push _, Heap.get?_none_of_le hsz⟩

theorem ru_def {name qual : Str} {params : Arguments} {body : List Stmt} {scope : Scope} {clos : List (Str × Addr)} {c P : Addr} {pos : Pos} {li co : Nat} (F : Fs env X s.heap σ) (t : TI s.heap) (hcl : closureFor scope env = pure clos) (hge : env.globals = mainGlobals) (hcode : env.code = .ref c) (N : Nest s.heap c P)
    (hP : P = 30 ∨ P = 37) (hT : TabOk s.heap P qual li co) (hl : pos.line = li) (hc : pos.col = co)
    (hTI : ∀ h', (∀ a o, a ≠ P → s.heap.get? a = some o → h'.get? a = some o) → TabOk h' P qual li co → TI h')
    (hq : qualnameIn env name name = qual) (hx : env.kindOf name = some .local ∨ env.kindOf name = some .cell)
    (hd0 : params.defaults = []) (hk0 : params.kw_defaults = []) (ha : annTrees params none env = [])
    (hX : XK X s.heap)
    (k : ∀ s' F doc pm cdv ctv, MvB X s s' → Fs env X s'.heap ((name, fun _ u => u = .ref F) :: σ) → FnAt s'.heap F (fnX name qual params body scope clos .none .none doc pm none cdv ctv) → s'.heap.CodeRec cdv qual → Ru prog w A env X s' rest Q) :
    Ru prog w A env X s (.FunctionDef name params body [] none [] scope none name pos :: rest) Q := by
  refine wpAny_execs_cons (nestDef_K hd0 hk0 ha ?_)
  rw [hq]
  refine wpAny_mono (mk_inner t hcl hge hcode N hP hT hl hc hTI) (fun v s₁ h₁ => ?_) fun _ _ q => q
  obtain ⟨m1, Fn, doc, pm, cdv, ctv, rfl, ho, hrec, hnone⟩ := h₁
  refine wpAny_mono ((F.le m1.le).put (R := fun _ u => u = .ref Fn) m1.le.t' hx rfl (fun _ _ _ _ q => q)) (fun _ s₂ h₂ => ?_) fun _ _ q => q
  have mm := (m1.b X).trans h₂.1
  have nn := m1.le.t'.neC ho (by simp)
  have hFX : Fn ∉ X := fun q => by obtain ⟨o, e, _⟩ := hX Fn q; rw [hnone] at e; cases e
  exact (k s₂ Fn doc pm cdv ctv mm h₂.2 ⟨_, h₂.1.le.k _ _ nn.1 nn.2 hFX ho, by simp, rfl⟩ (codeRec_leB (hX.le m1.le) hrec h₂.1.le)).mv mm

abbrev clEnv (fd : FuncData) (L a : Addr) : Env := callEnv fd L a
theorem call_cY (Y : List Addr) {a : Addr} {fd : FuncData} {body : List Stmt} {vals : List Value} {binds : List (Str × Value)} {n : Nat} {RR : Value → Shared → Prop} (fa : FnAt s.heap a fd) (code : s.heap.CodeRec fd.code fd.qualname) (lim : s.heap.NoLimit) (t : TI s.heap) (room : Room A n)
    (hbody : fd.body = .stmts body) (hbind : BindsTo s fd ⟨vals, []⟩ binds)
    (hnc : ∀ x ∈ fd.scope.names, x.2 ≠ .cell) (hloc : ∀ x ∈ binds, fd.scope.names.lookup x.1 = some .local)
    (hσ : ∀ x R, σ.lookup x = some R → Mn R ∧ ∃ v, R s.heap v ∧ ((fd.scope.names.lookup x = some .local ∧ binds.reverse.lookup x = some v) ∨
      ((fd.scope.names.lookup x = some .free ∧ (x == ("__classdict__" : Str)) = false) ∧ ∃ c, fd.closure.lookup x = some c ∧ c ∉ Y ∧ s.heap.IsCell c (some v))))
    (k : ∀ s₁, Mv s s₁ → Fs (clEnv fd s.heap.objs.size a) (Y ++ [s.heap.objs.size]) s₁.heap σ → s.heap.get? s.heap.objs.size = none →
      Ru prog w (A.deeper (clEnv fd s.heap.objs.size a)) (clEnv fd s.heap.objs.size a) (Y ++ [s.heap.objs.size]) s₁ body (fun f s' => RR (match f with | .ret v => v | _ => .none) s'))
    (hco : fd.scope.isCoroutine = false := by rfl) (hgen : fd.scope.isGenerator = false := by rfl) (hk : fd.scope.kind = .function := by rfl) :
    wpAny (model prog w) A (call (.ref a) vals) (fun v s' => MvB Y s s' ∧ RR v s') F0 s := by
  obtain ⟨o, ho, hcls, hd⟩ := fa
  refine wpAny_call (codeAny_call_function (by have := room.d; omega) ho hd hco hgen hbody code (hbind _ _ _ _ ?_))
  refine wpAny_newFunctionEnv hnc hloc (fun h₁ hns sb => ?_) hk
  have keep : ∀ b o, s.heap.get? b = some o → h₁.get? b = some o := fun b o e => (sb.2 b (Nat.ne_of_lt (Heap.lt_size e))).trans (Heap.get?_push_of_some _ e)
  have mv : Mv s { s with heap := h₁, toks := s.toks + binds.length } := Mv.of t keep _
  refine ⟨lim.keeps keep, codeAny_func ?_⟩
  have hnone : s.heap.get? s.heap.objs.size = none := get?_none_size _
  have fs : Fs (clEnv fd s.heap.objs.size a) (Y ++ [s.heap.objs.size]) h₁ σ := by
    refine ⟨hk, List.mem_append_right _ List.mem_cons_self, fun x hx => ?_, fun x y c hx _ _ _ => ?_, _, hns, fun x R hx => ?_⟩
    · exact absurd rfl (hnc _ (mem_of_lookup (c := NameKind.cell) hx))
    · exact absurd rfl (hnc _ (mem_of_lookup (c := NameKind.cell) hx))
    · obtain ⟨mn, v, r, q⟩ := hσ x R hx
      refine ⟨mn, v, mn.le mv.le r, ?_⟩
      rcases q with q | ⟨q1, c, q2, q3, q4⟩
      · exact .inl q
      · refine .inr (.inr ⟨q1, c, q2, fun hm => ?_, mv.le.cell q4⟩)
        rcases List.mem_append.mp hm with hm | hm
        · exact q3 hm
        · simp only [List.mem_cons, List.not_mem_nil, or_false] at hm
          obtain ⟨o', e', _⟩ := q4
          rw [hm, hnone] at e'; cases e'
  refine weakE (wpAny_mono (k _ mv fs hnone) (fun f s₂ h₂ => ?_) fun _ _ q => q)
  exact ⟨((mv.b _).trans h₂.1).drop fun p hp => (List.mem_append.mp hp).imp_right fun q => (by simp at q; rw [q]; exact hnone), h₂.2⟩

theorem TabOk.but {P P' : Addr} {q : Str} {li co : Nat} (x : TabOk h P q li co) (hne : P ≠ P') (hP : P' = 30 ∨ P' = 37) (k : ∀ a o, a ≠ P' → h.get? a = some o → h'.get? a = some o) : TabOk h' P q li co := by
  obtain ⟨ps, hp, r⟩ := x
  refine ⟨ps, k _ _ hne hp, ?_⟩
  rcases r with r | ⟨cd, e, n1, n2, ⟨c', o, vs, t, e1, e2, e3, e4⟩⟩
  · exact .inl r
  · refine .inr ⟨cd, e, n1, n2, ⟨c', o, vs, t, e1, k _ _ (fun z => ?_) e2, e3, e4⟩⟩
    cases e1
    rcases hP with hP | hP
    · exact n1 (z.trans hP)
    · exact n2 (z.trans hP)
theorem Fs.cellv (f : Fs env X h σ) (e : σ.lookup x = some R) (hk : env.kindOf x = some .cell) {c : Addr} (hc : env.cells.lookup x = some c) : ∃ v, R h v ∧ h.IsCell c (some v) := by
  obtain ⟨m, hn, hv⟩ := f.v
  obtain ⟨_, v, r, q⟩ := hv x R e
  rcases q with ⟨q, _⟩ | ⟨_, c', q1, q2⟩ | ⟨⟨q, _⟩, _⟩
  · rw [hk] at q; cases q
  · rw [hc] at q1; cases q1; exact ⟨v, r, q2⟩
  · rw [hk] at q; cases q

theorem Fs.leD (f : Fs env X h σ) {D : Addr} {ys : Array Value} (hD : h.IsList D ys) (hDX : D ∈ X) (l : LeB [D] h h') (hc : ∀ x R, σ.lookup x = some R → Cst R) : Fs env X h' σ := by
  obtain ⟨k, L, c, i, m, ⟨o, es, ep, e, hd, hr⟩, hv⟩ := f
  obtain ⟨o', e', _, n, hd'⟩ := hD
  have keep : ∀ a ob, h.get? a = some ob → (∀ vs, ob.data ≠ .fields vs) → (∀ xs n, ob.data ≠ .seq xs n) → h'.get? a = some ob := fun a ob q q1 q2 => by
    have nn := l.t.ne q q1
    exact l.k a ob nn.1 nn.2 (fun z => by simp at z; rw [z, e'] at q; cases q; exact q2 _ _ hd') q
  have cl : ∀ c v, h.IsCell c v → h'.IsCell c v := fun c v ⟨ob, q, d⟩ => ⟨ob, keep c ob q (fun vs z => by rw [d] at z; cases z) (fun xs n z => by rw [d] at z; cases z), d⟩
  refine ⟨k, L, fun x q => ?_, i, m, ⟨o, es, ep, keep _ _ e (fun vs z => by rw [hd] at z; cases z) (fun xs n z => by rw [hd] at z; cases z), hd, hr⟩, fun x R q => ?_⟩
  · obtain ⟨c, h1, h2, h3, v, h4⟩ := c x q
    exact ⟨c, h1, h2, h3, v, cl _ _ h4⟩
  · obtain ⟨mn, v, r, y⟩ := hv x R q
    refine ⟨mn, v, hc x R q _ _ _ r, ?_⟩
    rcases y with y | ⟨y1, c, y2, y3⟩ | ⟨y1, c, y2, y3, y4⟩
    · exact .inl y
    · exact .inr (.inl ⟨y1, c, y2, cl _ _ y3⟩)
    · exact .inr (.inr ⟨y1, c, y2, y3, cl _ _ y4⟩)
theorem Cst.int (i : Int) : Cst (IntR i) := fun _ _ _ r => r
theorem Cst.is (v : Value) : Cst (fun _ u => u = v) := fun _ _ _ r => r
inductive AllC : Sg → Prop
  | nil : AllC []
  | cons {x : Str} {R : HP} {σ : Sg} : Cst R → AllC σ → AllC ((x, R) :: σ)
theorem AllC.get : ∀ {σ : Sg}, AllC σ → ∀ x R, σ.lookup x = some R → Cst R
  | _, .nil, x, R, e => by simp at e
  | _, .cons (x := y) a b, x, R, e => by
    rw [List.lookup_cons] at e
    cases hb : x == y with
    | true => rw [hb] at e; cases e; exact a
    | false => rw [hb] at e; exact AllC.get b x R e
end
end Mine

/-! part 21 -/
open PySem PySem.Spec PySem.Calls PyProof.Rows PySem.W
set_option maxRecDepth 100000
set_option Elab.async false
set_option linter.unusedVariables false
namespace Mine

def inS2 : Stmt := (dBody (sAt 5)).getD 0 (.Pass default)
def inS1 : Stmt := (dBody (sAt 4)).getD 1 (.Pass default)
abbrev in2Fd (clos : List (Str × Addr)) (doc pm cdv ctv : Value) : FuncData := fnX "inner" "_digits2int.<locals>.inner" (dArgs inS2) (dBody inS2) (dScope inS2) clos .none .none doc pm none cdv ctv
abbrev d2iFd (name qual : Str) (doc pm : Value) (an : Option Addr) (cdv ct : Value) : FuncData := fnOf name qual (dArgs (sAt 5)) (dBody (sAt 5)) (dScope (sAt 5)) .none .none doc pm an cdv ct

structure In2 (h : Heap) (F c1 c2 c3 : Addr) (ds : List Int) (doc pm cdv ctv : Value) : Prop where
  fn : FnAt h F (in2Fd [("n", c3), ("inner", c2), ("digits", c1)] doc pm cdv ctv)
  cd : h.CodeRec cdv "_digits2int.<locals>.inner"
  lim : h.NoLimit
  d : ∃ v, h.IsCell c1 (some v) ∧ LstI ds h v
  i : h.IsCell c2 (some (.ref F))
  n : ∃ t, h.IsCell c3 (some (.int 3 t))
theorem In2.le {h h' : Heap} {F c1 c2 c3 : Addr} {ds : List Int} {doc pm cdv ctv : Value} (x : In2 h F c1 c2 c3 ds doc pm cdv ctv) (l : Le h h') : In2 h' F c1 c2 c3 ds doc pm cdv ctv := by
  obtain ⟨a, b, c, ⟨v, d1, d2⟩, e, ⟨t, f⟩⟩ := x
  exact ⟨a.le l, codeRec_le b l, noLimit_le c l, ⟨v, l.cell d1, LstI.mono _ _ _ _ l.lq d2⟩, l.cell e, ⟨t, l.cell f⟩⟩

section
variable {prog : Program} {w : World} {A : Around} {s : Shared} {F c1 c2 c3 : Addr} {ds : List Int} {doc pm cdv ctv : Value}

theorem in2_call {i j : Int} {R : HP} {vs : List Value} {n : Nat} (x : In2 s.heap F c1 c2 c3 ds doc pm cdv ctv) (t : TI s.heap) (room : Room A (n + 1)) (q : All2 (fun v (R : HP) => R s.heap v) vs [IntR i, IntR j])
    (k : ∀ A' env X s₁, (∀ p ∈ X, s.heap.get? p = none) → Room A' n → env = clEnv (in2Fd [("n", c3), ("inner", c2), ("digits", c1)] doc pm cdv ctv) s.heap.objs.size F → Mv s s₁ → Fs env X s₁.heap [("L", IntR i), ("R", IntR j), ("digits", LstI ds), ("inner", fun _ u => u = .ref F), ("n", IntR 3)] →
      Ru prog w A' env X s₁ (dBody inS2) (fun f s' => R s'.heap (match f with | .ret v => v | _ => .none))) : Do prog w A s (call (.ref F) vs) R := by
  obtain ⟨v1, v2, rfl, r1, r2⟩ := all2_two q
  obtain ⟨vd, hd, hl⟩ := x.d
  obtain ⟨tn, hn⟩ := x.n
  refine wpAny_mono (call_cY [] (RR := fun v s' => R s'.heap v) (σ := [("L", IntR i), ("R", IntR j), ("digits", LstI ds), ("inner", fun _ u => u = .ref F), ("n", IntR 3)]) (binds := [("L", v1), ("R", v2)]) x.fn x.cd x.lim t room rfl (BindsTo.of_eq rfl) (show ∀ x ∈ (dScope inS2).names, x.2 ≠ .cell by decide) (fun y hy => ?_) ?_ (fun s₁ m f hnn => ?_)) (fun v s' q => ⟨q.1.mv (fun p hp => by cases hp), q.2⟩) fun _ _ q => q
  · simp only [List.mem_cons, List.not_mem_nil, or_false] at hy
    rcases hy with rfl | rfl <;> rfl
  · exact Bnds.get (.cons (Mn.int _) r1 (.inl ⟨rfl, rfl⟩) (.cons (Mn.int _) r2 (.inl ⟨rfl, rfl⟩) (.cons (LstI.mono.mn _) hl (.inr ⟨⟨rfl, rfl⟩, c1, rfl, by simp, hd⟩) (.cons (fun _ _ _ _ q => q) rfl (.inr ⟨⟨rfl, rfl⟩, c2, rfl, by simp, x.i⟩) (.cons (Mn.int _) ⟨tn, rfl⟩ (.inr ⟨⟨rfl, rfl⟩, c3, rfl, by simp, hn⟩) .nil)))))
  · exact k _ _ _ _ (fun p hp => by simp at hp; rw [hp]; exact hnn) (room.deeper _) rfl m f

theorem in2_one {i : Nat} {d : Int} {vs : List Value} (x : In2 s.heap F c1 c2 c3 ds doc pm cdv ctv) (t : TI s.heap) (room : Room A 2) (hd : ds[i]? = some d) (hi : i ≤ 1000) (q : All2 (fun v (R : HP) => R s.heap v) vs [IntR (i : Int), IntR ((i : Int) + 1)]) : Do prog w A s (call (.ref F) vs) (IntR d) := by
  refine in2_call x t room q fun A' env X s₁ hX room' he mv f => ?_
  subst he
  conv => arg 7; whnf
  refine ru_if mv.le.t' (evT_eq (ev_add (f.ev rfl) ev_int) (f.ev rfl)) fun s₂ m₂ => ?_
  rw [if_pos (by simp)]
  exact ru_ret m₂.le.t' (ev_itemL IntR.mono ((f.le m₂.le).ev rfl) ((f.le m₂.le).ev rfl) (by omega) (by omega) (by rw [Int.toNat_natCast]; exact hd)) fun s₃ v m₃ r => r
theorem in2_two {d0 d1 : Int} {vs : List Value} (x : In2 s.heap F c1 c2 c3 [d0, d1] doc pm cdv ctv) (t : TI s.heap) (room : Room A 3) (hd : d1.natAbs < 100) (q : All2 (fun v (R : HP) => R s.heap v) vs [IntR 0, IntR 2]) : Do prog w A s (call (.ref F) vs) (IntR (d1 * 8 + d0)) := by
  refine in2_call x t room q fun A' env X s₁ hX room' he mv f => ?_
  subst he
  conv => arg 7; whnf
  refine ru_if mv.le.t' (evT_eq (ev_add (f.ev rfl) ev_int) (f.ev rfl)) fun s₂ m₂ => ?_
  rw [if_neg (by decide)]
  have f₂ := f.le m₂.le
  refine ru_nil m₂.le.t' ?_
  refine ru_assign (R := IntR 1) f₂ ((ev_rsh (ev_add (f₂.ev rfl) (f₂.ev rfl)) ev_int (by decide)).toI (by decide)) m₂.le.t' (Mn.int _) (.inl rfl) fun s₃ m₃ f₃ => ?_
  refine ru_assign (R := IntR 3) f₃ ((ev_mul (by decide) (by decide) (ev_sub (f₃.ev rfl) (f₃.ev rfl)) (f₃.ev rfl)).toI (by decide)) m₃.le.t' (Mn.int _) (.inl rfl) fun s₄ m₄ f₄ => ?_
  have x₄ : In2 s₄.heap F c1 c2 c3 [d0, d1] doc pm cdv ctv :=
    x.le ((((mv.trans m₂).b X).trans (m₃.trans m₄)).mv hX).le
  refine ru_ret (R := IntR (d1 * 8 + d0)) m₄.le.t' ((ev_add (ev_lsh (ev_call_d (Rs := [IntR 1, IntR 2]) x₄.fn (f₄.ev rfl) (evS_cons (f₄.ev rfl) (Mn.int _) (evS_cons (f₄.ev rfl) (Mn.int _) evS_nil)) (fun s' vs l' q => in2_one (i := 1) (d := d1) (x₄.le l') l'.t' (room'.le (by decide)) rfl (by decide) q) ⟨_, _, rfl⟩) (f₄.ev rfl) (by decide) (by decide) (by omega))
    (ev_call_d (Rs := [IntR 0, IntR 1]) x₄.fn (f₄.ev rfl) (evS_cons (f₄.ev rfl) (Mn.int _) (evS_cons (f₄.ev rfl) (Mn.int _) evS_nil)) (fun s' vs l' q => in2_one (i := 0) (d := d0) (x₄.le l') l'.t' (room'.le (by decide)) rfl (by decide) q) ⟨_, _, rfl⟩)).toI (by rfl)) fun s₅ v m₅ r => r

/-- the number of the digits, by eight -/
def valD : List Int → Int
  | [d] => d
  | [d0, d1] => d1 * 8 + d0
  | _ => 0
def D2iOk (prog : Program) (wd : World) (hb : Heap) (a : Addr) : Prop :=
  ∀ (A : Around) (s : Shared) (vs : List Value) (ds : List Int), (ds.length = 1 ∨ ds.length = 2) → (∀ d ∈ ds, d.natAbs < 100) → Le hb s.heap → Room A 6 → All2 (fun v (R : HP) => R s.heap v) vs [LstI ds, IntR 3] →
    Do prog wd A s (call (.ref a) vs) (IntR (valD ds))
theorem d2i_ok {name qual : Str} {an : Option Addr} {ct : Value} {hb : Heap} {a c : Addr} (hq : qual = "_digits2int") (D : DefAt hb a (d2iFd name qual doc pm an (.ref c) ct)) (N : Nest hb c 37) (gl : Glo hb "len" (.builtin "len")) : D2iOk prog w hb a := by
  intro A s vs ds hds hsm l room hv
  obtain ⟨v1, v2, rfl, r1, r2⟩ := all2_two hv
  subst hq
  refine call_d (σ := [("digits", LstI ds), ("n", IntR 3)]) (binds := [("digits", v1), ("n", v2)]) (D.le l) l.t' room rfl (BindsTo.of_eq rfl) rfl ?_ (fun x hx => cells_have _ _ _ x hx) ?_ ?_ fun s₁ mv F hX hnew => ?_
  · intro y hy
    simp only [List.mem_cons, List.not_mem_nil, or_false] at hy
    rcases hy with rfl | rfl <;> exact .inr ⟨rfl, rfl⟩
  · intro x c hx
    have hx' : (x, c) ∈ [(("inner" : Str), s.heap.objs.size + 3), ("n", s.heap.objs.size + 2), ("digits", s.heap.objs.size + 1)] := hx
    simp only [List.mem_cons, List.not_mem_nil, or_false, Prod.mk.injEq] at hx'
    rcases hx' with ⟨rfl, rfl⟩ | ⟨rfl, rfl⟩ | ⟨rfl, rfl⟩ <;> rfl
  · exact Bnds.get (.cons (LstI.mono.mn _) r1 (.inr ⟨rfl, rfl⟩) (.cons (Mn.int _) r2 (.inr ⟨rfl, rfl⟩) .nil))
  · conv => arg 7; whnf
    have t₁ := mv.le.t'
    refine ru_def (P := 37) (qual := "_digits2int.<locals>.inner") (li := 47) (co := 4) (clos := [("n", s.heap.objs.size + 2), ("inner", s.heap.objs.size + 3), ("digits", s.heap.objs.size + 1)]) F t₁ rfl rfl rfl (N.le (l.trans mv.le)) (.inr rfl) t₁.2 rfl rfl
      (fun h' k tb => ⟨t₁.1.but (by decide) (.inr rfl) k, tb⟩) rfl (.inr rfl) rfl rfl rfl hX fun s₂ Fn doc' pm' cdv' ctv' m₂ F₂ fa hrec => ?_
    have mm := ((mv.b _).trans m₂).mv hnew
    have x₂ : In2 s₂.heap Fn (s.heap.objs.size + 1) (s.heap.objs.size + 3) (s.heap.objs.size + 2) ds doc' pm' cdv' ctv' := by
      obtain ⟨vd, qd, hd⟩ := F₂.cellv (x := "digits") rfl rfl rfl
      obtain ⟨vn, ⟨tn, rfl⟩, hn⟩ := F₂.cellv (x := "n") rfl rfl rfl
      obtain ⟨vi, rfl, hi⟩ := F₂.cellv (x := "inner") rfl rfl rfl
      exact ⟨fa, hrec, noLimit_le D.lim (l.trans mm.le), ⟨vd, hd, qd⟩, hi, ⟨tn, hn⟩⟩
    refine ru_ret (R := IntR (valD ds)) mm.le.t' (ev_if (evT_list (F₂.ev rfl) (by omega)) (fun _ => ev_call_d (Rs := [IntR 0, IntR ds.length]) x₂.fn (F₂.ev rfl)
      (evS_cons ev_int (Mn.int _) (evS_cons (ev_call_b (Rs := [LstI ds]) (ev_glob ⟨rfl, rfl, rfl, rfl⟩ (gl.le (l.trans mm.le))) (evS_cons (F₂.ev rfl) (LstI.mono.mn _) evS_nil) (fun s' vs l' q => do_len_list l'.t' q (by omega)) ⟨_, _, rfl⟩ rfl) (Mn.int _) evS_nil)) (fun s' vs l' q => ?_) ⟨_, _, rfl⟩) (fun h0 => ?_)) fun s₃ v m₃ r => r
    · have room' := room.deeper (callEnvC (d2iFd name "_digits2int" doc pm an (.ref c) ct) s.heap.objs.size a)
      rcases hds with h1 | h2
      · match ds, h1, q with
        | [d], _, q => exact in2_one (i := 0) (x₂.le l') l'.t' (room'.le (by decide)) rfl (by decide) q
      · match ds, h2, q with
        | [d0, d1], _, q => exact in2_two (x₂.le l') l'.t' (room'.le (by decide)) (hsm d1 (by simp)) q
    · exfalso
      cases ds with
      | nil => rcases hds with h | h <;> cases h
      | cons a r => cases h0
end
end Mine

/-! part 22 -/
open PySem PySem.Spec PySem.Calls PyProof.Rows PySem.W
set_option maxRecDepth 100000
set_option Elab.async false
set_option linter.unusedVariables false
namespace Mine

abbrev in1Fd (clos : List (Str × Addr)) (doc pm cdv ctv : Value) : FuncData := fnX "inner" "_int2digits.<locals>.inner" (dArgs inS1) (dBody inS1) (dScope inS1) clos .none .none doc pm none cdv ctv
abbrev i2dFd (name qual : Str) (doc pm : Value) (an : Option Addr) (cdv ct : Value) : FuncData := fnOf name qual (dArgs (sAt 4)) (dBody (sAt 4)) (dScope (sAt 4)) .none .none doc pm an cdv ct

structure In1 (h : Heap) (F c1 c2 c3 D : Addr) (doc pm cdv ctv : Value) : Prop where
  fn : FnAt h F (in1Fd [("n", c3), ("inner", c2), ("a_digits", c1)] doc pm cdv ctv)
  cd : h.CodeRec cdv "_int2digits.<locals>.inner"
  lim : h.NoLimit
  d : h.IsCell c1 (some (.ref D))
  i : h.IsCell c2 (some (.ref F))
  n : ∃ t, h.IsCell c3 (some (.int 3 t))
theorem In1.le {h h' : Heap} {F c1 c2 c3 D : Addr} {doc pm cdv ctv : Value} (x : In1 h F c1 c2 c3 D doc pm cdv ctv) (l : Le h h') : In1 h' F c1 c2 c3 D doc pm cdv ctv := by
  obtain ⟨a, b, c, d, e, ⟨t, f⟩⟩ := x
  exact ⟨a.le l, codeRec_le b l, noLimit_le c l, l.cell d, l.cell e, ⟨t, l.cell f⟩⟩
theorem In1.leD {h h' : Heap} {F c1 c2 c3 D : Addr} {doc pm cdv ctv : Value} (x : In1 h F c1 c2 c3 D doc pm cdv ctv) {ys : Array Value} (hD : h.IsList D ys) (l : LeB [D] h h') : In1 h' F c1 c2 c3 D doc pm cdv ctv := by
  obtain ⟨⟨oF, a1, a2, a3⟩, b, ⟨mc, ⟨o4, es, ep, f1, f2, f3⟩, f4⟩, ⟨o1, d1, d2⟩, ⟨o2, e1, e2⟩, ⟨t, o3, g1, g2⟩⟩ := x
  obtain ⟨oD, eD, _, nD, dD⟩ := hD
  have cell : ∀ c o v, h.get? c = some o → o.data = .cell v → h'.get? c = some o := fun c o v e hd => by
    have nn := l.t.ne e (fun vs q => by rw [hd] at q; cases q)
    exact l.k c o nn.1 nn.2 (fun q => by simp at q; rw [q, eD] at e; cases e; rw [dD] at hd; cases hd) e
  have nF := l.t.neC a1 a2
  have n4 := l.t.ne f1 (fun vs q => by rw [f2] at q; cases q)
  refine ⟨⟨oF, l.k _ _ nF.1 nF.2 (fun q => by simp at q; rw [q, eD] at a1; cases a1; rw [dD] at a3; cases a3) a1, a2, a3⟩, codeRec_leB (X := [D]) (fun p hp => ?_) b l, ⟨mc, ⟨o4, es, ep, l.k _ _ n4.1 n4.2 (fun q => by simp at q; rw [q, eD] at f1; cases f1; rw [dD] at f2; cases f2) f1, f2, f3⟩, f4⟩, ⟨o1, cell _ _ _ d1 d2, d2⟩, ⟨o2, cell _ _ _ e1 e2, e2⟩, ⟨t, o3, cell _ _ _ g1 g2, g2⟩⟩
  simp at hp
  rw [hp]
  exact ⟨oD, eD, fun vs q => by rw [dD] at q; cases q⟩

section
variable {prog : Program} {w : World} {A : Around} {s : Shared} {F c1 c2 c3 D : Addr} {ds : List Int} {doc pm cdv ctv : Value}

theorem in1_call {x0 i j : Int} {xs : List Int} {RR : Value → Shared → Prop} {vs : List Value} {n : Nat} (x : In1 s.heap F c1 c2 c3 D doc pm cdv ctv) (hD : LstI xs s.heap (.ref D)) (t : TI s.heap) (room : Room A (n + 1)) (q : All2 (fun v (R : HP) => R s.heap v) vs [IntR x0, IntR i, IntR j])
    (k : ∀ A' env X s₁, (∀ p ∈ X, p = D ∨ s.heap.get? p = none) → D ∈ X → Room A' n → env = clEnv (in1Fd [("n", c3), ("inner", c2), ("a_digits", c1)] doc pm cdv ctv) s.heap.objs.size F → Mv s s₁ → Fs env X s₁.heap [("x", IntR x0), ("L", IntR i), ("R", IntR j), ("a_digits", fun h u => u = .ref D ∧ LstI xs h (.ref D)), ("inner", fun _ u => u = .ref F), ("n", IntR 3)] →
      Ru prog w A' env X s₁ (dBody inS1) (fun f s' => RR (match f with | .ret v => v | _ => .none) s')) : wpAny (model prog w) A (call (.ref F) vs) (fun v s' => MvB [D] s s' ∧ RR v s') F0 s := by
  obtain ⟨v1, v2, v3, rfl, r1, r2, r3⟩ : ∃ v1 v2 v3, vs = [v1, v2, v3] ∧ IntR x0 s.heap v1 ∧ IntR i s.heap v2 ∧ IntR j s.heap v3 := by
    cases q with | cons a1 hv => cases hv with | cons a2 hv => cases hv with | cons a3 hv => cases hv with | nil => exact ⟨_, _, _, rfl, a1, a2, a3⟩
  obtain ⟨tn, hn⟩ := x.n
  have ncell : ∀ c v, s.heap.IsCell c v → c ∉ [D] := fun c v hc hm => by
    simp at hm
    obtain ⟨o, e, hd⟩ := hc
    obtain ⟨a, ys, e1, ⟨o', e', _, n', hd'⟩, _⟩ := hD
    cases e1
    rw [hm, e'] at e; cases e; rw [hd'] at hd; cases hd
  refine call_cY [D] (RR := RR) (σ := [("x", IntR x0), ("L", IntR i), ("R", IntR j), ("a_digits", fun h u => u = .ref D ∧ LstI xs h (.ref D)), ("inner", fun _ u => u = .ref F), ("n", IntR 3)]) (binds := [("x", v1), ("L", v2), ("R", v3)]) x.fn x.cd x.lim t room rfl (BindsTo.of_eq rfl) (show ∀ x ∈ (dScope inS1).names, x.2 ≠ .cell by decide) (fun y hy => ?_) ?_ (fun s₁ m f hnn => ?_)
  · simp only [List.mem_cons, List.not_mem_nil, or_false] at hy
    rcases hy with rfl | rfl | rfl <;> rfl
  · exact Bnds.get (.cons (Mn.int _) r1 (.inl ⟨rfl, rfl⟩) (.cons (Mn.int _) r2 (.inl ⟨rfl, rfl⟩) (.cons (Mn.int _) r3 (.inl ⟨rfl, rfl⟩) (.cons (fun h h' v l r => ⟨r.1, LstI.mono _ _ _ _ l r.2⟩) ⟨rfl, hD⟩ (.inr ⟨⟨rfl, rfl⟩, c1, rfl, ncell _ _ x.d, x.d⟩) (.cons (fun _ _ _ _ q => q) rfl (.inr ⟨⟨rfl, rfl⟩, c2, rfl, ncell _ _ x.i, x.i⟩) (.cons (Mn.int _) ⟨tn, rfl⟩ (.inr ⟨⟨rfl, rfl⟩, c3, rfl, ncell _ _ hn, hn⟩) .nil))))))
  · exact k _ _ _ _ (fun p hp => by simp at hp; rcases hp with rfl | rfl; exact .inl rfl; exact .inr hnn) (by simp) (room.deeper _) rfl m f

theorem in1_one {x0 : Int} {i : Nat} {xs : List Int} {vs : List Value} (x : In1 s.heap F c1 c2 c3 D doc pm cdv ctv) (hD : LstI xs s.heap (.ref D)) (t : TI s.heap) (room : Room A 2) (hi : i < xs.length) (hl : xs.length ≤ 10) (q : All2 (fun v (R : HP) => R s.heap v) vs [IntR x0, IntR (i : Int), IntR ((i : Int) + 1)]) :
    wpAny (model prog w) A (call (.ref F) vs) (fun v s' => MvB [D] s s' ∧ (v = .none ∧ LstI (xs.set i x0) s'.heap (.ref D))) F0 s := by
  refine in1_call (RR := fun v s' => v = .none ∧ LstI (xs.set i x0) s'.heap (.ref D)) x hD t room q fun A' env X s₁ hX hDX room' he mv f => ?_
  subst he
  conv => arg 7; whnf
  refine ru_if mv.le.t' (evT_eq (ev_add (f.ev rfl) ev_int) (f.ev rfl)) fun s₂ m₂ => ?_
  rw [if_pos (by simp)]
  have f₂ := f.le m₂.le
  refine ru_setitem IntR.mono m₂.le.t' (f₂.ev rfl) ((f₂.ev rfl).imp fun h v q => q.1) (f₂.ev rfl) (LstI.mono _ _ _ _ (mv.trans m₂).le.lq hD) IntR.monoT hi (by omega) fun s₃ m₃ h3 _ => ?_
  have m₃' : MvB X s₂ s₃ := m₃.mono fun p hp => by simp at hp; rw [hp]; exact hDX
  exact wpAny_execs_cons (wpAny_Return_none ⟨m₃', rfl, h3⟩)

theorem in1_two {x0 z0 z1 : Int} {vs : List Value} (x : In1 s.heap F c1 c2 c3 D doc pm cdv ctv) (hD : LstI [z0, z1] s.heap (.ref D)) (t : TI s.heap) (room : Room A 3) (h1 : 8 ≤ x0) (h2 : x0 ≤ 10) (q : All2 (fun v (R : HP) => R s.heap v) vs [IntR x0, IntR 0, IntR 2]) :
    wpAny (model prog w) A (call (.ref F) vs) (fun v s' => MvB [D] s s' ∧ (v = .none ∧ LstI [x0 - 8, 1] s'.heap (.ref D))) F0 s := by
  refine in1_call (RR := fun v s' => v = .none ∧ LstI [x0 - 8, 1] s'.heap (.ref D)) x hD t room q fun A' env X s₁ hX hDX room' he mv f => ?_
  subst he
  conv => arg 7; whnf
  refine ru_if mv.le.t' (evT_eq (ev_add (f.ev rfl) ev_int) (f.ev rfl)) fun s₂ m₂ => ?_
  rw [if_neg (by decide)]
  have f₂ := f.le m₂.le
  refine ru_nil m₂.le.t' ?_
  refine ru_assign (R := IntR 1) f₂ ((ev_rsh (ev_add (f₂.ev rfl) (f₂.ev rfl)) ev_int (by decide)).toI (by decide)) m₂.le.t' (Mn.int _) (.inl rfl) fun s₃ m₃ f₃ => ?_
  refine ru_assign (R := IntR 3) f₃ ((ev_mul (by decide) (by decide) (ev_sub (f₃.ev rfl) (f₃.ev rfl)) (f₃.ev rfl)).toI (by decide)) m₃.le.t' (Mn.int _) (.inl rfl) fun s₄ m₄ f₄ => ?_
  refine ru_assign (R := IntR 1) f₄ ((ev_rsh (f₄.ev rfl) (f₄.ev rfl) (by decide)).toI ?_) m₄.le.t' (Mn.int _) (.inl rfl) fun s₅ m₅ f₅ => ?_
  · obtain rfl | rfl | rfl : x0 = 8 ∨ x0 = 9 ∨ x0 = 10 := by omega
    all_goals decide
  refine ru_assign (R := IntR (x0 - 8)) f₅ ((ev_xor (f₅.ev rfl) (ev_lsh (f₅.ev rfl) (f₅.ev rfl) (by decide) (by decide) (by decide))).toI ?_) m₅.le.t' (Mn.int _) (.inl rfl) fun s₆ m₆ f₆ => ?_
  · obtain rfl | rfl | rfl : x0 = 8 ∨ x0 = 9 ∨ x0 = 10 := by omega
    all_goals decide
  have mm : MvB X s s₆ := ((mv.trans m₂).b X).trans (m₃.trans (m₄.trans (m₅.trans m₆)))
  have x₆ : In1 s₆.heap F c1 c2 c3 D doc pm cdv ctv := by
    obtain ⟨_, ys, e, hl, _⟩ := hD
    cases e
    exact x.leD hl (mm.le.drop fun p hp => (hX p hp).imp_left fun e => by simp [e])
  obtain ⟨v6, ⟨rfl, hD6⟩, _⟩ := (f₆.bd (x := "a_digits") rfl).1.2
  have f₆' := f₆.sub (σ' := [("lower", IntR (x0 - 8)), ("upper", IntR 1), ("mid", IntR 1), ("L", IntR 0), ("R", IntR 2), ("inner", fun _ u => u = .ref F)])
    (.cons rfl (fun _ _ q => q) (Mn.int _) (.cons rfl (fun _ _ q => q) (Mn.int _) (.cons rfl (fun _ _ q => q) (Mn.int _) (.cons rfl (fun _ _ q => q) (Mn.int _) (.cons rfl (fun _ _ q => q) (Mn.int _) (.cons rfl (fun _ _ q => q) (fun _ _ _ _ q => q) .nil))))))
  have cst : AllC [("lower", IntR (x0 - 8)), ("upper", IntR 1), ("mid", IntR 1), ("L", IntR 0), ("R", IntR 2), ("inner", fun _ u => u = .ref F)] :=
    .cons (Cst.int _) (.cons (Cst.int _) (.cons (Cst.int _) (.cons (Cst.int _) (.cons (Cst.int _) (.cons (Cst.is _) .nil)))))
  refine ru_call (Y := [D]) (Rs := [IntR (x0 - 8), IntR 0, IntR 1]) m₆.le.t' x₆.fn (f₆'.ev rfl) (evS_cons (f₆'.ev rfl) (Mn.int _) (evS_cons (f₆'.ev rfl) (Mn.int _) (evS_cons (f₆'.ev rfl) (Mn.int _) evS_nil))) (fun s₇ vs₇ m₇ q₇ => ?_) ⟨_, _, rfl⟩
  have hD7 := LstI.mono _ _ _ _ m₇.le.lq hD6
  refine wpAny_mono (in1_one (i := 0) (x₆.le m₇.le) hD7 m₇.le.t' (room'.le (by decide)) (by simp) (by simp) q₇) (fun v s₈ h₈ => ?_) fun _ _ q => q
  obtain ⟨m₈, rfl, hD8⟩ := h₈
  obtain ⟨_, ys7, e7, hl7, _⟩ := id hD7
  cases e7
  have f₈ := (f₆'.le m₇.le).leD hl7 hDX m₈.le cst.get
  have x₈ := (x₆.le m₇.le).leD hl7 m₈.le
  have m₈' : MvB X s₇ s₈ := m₈.mono fun p hp => by simp at hp; rw [hp]; exact hDX
  refine ⟨rfl, m₈', ?_⟩
  refine ru_call (Y := [D]) (Rs := [IntR 1, IntR 1, IntR 2]) m₈.le.t' x₈.fn (f₈.ev rfl) (evS_cons (f₈.ev rfl) (Mn.int _) (evS_cons (f₈.ev rfl) (Mn.int _) (evS_cons (f₈.ev rfl) (Mn.int _) evS_nil))) (fun s₉ vs₉ m₉ q₉ => ?_) ⟨_, _, rfl⟩
  have hD9 := LstI.mono _ _ _ _ m₉.le.lq hD8
  refine wpAny_mono (in1_one (i := 1) (x₈.le m₉.le) hD9 m₉.le.t' (room'.le (by decide)) (by simp) (by simp) q₉) (fun v s₁₀ h₁₀ => ?_) fun _ _ q => q
  obtain ⟨m₁₀, rfl, hD10⟩ := h₁₀
  have m₁₀' : MvB X s₉ s₁₀ := m₁₀.mono fun p hp => by simp at hp; rw [hp]; exact hDX
  exact ⟨rfl, m₁₀', ru_nil m₁₀.le.t' ⟨rfl, hD10⟩⟩

def digF (a : Int) : List Int := if a < 8 then [a] else [a - 8, 1]
def I2dOk (prog : Program) (wd : World) (hb : Heap) (f : Addr) : Prop :=
  ∀ (A : Around) (s : Shared) (vs : List Value) (a : Int), 1 ≤ a → a ≤ 10 → Le hb s.heap → Room A 6 → All2 (fun v (R : HP) => R s.heap v) vs [IntR a, IntR 3] → Do prog wd A s (call (.ref f) vs) (LstI (digF a))

theorem ev_listP {α : Type} {Ra : Rep α} {env : Env} {h₀ : Heap} {es : List Expr} {xs : List α} {pos : Pos} (m : Mono Ra) (ee : EvS prog w A env h₀ pos es (xs.map Ra)) (hs : xs.length ≤ 1000) : Ev prog w A env h₀ (.List es pos) (fun h v => ∃ D, v = .ref D ∧ AtG Ra D xs h) := fun s k => by
  refine List_ (wpAny_mono (ee s k) (fun vs s₁ h₁ => ?_) fun _ _ q => q)
  have h2 := all2_map h₁.2
  refine wpAny_newList ⟨h₁.1.trans (Mv.of h₁.1.le.t' (fun b o e => Heap.get?_push_of_some _ e) _), _, rfl, vs.toArray, ⟨_, Heap.get?_push_size _ rfl⟩, ?_⟩ (by rw [h2.length, sizeLine_eq]; omega)
  have : vs.toArray.toList = vs := rfl
  rw [this]; exact h2.mono fun v x q => m x _ _ v (Lq.of fun b o e => Heap.get?_push_of_some _ e) q

theorem mul_list_any {l : Addr} {items : Array Value} {k : Nat} {x : Int} {u : Tok} {Q : Value → Shared → Prop} {E : Value → Shared → Prop}
    (hl : s.heap.get? l = some { cls := .type "list", dict := none, data := .seq items k, slots := #[] })
    (hlo : -(2 ^ 63 : Int) ≤ x) (hhi : x < 2 ^ 63) (hsz : items.size * x.toNat ≤ 2 ^ 24)
    (h : Q (.ref s.heap.objs.size) { s with heap := s.heap.push { cls := .type "list", data := .seq (List.foldl (fun x1 x2 => x1 ++ x2) #[] (List.replicate (if items.isEmpty = true then 0 else x.toNat) items)) } }) :
    wpAny (model prog w) A (binaryOp .Mult (.ref l) (.int x u)) Q E s :=
  wpAny_binaryOp_repeat_ref (T := "list") (U := "int") (by decide) ⟨_, hl, rfl⟩ (fun s' => typeIs_int s' x u) noFill_list_mul PySem.F.fills_int_mul PySem.F.slot_int_rmul repeat_list PySem.F.slot_int_index.lookup
    (call_meets PySem.F.slot_int_rmul (typeIs_int s x u) PySem.F.entry_int_rmul (PySem.F.args_int_rmul_2 _ _) (int___rmul___int_list x u l items k)
      ⟨hl, rfl, ⟨_, hl, rfl⟩, call_meets PySem.F.slot_list_mul ⟨_, hl, rfl⟩ PySem.F.entry_list_mul (PySem.F.args_list_mul_2 _ _)
        (AutoListH.list___mul___list_int_3 l items k x u (by simp [Builtin.List.listFitsIndex]; omega) (by omega) (by simp [Builtin.List.listTooLong, sizeLine]; omega))
        ⟨hl, h⟩⟩)
theorem do_mul_list {l : Addr} {k : Nat} {d : Int} {a : Int} {u : Tok} (t : TI s.heap) (hl : AtG IntR l [d] s.heap) (ha : a = (k : Int)) (hk : k = 1 ∨ k = 2) :
    Do prog w A s (binaryOp .Mult (.ref l) (.int a u)) (New s.heap (fun h v => ∃ D, v = .ref D ∧ AtG IntR D (List.replicate k d) h)) := by
  obtain ⟨ys, ⟨n, ho⟩, hr⟩ := hl
  obtain ⟨v, hys⟩ : ∃ v, ys = #[v] := by
    have := hr.length
    rw [Array.length_toList] at this
    exact Array.size_eq_one_iff.mp this
  subst hys
  have hv : IntR d s.heap v := by cases hr with | cons q _ => exact q
  have hk2 : a.toNat = k := by omega
  refine mul_list_any ho (by omega) (by omega) (by rw [hk2]; simp; omega) ?_
  have e : List.foldl (fun x1 x2 : Array Value => x1 ++ x2) #[] (List.replicate (if (#[v] : Array Value).isEmpty = true then 0 else a.toNat) #[v]) = (List.replicate k v).toArray := by
    rw [hk2]
    rcases hk with rfl | rfl <;> rfl
  rw [e]
  refine ⟨Mv.of t (fun b o e => Heap.get?_push_of_some _ e) s.toks, ⟨_, rfl, _, ⟨_, Heap.get?_push_size _ rfl⟩, ?_⟩, fun a e => by cases e; exact get?_none_size _⟩
  obtain ⟨tv, rfl⟩ := hv
  rcases hk with rfl | rfl
  · exact .cons ⟨tv, rfl⟩ .nil
  · exact .cons ⟨tv, rfl⟩ (.cons ⟨tv, rfl⟩ .nil)
end
end Mine

/-! part 23 -/
open PySem PySem.Spec PySem.Calls PyProof.Rows PySem.W
set_option maxRecDepth 100000
set_option Elab.async false
set_option linter.unusedVariables false
namespace Mine
section
variable {prog : Program} {w : World} {A : Around} {s : Shared} {doc pm : Value}

theorem digF_cases {a : Int} (h1 : 1 ≤ a) (h2 : a ≤ 10) : ∃ k : Nat, (k = 1 ∨ k = 2) ∧ ((Builtin.Int.intBits a : Int) + 3 - 1).fdiv 3 = (k : Int) ∧ (k = 1 → digF a = [a]) ∧ (k = 2 → 8 ≤ a ∧ digF a = [a - 8, 1]) := by
  obtain rfl | rfl | rfl | rfl | rfl | rfl | rfl | rfl | rfl | rfl : a = 1 ∨ a = 2 ∨ a = 3 ∨ a = 4 ∨ a = 5 ∨ a = 6 ∨ a = 7 ∨ a = 8 ∨ a = 9 ∨ a = 10 := by omega
  all_goals first
    | exact ⟨1, .inl rfl, by decide, fun _ => (by decide), fun h => (by cases h)⟩
    | exact ⟨2, .inr rfl, by decide, fun h => (by cases h), fun _ => ⟨by decide, by decide⟩⟩

theorem i2d_ok {name qual : Str} {an : Option Addr} {ct : Value} {hb : Heap} {f c : Addr} (hq : qual = "_int2digits") (D : DefAt hb f (i2dFd name qual doc pm an (.ref c) ct)) (N : Nest hb c 30) (gl : Glo hb "len" (.builtin "len")) : I2dOk prog w hb f := by
  intro A s vs a ha1 ha2 l room hv
  obtain ⟨k, hk, hkb, hk1, hk2⟩ := digF_cases ha1 ha2
  obtain ⟨v1, v2, rfl, r1, r2⟩ := all2_two hv
  subst hq
  refine call_d (σ := [("a", IntR a), ("n", IntR 3)]) (binds := [("a", v1), ("n", v2)]) (D.le l) l.t' room rfl (BindsTo.of_eq rfl) rfl ?_ (fun x hx => cells_have _ _ _ x hx) ?_ ?_ fun s₁ mv F hX hnew => ?_
  · intro y hy
    simp only [List.mem_cons, List.not_mem_nil, or_false] at hy
    rcases hy with rfl | rfl
    · exact .inl rfl
    · exact .inr ⟨rfl, rfl⟩
  · intro x c hx
    have hx' : (x, c) ∈ [(("inner" : Str), s.heap.objs.size + 3), ("a_digits", s.heap.objs.size + 2), ("n", s.heap.objs.size + 1)] := hx
    simp only [List.mem_cons, List.not_mem_nil, or_false, Prod.mk.injEq] at hx'
    rcases hx' with ⟨rfl, rfl⟩ | ⟨rfl, rfl⟩ | ⟨rfl, rfl⟩ <;> rfl
  · exact Bnds.get (.cons (Mn.int _) r1 (.inl ⟨rfl, rfl⟩) (.cons (Mn.int _) r2 (.inr ⟨rfl, rfl⟩) .nil))
  · conv => arg 7; whnf
    have t₁ := mv.le.t'
    have hcs : ∀ n c', (n, c') ∈ (callEnvC (i2dFd name "_int2digits" doc pm an (.ref c) ct) s.heap.objs.size f).cells → (callEnvC (i2dFd name "_int2digits" doc pm an (.ref c) ct) s.heap.objs.size f).kindOf n = some .cell ∧ (callEnvC (i2dFd name "_int2digits" doc pm an (.ref c) ct) s.heap.objs.size f).cells.lookup n = some c' := by
      intro x c' hx
      have hx' : (x, c') ∈ [(("inner" : Str), s.heap.objs.size + 3), ("a_digits", s.heap.objs.size + 2), ("n", s.heap.objs.size + 1)] := hx
      simp only [List.mem_cons, List.not_mem_nil, or_false, Prod.mk.injEq] at hx'
      rcases hx' with ⟨rfl, rfl⟩ | ⟨rfl, rfl⟩ | ⟨rfl, rfl⟩ <;> exact ⟨rfl, rfl⟩
    refine ru_assign_new (Ra := IntR) (xs := List.replicate k 0) IntR.mono F (fun y hy => ?_) (ev_bin (R1 := fun h v => ∃ D, v = .ref D ∧ AtG IntR D [0] h) (R2 := IntR (k : Int)) (ev_listP (xs := [0]) IntR.mono (evS_cons ev_int (Mn.int _) evS_nil) (by simp))
      ((ev_fdiv (ev_sub (ev_add (ev_bits (F.ev rfl)) (F.ev rfl)) ev_int) (F.ev rfl) (by decide) (by decide)).toI hkb) (fun h h' v l ⟨D, e, q⟩ => ⟨D, e, q.lq IntR.mono l⟩) (fun s' x y l' ⟨D, e, q⟩ ⟨u, e'⟩ => by subst e; subst e'; exact (do_mul_list l'.t' q rfl hk).imp fun h v r => r.old l')) t₁ (.inr rfl) fun s₂ Dl m₂ hDn hDa F₂ => ?_
    · have hm := mem_of_lookup hy
      have : ∀ p ∈ (dScope (sAt 4)).names, p.2 ≠ .free := by decide
      exact this _ hm rfl
    have t₂ := m₂.le.t'
    have l₂ : Le hb s₂.heap := l.trans (((mv.b _).trans m₂).mv hnew).le
    have hX₂ : XK (Dl :: fX (callEnvC (i2dFd name "_int2digits" doc pm an (.ref c) ct) s.heap.objs.size f)) s₂.heap := by
      intro p hp
      rcases List.mem_cons.mp hp with rfl | hp
      · obtain ⟨ys, ⟨n, e⟩, _⟩ := hDa
        exact ⟨_, e, fun vs q => by cases q⟩
      · exact F₂.xk hcs p hp
    refine ru_def (P := 30) (qual := "_int2digits.<locals>.inner") (li := 32) (co := 4) (clos := [("n", s.heap.objs.size + 1), ("inner", s.heap.objs.size + 3), ("a_digits", s.heap.objs.size + 2)]) F₂ t₂ rfl rfl rfl (N.le l₂) (.inl rfl) t₂.1 rfl rfl
      (fun h' k tb => ⟨tb, t₂.2.but (by decide) (.inl rfl) k⟩) rfl (.inr rfl) rfl rfl rfl hX₂ fun s₃ Fn doc' pm' cdv' ctv' m₃ F₃ fa hrec => ?_
    have hnew' : ∀ p ∈ Dl :: fX (callEnvC (i2dFd name "_int2digits" doc pm an (.ref c) ct) s.heap.objs.size f), s.heap.get? p = none := fun p hp => by
      rcases List.mem_cons.mp hp with rfl | hp
      · exact mv.le.none1 hDn
      · exact hnew p hp
    have l₃ : Le hb s₃.heap := l.trans (((((mv.b _).trans m₂).mono fun p hp => List.mem_cons_of_mem Dl hp).trans m₃).mv hnew').le
    have hDX : Dl ∈ Dl :: fX (callEnvC (i2dFd name "_int2digits" doc pm an (.ref c) ct) s.heap.objs.size f) := List.mem_cons_self
    have x₃ : In1 s₃.heap Fn (s.heap.objs.size + 2) (s.heap.objs.size + 3) (s.heap.objs.size + 1) Dl doc' pm' cdv' ctv' := by
      obtain ⟨vd, ⟨rfl, _⟩, hd⟩ := F₃.cellv (x := "a_digits") rfl rfl rfl
      obtain ⟨vn, ⟨tn, rfl⟩, hn⟩ := F₃.cellv (x := "n") rfl rfl rfl
      obtain ⟨vi, rfl, hi⟩ := F₃.cellv (x := "inner") rfl rfl rfl
      exact ⟨fa, hrec, noLimit_le D.lim l₃, hd, hi, ⟨tn, hn⟩⟩
    have t₃ := m₃.le.t'
    refine ru_if t₃ (evT_int (F₃.ev rfl)) fun s₄ m₄ => ?_
    rw [if_pos (by simp; omega)]
    have F₄ := F₃.le m₄.le
    have x₄ := x₃.le m₄.le
    have l₄ := l₃.trans m₄.le
    obtain ⟨v4, ⟨rfl, hD4⟩, _⟩ := (F₄.bd (x := "a_digits") rfl).1.2
    have hD4l : LstI (List.replicate k 0) s₄.heap (.ref Dl) := hD4.lst
    have F₄' := F₄.sub (σ' := [("a_digits", fun _ u => u = .ref Dl)]) (.cons rfl (fun _ _ q => q.1) (fun _ _ _ _ q => q) .nil)
    refine ru_call (Y := [Dl]) (Rs := [IntR a, IntR 0, IntR (k : Int)]) m₄.le.t' x₄.fn (F₄.ev rfl) (evS_cons (F₄.ev rfl) (Mn.int _) (evS_cons ev_int (Mn.int _) (evS_cons
      ((ev_call_b (Rs := [LstI (List.replicate k 0)]) (ev_glob ⟨rfl, rfl, rfl, rfl⟩ (gl.le l₄)) (evS_cons ((F₄.ev rfl).imp fun h v q => by obtain ⟨rfl, q⟩ := q; exact q.lst) (LstI.mono.mn _) evS_nil) (fun s' vs l' q => do_len_list l'.t' q (by simp; omega)) ⟨_, _, rfl⟩ rfl).toI (by simp)) (Mn.int _) evS_nil))) (fun s₅ vs₅ m₅ q₅ => ?_) ⟨_, _, rfl⟩
    have x₅ := x₄.le m₅.le
    have hD5 := LstI.mono _ _ _ _ m₅.le.lq hD4l
    have room' := room.deeper (callEnvC (i2dFd name "_int2digits" doc pm an (.ref c) ct) s.heap.objs.size f)
    have key : wpAny (model prog w) (A.deeper (callEnvC (i2dFd name "_int2digits" doc pm an (.ref c) ct) s.heap.objs.size f)) (call (.ref Fn) vs₅) (fun v s' => MvB [Dl] s₅ s' ∧ (v = .none ∧ LstI (digF a) s'.heap (.ref Dl))) F0 s₅ := by
      rcases hk with rfl | rfl
      · rw [hk1 rfl]
        exact in1_one (i := 0) x₅ hD5 m₅.le.t' (room'.le (by decide)) (by simp) (by simp) q₅
      · obtain ⟨h8, e8⟩ := hk2 rfl
        rw [e8]
        exact in1_two x₅ hD5 m₅.le.t' (room'.le (by decide)) h8 ha2 q₅
    refine wpAny_mono key (fun v s₆ h₆ => ?_) fun _ _ q => q
    obtain ⟨m₆, rfl, hD6⟩ := h₆
    obtain ⟨_, ys5, e5, hl5, _⟩ := id hD5
    cases e5
    have F₆ := (F₄'.le m₅.le).leD hl5 hDX m₆.le (AllC.cons (Cst.is _) .nil).get
    refine ⟨rfl, m₆.mono fun p hp => by simp at hp; rw [hp]; exact hDX, ru_nil m₆.le.t' ?_⟩
    exact ru_ret (R := LstI (digF a)) m₆.le.t' ((F₆.ev rfl).val (LstI.mono.mn _) hD6) fun s₇ v m₇ r => r
end
end Mine

/-! part 24 -/
open PySem PySem.Spec PySem.Calls PyProof.Rows PySem.W
set_option maxRecDepth 100000
set_option Elab.async false
set_option linter.unusedVariables false
namespace Mine
abbrev d21Fd (name qual : Str) (doc pm : Value) (an : Option Addr) (cdv ct : Value) : FuncData := fnOf name qual (dArgs (sAt 2)) (dBody (sAt 2)) (dScope (sAt 2)) .none .none doc pm an cdv ct
abbrev dpFd (name qual : Str) (doc pm : Value) (an : Option Addr) (cdv ct : Value) : FuncData := fnOf name qual (dArgs (sAt 6)) (dBody (sAt 6)) (dScope (sAt 6)) .none .none doc pm an cdv ct
abbrev idFd (name qual : Str) (doc pm : Value) (an : Option Addr) (cdv ct : Value) : FuncData := fnOf name qual (dArgs (sAt 7)) (dBody (sAt 7)) (dScope (sAt 7)) .none .none doc pm an cdv ct
section
variable {prog : Program} {w : World} {A : Around} {s : Shared} {doc pm : Value} {name qual : Str} {an : Option Addr} {cdv ct : Value} {hb : Heap} {f : Addr}

theorem locals_only {fd : FuncData} {names : List Str} {vals : List (Str × Value)} (h : vals.map (·.1) = names) (h2 : ∀ n ∈ names, fd.scope.names.lookup n = some .local) : ∀ y ∈ vals, fd.scope.names.lookup y.1 = some .local := fun y hy => h2 _ (h ▸ List.mem_map_of_mem hy)

def D21Ok (prog : Program) (wd : World) (hb : Heap) (f : Addr) : Prop :=
  ∀ (A : Around) (s : Shared) (vs : List Value) (x : Int), 0 ≤ x → x ≤ 40 → Le hb s.heap → Room A 2 → All2 (fun v (R : HP) => R s.heap v) vs [IntR x, IntR 5, IntR 3] → Do prog wd A s (call (.ref f) vs) (TupI [x.fdiv 5, x.fmod 5])
theorem bits_small {x : Int} (h1 : 0 ≤ x) (h2 : x ≤ 40) : (Builtin.Int.intBits x : Int) - 3 ≤ 4000 := by
  have key : ∀ n : Fin 41, (Builtin.Int.intBits ((n : Nat) : Int) : Int) - 3 ≤ 4000 := by decide
  have := key ⟨x.toNat, by omega⟩
  have e : ((x.toNat : Nat) : Int) = x := by omega
  simpa [e] using this
theorem all2_three {h : Heap} {R1 R2 R3 : HP} {vs : List Value} : All2 (fun v (R : HP) => R h v) vs [R1, R2, R3] → ∃ v u z, vs = [v, u, z] ∧ R1 h v ∧ R2 h u ∧ R3 h z
  | .cons x (.cons y (.cons z .nil)) => ⟨_, _, _, rfl, x, y, z⟩
theorem d21_ok {t0 : Tok} (D : DefAt hb f (d21Fd name qual doc pm an cdv ct)) (gd : Glo hb "divmod" (.builtin "divmod")) (gl : Glo hb "_DIV_LIMIT" (.int 4000 t0)) : D21Ok prog w hb f := by
  intro A s vs x hx1 hx2 l room hv
  obtain ⟨v1, v2, v3, rfl, r1, r2, r3⟩ := all2_three hv
  refine call_d (σ := [("a", IntR x), ("b", IntR 5), ("n", IntR 3)]) (binds := [("a", v1), ("b", v2), ("n", v3)]) (D.le l) l.t' room rfl (BindsTo.of_eq rfl) rfl ?_ (fun x hx => cells_have _ _ _ x hx) (fun x c hx => by cases hx) ?_ fun s₁ mv F hX hnew => ?_
  · intro y hy
    simp only [List.mem_cons, List.not_mem_nil, or_false] at hy
    rcases hy with rfl | rfl | rfl <;> exact .inl rfl
  · exact Bnds.get (.cons (Mn.int _) r1 (.inl ⟨rfl, rfl⟩) (.cons (Mn.int _) r2 (.inl ⟨rfl, rfl⟩) (.cons (Mn.int _) r3 (.inl ⟨rfl, rfl⟩) .nil)))
  · conv => arg 7; whnf
    have l₁ := l.trans mv.le
    refine ru_if mv.le.t' (evT_le (ev_sub (ev_bits (F.ev rfl)) (F.ev rfl)) (ev_globi ⟨rfl, rfl, rfl, rfl⟩ (gl.le l₁))) fun s₂ m₂ => ?_
    rw [if_pos (by rw [decide_eq_true_eq]; exact bits_small hx1 hx2)]
    have F₂ := F.le m₂.le
    exact ru_ret (R := TupI [x.fdiv 5, x.fmod 5]) m₂.le.t' (ev_call_b (Rs := [IntR x, IntR 5]) (ev_glob ⟨rfl, rfl, rfl, rfl⟩ (gd.le (l₁.trans m₂.le))) (evS_cons (F₂.ev rfl) (Mn.int _) (evS_cons (F₂.ev rfl) (Mn.int _) evS_nil)) (fun s' vs l' q => do_divmod (by decide) (by decide) l'.t' q) ⟨_, _, rfl⟩ rfl) fun s₃ v m₃ r => r

/-! the digits of the quotient, from the left -/
def stepF (p : Int × List Int) (d : Int) : Int × List Int := ((p.1 * 8 + d).fmod 5, p.2 ++ [(p.1 * 8 + d).fdiv 5])
def stF (ds : List Int) (i : Nat) : Int × List Int := (ds.reverse.take i).foldl stepF (0, [])
theorem stF_succ {ds : List Int} {i : Nat} {d : Int} (h : ds.reverse[i]? = some d) : stF ds (i + 1) = stepF (stF ds i) d := by
  unfold stF
  rw [List.take_add_one, h]
  simp
theorem stF_r (ds : List Int) (i : Nat) : 0 ≤ (stF ds i).1 ∧ (stF ds i).1 ≤ 4 := by
  induction i with
  | zero => simp [stF]
  | succ i ih =>
    cases h : ds.reverse[i]? with
    | none =>
      have : stF ds (i + 1) = stF ds i := by
        unfold stF
        rw [List.take_add_one, h]
        simp
      rw [this]; exact ih
    | some d =>
      rw [stF_succ h]
      have h1 := Int.fmod_nonneg_of_pos ((stF ds i).1 * 8 + d) (b := 5) (by decide)
      have h2 := Int.fmod_lt_of_pos ((stF ds i).1 * 8 + d) (b := 5) (by decide)
      show 0 ≤ ((stF ds i).1 * 8 + d).fmod 5 ∧ ((stF ds i).1 * 8 + d).fmod 5 ≤ 4
      omega
theorem digF_mem {a d : Int} (h1 : 1 ≤ a) (h2 : a ≤ 10) (h : d ∈ digF a) : 0 ≤ d ∧ d ≤ 7 := by
  unfold digF at h
  split at h
  · simp at h; omega
  · simp at h; omega
theorem digF_end {a : Int} (h1 : 1 ≤ a) (h2 : a ≤ 10) : ((digF a).length = 1 ∨ (digF a).length = 2) ∧ ((stF (digF a) (digF a).length).2.length = (digF a).length) ∧ (∀ d ∈ (stF (digF a) (digF a).length).2.reverse, d.natAbs < 100) ∧ valD (stF (digF a) (digF a).length).2.reverse = a.fdiv 5 ∧ (stF (digF a) (digF a).length).1 = a.fmod 5 := by
  obtain rfl | rfl | rfl | rfl | rfl | rfl | rfl | rfl | rfl | rfl : a = 1 ∨ a = 2 ∨ a = 3 ∨ a = 4 ∨ a = 5 ∨ a = 6 ∨ a = 7 ∨ a = 8 ∨ a = 9 ∨ a = 10 := by omega
  all_goals decide
end
end Mine

/-! part 25 -/
open PySem PySem.Spec PySem.Calls PyProof.Rows PySem.W
set_option maxRecDepth 100000
set_option Elab.async false
set_option linter.unusedVariables false
namespace Mine
section
variable {prog : Program} {w : World} {A : Around} {s : Shared} {doc pm : Value} {name qual : Str} {an : Option Addr} {cdv ct : Value} {hb : Heap} {f : Addr}

theorem call_append {D : Addr} {ys : Array Value} {v : Value} (t : TI s.heap) (hD : s.heap.PlainList D ys) (hs : ys.size ≤ 1000) :
    wpAny (model prog w) A (call (.builtin "list.append") [.ref D, v]) (fun r s' => r = .none ∧ MvB [D] s s' ∧ s'.heap.PlainList D (ys.push v) ∧ Heap.SameBut D s.heap s'.heap) F0 s :=
  wpAny_list_append_plain hD (fun h' hp sb => ⟨rfl, mvB_list t hD sb, hp, sb⟩) (by rw [sizeLine_eq]; omega)
theorem call_reverse {D : Addr} {ys : Array Value} (t : TI s.heap) (hD : s.heap.PlainList D ys) (hs : ys.size ≤ 1000) :
    wpAny (model prog w) A (call (.builtin "list.reverse") [.ref D]) (fun r s' => r = .none ∧ MvB [D] s s' ∧ s'.heap.PlainList D ys.reverse ∧ Heap.SameBut D s.heap s'.heap) F0 s := by
  obtain ⟨n, ho⟩ := hD
  have q := get?_update_seq (c := "list") ho (fun x : Array Value => x.reverse)
  refine call_meets PySem.F.slot_list_reverse ⟨_, ho, rfl⟩ PySem.F.entry_list_reverse (PySem.F.args_list_reverse_1 _) (PySem.AutoListH.list_reverse_list_0 D ys n (by rw [sizeLine_eq]; omega)) ⟨ho, ?_⟩
  exact ⟨rfl, mvB_list t ⟨n, ho⟩ (Heap.SameBut.update ..), ⟨_, q⟩, Heap.SameBut.update ..⟩

theorem AtG.push {α : Type} {Ra : Rep α} (m : MonoT Ra) {D : Addr} {xs : List α} {x : α} {v : Value} {h h' : Heap} {ys : Array Value} (lt : Lt h h') (hr : All2 (fun v x => Ra x h v) ys.toList xs) (hv : Ra x h v) (hp : h'.PlainList D (ys.push v)) : AtG Ra D (xs ++ [x]) h' := by
  refine ⟨_, hp, ?_⟩
  rw [Array.toList_push]
  exact (hr.mono fun v x q => m x _ _ v lt q).append (.cons (m x _ _ v lt hv) .nil)

/-- for .. in reversed(a list) -/
theorem rev_src {env : Env} {X : List Addr} {ds : List Int} {ef ea : Expr} {pos : Pos} (hA : A.handled = none) (t : TI s.heap)
    (ec : wpAny (model prog w) A (eval (.Call ef [ea] [] pos) env) (fun xv s₁ => Mv s s₁ ∧ ∃ I l ys, xv = .ref I ∧ s₁.heap.IsRevIter I l ((ys.size : Int) - 1) ∧ s₁.heap.IsList l ys ∧ s.heap.get? I = none ∧ l ∉ X ∧ I ≠ l ∧ All2 (fun v x => IntR x s.heap v) ys.toList ds) F0 s) :
    wpAny (model prog w) A (eval (.Call ef [ea] [] pos) env) (fun xv s₁ => wpAny (model prog w) A (pyIter xv) (fun it s₂ => ∃ sb, Mv s sb ∧ Mv sb s₂ ∧ ∃ I fp wr Pv St, it = .ref I ∧ SrcAt prog w A sb.heap s₂.heap ds.length (fun i h v => i < ds.length → ∃ d, ds.reverse[i]? = some d ∧ IntR d h v) I fp wr Pv St ∧ ∀ b ∈ fp, b ∉ wr → b ∉ X) F0 s₁) F0 s := by
  refine wpAny_mono ec (fun xv s₁ h₁ => ?_) fun _ _ q => q
  obtain ⟨m, I, l, ys, rfl, hit, hl, hI, hlX, hne, hr⟩ := h₁
  have hlen := hr.length
  rw [Array.length_toList] at hlen
  refine wpAny_pyIter_revIter hit ⟨s, Mv.refl t, m, I, [I, l], [I], (fun i v => ys[ys.size - 1 - i]? = some v), (fun i h => i ≤ ys.size ∧ h.IsRevIter I l ((ys.size : Int) - 1 - (i : Int)) ∧ h.IsList l ys), rfl, ?_, ?_⟩
  · rw [← hlen]
    refine ⟨Walks.listRev hA I l hne.symm ys, ⟨Nat.zero_le _, by simpa using hit, hl⟩, ?_, ?_, ?_, ?_, ?_⟩
    · intro b hb
      simp only [List.mem_cons, List.not_mem_nil, or_false] at hb
      rcases hb with rfl | rfl
      · obtain ⟨o, e, _⟩ := hit; exact Heap.lt_size e
      · obtain ⟨o, e, _⟩ := hl; exact Heap.lt_size e
    · intro b hb
      simp only [List.mem_cons, List.not_mem_nil, or_false] at hb
      rw [hb]; exact hI
    · rintro i h ⟨_, ⟨o, e, hc, hd⟩, _⟩ b hb
      simp only [List.mem_cons, List.not_mem_nil, or_false] at hb
      subst hb
      exact ⟨o, e, _, hd, by rw [hc]; simp, fun q t => by simp [rawInt]⟩
    · rintro i h ⟨_, _, ⟨o, e, _, n, hd⟩⟩ b hb hb'
      simp only [List.mem_cons, List.not_mem_nil, or_false] at hb hb'
      rcases hb with rfl | rfl
      · exact absurd rfl hb'
      · exact ⟨o, _, n, e, hd⟩
    · intro i v _ e hi
      have hlt := Array.getElem?_eq_some_iff.mp e
      obtain ⟨hlt, _⟩ := hlt
      obtain ⟨d, hd, q⟩ := hr.get (ys.size - 1 - i) v (by rw [Array.getElem?_toList]; exact e)
      refine ⟨d, ?_, q⟩
      rw [List.getElem?_reverse (by omega), ← hlen]
      exact hd
  · intro b hb hw
    simp only [List.mem_cons, List.not_mem_nil, or_false] at hb hw
    rcases hb with rfl | rfl
    · exact absurd rfl hw
    · exact hlX

theorem Fs.xks {env : Env} {X : List Addr} {h : Heap} {σ : Sg} (f : Fs env X h σ) (hcs : ∀ n c, (n, c) ∈ env.cells → env.kindOf n = some .cell ∧ env.cells.lookup n = some c) {p : Addr} (hp : p ∈ fX env) {ys : Array Value} (hl : h.IsList p ys) : False := by
  obtain ⟨o', e', _, n', d'⟩ := hl
  rcases List.mem_cons.mp hp with rfl | hp
  · obtain ⟨m, ⟨o, es, ep, e, hd, _⟩, _⟩ := f.v
    rw [e'] at e; cases e; rw [d'] at hd; cases hd
  · obtain ⟨⟨n, c⟩, hc, rfl⟩ := List.mem_map.mp hp
    obtain ⟨k1, k2⟩ := hcs n c hc
    obtain ⟨v, o, e, hd⟩ := f.cl k1 k2
    rw [e'] at e; cases e; rw [d'] at hd; cases hd

theorem all2_pair {h : Heap} {a b : Int} : ∀ {us : List Value}, All2 (fun v x => IntR x h v) us [a, b] → All2 (fun v (R : HP) => R h v) us [IntR a, IntR b]
  | _, .cons x (.cons y .nil) => .cons x (.cons y .nil)
theorem Fs.give {env : Env} {X : List Addr} {h : Heap} {σ : Sg} {x : Str} {v : Value} {R : HP} (f : Fs env X h σ) (e : σ.lookup x = some (fun _ u => u = v)) (r : R h v) (m : Mn R) : Fs env X h ((x, R) :: σ) := by
  obtain ⟨k, L, c, i, mm, hn, hv⟩ := f
  refine ⟨k, L, c, i, mm, hn, fun y R' e' => ?_⟩
  rw [List.lookup_cons] at e'
  cases hb : y == x with
  | true =>
    rw [hb] at e'
    cases e'
    have := beq_iff_eq.mp hb
    subst this
    obtain ⟨_, u, ru, q⟩ := hv y _ e
    have ru' : u = v := ru
    subst ru'
    exact ⟨m, u, r, q⟩
  | false =>
    rw [hb] at e'
    exact hv y R' e'
theorem stF_len (ds : List Int) (i : Nat) : (stF ds i).2.length ≤ i := by
  induction i with
  | zero => simp [stF]
  | succ i ih =>
    cases h : ds.reverse[i]? with
    | none =>
      have : stF ds (i + 1) = stF ds i := by
        unfold stF
        rw [List.take_add_one, h]
        simp
      rw [this]; omega
    | some d =>
      rw [stF_succ h]
      show ((stF ds i).2 ++ [_]).length ≤ i + 1
      simp; omega
def DpOk (prog : Program) (wd : World) (hb : Heap) (f : Addr) : Prop :=
  ∀ (A : Around) (s : Shared) (vs : List Value) (a : Int), 1 ≤ a → a ≤ 10 → Le hb s.heap → Room A 8 → All2 (fun v (R : HP) => R s.heap v) vs [IntR a, IntR 5] → Do prog wd A s (call (.ref f) vs) (TupI [a.fdiv 5, a.fmod 5])

theorem dp_ok {f1 f2 f3 : Addr} {d1 d2 d3 : FuncData} (D : DefAt hb f (dpFd name qual doc pm an cdv ct)) (fn1 : FnAt hb f1 d1) (k1 : I2dOk prog w hb f1) (g1 : Glo hb "_int2digits" (.ref f1)) (fn2 : FnAt hb f2 d2) (k2 : D2iOk prog w hb f2) (g2 : Glo hb "_digits2int" (.ref f2))
    (fn3 : FnAt hb f3 d3) (k3 : D21Ok prog w hb f3) (g3 : Glo hb "_div2n1n" (.ref f3)) (gr : Glo hb "reversed" (.type "reversed")) : DpOk prog w hb f := by
  intro A s vs a ha1 ha2 l room hv
  obtain ⟨v1, v2, rfl, r1, r2⟩ := all2_two hv
  obtain ⟨e1, e2, e3, e4, e5⟩ := digF_end ha1 ha2
  refine call_d (σ := [("a", IntR a), ("b", IntR 5)]) (binds := [("a", v1), ("b", v2)]) (D.le l) l.t' room rfl (BindsTo.of_eq rfl) rfl ?_ (fun x hx => cells_have _ _ _ x hx) (fun x c hx => by cases hx) ?_ fun s₁ mv F hX hnew => ?_
  · intro y hy
    simp only [List.mem_cons, List.not_mem_nil, or_false] at hy
    rcases hy with rfl | rfl <;> exact .inl rfl
  · exact Bnds.get (.cons (Mn.int _) r1 (.inl ⟨rfl, rfl⟩) (.cons (Mn.int _) r2 (.inl ⟨rfl, rfl⟩) .nil))
  · conv => arg 7; whnf
    have room' := room.deeper (callEnvC (dpFd name qual doc pm an cdv ct) s.heap.objs.size f)
    have hcs : ∀ n c', (n, c') ∈ (callEnvC (dpFd name qual doc pm an cdv ct) s.heap.objs.size f).cells → (callEnvC (dpFd name qual doc pm an cdv ct) s.heap.objs.size f).kindOf n = some .cell ∧ (callEnvC (dpFd name qual doc pm an cdv ct) s.heap.objs.size f).cells.lookup n = some c' := fun n c hx => by cases hx
    refine ru_assign (R := IntR 3) F ((ev_bits (F.ev rfl)).toI (by decide)) mv.le.t' (Mn.int _) (.inl rfl) fun s₂ m₂ F₂ => ?_
    have l₂ := l.trans (((mv.b _).trans m₂).mv hnew).le
    refine ru_assign (R := LstI (digF a)) F₂ (ev_call_d (Rs := [IntR a, IntR 3]) (fn1.le l₂) (ev_glob ⟨rfl, rfl, rfl, rfl⟩ (g1.le l₂)) (evS_cons (F₂.ev rfl) (Mn.int _) (evS_cons (F₂.ev rfl) (Mn.int _) evS_nil)) (fun s' vs l' q => k1 _ s' vs a ha1 ha2 (l₂.trans l') (room'.le (by decide)) q) ⟨_, _, rfl⟩) m₂.le.t' (LstI.mono.mn _) (.inl rfl) fun s₃ m₃ F₃ => ?_
    refine ru_assign (R := IntR 0) F₃ ev_int m₃.le.t' (Mn.int _) (.inl rfl) fun s₄ m₄ F₄ => ?_
    obtain ⟨va, hva, F₄p⟩ := F₄.pick (x := "a_digits") rfl
    obtain ⟨la, ya, rfl, hla, hra⟩ := hva
    refine ru_assign_new (Ra := IntR) (xs := []) IntR.mono F₄p (fun y hy => ?_) ev_nilP m₄.le.t' (.inl rfl) fun s₅ D2 m₅ hDn hDa F₅ => ?_
    · have hm := mem_of_lookup hy
      have : ∀ p ∈ (dScope (sAt 6)).names, p.2 ≠ .free := by decide
      exact this _ hm rfl
    have hnew' : ∀ p ∈ D2 :: fX (callEnvC (dpFd name qual doc pm an cdv ct) s.heap.objs.size f), s.heap.get? p = none := fun p hp => by
      rcases List.mem_cons.mp hp with rfl | hp
      · exact ((((mv.b _).trans m₂).trans (m₃.trans m₄)).mv hnew).le.none1 hDn
      · exact hnew p hp
    have M₅ : MvB (D2 :: fX (callEnvC (dpFd name qual doc pm an cdv ct) s.heap.objs.size f)) s s₅ := (((mv.b _).trans m₂).trans (m₃.trans (m₄.trans m₅))).mono fun p hp => List.mem_cons_of_mem _ hp
    have l₅ := l.trans (M₅.mv hnew').le
    have hX₅ : XK (D2 :: fX (callEnvC (dpFd name qual doc pm an cdv ct) s.heap.objs.size f)) s₅.heap := by
      intro p hp
      rcases List.mem_cons.mp hp with rfl | hp
      · obtain ⟨ys, ⟨n, e⟩, _⟩ := hDa
        exact ⟨_, e, fun vs q => by cases q⟩
      · exact F₅.xk hcs p hp
    have hlX : la ∉ D2 :: fX (callEnvC (dpFd name qual doc pm an cdv ct) s.heap.objs.size f) := fun hp => by
      rcases List.mem_cons.mp hp with rfl | hp
      · obtain ⟨o, e, _⟩ := hla
        rw [hDn] at e; cases e
      · exact F₄.xks hcs hp hla
    have hla5 : s₅.heap.IsList la ya := by
      obtain ⟨o, e, hc, n, hd⟩ := hla
      have nn := m₅.le.t.ne e (fun vs q => by rw [hd] at q; cases q)
      exact ⟨o, m₅.le.k _ _ nn.1 nn.2 (fun q => hlX (List.mem_cons_of_mem _ q)) e, hc, n, hd⟩
    refine ru_for_core (n := (digF a).length) (P := fun i h v => i < (digF a).length → ∃ d, (digF a).reverse[i]? = some d ∧ IntR d h v)
      (Inv := fun i h => Fs (callEnvC (dpFd name qual doc pm an cdv ct) s.heap.objs.size f) (D2 :: fX (callEnvC (dpFd name qual doc pm an cdv ct) s.heap.objs.size f)) h
        [("r", IntR (stF (digF a) i).1), ("q_digits", fun h u => u = .ref D2 ∧ AtG IntR D2 (stF (digF a) i).2 h), ("n", IntR 3), ("b", IntR 5)]) m₅.le.t' hX₅ (rev_src room'.h m₅.le.t' ?_) (fun i h h' ki f => f.ki ki)
      (fun s' m' => (F₅.le m'.le).sub (.cons rfl (fun _ _ q => q) (Mn.int _) (.cons rfl (fun _ _ q => q) (fun h h' v l r => ⟨r.1, r.2.lq IntR.mono l⟩) (.cons rfl (fun _ _ q => q) (Mn.int _) (.cons rfl (fun _ _ q => q) (Mn.int _) .nil))))) (fun i h h' v _ q => q) ?_ ?_
    · refine (?_ : Ev prog w (A.deeper (callEnvC (dpFd name qual doc pm an cdv ct) s.heap.objs.size f)) (callEnvC (dpFd name qual doc pm an cdv ct) s.heap.objs.size f) s₅.heap _ (fun h v => ∃ I l ys, v = .ref I ∧ h.IsRevIter I l ((ys.size : Int) - 1) ∧ h.IsList l ys ∧ s₅.heap.get? I = none ∧ l ∉ D2 :: fX (callEnvC (dpFd name qual doc pm an cdv ct) s.heap.objs.size f) ∧ I ≠ l ∧ All2 (fun v x => IntR x s₅.heap v) ys.toList (digF a))) s₅ (Le.refl m₅.le.t')
      refine ev_call_t (Rs := [fun _ u => u = .ref la]) (ev_glob ⟨rfl, rfl, rfl, rfl⟩ (gr.le l₅)) (evS_cons (F₅.ev rfl) (fun _ _ _ _ q => q) evS_nil) (fun s' vs l' q => ?_) ⟨_, _, rfl⟩ rfl
      obtain ⟨x1, rfl, rfl⟩ := all2_one q
      have hl' := Le.list l'.lq hla5
      have hne : s'.heap.objs.size ≠ la := fun q => by obtain ⟨o, e, _⟩ := hl'; rw [← q, get?_none_size] at e; cases e
      exact call_reversed_list hl' ⟨Mv.of l'.t' (fun b o e => Heap.get?_push_of_some _ e) s'.toks, _, la, ya, rfl, ⟨_, Heap.get?_push_size _ rfl, rfl, rfl⟩, hl'.push _, l'.none (Nat.le_refl _), hlX, hne, hra⟩
    · intro i s₆ v hi m₆ F₆ hp
      obtain ⟨d, hd, hdv⟩ := hp hi
      have hdm : d ∈ digF a := List.mem_reverse.mp (List.mem_of_getElem? hd)
      obtain ⟨hd1, hd2⟩ := digF_mem ha1 ha2 hdm
      obtain ⟨hr1, hr2⟩ := stF_r (digF a) i
      refine wpAny_mono (F₆.put m₆.le.t' (.inl rfl) hdv (Mn.int _)) (fun _ s₇ h₇ => ⟨h₇.1, ?_⟩) fun _ _ q => q
      have F₇ := h₇.2
      have M₇ := (M₅.trans m₆).trans h₇.1
      have l₇ := l.trans (M₇.mv hnew').le
      refine ru_unpack2 (R := TupI [((stF (digF a) i).1 * 8 + d).fdiv 5, ((stF (digF a) i).1 * 8 + d).fmod 5]) (Ra := IntR (((stF (digF a) i).1 * 8 + d).fdiv 5)) (Rb := IntR (((stF (digF a) i).1 * 8 + d).fmod 5)) room'.h F₇
        ?_
        h₇.1.le.t' (fun h v q => ?_) (Mn.int _) (Mn.int _) (.inl rfl) (.inl rfl) fun s₈ m₈ F₈ => ?_
      · exact (ev_call_d (Rs := [IntR ((stF (digF a) i).1 * 8 + d), IntR 5, IntR 3]) (fn3.le l₇) (ev_glob ⟨rfl, rfl, rfl, rfl⟩ (g3.le l₇)) (evS_cons ((ev_add (ev_lsh (F₇.ev rfl) (F₇.ev rfl) (by decide) (by decide) (by omega)) (F₇.ev rfl)).toI (by rfl)) (Mn.int _) (evS_cons (F₇.ev rfl) (Mn.int _) (evS_cons (F₇.ev rfl) (Mn.int _) evS_nil))) (fun s' vs l' q => k3 _ s' vs _ (by omega) (by omega) (l₇.trans l') (room'.le (by decide)) q) ⟨_, _, rfl⟩)
      · obtain ⟨at1, us, rfl, ht, hus⟩ := q
        obtain ⟨u1, u2, hu, q1, q2⟩ := all2_two (R1 := IntR _) (R2 := IntR _) (h := h) (vs := us.toList) (all2_pair hus)
        have hu' : us = #[u1, u2] := by rw [← Array.toArray_toList (xs := us), hu]
        exact ⟨at1, u1, u2, rfl, hu' ▸ ht, q1, q2⟩
      · obtain ⟨v8, ⟨rfl, ys8, hp8, hr8⟩, _⟩ := (F₈.bd (x := "q_digits") rfl).1.2
        have hl8 := hr8.length
        rw [Array.length_toList] at hl8
        refine ru_method (Rs := [IntR (((stF (digF a) i).1 * 8 + d).fdiv 5)]) m₈.le.t' ((F₈.ev rfl).imp fun h v q => q.1) hp8 PySem.F.slot_list_append PySem.F.type_list_append (evS_cons (F₈.ev rfl) (Mn.int _) evS_nil) (fun s₉ vs m₉ q hp9 => ?_) ⟨_, _, rfl⟩ rfl
        obtain ⟨w1, rfl, hw1⟩ := all2_one q
        refine wpAny_mono (call_append m₉.le.t' hp9 (by have := stF_len (digF a) i; omega)) (fun u s₁₀ h₁₀ => ?_) fun _ _ q => q
        obtain ⟨rfl, m₁₀, hp10, sb⟩ := h₁₀
        refine ⟨rfl, m₁₀.mono fun p hp => by simp at hp; simp [hp], ru_nil m₁₀.le.t' ⟨rfl, ?_⟩⟩
        rw [stF_succ hd]
        have F₉ := (F₈.le m₉.le).sub (σ' := [("q_digits", fun _ u => u = .ref D2), ("r", IntR (((stF (digF a) i).1 * 8 + d).fmod 5)), ("n", IntR 3), ("b", IntR 5)])
          (.cons rfl (fun _ _ q => q.1) (fun _ _ _ _ q => q) (.cons rfl (fun _ _ q => q) (Mn.int _) (.cons rfl (fun _ _ q => q) (Mn.int _) (.cons rfl (fun _ _ q => q) (Mn.int _) .nil))))
        have F₁₀ := F₉.leD hp9.isList (List.mem_cons_self) m₁₀.le (AllC.cons (Cst.is _) (.cons (Cst.int _) (.cons (Cst.int _) (.cons (Cst.int _) .nil)))).get
        have at10 : AtG IntR D2 ((stF (digF a) i).2 ++ [((stF (digF a) i).1 * 8 + d).fdiv 5]) s₁₀.heap := AtG.push IntR.monoT m₁₀.le.lt (hr8.mono fun v x q => IntR.mono x _ _ v m₉.le.lq q) hw1 hp10
        exact (F₁₀.give (x := "q_digits") (R := fun h u => u = .ref D2 ∧ AtG IntR D2 ((stF (digF a) i).2 ++ [((stF (digF a) i).1 * 8 + d).fdiv 5]) h) rfl ⟨rfl, at10⟩ (fun h h' v l r => ⟨r.1, r.2.lq IntR.mono l⟩)).sub
          (.cons rfl (fun _ _ q => q) (Mn.int _) (.cons rfl (fun _ _ q => q) (fun h h' v l r => ⟨r.1, r.2.lq IntR.mono l⟩) (.cons rfl (fun _ _ q => q) (Mn.int _) (.cons rfl (fun _ _ q => q) (Mn.int _) .nil))))
    · intro s₆ m₆ F₆
      have M₆ := M₅.trans m₆
      obtain ⟨v6, ⟨rfl, ys6, hp6, hr6⟩, _⟩ := (F₆.bd (x := "q_digits") rfl).1.2
      have hl6 := hr6.length
      rw [Array.length_toList] at hl6
      refine ru_method0 m₆.le.t' ((F₆.ev rfl).imp fun h v q => q.1) hp6 PySem.F.slot_list_reverse PySem.F.type_list_reverse (fun s₇ m₇ hp7 => ?_)
      refine wpAny_mono (call_reverse m₇.le.t' hp7 (by omega)) (fun u s₈ h₈ => ?_) fun _ _ q => q
      obtain ⟨rfl, m₈, hp8, sb⟩ := h₈
      have m₈' : MvB (D2 :: fX (callEnvC (dpFd name qual doc pm an cdv ct) s.heap.objs.size f)) s₇ s₈ := m₈.mono fun p hp => by simp at hp; simp [hp]
      refine ⟨rfl, m₈', ?_⟩
      have F₇ := (F₆.le m₇.le).sub (σ' := [("q_digits", fun _ u => u = .ref D2), ("r", IntR (stF (digF a) (digF a).length).1), ("n", IntR 3)])
          (.cons rfl (fun _ _ q => q.1) (fun _ _ _ _ q => q) (.cons rfl (fun _ _ q => q) (Mn.int _) (.cons rfl (fun _ _ q => q) (Mn.int _) .nil)))
      have F₈ := F₇.leD hp7.isList (List.mem_cons_self) m₈.le (AllC.cons (Cst.is _) (.cons (Cst.int _) (.cons (Cst.int _) .nil))).get
      have at8 : LstI (stF (digF a) (digF a).length).2.reverse s₈.heap (.ref D2) := by
        refine ⟨D2, _, rfl, hp8.isList, ?_⟩
        rw [Array.toList_reverse]
        exact (hr6.mono fun v x q => q).reverse
      have l₈ := l.trans ((M₆.trans ((m₇.b _).trans m₈')).mv hnew').le
      refine ru_assign (R := IntR (a.fdiv 5)) F₈ (e4 ▸ ev_call_d (Rs := [LstI (stF (digF a) (digF a).length).2.reverse, IntR 3]) (fn2.le l₈) (ev_glob ⟨rfl, rfl, rfl, rfl⟩ (g2.le l₈)) (evS_cons ((F₈.ev rfl).val (LstI.mono.mn _) at8) (LstI.mono.mn _) (evS_cons (F₈.ev rfl) (Mn.int _) evS_nil)) (fun s' vs l' q => k2 _ s' vs _ (by rw [List.length_reverse, e2]; exact e1) e3 (l₈.trans l') (room'.le (by decide)) q) ⟨_, _, rfl⟩) m₈.le.t' (Mn.int _) (.inl rfl) fun s₉ m₉ F₉ => ?_
      refine ru_ret (R := TupI [a.fdiv 5, a.fmod 5]) m₉.le.t' (ev_tuple (xs := [a.fdiv 5, a.fmod 5]) IntR.mono (evS_cons (F₉.ev rfl) (Mn.int _) (evS_cons ((F₉.ev rfl).toI e5) (Mn.int _) evS_nil)) (by simp [sizeLine_eq])) fun s₁₀ v m₁₀ r => r
end
end Mine

/-! part 26 -/
open PySem PySem.Spec PySem.Calls PyProof.Rows PySem.W
set_option maxRecDepth 100000
set_option Elab.async false
set_option linter.unusedVariables false
namespace Mine
abbrev leavFd (name qual : Str) (doc pm : Value) (an : Option Addr) (cdv ct : Value) : FuncData := fnOf name qual (dArgs (sAt 13)) (dBody (sAt 13)) (dScope (sAt 13)) .none .none doc pm an cdv ct
section
variable {prog : Program} {w : World} {A : Around} {s : Shared} {doc pm : Value} {name qual : Str} {an : Option Addr} {cdv ct : Value} {hb : Heap} {f a : Addr}

def IdOk (prog : Program) (wd : World) (hb : Heap) (f : Addr) : Prop :=
  ∀ (A : Around) (s : Shared) (vs : List Value) (a : Int), 1 ≤ a → a ≤ 10 → Le hb s.heap → Room A 10 → All2 (fun v (R : HP) => R s.heap v) vs [IntR a, IntR 5] → Do prog wd A s (call (.ref f) vs) (TupI [a.fdiv 5, a.fmod 5])
theorem id_ok {f1 : Addr} {d1 : FuncData} (D : DefAt hb f (idFd name qual doc pm an cdv ct)) (fn1 : FnAt hb f1 d1) (k1 : DpOk prog w hb f1) (g1 : Glo hb "_divmod_pos" (.ref f1)) : IdOk prog w hb f := by
  intro A s vs a ha1 ha2 l room hv
  obtain ⟨v1, v2, rfl, r1, r2⟩ := all2_two hv
  refine call_d (σ := [("a", IntR a), ("b", IntR 5)]) (binds := [("a", v1), ("b", v2)]) (D.le l) l.t' room rfl (BindsTo.of_eq rfl) rfl ?_ (fun x hx => cells_have _ _ _ x hx) (fun x c hx => by cases hx) ?_ fun s₁ mv F hX hnew => ?_
  · intro y hy
    simp only [List.mem_cons, List.not_mem_nil, or_false] at hy
    rcases hy with rfl | rfl <;> exact .inl rfl
  · exact Bnds.get (.cons (Mn.int _) r1 (.inl ⟨rfl, rfl⟩) (.cons (Mn.int _) r2 (.inl ⟨rfl, rfl⟩) .nil))
  · conv => arg 7; whnf
    have room' := room.deeper (callEnvC (idFd name qual doc pm an cdv ct) s.heap.objs.size f)
    refine ru_if mv.le.t' (evT_eq (F.ev rfl) ev_int) fun s₂ m₂ => ?_
    rw [if_neg (by decide)]
    have F₂ := F.le m₂.le
    refine ru_if m₂.le.t' (evT_lt (F₂.ev rfl) ev_int) fun s₃ m₃ => ?_
    rw [if_neg (by decide)]
    have F₃ := F₂.le m₃.le
    refine ru_if m₃.le.t' (evT_lt (F₃.ev rfl) ev_int) fun s₄ m₄ => ?_
    rw [if_neg (by rw [decide_eq_true_eq]; omega)]
    have F₄ := F₃.le m₄.le
    have l₄ := l.trans (mv.trans (m₂.trans (m₃.trans m₄))).le
    exact ru_ret (R := TupI [a.fdiv 5, a.fmod 5]) m₄.le.t' (ev_call_d (Rs := [IntR a, IntR 5]) (fn1.le l₄) (ev_glob ⟨rfl, rfl, rfl, rfl⟩ (g1.le l₄)) (evS_cons (F₄.ev rfl) (Mn.int _) (evS_cons (F₄.ev rfl) (Mn.int _) evS_nil)) (fun s' vs l' q => k1 _ s' vs a ha1 ha2 (l₄.trans l') (room'.le (by decide)) q) ⟨_, _, rfl⟩) fun s₅ v m₅ r => r

/-- which numbers leave such rests -/
def okR (rests : List Int) (n : Nat) : Bool := rests.any fun y => decide (y = ((n : Int)).fmod 5)
def LeavOk (prog : Program) (wd : World) (hb : Heap) (a : Addr) (n : Nat) : Prop :=
  ∀ (k : Nat) (most : Int) (rests : List Int) (A : Around) (s : Shared) (vs : List Value), k ≤ n → k ≤ 10 → -100 ≤ most → most ≤ 100 → rests.length ≤ 10 → Le hb s.heap → Room A (3 * n + 14) → All2 (fun v (R : HP) => R s.heap v) vs [IntR k, IntR most, LstI rests] →
    Do prog wd A s (call (.ref a) vs) (New s.heap (LstT (genF (okR rests) 0 n k most)))

theorem leav_step {f1 : Addr} {d1 : FuncData} (D : DefAt hb a (leavFd name qual doc pm an cdv ct)) (gm : Glo hb "min" (.builtin "min")) (gr : Glo hb "range" (.type "range")) (gs : Glo hb "_law_leaves" (.ref a))
    (fn1 : FnAt hb f1 d1) (k1 : IdOk prog w hb f1) (g1 : Glo hb "int_divmod" (.ref f1)) (n : Nat)
    (ih : ∀ j, n = j + 1 → LeavOk prog w hb a j) : LeavOk prog w hb a n := by
  intro k most rests A s vs hkn hk20 hm1 hm2 hrl l room hv
  obtain ⟨v1, v2, v3, rfl, r1, r2, r3⟩ := all2_three hv
  refine call_d (σ := [("whole", IntR k), ("most", IntR most), ("rests", LstI rests)]) (binds := [("whole", v1), ("most", v2), ("rests", v3)]) (D.le l) l.t' room rfl (BindsTo.of_eq rfl) rfl ?_ ?_ ?_ ?_ fun s₁ mv F hX hnew => ?_
  · intro x hx
    simp only [List.mem_cons, List.not_mem_nil, or_false] at hx
    rcases hx with rfl | rfl | rfl <;> exact .inl rfl
  · exact fun x hx => cells_have _ _ _ x hx
  · intro x c hx
    have hx' : (x, c) ∈ [(("first" : Str), s.heap.objs.size + 1)] := hx
    simp only [List.mem_cons, List.not_mem_nil, or_false, Prod.mk.injEq] at hx'
    obtain ⟨rfl, rfl⟩ := hx'
    rfl
  · exact Bnds.get (.cons (Mn.int _) r1 (.inl ⟨rfl, rfl⟩) (.cons (Mn.int _) r2 (.inl ⟨rfl, rfl⟩) (.cons (LstI.mono.mn _) r3 (.inl ⟨rfl, rfl⟩) .nil)))
  · conv => arg 7; whnf
    refine ru_if mv.le.t' (evT_eq (F.ev rfl) ev_int) fun s₂ m₂ => ?_
    by_cases h0 : k = 0
    · subst h0
      rw [if_pos (by simp)]
      refine ru_ret (R := New s₂.heap (LstT [[]])) m₂.le.t' (ev_listN (xs := [[]]) TupI.mono (evS_cons (ev_tuple (xs := []) IntR.mono evS_nil (by simp)) (TupI.mono.mn _) evS_nil) (by simp [sizeLine_eq])) fun s₃ v m₃ r => ?_
      rw [genF_zero]
      exact r.old (mv.le.trans m₂.le)
    · rw [if_neg (by simp; omega)]
      obtain ⟨j, rfl⟩ : ∃ j, n = j + 1 := ⟨n - 1, by omega⟩
      have IH := ih j rfl
      have M2 := mv.trans m₂
      have hcs : ∀ n c, (n, c) ∈ (callEnvC (leavFd name qual doc pm an cdv ct) s.heap.objs.size a).cells → (callEnvC (leavFd name qual doc pm an cdv ct) s.heap.objs.size a).kindOf n = some .cell ∧ (callEnvC (leavFd name qual doc pm an cdv ct) s.heap.objs.size a).cells.lookup n = some c := by
        intro x c hx
        have hx' : (x, c) ∈ [(("first" : Str), s.heap.objs.size + 1)] := hx
        simp only [List.mem_cons, List.not_mem_nil, or_false, Prod.mk.injEq] at hx'
        obtain ⟨rfl, rfl⟩ := hx'
        exact ⟨rfl, rfl⟩
      refine ru_nil m₂.le.t' ?_
      refine ru_assign (R := New s.heap (LstT (accF (okR rests) 0 j k 0))) (F.le m₂.le) ((ev_listN (Ra := TupI) (xs := []) TupI.mono evS_nil (by simp)).imp fun h v r => r.old M2.le) m₂.le.t' ((LstT.mono.mn _).new) (.inl rfl) fun s₃ m₃ F₃ => ?_
      have B3 := (M2.b _).trans m₃
      have M3 := B3.mv hnew
      refine ru_for (n := (min (k : Int) most).toNat) (P := fun i => IntR ((1 + i : Nat) : Int)) (Rit := RngR 1 (min (k : Int) most + 1))
        (Inv := fun i h => Fs (callEnvC (leavFd name qual doc pm an cdv ct) s.heap.objs.size a) (fX (callEnvC (leavFd name qual doc pm an cdv ct) s.heap.objs.size a)) h [("found", New s.heap (LstT (accF (okR rests) 0 j k i))), ("whole", IntR k), ("most", IntR most), ("rests", LstI rests)])
        M3.le.t' (F₃.xk hcs) (ev_call_t (Rs := [IntR 1, IntR (min (k : Int) most + 1)]) (ev_glob ⟨rfl, rfl, rfl, rfl⟩ (gr.le (l.trans M3.le))) (evS_cons ev_int (Mn.int _) (evS_cons (ev_add (ev_call_b (Rs := [IntR k, IntR most]) (ev_glob ⟨rfl, rfl, rfl, rfl⟩ (gm.le (l.trans M3.le))) (evS_cons (F₃.ev rfl) (Mn.int _) (evS_cons (F₃.ev rfl) (Mn.int _) evS_nil)) (fun s' vs l' q => do_min room.h l'.t' q) ⟨_, _, rfl⟩ rfl) ev_int) (Mn.int _) evS_nil)) (fun s' vs l' q => do_range2 l'.t' q) ⟨_, _, rfl⟩ rfl)
        (fun s' v l' r => src_range1 room.h l'.t' r (by omega) (by omega)) (fun s' v l' r => rng_nX (F₃.xk hcs) l' r) (fun i h h' ki f => f.ki ki) (fun s' m' => (F₃.le m'.le).sub (.cons rfl (fun _ _ q => q) ((LstT.mono.mn _).new) (.cons rfl (fun _ _ q => q) (Mn.int _) (.cons rfl (fun _ _ q => q) (Mn.int _) (.cons rfl (fun _ _ q => q) (LstI.mono.mn _) .nil))))) (fun i h h' v _ q => q) ?_ ?_
      · intro i s₄ v hi m₄ F₄ r
        have hik : i < k := by omega
        refine wpAny_mono (F₄.put m₄.le.t' (.inr rfl) r (Mn.int _)) (fun _ s₅ h₅ => ⟨h₅.1, ?_⟩) fun _ _ q => q
        have F₅ := h₅.2
        have M5 := ((B3.trans m₄).trans h₅.1).mv hnew
        have room' := room.deeper (callEnvC (leavFd name qual doc pm an cdv ct) s.heap.objs.size a)
        refine ru_if M5.le.t' (c := okR rests (1 + i)) (evT_inL encInt (by decide) (by have := room'.u; omega) (ev_itemT (i := 1) (j := 1) IntR.mono (ev_call_d (Rs := [IntR ((1 + i : Nat) : Int), IntR 5]) (fn1.le (l.trans M5.le)) (ev_glob ⟨rfl, rfl, rfl, rfl⟩ (g1.le (l.trans M5.le))) (evS_cons (F₅.ev rfl) (Mn.int _) (evS_cons ev_int (Mn.int _) evS_nil))
          (fun s' vs l' q => k1 _ s' vs _ (by omega) (by omega) ((l.trans M5.le).trans l') (room'.le (by omega)) q) ⟨_, _, rfl⟩) ev_int (by decide) (by decide) rfl rfl) (F₅.ev rfl) IntR.mono rfl) fun s₆ m₆ => ?_
        have F₆ := F₅.le m₆.le
        have M6 := M5.trans m₆
        by_cases hok : okR rests (1 + i) = true
        · rw [if_pos hok]
          have hsz : (genF (okR rests) 0 j (k - (1 + i)) (((1 + i : Nat) : Int) - 0)).length ≤ 2 ^ 20 := Nat.le_trans (genF_len _ _ _ _ _) (Nat.pow_le_pow_right (by decide) (by omega))
          refine ru_assign (R := New s.heap (LstT (accF (okR rests) 0 j k (i + 1)))) F₆ (Ev.imp (ev_bin (R1 := LstT (accF (okR rests) 0 j k i)) (R2 := LstT (((genF (okR rests) 0 j (k - (1 + i)) (((1 + i : Nat) : Int) - 0)).filter (fun _ => true)).map fun r => ((1 + i : Nat) : Int) :: r)) (R := New s.heap (LstT (accF (okR rests) 0 j k i ++ ((genF (okR rests) 0 j (k - (1 + i)) (((1 + i : Nat) : Int) - 0)).filter (fun _ => true)).map fun r => ((1 + i : Nat) : Int) :: r)))
            ((F₆.ev rfl).imp fun h v q => q.1) (ev_comp (Ra := TupI) (xs := genF (okR rests) 0 j (k - (1 + i)) (((1 + i : Nat) : Int) - 0)) (p := fun _ => true) (f := fun r => ((1 + i : Nat) : Int) :: r) (cl := [("first", s.heap.objs.size + 1)]) (Rit := LstT (genF (okR rests) 0 j (k - (1 + i)) (((1 + i : Nat) : Int) - 0))) rfl rfl (by decide) (.inl rfl) ?_ ?_ (fun s' v l' r => src_list room.h l'.t' r) TupI.monoT TupI.mono (Nat.le_trans hsz (by decide)) (fun _ _ _ _ _ _ _ _ => evI_nil) ?_) (LstT.mono.mn _) ?_) ?_) M6.le.t' ((LstT.mono.mn _).new) (.inl rfl) fun s₇ m₇ F₇ => ru_nil m₇.le.t' (ru_nil m₇.le.t' ⟨rfl, F₇.sub (.cons rfl (fun _ _ q => q) ((LstT.mono.mn _).new) (.cons rfl (fun _ _ q => q) (Mn.int _) (.cons rfl (fun _ _ q => q) (Mn.int _) (.cons rfl (fun _ _ q => q) (LstI.mono.mn _) .nil))))⟩)
          · intro y c hm
            simp only [List.mem_cons, List.not_mem_nil, or_false, Prod.mk.injEq] at hm
            obtain ⟨rfl, rfl⟩ := hm
            exact F₆.cl (y := "first") rfl rfl
          · refine ev_call_d (Rs := [IntR ((k - (1 + i) : Nat) : Int), IntR ((1 + i : Nat) : Int), LstI rests]) (D.fn.le (l.trans M6.le)) (ev_glob ⟨rfl, rfl, rfl, rfl⟩ (gs.le (l.trans M6.le)))
              (evS_cons ((ev_sub (F₆.ev rfl) (F₆.ev rfl)).imp ?_) (Mn.int _) (evS_cons (F₆.ev rfl) (Mn.int _) (evS_cons (F₆.ev rfl) (LstI.mono.mn _) evS_nil))) (fun s' vs l' q => (IH _ _ rests _ s' vs ?_ ?_ ?_ ?_ hrl ((l.trans M6.le).trans l') (room'.le (by omega)) q).imp fun h v q => ?_) ⟨_, _, rfl⟩ rfl
            · intro h v q
              rw [show ((k - (1 + i) : Nat) : Int) = (k : Int) - ((1 + i : Nat) : Int) by omega]
              exact q
            · omega
            · omega
            · omega
            · omega
            · rw [Int.sub_zero]; exact q.1
          · intro r hr _ C h u l' hru hbd
            have hrl := genF_row _ _ _ _ _ r hr
            refine ev_bin (R1 := TupI [((1 + i : Nat) : Int)]) (ev_tuple (xs := [((1 + i : Nat) : Int)]) IntR.mono (evS_cons (ev_name (F₆.le l' |>.up rfl (.inl rfl) rfl (.inl rfl) rfl rfl) (Mn.int _)) (Mn.int _) evS_nil) (by simp [sizeLine_eq])) (ev_name (hbd.bd rfl hru) (TupI.mono.mn r)) (TupI.mono.mn _) (fun s' x y l' hx hy => do_add_tuples IntR.mono l'.t' hx hy (by simp [sizeLine_eq]; omega))
          · intro s' x y l' hx hy
            refine (do_add_lists TupI.mono l'.t' hx hy ?_).imp fun h v q => q.old (M6.le.trans l')
            have h1 : (accF (okR rests) 0 j k i).length ≤ 2 ^ 20 := Nat.le_trans (accF_len (by omega)) (Nat.pow_le_pow_right (by decide) (by omega))
            have h2 : (((genF (okR rests) 0 j (k - (1 + i)) (((1 + i : Nat) : Int) - 0)).filter (fun _ => true)).map fun r => ((1 + i : Nat) : Int) :: r).length ≤ 2 ^ 20 := by
              rw [List.length_map]
              exact Nat.le_trans (List.length_filter_le _ _) hsz
            rw [sizeLine_eq]
            omega
          · intro h v q
            rw [accF_succ, if_pos hok]
            rwa [filter_tt] at q
        · rw [if_neg hok]
          refine ru_nil m₆.le.t' (ru_nil m₆.le.t' ⟨rfl, F₆.sub (.cons rfl (fun _ _ q => by rw [accF_succ, if_neg hok, List.append_nil]; exact q) ((LstT.mono.mn _).new) (.cons rfl (fun _ _ q => q) (Mn.int _) (.cons rfl (fun _ _ q => q) (Mn.int _) (.cons rfl (fun _ _ q => q) (LstI.mono.mn _) .nil))))⟩)
      · intro s₄ m₄ F₄
        refine ru_ret (R := New s.heap (LstT (accF (okR rests) 0 j k (min (k : Int) most).toNat))) m₄.le.t' (F₄.ev rfl) fun s₅ v m₅ r => ?_
        rw [genF_succ h0]
        exact r
theorem leav_ok {f1 : Addr} {d1 : FuncData} (D : DefAt hb a (leavFd name qual doc pm an cdv ct)) (gm : Glo hb "min" (.builtin "min")) (gr : Glo hb "range" (.type "range")) (gs : Glo hb "_law_leaves" (.ref a))
    (fn1 : FnAt hb f1 d1) (k1 : IdOk prog w hb f1) (g1 : Glo hb "int_divmod" (.ref f1)) : ∀ n, LeavOk prog w hb a n
  | 0 => leav_step D gm gr gs fn1 k1 g1 0 fun j e => by cases e
  | n + 1 => leav_step D gm gr gs fn1 k1 g1 (n + 1) fun j e => by cases e; exact leav_ok D gm gr gs fn1 k1 g1 n
end
end Mine

/-! part 27 -/
open PySem PySem.Spec PySem.Calls PyProof.Rows PySem.W
set_option maxRecDepth 100000
set_option Elab.async false
set_option linter.unusedVariables false
namespace Mine

/-! the plain law -/
def rangeI (a b : Int) : List Int := (List.range (b - a).toNat).map fun i : Nat => a + (i : Int)
def ordF (lots : List (List Int)) : List (List Int) := lots.foldl insF []
def lotsF (w : Nat) : List (List (List Int)) := [genF (fun _ => true) 2 w w w, genF (okR [1, 4]) 0 w w w, genF (okR [2, 3]) 0 w w w]
def notIn1 (lot : List Int) : Bool := !lot.any fun y => decide (y = 1)
def lessF (many : Nat) (lot : List Int) : List Int := (rangeI 0 many).map fun k => lot.getD k.toNat 0 - 2 * ((many : Int) - 1 - k) - 1
def mineF (many : Nat) (apart : List (List Int)) : List (List Int) := apart.filter fun lot => ((lot.length : Int) == (many : Int))
def badL (lot : List Int) : Bool := (!decide (lot = (srtI lot).reverse)) || ((!decide (lot = [])) && decide (lot.getLastD 0 < 0))
def posF (lot : List Int) : List Int := lot.filter fun n => decide (0 < n)
def dueF (w many : Nat) : List (List Int) := if ((w : Int) - (many : Int) * many) ≥ 0 then (genF (fun _ => true) 0 (w - many * many) (w - many * many) ((w : Int) - (many : Int) * many)).filter fun lot => decide ((lot.length : Int) ≤ (many : Int)) else []

def smallB (lots : List (List Int)) : Bool := decide (lots.length < 64) && (decide (lots.length < 2) || lots.all fun x => !x.isEmpty) && lots.all fun x => decide (x.length ≤ 20)
def lotB (lots : List (List Int)) : Bool :=
  smallB lots && decide (ordF lots = srtF lots) &&
  ((rangeI 1 (ordF lots).length).filter fun k => decide ((ordF lots).getD (k - 1).toNat [] = (ordF lots).getD k.toNat [])).isEmpty &&
  (lots.filter fun lot => !decide ((ordF lots).getD (min (bisF (ordF lots) lot (ordF lots).length 0 (ordF lots).length) ((ordF lots).length - 1)) [] = lot)).isEmpty
def manyB (w many : Nat) (apart : List (List Int)) : Bool :=
  (((mineF many apart).map (lessF many)).filter badL).isEmpty &&
  smallB (((mineF many apart).map (lessF many)).map posF) && smallB (dueF w many) &&
  decide (srtF (((mineF many apart).map (lessF many)).map posF) = srtF (dueF w many))
def pairB (w : Nat) : Bool :=
  decide ((ordF (genF (fun _ => true) 2 w w w)).length = (ordF (genF (okR [1, 4]) 0 w w w)).length) &&
  decide (((ordF (genF (fun _ => true) 2 w w w)).filter notIn1).length = (ordF (genF (okR [2, 3]) 0 w w w)).length)
theorem plain0 : ∀ w : Fin 11, (lotsF w).all lotB = true := by decide +kernel
theorem plain1 : ∀ w : Fin 11, pairB w = true := by decide +kernel
theorem plain2 : ∀ (w : Fin 11) (m : Fin 5), manyB w m (ordF (genF (fun _ => true) 2 w w w)) = true := by decide +kernel
theorem plain3 : ∀ w : Fin 11, smallB (ordF (genF (fun _ => true) 2 w w w)) = true := by decide +kernel
end Mine

/-! part 28 -/
open PySem PySem.Spec PySem.Calls PyProof.Rows PySem.W
set_option maxRecDepth 100000
set_option Elab.async false
set_option linter.unusedVariables false
namespace Mine
section
variable {prog : Program} {w : World} {A : Around} {env : Env} {h₀ h h' : Heap} {s : Shared} {R R1 R2 : HP} {x y z : Str} {X : List Addr} {σ : Sg} {v : Value} {rest : List Stmt} {Q : Flow → Shared → Prop} {l r : Expr} {pos : Pos}

theorem do_sum {ns : List Int} {vs : List Value} (hh : A.handled = none) (t : TI s.heap) (q : All2 (fun v (R : HP) => R s.heap v) vs [LstI ns]) : Do prog w A s (call (.builtin "sum") vs) (IntR ns.sum) := by
  obtain ⟨v, rfl, a, us, rfl, hl, hr⟩ := all2_one q
  have hi : IntsAre us.toList ns := intsAre_of hr
  obtain ⟨xs, hx⟩ := hi.allInts.items
  have hx' : us = intItems xs := by simpa using hx
  have hl' : s.heap.IsList a (intItems xs) := hx' ▸ hl
  refine sum_intListG hh hl' fun h' tk t' hk => ?_
  have e1 : ns = xs.toList.map (·.1) := by
    rw [← nums_intItems, ← hx]
    exact (show numsOf us.toList.toArray.toList = ns from hi.numsOf).symm
  have e2 : preSum (numAt xs) xs.size = ns.sum := by
    rw [preSum_eq, List.take_of_length_le (by simp), e1]
  rw [e2]
  exact ⟨Mv.of t hk tk, t', rfl⟩

/-- x, y = (.., []): the stores the other way round -/
theorem ru_swap_new {α : Type} {Ra : Rep α} {i : Int} {px py tp pos vp lp : Pos} {k k' : Nat} {e1 : Expr} (hA : A.handled = none) (ma : Mono Ra) (F : Fs env X s.heap σ) (hfree : ∀ x, env.kindOf x ≠ some .free) (t : TI s.heap) (ev1 : Ev prog w A env s.heap e1 (IntR i))
    (hx : env.kindOf x = some .local ∨ env.kindOf x = some .cell) (hy : env.kindOf y = some .local ∨ env.kindOf y = some .cell)
    (hX : ∀ p ∈ X, ∃ o, s.heap.get? p = some o)
    (kk : ∀ s' D, MvB X s s' → s.heap.get? D = none → Fs env (D :: X) s'.heap ((x, IntR i) :: (y, fun h u => u = .ref D ∧ AtG Ra D [] h) :: σ) → Ru prog w A env (D :: X) s' rest Q)
    (hs : swapsWithSole [.Tuple [.Name x px, .Name y py] k tp] (.Tuple [e1, .List [] lp] k' vp) pos.line env = pure false := by rfl)
    (hw : swappedStores [.Tuple [.Name x px, .Name y py] k tp] (.Tuple [e1, .List [] lp] k' vp) env = pure (some [x, y]) := by rfl)
    (he : starEach [e1, .List [] lp] env = (false, eval e1 env) :: starEach [.List [] lp] env := by rfl) (he2 : starEach [.List [] lp] env = (false, eval (.List [] lp) env) :: starEach [] env := by rfl) :
    Ru prog w A env X s (.Assign [.Tuple [.Name x px, .Name y py] k tp] (.Tuple [e1, .List [] lp] k' vp) pos :: rest) Q := by
  refine wpAny_execs_cons (Assign_Tuple_swapped (names := [x, y]) (Tuple_ ?_) hs hw)
  have bt : backTo vp (starEach [e1, .List [] lp] env) = (false, eval e1 env) :: backTo vp (starEach [.List [] lp] env) := by rw [he]; rfl
  have bt2 : backTo vp (starEach [.List [] lp] env) = (false, eval (.List [] lp) env) :: backTo vp (starEach [] env) := by rw [he2]; rfl
  rw [bt]
  refine spliced_cons (wpAny_mono (ev1 s (Le.refl t)) (fun v1 s₁ h₁ => ?_) fun _ _ q => q)
  obtain ⟨m1, t1, rfl⟩ := h₁
  rw [bt2]
  refine spliced_cons (wpAny_mono ((ev_nilP (Ra := Ra) (h₀ := s₁.heap)) s₁ (Le.refl m1.le.t')) (fun v2 s₂ h₂ => spliced_nil ?_) fun _ _ q => q)
  obtain ⟨m2, ⟨D, rfl, hD⟩, hn⟩ := h₂
  refine wpAny_newTuple ?_ (by simp [sizeLine_eq])
  have ht : IsTup (s₂.heap.push { cls := .type "tuple", data := .seq [Value.int i t1, .ref D].toArray }) s₂.heap.objs.size #[Value.int i t1, .ref D] := ⟨_, Heap.get?_push_size _ rfl, rfl, _, rfl⟩
  show wpAny _ A (unpackItems (.ref s₂.heap.objs.size) (#[Value.int i t1, .ref D] : Array Value).size none) _ _ _
  refine unpackItems_tuple (s := { s₂ with heap := s₂.heap.push { cls := .type "tuple", data := .seq [Value.int i t1, .ref D].toArray } }) hA ht fun h' he => ?_
  have k2 : ∀ b o, s₂.heap.get? b = some o → h'.get? b = some o := fun b o e => he b o (Nat.ne_of_lt (by rw [Heap.size_push]; exact Nat.lt_succ_of_lt (Heap.lt_size e))) (Heap.get?_push_of_some _ e)
  have m3 : Mv s₂ { s₂ with heap := h' } := Mv.of m2.le.t' k2 s₂.toks
  have M := (m1.trans m2).trans m3
  have hDn : s.heap.get? D = none := m1.le.none1 (hn D rfl)
  have hR : Mn (fun h u => u = .ref D ∧ AtG Ra D [] h) := fun h h' v l r => ⟨r.1, r.2.lq ma l⟩
  show wpAny _ A (assignInOrder [fun v => bindName env y v, fun v => bindName env x v] [.ref D, .int i t1]) _ _ _
  refine assignInOrder_cons (bindName_ (wpAny_mono ((F.le M.le).put (R := fun h u => u = .ref D ∧ AtG Ra D [] h) M.le.t' hy ⟨rfl, hD.lq ma m3.le.lq⟩ hR) (fun _ s₄ h₄ => ?_) fun _ _ q => q))
  refine assignInOrder_cons (bindName_ (wpAny_mono (h₄.2.put (R := IntR i) h₄.1.le.t' hx ⟨t1, rfl⟩ (Mn.int i)) (fun _ s₅ h₅ => assignInOrder_nil ?_) fun _ _ q => q))
  have mm := ((M.b X).trans h₄.1).trans h₅.1
  refine wpAny_mono (kk s₅ D mm hDn (h₅.2.more (fun p hp => List.mem_cons_of_mem _ hp) hfree)) (fun f s₆ h₆ => ⟨((mm.mono fun p hp => List.mem_cons_of_mem _ hp).trans h₆.1).drop fun p hp => ?_, h₆.2⟩) fun _ _ q => q
  rcases List.mem_cons.mp hp with rfl | hp
  · exact .inr hDn
  · exact .inl hp

/-- x, y, z = a list of three -/
theorem ru_unpack3 {R3 : HP} {O : Addr} {u1 u2 u3 : Value} {px py pz tp pos : Pos} {k : Nat} {val : Expr} (hA : A.handled = none) (F : Fs env X s.heap σ) (t : TI s.heap) (e : Ev prog w A env s.heap val (fun _ u => u = .ref O))
    (hO : s.heap.IsList O #[u1, u2, u3]) (r1 : R1 s.heap u1) (r2 : R2 s.heap u2) (r3 : R3 s.heap u3) (m1 : Mn R1) (m2 : Mn R2) (m3 : Mn R3)
    (hx : env.kindOf x = some .local ∨ env.kindOf x = some .cell) (hy : env.kindOf y = some .local ∨ env.kindOf y = some .cell) (hz : env.kindOf z = some .local ∨ env.kindOf z = some .cell)
    (kk : ∀ s', MvB X s s' → Fs env X s'.heap ((z, R3) :: (y, R2) :: (x, R1) :: σ) → Ru prog w A env X s' rest Q)
    (hs : swapsWithSole [.Tuple [.Name x px, .Name y py, .Name z pz] k tp] val pos.line env = pure false := by rfl)
    (hw : swappedStores [.Tuple [.Name x px, .Name y py, .Name z pz] k tp] val env = pure none := by rfl) :
    Ru prog w A env X s (.Assign [.Tuple [.Name x px, .Name y py, .Name z pz] k tp] val pos :: rest) Q := by
  refine wpAny_execs_cons (Assign_Tuple (wpAny_mono (e s (Le.refl t)) (fun v s₁ h₁ => ?_) fun _ _ q => q) hs hw)
  obtain ⟨mv, rfl⟩ := h₁
  have hO1 := Le.list mv.le.lq hO
  rw [assign_Tuple]
  refine wpAny_bind (wpAny_standAt ?_)
  unfold unpack
  show wpAny _ A (do let items ← holding [.ref O] (unpackItems (.ref O) (#[u1, u2, u3] : Array Value).size none); assignInOrder ((assignEach [.Name x px, .Name y py, .Name z pz] env).map (·.2)) items) _ _ _
  refine wpAny_bind (wpAny_holding (kun_itemsOf hA hO1 fun h' he => ?_))
  have k2 : ∀ b o, s₁.heap.get? b = some o → h'.get? b = some o := fun b o e => he b o (Nat.ne_of_lt (Heap.lt_size e)) e
  have m12 : Mv s { s₁ with heap := h' } := mv.trans (Mv.of mv.le.t' k2 s₁.toks)
  refine assignInOrder_cons ?_
  show wpAny _ A (assign (.Name x px) env u1) _ _ _
  refine wpAny_assign_Name (wpAny_mono ((F.le m12.le).putL m12.le.t' hx (m1.le m12.le r1) m1) (fun _ s₃ h₃ => ?_) fun _ _ q => q)
  refine assignInOrder_cons ?_
  show wpAny _ A (assign (.Name y py) env u2) _ _ _
  have mm := (m12.b X).trans h₃.1
  refine wpAny_assign_Name (wpAny_mono (h₃.2.1.putL mm.le.t' hy (m2 _ _ _ h₃.2.2 (m2.le m12.le r2)) m2) (fun _ s₄ h₄ => ?_) fun _ _ q => q)
  refine assignInOrder_cons ?_
  show wpAny _ A (assign (.Name z pz) env u3) _ _ _
  have mm4 := mm.trans h₄.1
  refine wpAny_assign_Name (wpAny_mono (h₄.2.1.put mm4.le.t' hz (m3 _ _ _ h₄.2.2 (m3 _ _ _ h₃.2.2 (m3.le m12.le r3))) m3) (fun _ s₅ h₅ => assignInOrder_nil ?_) fun _ _ q => q)
  have mm5 := mm4.trans h₅.1
  exact (kk s₅ mm5 h₅.2).mv mm5

theorem rangeI_len (a b : Int) : (rangeI a b).length = (b - a).toNat := by unfold rangeI; simp
theorem rangeI_get {a b : Int} {i : Nat} (h : i < (b - a).toNat) : (rangeI a b)[i]? = some (a + (i : Int)) := by unfold rangeI; simp [h]
theorem rangeI_mem {a b k : Int} (h : k ∈ rangeI a b) : a ≤ k ∧ k < b := by
  unfold rangeI at h
  obtain ⟨i, hi, rfl⟩ := List.mem_map.mp h
  have := List.mem_range.mp hi
  omega
theorem src_rangeL {a b : Int} {v : Value} (hh : A.handled = none) (t : TI s.heap) (r : RngR a b s.heap v) (ha : -1000 ≤ a) (ha' : a < 1000) (hb : -1000 ≤ b) (hb' : b < 1000) : Src prog w A s v (rangeI a b).length (fun i h u => ∃ x, (rangeI a b)[i]? = some x ∧ IntR x h u) := by
  have q := src_range (prog := prog) (w := w) (A := A) (h := s.heap) hh t r (by omega) (by omega) (by omega) (by omega)
  rw [rangeI_len]
  refine wpAny_mono q (fun it s₂ h₂ => ?_) fun _ _ q => q
  obtain ⟨m, I, fp, wr, Pv, St, e, S, hf⟩ := h₂
  refine ⟨m, I, fp, wr, Pv, St, e, ⟨S.W, S.st, S.lt, S.fresh, S.itr, S.seq, fun i v hi hp => ⟨_, rangeI_get hi, S.item i v hi hp⟩⟩, hf⟩
end
end Mine

/-! part 29 -/
open PySem PySem.Spec PySem.Calls PyProof.Rows PySem.W
set_option maxRecDepth 100000
set_option Elab.async false
set_option linter.unusedVariables false
namespace Mine

def fBody : Stmt → List Stmt
  | .For _ _ b _ _ => b
  | _ => []
def lawE (L fa : Addr) (cd : Value) : Env := envOfC "law" (dScope (sAt 14)) L fa cd
def InsOk (prog : Program) (wd : World) (hb : Heap) (a : Addr) : Prop :=
  ∀ (A : Around) (s : Shared) (D : Addr) (v : Value) (xs : List (List Int)) (x : List Int), Le hb s.heap → Room A 6 → AtL D xs s.heap → TupI x s.heap v → xs.length ≤ 900 →
    wpAny (model prog wd) A (call (.ref a) [.ref D, v]) (fun r s' => MvB [D] s s' ∧ (r = .none ∧ AtL D (insF xs x) s'.heap)) F0 s
structure Wd (prog : Program) (wd : World) (hb : Heap) : Prop where
  apart : ∃ a fd, FnAt hb a fd ∧ Glo hb "_law_apart" (.ref a) ∧ ∀ n, ApartOk prog wd hb a n
  leav : ∃ a fd, FnAt hb a fd ∧ Glo hb "_law_leaves" (.ref a) ∧ ∀ n, LeavOk prog wd hb a n
  ins : ∃ a fd, FnAt hb a fd ∧ Glo hb "insort_left" (.ref a) ∧ InsOk prog wd hb a
  bis : ∃ a fd, FnAt hb a fd ∧ Glo hb "bisect_left" (.ref a) ∧ BisOk prog wd hb a false
  srt : Glo hb "sorted" (.builtin "sorted")
  rng : Glo hb "range" (.type "range")
  len : Glo hb "len" (.builtin "len")
  min : Glo hb "min" (.builtin "min")
  tup : Glo hb "tuple" (.type "tuple")
  lst : Glo hb "list" (.type "list")
  sum : Glo hb "sum" (.builtin "sum")

/-- lists kept in a list -/
def OrdB (hB : Heap) (O : Addr) (ords : List (List (List Int))) (h : Heap) : Prop := ∃ ys, h.PlainList O ys ∧ All2 (fun v xs => ∃ b, v = .ref b ∧ b ≠ O ∧ (∃ o, hB.get? b = some o) ∧ LstT xs h v) ys.toList ords
abbrev OrdR (hB : Heap) (O : Addr) (ords : List (List (List Int))) : HP := fun h u => u = .ref O ∧ OrdB hB O ords h
theorem OrdB.lq {hB : Heap} {O : Addr} {ords : List (List (List Int))} {h h' : Heap} (l : Lq h h') (r : OrdB hB O ords h) : OrdB hB O ords h' := by
  obtain ⟨ys, ⟨n, e⟩, q⟩ := r
  exact ⟨ys, ⟨n, l _ _ _ _ e rfl⟩, q.mono fun v xs ⟨b, e, n, o, r⟩ => ⟨b, e, n, o, LstT.mono _ _ _ _ l r⟩⟩
theorem OrdR.mn {hB : Heap} {O : Addr} {ords : List (List (List Int))} : Mn (OrdR hB O ords) := fun h h' v l r => ⟨r.1, r.2.lq l⟩
theorem lst_leB {X : List Addr} {a : Addr} {xs : List (List Int)} {h h' : Heap} (r : LstT xs h (.ref a)) (ha : a ∉ X) (l : LeB X h h') : LstT xs h' (.ref a) := by
  obtain ⟨_, ys, e, ⟨o, ho, hc, n, hd⟩, hr⟩ := r
  cases e
  have nn := l.t.ne ho (fun vs q => by rw [hd] at q; cases q)
  exact ⟨a, ys, rfl, ⟨o, l.k _ _ nn.1 nn.2 ha ho, hc, n, hd⟩, hr.mono fun v x q => TupI.monoT x _ _ v l.lt q⟩
theorem OrdB.leD {hB : Heap} {O D : Addr} {ords : List (List (List Int))} {h h' : Heap} (r : OrdB hB O ords h) (l : LeB [D] h h') (hO : O ≠ D) (hD : hB.get? D = none) : OrdB hB O ords h' := by
  obtain ⟨ys, ⟨n, e⟩, q⟩ := r
  have nn := l.t.ne e (fun vs q => by cases q)
  refine ⟨ys, ⟨n, l.k _ _ nn.1 nn.2 (by simp [hO]) e⟩, q.mono fun v xs ⟨b, e, n, ⟨o, ho⟩, r⟩ => ⟨b, e, n, ⟨o, ho⟩, ?_⟩⟩
  subst e
  exact lst_leB r (fun hm => by simp at hm; rw [hm, hD] at ho; cases ho) l
theorem OrdB.rebase {hB h : Heap} {O : Addr} {ords : List (List (List Int))} (r : OrdB hB O ords h) : OrdB h O ords h := by
  obtain ⟨ys, p, q⟩ := r
  refine ⟨ys, p, q.mono fun v xs ⟨b, e, n, _, r⟩ => ⟨b, e, n, ?_, r⟩⟩
  obtain ⟨b', _, e', ⟨o, ho, _⟩, _⟩ := r
  rw [e] at e'; cases e'
  exact ⟨o, ho⟩
abbrev AtR2 (D : Addr) (xs : List (List Int)) : HP := fun h u => u = .ref D ∧ AtG TupI D xs h
theorem AtR2.mn {D : Addr} {xs : List (List Int)} : Mn (AtR2 D xs) := fun h h' v l r => ⟨r.1, r.2.lq TupI.mono l⟩
theorem AtR2.lst {D : Addr} {xs : List (List Int)} (h : Heap) (v : Value) (r : AtR2 D xs h v) : LstT xs h v := by
  obtain ⟨rfl, r⟩ := r
  exact r.lst
abbrev LotR (a : Addr) (xs : List (List Int)) : HP := fun h u => u = .ref a ∧ LstT xs h u
theorem LotR.mn {a : Addr} {xs : List (List Int)} : Mn (LotR a xs) := fun h h' v l r => ⟨r.1, LstT.mono _ _ _ _ l r.2⟩

theorem ordF_take {xs : List (List Int)} {i : Nat} {x : List Int} (h : xs[i]? = some x) : ordF (xs.take (i + 1)) = insF (ordF (xs.take i)) x := by
  unfold ordF
  rw [List.take_add_one, h]
  simp
theorem insF_len (xs : List (List Int)) (x : List Int) : (insF xs x).length = xs.length + 1 := by
  unfold insF
  have := bisF_le (xs := xs) (x := x) (N := xs.length) (n := xs.length) (Nat.zero_le _) (Nat.le_refl _)
  simp
  omega
theorem ordF_len (xs : List (List Int)) : (ordF xs).length = xs.length := by
  have key : ∀ (l acc : List (List Int)), (l.foldl insF acc).length = acc.length + l.length := by
    intro l
    induction l with
    | nil => intro acc; simp
    | cons a r ih => intro acc; rw [List.foldl_cons, ih, insF_len]; simp; omega
  have := key xs []
  simpa [ordF] using this

section
variable {prog : Program} {wd : World} {A : Around} {s : Shared} {hb : Heap} {L fa a O : Addr} {cd : Value} {k : Nat} {xs : List (List Int)} {ords : List (List (List Int))}

theorem law_free : ∀ x, (lawE L fa cd).kindOf x ≠ some .free := fun y hy => by
  have hm := mem_of_lookup hy
  have : ∀ p ∈ (dScope (sAt 14)).names, p.2 ≠ .free := by decide
  exact this _ hm rfl
theorem law_cells : ∀ n c', (n, c') ∈ (lawE L fa cd).cells → (lawE L fa cd).kindOf n = some .cell ∧ (lawE L fa cd).cells.lookup n = some c' := by
  intro x c' hx
  have hx' : (x, c') ∈ [(("many" : Str), L + 2), ("order", L + 1)] := hx
  simp only [List.mem_cons, List.not_mem_nil, or_false, Prod.mk.injEq] at hx'
  rcases hx' with ⟨rfl, rfl⟩ | ⟨rfl, rfl⟩ <;> exact ⟨rfl, rfl⟩
theorem Fs.less {env : Env} {X Y : List Addr} {h : Heap} {σ : Sg} (f : Fs env Y h σ) (hf : ∀ x, env.kindOf x ≠ some .free) (hX : ∀ p ∈ fX env, p ∈ X) : Fs env X h σ := by
  obtain ⟨k, L, c, i, m, hns, hv⟩ := f
  refine ⟨k, hX _ List.mem_cons_self, fun x q => ?_, i, m, hns, fun x R q => ?_⟩
  · obtain ⟨c, h1, h2, h3⟩ := c x q
    exact ⟨c, h1, hX _ (List.mem_cons_of_mem _ (List.mem_map.mpr ⟨(x, c), mem_of_lookup h1, rfl⟩)), h3⟩
  · obtain ⟨mn, v, r, y⟩ := hv x R q
    refine ⟨mn, v, r, ?_⟩
    rcases y with y | y | ⟨y1, _⟩
    · exact .inl y
    · exact .inr (.inl y)
    · exact absurd y1.1 (hf x)
theorem EvT.toB {env : Env} {h₀ : Heap} {e : Expr} {b b' : Bool} (x : EvT prog wd A env h₀ e b) (q : b = b') : EvT prog wd A env h₀ e b' := q ▸ x
end
end Mine

/-! part 30 -/
open PySem PySem.Spec PySem.Calls PyProof.Rows PySem.W
set_option maxRecDepth 100000
set_option Elab.async false
set_option linter.unusedVariables false
namespace Mine
section
variable {prog : Program} {wd : World} {A : Around} {s : Shared} {hb : Heap} {L fa a O : Addr} {cd : Value} {k : Nat} {xs : List (List Int)} {ords : List (List (List Int))}

theorem smallB_of (h : smallB xs = true) : xs.length < 64 ∧ (xs.length < 2 ∨ ∀ x ∈ xs, x ≠ []) ∧ ∀ x ∈ xs, x.length ≤ 20 := by
  unfold smallB at h
  rw [Bool.and_eq_true, Bool.and_eq_true, Bool.or_eq_true, decide_eq_true_eq, decide_eq_true_eq, List.all_eq_true, List.all_eq_true] at h
  refine ⟨h.1.1, h.1.2.imp_right fun q x hx => ?_, fun x hx => by simpa using h.2 x hx⟩
  have := q x hx
  intro e
  rw [e] at this
  simp at this

theorem insert_run (W : Wd prog wd hb) (hXn : ∀ p ∈ O :: fX (lawE L fa cd), hb.get? p = none) (t : TI s.heap) (l : Le hb s.heap) (room : Room A 80) (hX : XK (O :: fX (lawE L fa cd)) s.heap) (ha : a ∉ O :: fX (lawE L fa cd))
    {hB : Heap} {D : Addr} (hDB : hB.get? D = none) (haB : ∃ o, hB.get? a = some o) (hOB : ∃ o, hB.get? O = some o) (hDb : hb.get? D = none) (hDX : XK [D] s.heap) (hsm : xs.length < 64)
    (F : Fs (lawE L fa cd) (D :: O :: fX (lawE L fa cd)) s.heap [("order", AtR2 D []), ("lots", LotR a xs), ("whole", IntR k), ("orders", OrdR hB O ords)])
    {rest : List Stmt} {Q : Flow → Shared → Prop} {p1 p2 p3 p4 p5 p6 p7 p8 : Pos}
    (fin : ∀ s', MvB (D :: O :: fX (lawE L fa cd)) s s' → Fs (lawE L fa cd) (D :: O :: fX (lawE L fa cd)) s'.heap [("order", AtR2 D (ordF xs)), ("lots", LotR a xs), ("whole", IntR k), ("orders", OrdR hB O ords)] → Ru prog wd A (lawE L fa cd) (D :: O :: fX (lawE L fa cd)) s' rest Q) :
    Ru prog wd A (lawE L fa cd) (D :: O :: fX (lawE L fa cd)) s (.For (.Name "lot" p1) (.Name "lots" p2) [.Expr (.Call (.Name "insort_left" p3) [.Name "order" p4, .Name "lot" p5] [] p6) p7] [] p8 :: rest) Q := by
  obtain ⟨ai, fi, fni, gi, ki⟩ := W.ins
  have haD : a ≠ D := fun q => by obtain ⟨o, e⟩ := haB; rw [q, hDB] at e; cases e
  have hOD : O ≠ D := fun q => by obtain ⟨o, e⟩ := hOB; rw [q, hDB] at e; cases e
  have hXn' : ∀ p ∈ D :: O :: fX (lawE L fa cd), hb.get? p = none := fun p hp => by
    rcases List.mem_cons.mp hp with rfl | hp
    · exact hDb
    · exact hXn p hp
  have hXX : XK (D :: O :: fX (lawE L fa cd)) s.heap := fun p hp => by
    rcases List.mem_cons.mp hp with rfl | hp
    · exact hDX _ (by simp)
    · exact hX p hp
  have haX : a ∉ D :: O :: fX (lawE L fa cd) := fun hm => by
    rcases List.mem_cons.mp hm with q | hm
    · exact haD q
    · exact ha hm
  refine ru_for (n := xs.length) (P := fun i h u => ∃ x, xs[i]? = some x ∧ TupI x h u) (Rit := LotR a xs)
    (Inv := fun i h => Fs (lawE L fa cd) (D :: O :: fX (lawE L fa cd)) h [("order", AtR2 D (ordF (xs.take i))), ("lots", LotR a xs), ("whole", IntR k), ("orders", OrdR hB O ords)])
    t hXX (F.ev rfl) (fun s₁ v l' r => src_list room.h l'.t' r.2) (fun s₁ v l' r b e hm => ?_) (fun i h h' ki f => f.ki ki) (fun s' m' => F.le m'.le) (fun i h h' v lb q => ?_) ?_ (fun s' m' f => fin s' m' (by rw [List.take_length] at f; exact f))
  · obtain ⟨e', _⟩ := r
    rw [e] at e'; cases e'
    exact haX hm
  · obtain ⟨x, e, q⟩ := q
    exact ⟨x, e, TupI.monoT x _ _ v lb.lt q⟩
  · intro i s₁ v hi m₁ F₁ ⟨x, hx, hv⟩
    refine wpAny_mono (F₁.put m₁.le.t' (.inl rfl) hv (TupI.mono.mn x)) (fun _ s₂ h₂ => ⟨h₂.1, ?_⟩) fun _ _ q => q
    have F₂ := h₂.2
    have l₂ : Le hb s₂.heap := (((l.b _).trans m₁.le).trans h₂.1.le).le hXn'
    refine ru_call (Y := [D]) (Rs := [AtR2 D (ordF (xs.take i)), TupI x]) h₂.1.le.t' (fni.le l₂) (ev_glob ⟨rfl, rfl, rfl, rfl⟩ (gi.le l₂)) (evS_cons (F₂.ev rfl) AtR2.mn (evS_cons (F₂.ev rfl) (TupI.mono.mn x) evS_nil)) (fun s₃ vs m₃ q => ?_) ⟨_, _, rfl⟩
    obtain ⟨w1, w2, rfl, ⟨rfl, hat⟩, hx3⟩ := all2_two q
    have hlen := ordF_len (xs.take i)
    rw [List.length_take] at hlen
    refine wpAny_mono (ki A s₃ D w2 _ x (l₂.trans m₃.le) (room.le (by decide)) hat.atL hx3 (by omega)) (fun r s₄ h₄ => ?_) fun _ _ q => q
    obtain ⟨m₄, rfl, hat4⟩ := h₄
    obtain ⟨ys, hp, _⟩ := hat
    have F₃ := F₂.le m₃.le
    obtain ⟨_, ⟨_, hO3⟩, _⟩ := (F₃.bd (x := "orders") rfl).1.2
    obtain ⟨_, ⟨rfl, hl3⟩, _⟩ := (F₃.bd (x := "lots") rfl).1.2
    have F₃c := F₃.sub (σ' := [("order", fun _ u => u = .ref D), ("lots", fun _ u => u = .ref a), ("whole", IntR k), ("orders", fun _ u => u = .ref O)])
      (.cons rfl (fun _ _ q => q.1) (fun _ _ _ _ q => q) (.cons rfl (fun _ _ q => q.1) (fun _ _ _ _ q => q) (.cons rfl (fun _ _ q => q) (Mn.int _) (.cons rfl (fun _ _ q => q.1) (fun _ _ _ _ q => q) .nil))))
    have F₄ := F₃c.leD hp.isList List.mem_cons_self m₄.le (AllC.cons (Cst.is _) (.cons (Cst.is _) (.cons (Cst.int _) (.cons (Cst.is _) .nil)))).get
    have G1 := F₄.give (x := "order") (R := AtR2 D (ordF (xs.take (i + 1)))) rfl ⟨rfl, by rw [ordF_take hx]; exact hat4.atG⟩ AtR2.mn
    have G2 := G1.give (x := "lots") (R := LotR a xs) rfl ⟨rfl, lst_leB hl3 (by simp [haD]) m₄.le⟩ LotR.mn
    have G3 := G2.give (x := "orders") (R := OrdR hB O ords) rfl ⟨rfl, hO3.leD m₄.le hOD hDB⟩ OrdR.mn
    refine ⟨rfl, m₄.mono fun p hp => by simp at hp; simp [hp], ru_nil m₄.le.t' ⟨rfl, G3.sub ?_⟩⟩
    exact .cons rfl (fun _ _ q => q) AtR2.mn (.cons rfl (fun _ _ q => q) LotR.mn (.cons rfl (fun _ _ q => q) (Mn.int _) (.cons rfl (fun _ _ q => q) OrdR.mn .nil)))

def outBody : List Stmt := fBody ((dBody (sAt 14)).getD 1 (.Pass default))
/-- one turn of the law's first loop -/
theorem outer_turn (W : Wd prog wd hb) (hXn : ∀ p ∈ O :: fX (lawE L fa cd), hb.get? p = none) (t : TI s.heap) (l : Le hb s.heap) (room : Room A 80) (hX : XK (O :: fX (lawE L fa cd)) s.heap) (ha : a ∉ O :: fX (lawE L fa cd))
    (hlot : lotB xs = true) (hords : ords.length ≤ 10) (F : Fs (lawE L fa cd) (O :: fX (lawE L fa cd)) s.heap [("lots", LotR a xs), ("whole", IntR k), ("orders", OrdR s.heap O ords)]) :
    Ru prog wd A (lawE L fa cd) (O :: fX (lawE L fa cd)) s outBody (fun f s' => f = .next ∧ ∃ hB, Fs (lawE L fa cd) (O :: fX (lawE L fa cd)) s'.heap [("whole", IntR k), ("orders", OrdR hB O (ords ++ [ordF xs]))]) := by
  unfold lotB at hlot
  rw [Bool.and_eq_true, Bool.and_eq_true, Bool.and_eq_true, decide_eq_true_eq] at hlot
  obtain ⟨⟨⟨hsm, hsrt⟩, hdup⟩, hfnd⟩ := hlot
  obtain ⟨h64, hne, h20⟩ := smallB_of hsm
  obtain ⟨_, ⟨rfl, hla⟩, _⟩ := (F.bd (x := "lots") rfl).1.2
  obtain ⟨_, ⟨rfl, hOr⟩, _⟩ := (F.bd (x := "orders") rfl).1.2
  have haB : ∃ o, s.heap.get? a = some o := by
    obtain ⟨_, _, e, ⟨o, ho, _⟩, _⟩ := hla
    cases e
    exact ⟨o, ho⟩
  have hOB : ∃ o, s.heap.get? O = some o := by
    obtain ⟨ys, ⟨n, e⟩, _⟩ := hOr
    exact ⟨_, e⟩
  conv => arg 7; whnf
  refine ru_assign_new (Ra := TupI) (xs := []) TupI.mono F law_free ev_nilP t (.inr rfl) fun s₂ D m₂ hDn hDa F₂ => ?_
  have hDb : hb.get? D = none := l.none1 hDn
  have l₂ : Le hb s₂.heap := ((l.b _).trans m₂.le).le hXn
  have hXn' : ∀ p ∈ D :: O :: fX (lawE L fa cd), hb.get? p = none := fun p hp => by
    rcases List.mem_cons.mp hp with rfl | hp
    · exact hDb
    · exact hXn p hp
  have hX₂ : XK (O :: fX (lawE L fa cd)) s₂.heap := fun p hp => by
    rcases List.mem_cons.mp hp with rfl | hp
    · obtain ⟨_, ⟨_, ys, ⟨n, e⟩, _⟩, _⟩ := (F₂.bd (x := "orders") rfl).1.2
      exact ⟨_, e, fun vs q => by cases q⟩
    · exact F₂.xk law_cells p hp
  have hDX : XK [D] s₂.heap := fun p hp => by
    simp at hp
    subst hp
    obtain ⟨ys, ⟨n, e⟩, _⟩ := hDa
    exact ⟨_, e, fun vs q => by cases q⟩
  have F₂' := F₂.sub (σ' := [("order", AtR2 D []), ("lots", LotR a xs), ("whole", IntR k), ("orders", OrdR s.heap O ords)])
    (.cons rfl (fun _ _ q => q) AtR2.mn (.cons rfl (fun _ _ q => q) LotR.mn (.cons rfl (fun _ _ q => q) (Mn.int _) (.cons rfl (fun _ _ q => q) OrdR.mn .nil))))
  refine insert_run W hXn m₂.le.t' l₂ room hX₂ ha hDn haB hOB hDb hDX h64 F₂' fun s₃ m₃ F₃ => ?_
  have l₃ : Le hb s₃.heap := ((l₂.b _).trans m₃.le).le hXn'
  have hu : A.units + 128 < cLine := by have := room.u; omega
  have hol := ordF_len xs
  have hdup' := List.isEmpty_iff.mp hdup
  have hfnd' := List.isEmpty_iff.mp hfnd
  refine ru_if (c := false) m₃.le.t' ?_ fun s₄ m₄ => ?_
  · refine EvT.toB (evT_or (p := !decide (ordF xs = srtF xs)) (q := !decide (((rangeI 1 (ordF xs).length).filter fun k => decide ((ordF xs).getD (k - 1).toNat [] = (ordF xs).getD k.toNat [])).map (fun k => k) = [])) ?_ (fun _ => ?_)) ?_
    · exact evT_dne encInt.tup.lst (by decide) hu ((F₃.ev rfl).imp AtR2.lst) (ev_call_b (Rs := [LotR a xs]) (ev_glob ⟨rfl, rfl, rfl, rfl⟩ (W.srt.le l₃)) (evS_cons (F₃.ev rfl) LotR.mn evS_nil) (fun s' vs l' q => (do_sorted_tups l'.t' (by obtain ⟨v, rfl, r⟩ := all2_one q; exact .cons r.2 .nil) h64 hne).imp fun h v q => q.1) ⟨_, _, rfl⟩ rfl) LstT.mono
    · refine evT_dne encInt.lst (by decide) hu ?_ (ev_list (xs := []) IntR.mono evS_nil (by simp)) LstI.mono
      refine ev_comp (x := "k") (Ra := IntR) (Rb := IntR) (xs := rangeI 1 (ordF xs).length) (p := fun k => decide ((ordF xs).getD (k - 1).toNat [] = (ordF xs).getD k.toNat [])) (f := fun k => k) (cl := [("order", L + 1)]) (Rit := RngR 1 (ordF xs).length) rfl rfl (by decide) (.inl rfl)
        ?_ ?_ (fun s' v l' r => src_rangeL room.h l'.t' r (by decide) (by decide) (by omega) (by omega)) IntR.monoT IntR.mono (by rw [rangeI_len, sizeLine_eq]; omega) ?_ ?_
      · intro y c hm
        simp only [List.mem_cons, List.not_mem_nil, or_false, Prod.mk.injEq] at hm
        obtain ⟨rfl, rfl⟩ := hm
        exact F₃.cl (y := "order") rfl rfl
      · exact ev_call_t (Rs := [IntR 1, IntR (ordF xs).length]) (ev_glob ⟨rfl, rfl, rfl, rfl⟩ (W.rng.le l₃)) (evS_cons ev_int (Mn.int _) (evS_cons (ev_call_b (Rs := [LstT (ordF xs)]) (ev_glob ⟨rfl, rfl, rfl, rfl⟩ (W.len.le l₃)) (evS_cons ((F₃.ev rfl).imp AtR2.lst) (LstT.mono.mn _) evS_nil) (fun s' vs l' q => do_len_list l'.t' q (by omega)) ⟨_, _, rfl⟩ rfl) (Mn.int _) evS_nil)) (fun s' vs l' q => do_range2 l'.t' q) ⟨_, _, rfl⟩ rfl
      · intro i hi C h u l' hru hbd
        obtain ⟨hi1, hi2⟩ := rangeI_mem hi
        refine evI_one (evT_deq (encInt.tup) (by decide) hu ?_ ?_ TupI.mono)
        · exact ev_itemL (i := i - 1) TupI.mono (Ev.imp (R := AtR2 D (ordF xs)) (ev_name ((F₃.le l').up rfl (.inl rfl) rfl (.inl rfl) rfl rfl) AtR2.mn) AtR2.lst) (ev_sub (ev_name (hbd.bd rfl hru) (Mn.int _)) ev_int) (by omega) (by omega) (getD_some (by omega))
        · exact ev_itemL (i := i) TupI.mono (Ev.imp (R := AtR2 D (ordF xs)) (ev_name ((F₃.le l').up rfl (.inl rfl) rfl (.inl rfl) rfl rfl) AtR2.mn) AtR2.lst) (ev_name (hbd.bd rfl hru) (Mn.int _)) (by omega) (by omega) (getD_some (by omega))
      · intro i hi _ C h u l' hru hbd
        exact ev_name (hbd.bd rfl hru) (Mn.int _)
    · rw [hdup', hsrt]
      simp
  rw [if_neg (by decide)]
  refine ru_nil m₄.le.t' ?_
  have F₄ := F₃.le m₄.le
  have l₄ := l₃.trans m₄.le
  obtain ⟨ab, fb, fnb, gb, kb⟩ := W.bis
  refine ru_if (c := false) m₄.le.t' ?_ fun s₅ m₅ => ?_
  · refine EvT.toB (evT_dne (x := (xs.filter fun lot => !decide ((ordF xs).getD (min (bisF (ordF xs) lot (ordF xs).length 0 (ordF xs).length) ((ordF xs).length - 1)) [] = lot)).map fun r => r) (y := []) encInt.tup.lst (by decide) hu ?_ (ev_list (xs := []) TupI.mono evS_nil (by simp)) LstT.mono) (by rw [hfnd']; simp)
    refine ev_comp (x := "lot") (Ra := TupI) (Rb := TupI) (xs := xs) (p := fun lot => !decide ((ordF xs).getD (min (bisF (ordF xs) lot (ordF xs).length 0 (ordF xs).length) ((ordF xs).length - 1)) [] = lot)) (f := fun r => r) (cl := [("order", L + 1)]) (Rit := LotR a xs) rfl rfl (by decide) (.inl rfl)
        ?_ (F₄.ev rfl) (fun s' v l' r => src_list room.h l'.t' r.2) TupI.monoT TupI.mono (by rw [sizeLine_eq]; omega) ?_ ?_
    · intro y c hm
      simp only [List.mem_cons, List.not_mem_nil, or_false, Prod.mk.injEq] at hm
      obtain ⟨rfl, rfl⟩ := hm
      exact F₄.cl (y := "order") rfl rfl
    · intro lot hlot C h u l' hru hbd
      have hpos : 0 < xs.length := List.length_pos_of_mem hlot
      refine evI_one (evT_dne (encInt.tup) (by decide) hu ?_ (ev_name (hbd.bd rfl hru) (TupI.mono.mn _)) TupI.mono)
      refine ev_itemL (i := min ((bisF (ordF xs) lot (ordF xs).length 0 (ordF xs).length : Nat) : Int) (((ordF xs).length : Int) - 1)) TupI.mono (Ev.imp (R := AtR2 D (ordF xs)) (ev_name ((F₄.le l').up rfl (.inl rfl) rfl (.inl rfl) rfl rfl) AtR2.mn) AtR2.lst) ?_ (by omega) (by omega) ?_
      · refine ev_call_b (Rs := [IntR (bisF (ordF xs) lot (ordF xs).length 0 (ordF xs).length), IntR (((ordF xs).length : Int) - 1)]) (ev_glob ⟨rfl, rfl, rfl, rfl⟩ (W.min.le (l₄.trans l'))) (evS_cons ?_ (Mn.int _) (evS_cons ?_ (Mn.int _) evS_nil)) (fun s' vs l' q => do_min room.h l'.t' q) ⟨_, _, rfl⟩ rfl
        · exact ev_call_d (Rs := [LstT (ordF xs), TupI lot]) (fnb.le (l₄.trans l')) (ev_glob ⟨rfl, rfl, rfl, rfl⟩ (gb.le (l₄.trans l'))) (evS_cons (Ev.imp (R := AtR2 D (ordF xs)) (ev_name ((F₄.le l').up rfl (.inl rfl) rfl (.inl rfl) rfl rfl) AtR2.mn) AtR2.lst) (LstT.mono.mn _) (evS_cons (ev_name (hbd.bd rfl hru) (TupI.mono.mn _)) (TupI.mono.mn _) evS_nil)) (fun s' vs l'' q => kb _ s' vs (ordF xs) lot (by omega) ((l₄.trans l').trans l'') (room.le (by decide)) q) ⟨_, _, rfl⟩
        · exact ev_sub (ev_call_b (Rs := [LstT (ordF xs)]) (ev_glob ⟨rfl, rfl, rfl, rfl⟩ (W.len.le (l₄.trans l'))) (evS_cons (Ev.imp (R := AtR2 D (ordF xs)) (ev_name ((F₄.le l').up rfl (.inl rfl) rfl (.inl rfl) rfl rfl) AtR2.mn) AtR2.lst) (LstT.mono.mn _) evS_nil) (fun s' vs l' q => do_len_list l'.t' q (by omega)) ⟨_, _, rfl⟩ rfl) ev_int
      · have e : (min ((bisF (ordF xs) lot (ordF xs).length 0 (ordF xs).length : Nat) : Int) (((ordF xs).length : Int) - 1)).toNat = min (bisF (ordF xs) lot (ordF xs).length 0 (ordF xs).length) ((ordF xs).length - 1) := by omega
        rw [e]
        exact getD_some (by omega)
    · intro i hi _ C h u l' hru hbd
      exact ev_name (hbd.bd rfl hru) (TupI.mono.mn _)
  rw [if_neg (by decide)]
  refine ru_nil m₅.le.t' ?_
  have F₅ := F₄.le m₅.le
  obtain ⟨_, ⟨rfl, hOr5⟩, _⟩ := (F₅.bd (x := "orders") rfl).1.2
  obtain ⟨ys5, hp5, hr5⟩ := hOr5
  refine ru_method (Rs := [AtR2 D (ordF xs)]) m₅.le.t' ((F₅.ev rfl).imp fun h v q => q.1) hp5 PySem.F.slot_list_append PySem.F.type_list_append (evS_cons (F₅.ev rfl) AtR2.mn evS_nil) (fun s₆ vs m₆ q hp6 => ?_) ⟨_, _, rfl⟩ rfl
  obtain ⟨w1, rfl, rfl, hat6⟩ := all2_one q
  have hOD : O ≠ D := fun q => by obtain ⟨o, e⟩ := hOB; rw [q, hDn] at e; cases e
  have hsz : ys5.size ≤ 1000 := by
    have := hr5.length
    rw [Array.length_toList] at this
    omega
  refine wpAny_mono (call_append m₆.le.t' hp6 hsz) (fun u s₇ h₇ => ?_) fun _ _ q => q
  obtain ⟨rfl, m₇, hp7, sb⟩ := h₇
  refine ⟨rfl, m₇.mono fun p hp => by simp at hp; simp [hp], ru_nil m₇.le.t' ⟨rfl, s₆.heap, ?_⟩⟩
  have F₆ := (F₅.le m₆.le).sub (σ' := [("whole", IntR k), ("orders", fun _ u => u = .ref O)]) (.cons rfl (fun _ _ q => q) (Mn.int _) (.cons rfl (fun _ _ q => q.1) (fun _ _ _ _ q => q) .nil))
  have F₇ := (F₆.leD hp6.isList (List.mem_cons_of_mem _ List.mem_cons_self) m₇.le (AllC.cons (Cst.int _) (.cons (Cst.is _) .nil)).get).less law_free (X := O :: fX (lawE L fa cd)) (fun p hp => List.mem_cons_of_mem _ hp)
  refine (F₇.give (x := "orders") (R := OrdR s₆.heap O (ords ++ [ordF xs])) rfl ⟨rfl, _, hp7, ?_⟩ OrdR.mn).sub (.cons rfl (fun _ _ q => q) (Mn.int _) (.cons rfl (fun _ _ q => q) OrdR.mn .nil))
  have old : All2 (fun v xs => ∃ b, v = .ref b ∧ b ≠ O ∧ (∃ o, s₆.heap.get? b = some o) ∧ LstT xs s₇.heap v) ys5.toList ords := hr5.mono (by
    rintro v xs ⟨b, rfl, n, _, r⟩
    have r6 := LstT.mono _ _ _ _ m₆.le.lq r
    refine ⟨b, rfl, n, ?_, lst_leB r6 (by simp [n]) m₇.le⟩
    obtain ⟨_, _, e, ⟨o, ho, _⟩, _⟩ := r6
    cases e
    exact ⟨o, ho⟩)
  have new : ∃ b, (Value.ref D) = .ref b ∧ b ≠ O ∧ (∃ o, s₆.heap.get? b = some o) ∧ LstT (ordF xs) s₇.heap (.ref D) := by
    have r6 := hat6.lst
    refine ⟨D, rfl, hOD.symm, ?_, lst_leB r6 (by simp [hOD.symm]) m₇.le⟩
    obtain ⟨_, _, e, ⟨o, ho, _⟩, _⟩ := r6
    cases e
    exact ⟨o, ho⟩
  rw [Array.toList_push]
  exact old.append (.cons new .nil)
end
end Mine

/-! part 31 -/
open PySem PySem.Spec PySem.Calls PyProof.Rows PySem.W
set_option maxRecDepth 100000
set_option Elab.async false
set_option linter.unusedVariables false
namespace Mine
def manyBody : List Stmt := fBody ((dBody (sAt 14)).getD 4 (.Pass default))
section
variable {prog : Program} {wd : World} {A : Around} {s : Shared} {hb : Heap} {L fa O : Addr} {cd : Value} {k m : Nat} {ap : List (List Int)} {h hB : Heap} {ords : List (List (List Int))}

theorem BdV.up {env cenv : Env} {x : Str} {u : Value} (b : BdV h env x u) (hk : env.kindOf x = some .cell) (hk' : cenv.kindOf x = some .cell ∨ cenv.kindOf x = some .free) (hc : cenv.cells.lookup x = env.cells.lookup x) (hcd : (x == ("__classdict__" : Str)) = false) : BdV h cenv x u := by
  rcases b with ⟨q, _⟩ | ⟨_, c, q1, q2⟩
  · rw [hk] at q; cases q
  · exact .inr ⟨hk'.imp_right fun q => ⟨q, hcd⟩, c, hc.trans q1, q2⟩
theorem BdV.cellx {env : Env} {x : Str} {u : Value} (b : BdV h env x u) (hk : env.kindOf x = some .cell) {c : Addr} (hc : env.cells.lookup x = some c) : ∃ v, h.IsCell c v := by
  rcases b with ⟨q, _⟩ | ⟨_, c', q1, q2⟩
  · rw [hk] at q; cases q
  · rw [hc] at q1; cases q1; exact ⟨_, q2⟩

theorem seqIx {j : Int} {n : Nat} (h1 : 0 ≤ j) (h2 : j < n) : seqIndex? j n = some j.toNat := by
  have h3 : ¬ j < 0 := by omega
  simp only [seqIndex?, if_neg h3]
  rw [if_pos (by simp; omega)]
theorem seqIx_last {n : Nat} (h : 0 < n) : seqIndex? (-1) n = some (n - 1) := by
  have h3 : (-1 : Int) < 0 := by decide
  simp only [seqIndex?, if_pos h3]
  rw [if_pos (by simp; omega)]
  congr 1
  omega
theorem lessF_len (m : Nat) (lot : List Int) : (lessF m lot).length = m := by
  unfold lessF
  rw [List.length_map, rangeI_len]
  omega

theorem many_turn (W : Wd prog wd hb) (hXn : ∀ p ∈ O :: fX (lawE L fa cd), hb.get? p = none) (t : TI s.heap) (l : Le hb s.heap) (room : Room A 80) (hX : XK (O :: fX (lawE L fa cd)) s.heap)
    (hm : m < 5) (hk : k ≤ 10) (hmb : manyB k m ap = true) (hap : ap.length < 64) (har : ∀ x ∈ ap, x.length ≤ 20) (F : Fs (lawE L fa cd) (O :: fX (lawE L fa cd)) s.heap [("many", IntR m), ("apart", LstT ap), ("whole", IntR k), ("orders", OrdR hB O ords)]) :
    Ru prog wd A (lawE L fa cd) (O :: fX (lawE L fa cd)) s manyBody (fun f s' => f = .next ∧ Fs (lawE L fa cd) (O :: fX (lawE L fa cd)) s'.heap [("apart", LstT ap), ("whole", IntR k), ("orders", OrdR hB O ords)]) := by
  unfold manyB at hmb
  rw [Bool.and_eq_true, Bool.and_eq_true, Bool.and_eq_true, decide_eq_true_eq] at hmb
  obtain ⟨⟨⟨hbad, hs1⟩, hs2⟩, hsrt⟩ := hmb
  have hu : A.units + 128 < cLine := by have := room.u; omega
  have hbad' := List.isEmpty_iff.mp hbad
  obtain ⟨h1a, h1b, h1c⟩ := smallB_of hs1
  obtain ⟨h2a, h2b, h2c⟩ := smallB_of hs2
  have hmlen : (mineF m ap).length ≤ ap.length := List.length_filter_le _ _
  have room0 : A.handled = none := room.h
  conv => arg 7; whnf
  refine ru_assign_comp (x := "mine") (z := "lot") (Ra := TupI) (Rb := TupI) (xs := ap) (p := fun lot => ((lot.length : Int) == (m : Int))) (f := fun r => r) (cl := [("many", L + 2)]) (Rit := LstT ap) F t (.inl rfl) hX.of rfl rfl rfl (by decide) (.inl rfl) ?_ (F.ev rfl) (fun s' v l' r => src_list room0 l'.t' r) TupI.monoT TupI.mono (by rw [sizeLine_eq]; omega) ?_ ?_ fun s₂ m₂ F₂ => ?_
  · intro y c hm
    simp only [List.mem_cons, List.not_mem_nil, or_false, Prod.mk.injEq] at hm
    obtain ⟨rfl, rfl⟩ := hm
    exact F.cl (y := "many") rfl rfl
  · intro lot hlot C h u l' hru hbd
    refine evI_one (evT_eq ?_ ?_)
    · exact ev_call_b (Rs := [TupI lot]) (ev_glob ⟨rfl, rfl, rfl, rfl⟩ (W.len.le (l.trans l'))) (evS_cons (ev_name (hbd.bd rfl hru) (TupI.mono.mn _)) (TupI.mono.mn _) evS_nil) (fun s' vs l' q => do_len_tuple l'.t' q (by have := har lot hlot; omega)) ⟨_, _, rfl⟩ rfl
    · exact ev_name ((F.le l').up rfl (.inl rfl) rfl (.inl rfl) rfl rfl) (Mn.int _)
  · intro lot hlot _ C h u l' hru hbd
    exact ev_name (hbd.bd rfl hru) (TupI.mono.mn _)
  have l₂ : Le hb s₂.heap := ((l.b _).trans m₂.le).le hXn
  have hmine : ((ap.filter fun lot => ((lot.length : Int) == (m : Int))).map fun r => r) = mineF m ap := by simp [mineF]
  rw [hmine] at F₂
  have hX₂ : XK (O :: fX (lawE L fa cd)) s₂.heap := fun p hp => by
    rcases List.mem_cons.mp hp with rfl | hp
    · obtain ⟨_, ⟨_, ys, ⟨n, e⟩, _⟩, _⟩ := (F₂.bd (x := "orders") rfl).1.2
      exact ⟨_, e, fun vs q => by cases q⟩
    · exact F₂.xk law_cells p hp
  refine ru_assign_comp (x := "less") (z := "lot") (Ra := TupI) (Rb := TupI) (xs := mineF m ap) (p := fun _ => true) (f := lessF m) (cl := [("many", L + 2)]) (Rit := LstT (mineF m ap)) F₂ m₂.le.t' (.inl rfl) hX₂.of rfl rfl rfl (by decide) (.inr ⟨rfl, fun n => ⟨n, Nat.le_refl _, rfl⟩⟩) ?_ (F₂.ev rfl) (fun s' v l' r => src_list room0 l'.t' r) TupI.monoT TupI.mono (by rw [sizeLine_eq]; omega) (fun _ _ _ _ _ _ _ _ => evI_nil) ?_ fun s₃ m₃ F₃ => ?_
  · intro y c hm
    simp only [List.mem_cons, List.not_mem_nil, or_false, Prod.mk.injEq] at hm
    obtain ⟨rfl, rfl⟩ := hm
    exact F₂.cl (y := "many") rfl rfl
  · intro lot hlot _ C h u l' hru hbd
    have hlen : lot.length = m := by
      have := (List.mem_filter.mp hlot).2
      simp at this
      omega
    refine ev_call_t (Rs := [LstI (lessF m lot)]) (ev_glob ⟨rfl, rfl, rfl, rfl⟩ (W.tup.le (l₂.trans l'))) (evS_cons ?_ (LstI.mono.mn _) evS_nil) (fun s' vs l' q => do_tuple IntR.mono l'.t' q (by rw [lessF_len, sizeLine_eq]; omega)) ⟨_, _, rfl⟩ rfl
    refine Ev.imp (ev_comp (x := "k") (Ra := IntR) (Rb := IntR) (xs := rangeI 0 m) (p := fun _ => true) (f := fun k => lot.getD k.toNat 0 - 2 * ((m : Int) - 1 - k) - 1) (cl := [("many", L + 2), ("lot", C + 1)]) (Rit := RngR 0 m) rfl rfl (by decide) (.inl rfl) ?_ ?_ (fun s' v l' r => src_rangeL room0 l'.t' r (by decide) (by decide) (by omega) (by omega)) IntR.monoT IntR.mono (by rw [rangeI_len, sizeLine_eq]; omega) (fun _ _ _ _ _ _ _ _ => evI_nil) ?_) ?_
    · intro y c hm
      simp only [List.mem_cons, List.not_mem_nil, or_false, Prod.mk.injEq] at hm
      rcases hm with ⟨rfl, rfl⟩ | ⟨rfl, rfl⟩
      · exact (F₂.le l').cl (y := "many") rfl rfl
      · exact hbd.cellx rfl rfl
    · exact ev_call_t (Rs := [IntR m]) (ev_glob ⟨rfl, rfl, rfl, rfl⟩ (W.rng.le (l₂.trans l'))) (evS_cons (ev_name ((F₂.le l').up rfl (.inl rfl) rfl (.inl rfl) rfl rfl) (Mn.int _)) (Mn.int _) evS_nil) (fun s' vs l' q => do_range1 l'.t' q) ⟨_, _, rfl⟩ rfl
    · intro j hj _ C2 h2 u2 l2 hru2 hbd2
      obtain ⟨hj1, hj2⟩ := rangeI_mem hj
      have hru' := TupI.mono _ _ _ _ l2.lq hru
      refine ev_sub (ev_sub (ev_itemT (xs := lot) (i := j) (j := j.toNat) IntR.mono ?_ (ev_name (hbd2.bd rfl hru2) (Mn.int _)) (by omega) (by omega) ?_ ?_) (ev_mul (by omega) (by omega) ev_int (ev_sub (ev_sub ?_ ev_int) (ev_name (hbd2.bd rfl hru2) (Mn.int _))))) ev_int
      · exact ev_name (BdV.bd rfl (BdV.up (hbd.le l2) rfl (.inl rfl) rfl rfl) hru') (TupI.mono.mn _)
      · exact seqIx hj1 (by omega)
      · exact getD_some (by omega)
      · exact ev_name ((F₂.le (l'.trans l2)).up rfl (.inl rfl) rfl (.inl rfl) rfl rfl) (Mn.int _)
    · intro h v q
      rwa [filter_tt] at q
  have l₃ : Le hb s₃.heap := ((l₂.b _).trans m₃.le).le hXn
  have hless : (((mineF m ap).filter fun _ => true).map (lessF m)) = (mineF m ap).map (lessF m) := by rw [filter_tt]
  rw [hless] at F₃
  generalize hls : (mineF m ap).map (lessF m) = ls at hbad' h1a h1b h1c hsrt hs1 F₃
  have hlsl : ls.length < 64 := by rw [← hls, List.length_map]; omega
  have hlm : ∀ lot ∈ ls, lot.length = m := fun lot hlot => by
    rw [← hls] at hlot
    obtain ⟨x, _, rfl⟩ := List.mem_map.mp hlot
    exact lessF_len m x
  refine ru_if (c := false) m₃.le.t' ?_ fun s₄ m₄ => ?_
  · refine EvT.toB (evT_dne (x := (ls.filter badL).map fun r => r) (y := []) encInt.tup.lst (by decide) hu ?_ (ev_list (xs := []) TupI.mono evS_nil (by simp)) LstT.mono) (by rw [hbad']; simp)
    refine ev_comp (x := "lot") (Ra := TupI) (Rb := TupI) (xs := ls) (p := badL) (f := fun r => r) (cl := []) (Rit := LstT ls) rfl rfl (by decide) (.inl rfl)
        (fun y c hm => by cases hm) (F₃.ev rfl) (fun s' v l' r => src_list room0 l'.t' r) TupI.monoT TupI.mono (by rw [sizeLine_eq]; omega) ?_ ?_
    · intro lot hlot C h u l' hru hbd
      have hll := hlm lot hlot
      refine evI_one (evT_or (p := !decide (lot = (srtI lot).reverse)) (q := (!decide (lot = [])) && decide (lot.getLastD 0 < 0)) ?_ (fun _ => evT_and (p := !decide (lot = [])) (q := decide (lot.getLastD 0 < 0)) ?_ (fun hne => ?_)))
      · refine evT_dne encInt.lst (by decide) hu ?_ ?_ LstI.mono
        · exact ev_call_t (Rs := [TupI lot]) (ev_glob ⟨rfl, rfl, rfl, rfl⟩ (W.lst.le (l₃.trans l'))) (evS_cons (ev_name (hbd.bd rfl hru) (TupI.mono.mn _)) (TupI.mono.mn _) evS_nil) (fun s' vs l' q => do_list IntR.mono l'.t' q (by rw [sizeLine_eq]; omega)) ⟨_, _, rfl⟩ rfl
        · refine ev_rev IntR.mono ?_ (ev_neg ev_int) (by have := (srtI_perm lot).length_eq; rw [sizeLine_eq]; omega)
          exact ev_call_b (Rs := [TupI lot]) (ev_glob ⟨rfl, rfl, rfl, rfl⟩ (W.srt.le (l₃.trans l'))) (evS_cons (ev_name (hbd.bd rfl hru) (TupI.mono.mn _)) (TupI.mono.mn _) evS_nil) (fun s' vs l' q => (do_sorted_ints l'.t' q (by omega)).imp fun h v q => q.1) ⟨_, _, rfl⟩ rfl
      · exact evT_dne encInt.tup (by decide) hu (ev_name (hbd.bd rfl hru) (TupI.mono.mn _)) (ev_tuple (xs := []) IntR.mono evS_nil (by simp)) TupI.mono
      · have hne' : lot ≠ [] := by simpa using hne
        have hpos : 0 < lot.length := List.length_pos_iff.mpr hne'
        refine evT_lt (ev_itemT (xs := lot) (i := -1) (j := lot.length - 1) IntR.mono (ev_name (hbd.bd rfl hru) (TupI.mono.mn _)) (ev_neg ev_int) (by decide) (by decide) ?_ ?_) ev_int
        · exact seqIx_last hpos
        · rw [List.getLastD_eq_getLast?, List.getLast?_eq_getElem?]
          rw [List.getElem?_eq_getElem (by omega)]
          rfl
    · intro lot hlot _ C h u l' hru hbd
      exact ev_name (hbd.bd rfl hru) (TupI.mono.mn _)
  rw [if_neg (by decide)]
  refine ru_nil m₄.le.t' ?_
  have F₄ := F₃.le m₄.le
  have l₄ := l₃.trans m₄.le
  refine ru_assign (R := IntR ((k : Int) - (m : Int) * m)) F₄ (ev_sub (F₄.ev rfl) (ev_mul (by omega) (by omega) (F₄.ev rfl) (F₄.ev rfl))) m₄.le.t' (Mn.int _) (.inl rfl) fun s₅ m₅ F₅ => ?_
  have l₅ : Le hb s₅.heap := ((l₄.b _).trans m₅.le).le hXn
  refine ru_assign (R := LstT (dueF k m)) F₅ ?_ m₅.le.t' (LstT.mono.mn _) (.inl rfl) fun s₆ m₆ F₆ => ?_
  · obtain ⟨aa, fda, fna, ga, ka⟩ := W.apart
    have hmm : (m : Int) * m = ((m * m : Nat) : Int) := by simp
    refine ev_if (c := decide (0 ≤ (k : Int) - (m : Int) * m)) (evT_ge (F₅.ev rfl) ev_int) (fun hc => ?_) (fun hc => ?_)
    · have hge := of_decide_eq_true hc
      have hkm : m * m ≤ k := by omega
      have e1 : (k : Int) - (m : Int) * m = ((k - m * m : Nat) : Int) := by omega
      have hdue : dueF k m = ((genF (fun _ => true) 0 (k - m * m) (k - m * m) ((k : Int) - (m : Int) * m)).filter fun lot => decide ((lot.length : Int) ≤ (m : Int))).map fun r => r := by
        unfold dueF
        rw [if_pos hge]
        simp
      rw [hdue]
      refine ev_comp (x := "lot") (Ra := TupI) (Rb := TupI) (xs := genF (fun _ => true) 0 (k - m * m) (k - m * m) ((k : Int) - (m : Int) * m)) (p := fun lot => decide ((lot.length : Int) ≤ (m : Int))) (f := fun r => r) (cl := [("many", L + 2)]) (Rit := LstT (genF (fun _ => true) 0 (k - m * m) (k - m * m) ((k : Int) - (m : Int) * m))) rfl rfl (by decide) (.inl rfl)
        ?_ ?_ (fun s' v l' r => src_list room0 l'.t' r) TupI.monoT TupI.mono (Nat.le_trans (genF_len _ _ _ _ _) (Nat.le_trans (Nat.pow_le_pow_right (by decide) (show k - m * m ≤ 10 by omega)) (by decide))) ?_ ?_
      · intro y c hm
        simp only [List.mem_cons, List.not_mem_nil, or_false, Prod.mk.injEq] at hm
        obtain ⟨rfl, rfl⟩ := hm
        exact F₅.cl (y := "many") rfl rfl
      · exact ev_call_d (Rs := [IntR ((k - m * m : Nat) : Int), IntR ((k : Int) - (m : Int) * m), IntR 0]) (fna.le l₅) (ev_glob ⟨rfl, rfl, rfl, rfl⟩ (ga.le l₅)) (evS_cons ((F₅.ev rfl).toI e1) (Mn.int _) (evS_cons (F₅.ev rfl) (Mn.int _) (evS_cons ev_int (Mn.int _) evS_nil))) (fun s' vs l' q => (ka (k - m * m) (k - m * m) _ 0 A s' vs (Nat.le_refl _) (by omega) (by omega) (by omega) (by decide) (by decide) (l₅.trans l') (room.le (by omega)) q).imp fun h v q => q.1) ⟨_, _, rfl⟩
      · intro lot hlot C h u l' hru hbd
        have hrow := genF_row _ _ _ _ _ lot hlot
        refine evI_one (evT_le ?_ ?_)
        · exact ev_call_b (Rs := [TupI lot]) (ev_glob ⟨rfl, rfl, rfl, rfl⟩ (W.len.le (l₅.trans l'))) (evS_cons (ev_name (hbd.bd rfl hru) (TupI.mono.mn _)) (TupI.mono.mn _) evS_nil) (fun s' vs l' q => do_len_tuple l'.t' q (by omega)) ⟨_, _, rfl⟩ rfl
        · exact ev_name ((F₅.le l').up rfl (.inl rfl) rfl (.inl rfl) rfl rfl) (Mn.int _)
      · intro lot hlot _ C h u l' hru hbd
        exact ev_name (hbd.bd rfl hru) (TupI.mono.mn _)
    · have hlt := of_decide_eq_false hc
      have hdue : dueF k m = [] := by
        unfold dueF
        rw [if_neg (by omega)]
      rw [hdue]
      exact ev_list (xs := []) TupI.mono evS_nil (by simp)
  have l₆ : Le hb s₆.heap := ((l₅.b _).trans m₆.le).le hXn
  refine ru_if (c := false) m₆.le.t' ?_ fun s₇ m₇ => ?_
  · refine EvT.toB (evT_dne (x := srtF (ls.map posF)) (y := srtF (dueF k m)) encInt.tup.lst (by decide) hu ?_ ?_ LstT.mono) (by rw [hsrt]; simp)
    · refine ev_call_b (Rs := [LstT (ls.map posF)]) (ev_glob ⟨rfl, rfl, rfl, rfl⟩ (W.srt.le l₆)) (evS_cons ?_ (LstT.mono.mn _) evS_nil) (fun s' vs l' q => (do_sorted_tups l'.t' q h1a h1b).imp fun h v q => q.1) ⟨_, _, rfl⟩ rfl
      refine Ev.imp (ev_comp (x := "lot") (Ra := TupI) (Rb := TupI) (xs := ls) (p := fun _ => true) (f := posF) (cl := []) (Rit := LstT ls) rfl rfl (by decide) (.inl rfl)
        (fun y c hm => by cases hm) (F₆.ev rfl) (fun s' v l' r => src_list room0 l'.t' r) TupI.monoT TupI.mono (by rw [sizeLine_eq]; omega) (fun _ _ _ _ _ _ _ _ => evI_nil) ?_) (fun h v q => by rwa [filter_tt] at q)
      intro lot hlot _ C h u l' hru hbd
      have hll := hlm lot hlot
      refine ev_call_t (Rs := [LstI (posF lot)]) (ev_glob ⟨rfl, rfl, rfl, rfl⟩ (W.tup.le (l₆.trans l'))) (evS_cons ?_ (LstI.mono.mn _) evS_nil) (fun s' vs l' q => do_tuple IntR.mono l'.t' q (by have : (posF lot).length ≤ lot.length := List.length_filter_le _ _; rw [sizeLine_eq]; omega)) ⟨_, _, rfl⟩ rfl
      refine Ev.imp (ev_comp (x := "number") (Ra := IntR) (Rb := IntR) (xs := lot) (p := fun n => decide (0 < n)) (f := fun r => r) (cl := []) (Rit := TupI lot) rfl rfl (by decide) (.inl rfl)
        (fun y c hm => by cases hm) (ev_name (hbd.bd rfl hru) (TupI.mono.mn _)) (fun s' v l' r => src_tuple room0 l'.t' r) IntR.monoT IntR.mono (by rw [sizeLine_eq]; omega) ?_ ?_) (fun h v q => by simpa [posF] using q)
      · intro n hn C2 h2 u2 l2 hru2 hbd2
        exact evI_one (evT_gt (ev_name (hbd2.bd rfl hru2) (Mn.int _)) ev_int)
      · intro n hn _ C2 h2 u2 l2 hru2 hbd2
        exact ev_name (hbd2.bd rfl hru2) (Mn.int _)
    · exact ev_call_b (Rs := [LstT (dueF k m)]) (ev_glob ⟨rfl, rfl, rfl, rfl⟩ (W.srt.le l₆)) (evS_cons (F₆.ev rfl) (LstT.mono.mn _) evS_nil) (fun s' vs l' q => (do_sorted_tups l'.t' q h2a h2b).imp fun h v q => q.1) ⟨_, _, rfl⟩ rfl
  rw [if_neg (by decide)]
  refine ru_nil m₇.le.t' (ru_nil m₇.le.t' ⟨rfl, (F₆.le m₇.le).sub (.cons rfl (fun _ _ q => q) (LstT.mono.mn _) (.cons rfl (fun _ _ q => q) (Mn.int _) (.cons rfl (fun _ _ q => q) OrdR.mn .nil)))⟩)
end
end Mine

/-! part 32 -/
open PySem PySem.Spec PySem.Calls PyProof.Rows PySem.W
set_option maxRecDepth 100000
set_option Elab.async false
set_option linter.unusedVariables false
namespace Mine
section
variable {prog : Program} {wd : World} {A : Around} {s : Shared} {hb : Heap} {L fa : Addr} {cd : Value} {ns : List Int}

abbrev RL (h₀ : Heap) : Rep (List (List Int)) := fun xs h v => New h₀ (LstT xs) h v
theorem RL.mono {h₀ : Heap} : Mono (RL h₀) := fun x h h' v l r => ⟨LstT.mono _ _ _ _ l r.1, r.2⟩

theorem law_run (W : Wd prog wd hb) (hXn : ∀ p ∈ fX (lawE L fa cd), hb.get? p = none) (t : TI s.heap) (l : Le hb s.heap) (room : Room A 90)
    (F : Fs (lawE L fa cd) (fX (lawE L fa cd)) s.heap [("script", LstI ns)]) :
    Ru prog wd A (lawE L fa cd) (fX (lawE L fa cd)) s (dBody (sAt 14)) (fun f s' => f = .ret (.bool true)) := by
  obtain ⟨k, hk, hkn⟩ : ∃ k : Nat, k ≤ 10 ∧ ns.sum.fmod 11 = (k : Int) := by
    have h1 := Int.fmod_nonneg_of_pos ns.sum (b := 11) (by decide)
    have h2 := Int.fmod_lt_of_pos ns.sum (b := 11) (by decide)
    exact ⟨(ns.sum.fmod 11).toNat, by omega, by omega⟩
  have hX := F.xk law_cells
  have hu : A.units + 128 < cLine := by have := room.u; omega
  conv => arg 7; whnf
  refine ru_swap_new (Ra := LstT) (i := (k : Int)) room.h LstT.mono F law_free t (hkn ▸ ev_mod (ev_call_b (Rs := [LstI ns]) (ev_glob ⟨rfl, rfl, rfl, rfl⟩ (W.sum.le l)) (evS_cons (F.ev rfl) (LstI.mono.mn _) evS_nil) (fun s' vs l' q => do_sum room.h l'.t' q) ⟨_, _, rfl⟩ rfl) ev_int (by decide)) (.inl rfl) (.inl rfl) hX.of fun s₂ O m₂ hOn F₂ => ?_
  have hOb : hb.get? O = none := l.none1 hOn
  have l₂ : Le hb s₂.heap := ((l.b _).trans m₂.le).le hXn
  have hXn' : ∀ p ∈ O :: fX (lawE L fa cd), hb.get? p = none := fun p hp => by
    rcases List.mem_cons.mp hp with rfl | hp
    · exact hOb
    · exact hXn p hp
  have F₂' : Fs (lawE L fa cd) (O :: fX (lawE L fa cd)) s₂.heap [("whole", IntR k), ("orders", OrdR s₂.heap O [])] := by
    obtain ⟨_, ⟨rfl, ys, hp, hr⟩, _⟩ := (F₂.bd (x := "orders") rfl).1.2
    have F3 := F₂.sub (σ' := [("whole", IntR k), ("orders", fun _ u => u = .ref O)]) (.cons rfl (fun _ _ q => q) (Mn.int _) (.cons rfl (fun _ _ q => q.1) (fun _ _ _ _ q => q) .nil))
    refine (F3.give (x := "orders") (R := OrdR s₂.heap O []) rfl ⟨rfl, ys, hp, ?_⟩ OrdR.mn).sub (.cons rfl (fun _ _ q => q) (Mn.int _) (.cons rfl (fun _ _ q => q) OrdR.mn .nil))
    cases hys : ys.toList with
    | nil => exact .nil
    | cons a r => rw [hys] at hr; cases hr
  have hX₂ : XK (O :: fX (lawE L fa cd)) s₂.heap := fun p hp => by
    rcases List.mem_cons.mp hp with rfl | hp
    · obtain ⟨_, ⟨_, ys, ⟨n, e⟩, _⟩, _⟩ := (F₂'.bd (x := "orders") rfl).1.2
      exact ⟨_, e, fun vs q => by cases q⟩
    · exact F₂'.xk law_cells p hp
  have hfresh : ∀ b, s₂.heap.get? b = none → b ∉ O :: fX (lawE L fa cd) := fun b e hm => by
    obtain ⟨o, e', _⟩ := hX₂ b hm
    rw [e] at e'; cases e'
  obtain ⟨aa, fda, fna, ga, ka⟩ := W.apart
  obtain ⟨al, fdl, fnl, gl, kl⟩ := W.leav
  refine ru_for (n := (lotsF k).length) (P := fun i h u => ∃ xs, (lotsF k)[i]? = some xs ∧ RL s₂.heap xs h u) (Rit := New s₂.heap (LstOf (RL s₂.heap) (lotsF k)))
    (Inv := fun i h => ∃ hB, Fs (lawE L fa cd) (O :: fX (lawE L fa cd)) h [("whole", IntR k), ("orders", OrdR hB O (((lotsF k).take i).map ordF))]) m₂.le.t' hX₂ ?_ (fun s' v l' r => src_list room.h l'.t' r.1) (fun s' v l' r b e => hfresh b (r.2 b e))
    (fun i h h' ki ⟨hB, f⟩ => ⟨hB, f.ki ki⟩) (fun s' m' => ⟨s₂.heap, F₂'.le m'.le⟩) (fun i h h' v lb ⟨xs, e, q⟩ => ?_) ?_ ?_
  · refine ev_listN (Ra := RL s₂.heap) RL.mono (evS_cons ?_ (RL.mono.mn _) (evS_cons ?_ (RL.mono.mn _) (evS_cons ?_ (RL.mono.mn _) evS_nil))) (by simp [lotsF, sizeLine_eq])
    · exact ev_call_d (Rs := [IntR (k : Int), IntR (k : Int), IntR 2]) (fna.le l₂) (ev_glob ⟨rfl, rfl, rfl, rfl⟩ (ga.le l₂)) (evS_cons (F₂'.ev rfl) (Mn.int _) (evS_cons (F₂'.ev rfl) (Mn.int _) (evS_cons ev_int (Mn.int _) evS_nil))) (fun s' vs l' q => (ka k k k 2 A s' vs (Nat.le_refl _) (by omega) (by omega) (by omega) (by decide) (by decide) (l₂.trans l') (room.le (by omega)) q).imp fun h v q => q.old l') ⟨_, _, rfl⟩
    · exact ev_call_d (Rs := [IntR (k : Int), IntR (k : Int), LstI [1, 4]]) (fnl.le l₂) (ev_glob ⟨rfl, rfl, rfl, rfl⟩ (gl.le l₂)) (evS_cons (F₂'.ev rfl) (Mn.int _) (evS_cons (F₂'.ev rfl) (Mn.int _) (evS_cons (ev_list (xs := [1, 4]) IntR.mono (evS_cons ev_int (Mn.int _) (evS_cons ev_int (Mn.int _) evS_nil)) (by simp [sizeLine_eq])) (LstI.mono.mn _) evS_nil))) (fun s' vs l' q => (kl k k k [1, 4] A s' vs (Nat.le_refl _) hk (by omega) (by omega) (by decide) (l₂.trans l') (room.le (by omega)) q).imp fun h v q => q.old l') ⟨_, _, rfl⟩
    · exact ev_call_d (Rs := [IntR (k : Int), IntR (k : Int), LstI [2, 3]]) (fnl.le l₂) (ev_glob ⟨rfl, rfl, rfl, rfl⟩ (gl.le l₂)) (evS_cons (F₂'.ev rfl) (Mn.int _) (evS_cons (F₂'.ev rfl) (Mn.int _) (evS_cons (ev_list (xs := [2, 3]) IntR.mono (evS_cons ev_int (Mn.int _) (evS_cons ev_int (Mn.int _) evS_nil)) (by simp [sizeLine_eq])) (LstI.mono.mn _) evS_nil))) (fun s' vs l' q => (kl k k k [2, 3] A s' vs (Nat.le_refl _) hk (by omega) (by omega) (by decide) (l₂.trans l') (room.le (by omega)) q).imp fun h v q => q.old l') ⟨_, _, rfl⟩
  · refine ⟨xs, e, ?_, q.2⟩
    obtain ⟨⟨b, ys, rfl, hl, hr⟩, hn⟩ := q
    exact lst_leB ⟨b, ys, rfl, hl, hr⟩ (hfresh b (hn b rfl)) lb
  · rintro i s₁ v hi m₁ ⟨hB, F₁⟩ ⟨xs, hx, hv, hvn⟩
    obtain ⟨a, ys, rfl, hl, hr⟩ := hv
    have haX := hfresh a (hvn a rfl)
    have hlot : lotB xs = true := by
      have h1 := plain0 ⟨k, by omega⟩
      rw [List.all_eq_true] at h1
      exact h1 xs (List.mem_of_getElem? hx)
    have hi3 : i < 3 := hi
    refine wpAny_mono (F₁.put (x := "lots") (R := LotR a xs) m₁.le.t' (.inl rfl) ⟨rfl, a, ys, rfl, hl, hr⟩ LotR.mn) (fun _ s₂' h₂ => ⟨h₂.1, ?_⟩) fun _ _ q => q
    have G₂ := h₂.2
    have M₂ := m₁.trans h₂.1
    have l₂' : Le hb s₂'.heap := ((l₂.b _).trans M₂.le).le hXn'
    obtain ⟨_, ⟨rfl, hOr⟩, _⟩ := (G₂.bd (x := "orders") rfl).1.2
    have hXs : XK (O :: fX (lawE L fa cd)) s₂'.heap := fun p hp => by
      rcases List.mem_cons.mp hp with rfl | hp
      · obtain ⟨ys, ⟨n, e⟩, _⟩ := hOr
        exact ⟨_, e, fun vs q => by cases q⟩
      · exact G₂.xk law_cells p hp
    have G3 := G₂.sub (σ' := [("lots", LotR a xs), ("whole", IntR k), ("orders", fun _ u => u = .ref O)]) (.cons rfl (fun _ _ q => q) LotR.mn (.cons rfl (fun _ _ q => q) (Mn.int _) (.cons rfl (fun _ _ q => q.1) (fun _ _ _ _ q => q) .nil)))
    have G4 := (G3.give (x := "orders") (R := OrdR s₂'.heap O (((lotsF k).take i).map ordF)) rfl ⟨rfl, hOr.rebase⟩ OrdR.mn).sub (σ' := [("lots", LotR a xs), ("whole", IntR k), ("orders", OrdR s₂'.heap O (((lotsF k).take i).map ordF))])
      (.cons rfl (fun _ _ q => q) LotR.mn (.cons rfl (fun _ _ q => q) (Mn.int _) (.cons rfl (fun _ _ q => q) OrdR.mn .nil)))
    refine (outer_turn W hXn' M₂.le.t' l₂' (room.le (by decide)) hXs haX hlot (by simp; omega) G4).imp fun f s₃ _ q => ⟨q.1, ?_⟩
    obtain ⟨_, hB', G5⟩ := q
    refine ⟨hB', ?_⟩
    rw [List.take_add_one, hx]
    simpa using G5
  · rintro s₃ m₃ ⟨hB, F₃⟩
    rw [List.take_length] at F₃
    have l₃ : Le hb s₃.heap := ((l₂.b _).trans m₃.le).le hXn'
    obtain ⟨_, ⟨rfl, ys, hp, hr⟩, _⟩ := (F₃.bd (x := "orders") rfl).1.2
    obtain ⟨u1, u2, u3, hys, r1, r2, r3⟩ : ∃ u1 u2 u3, ys.toList = [u1, u2, u3] ∧ LstT (ordF (genF (fun _ => true) 2 k k k)) s₃.heap u1 ∧ LstT (ordF (genF (okR [1, 4]) 0 k k k)) s₃.heap u2 ∧ LstT (ordF (genF (okR [2, 3]) 0 k k k)) s₃.heap u3 := by
      have hr' : All2 (fun v xs => ∃ b, v = .ref b ∧ b ≠ O ∧ (∃ o, hB.get? b = some o) ∧ LstT xs s₃.heap v) ys.toList [ordF (genF (fun _ => true) 2 k k k), ordF (genF (okR [1, 4]) 0 k k k), ordF (genF (okR [2, 3]) 0 k k k)] := hr
      generalize ys.toList = l at hr'
      cases hr' with | cons q1 hr' => cases hr' with | cons q2 hr' => cases hr' with | cons q3 hr' => cases hr' with | nil =>
      obtain ⟨_, _, _, _, q1⟩ := q1
      obtain ⟨_, _, _, _, q2⟩ := q2
      obtain ⟨_, _, _, _, q3⟩ := q3
      exact ⟨_, _, _, rfl, q1, q2, q3⟩
    have hys' : ys = #[u1, u2, u3] := by rw [← Array.toArray_toList (xs := ys), hys]
    have hpl : s₃.heap.IsList O #[u1, u2, u3] := hys' ▸ hp.isList
    have p1 := plain1 ⟨k, by omega⟩
    unfold pairB at p1
    rw [Bool.and_eq_true, decide_eq_true_eq, decide_eq_true_eq] at p1
    have p3 := smallB_of (plain3 ⟨k, by omega⟩)
    have p2 := fun m : Fin 5 => plain2 ⟨k, by omega⟩ m
    simp only at p1 p2 p3
    refine ru_unpack3 (R1 := LstT (ordF (genF (fun _ => true) 2 k k k))) (R2 := LstT (ordF (genF (okR [1, 4]) 0 k k k))) (R3 := LstT (ordF (genF (okR [2, 3]) 0 k k k))) room.h F₃ m₃.le.t' ((F₃.ev rfl).imp fun h v q => q.1) hpl r1 r2 r3 (LstT.mono.mn _) (LstT.mono.mn _) (LstT.mono.mn _) (.inl rfl) (.inl rfl) (.inl rfl) fun s₄ m₄ F₄ => ?_
    generalize hap : ordF (genF (fun _ => true) 2 k k k) = ap at p1 p2 p3 F₄
    generalize hon : ordF (genF (okR [1, 4]) 0 k k k) = on at p1 F₄
    generalize htw : ordF (genF (okR [2, 3]) 0 k k k) = tw at p1 F₄
    obtain ⟨p3a, p3b, p3c⟩ := p3
    have l₄ : Le hb s₄.heap := ((l₃.b _).trans m₄.le).le hXn'
    refine ru_if (c := false) m₄.le.t' ?_ fun s₅ m₅ => ?_
    · have hfl : (ap.filter notIn1).length ≤ ap.length := List.length_filter_le _ _
      refine EvT.toB (evT_or (p := ((ap.length : Int) != (on.length : Int))) (q := (((ap.filter notIn1).length : Int) != (tw.length : Int))) ?_ (fun _ => ?_)) (by rw [p1.1, p1.2]; simp)
      · exact evT_ne (ev_call_b (Rs := [LstT ap]) (ev_glob ⟨rfl, rfl, rfl, rfl⟩ (W.len.le l₄)) (evS_cons (F₄.ev rfl) (LstT.mono.mn _) evS_nil) (fun s' vs l' q => do_len_list l'.t' q (by omega)) ⟨_, _, rfl⟩ rfl)
          (ev_call_b (Rs := [LstT on]) (ev_glob ⟨rfl, rfl, rfl, rfl⟩ (W.len.le l₄)) (evS_cons (F₄.ev rfl) (LstT.mono.mn _) evS_nil) (fun s' vs l' q => do_len_list l'.t' q (by omega)) ⟨_, _, rfl⟩ rfl)
      · refine evT_ne (ev_call_b (Rs := [LstT (ap.filter notIn1)]) (ev_glob ⟨rfl, rfl, rfl, rfl⟩ (W.len.le l₄)) (evS_cons ?_ (LstT.mono.mn _) evS_nil) (fun s' vs l' q => do_len_list l'.t' q (by omega)) ⟨_, _, rfl⟩ rfl)
          (ev_call_b (Rs := [LstT tw]) (ev_glob ⟨rfl, rfl, rfl, rfl⟩ (W.len.le l₄)) (evS_cons (F₄.ev rfl) (LstT.mono.mn _) evS_nil) (fun s' vs l' q => do_len_list l'.t' q (by omega)) ⟨_, _, rfl⟩ rfl)
        refine Ev.imp (ev_comp (x := "lot") (Ra := TupI) (Rb := TupI) (xs := ap) (p := notIn1) (f := fun r => r) (cl := []) (Rit := LstT ap) rfl rfl (by decide) (.inl rfl)
          (fun y c hm => by cases hm) (F₄.ev rfl) (fun s' v l' r => src_list room.h l'.t' r) TupI.monoT TupI.mono (by rw [sizeLine_eq]; omega) ?_ ?_) (fun h v q => by simpa using q)
        · intro lot hlot C h u l' hru hbd
          exact evI_one (evT_ninT encInt (by decide) hu ev_int (ev_name (hbd.bd rfl hru) (TupI.mono.mn _)) IntR.mono rfl)
        · intro lot hlot _ C h u l' hru hbd
          exact ev_name (hbd.bd rfl hru) (TupI.mono.mn _)
    rw [if_neg (by decide)]
    refine ru_nil m₅.le.t' ?_
    have F₅ := F₄.le m₅.le
    have l₅ := l₄.trans m₅.le
    have hX₅ : XK (O :: fX (lawE L fa cd)) s₅.heap := fun p hp => by
      rcases List.mem_cons.mp hp with rfl | hp
      · obtain ⟨_, ⟨_, ys, ⟨n, e⟩, _⟩, _⟩ := (F₅.bd (x := "orders") rfl).1.2
        exact ⟨_, e, fun vs q => by cases q⟩
      · exact F₅.xk law_cells p hp
    have F₅' := F₅.sub (σ' := [("apart", LstT ap), ("whole", IntR k), ("orders", OrdR hB O ((lotsF k).map ordF))]) (.cons rfl (fun _ _ q => q) (LstT.mono.mn _) (.cons rfl (fun _ _ q => q) (Mn.int _) (.cons rfl (fun _ _ q => q) OrdR.mn .nil)))
    refine ru_for (n := 5) (P := fun i => IntR (i : Int)) (Rit := RngR 0 5)
      (Inv := fun i h => Fs (lawE L fa cd) (O :: fX (lawE L fa cd)) h [("apart", LstT ap), ("whole", IntR k), ("orders", OrdR hB O ((lotsF k).map ordF))]) m₅.le.t' hX₅
      (ev_call_t (Rs := [IntR 5]) (ev_glob ⟨rfl, rfl, rfl, rfl⟩ (W.rng.le l₅)) (evS_cons ev_int (Mn.int _) evS_nil) (fun s' vs l' q => do_range1 l'.t' q) ⟨_, _, rfl⟩ rfl)
      (fun s' v l' r => ?_) (fun s' v l' r => rng_nX hX₅ l' r) (fun i h h' ki f => f.ki ki) (fun s' m' => F₅'.le m'.le) (fun i h h' v lb q => q) ?_ ?_
    · have q := src_range (prog := prog) (w := wd) (A := A) (h := s'.heap) room.h l'.t' r (by decide) (by decide) (by decide) (by decide)
      have e3 : (fun (i : Nat) => IntR (i : Int)) = fun (i : Nat) (_ : Heap) (u : Value) => IntR (0 + (i : Int)) s'.heap u := by
        funext i h u
        simp [IntR]
      rw [e3]
      exact q
    · intro i s₆ v hi m₆ F₆ hv
      refine wpAny_mono (F₆.put (x := "many") m₆.le.t' (.inr rfl) hv (Mn.int _)) (fun _ s₇ h₇ => ⟨h₇.1, ?_⟩) fun _ _ q => q
      have F₇ := h₇.2
      have l₇ : Le hb s₇.heap := ((l₅.b _).trans (m₆.trans h₇.1).le).le hXn'
      have hX₇ : XK (O :: fX (lawE L fa cd)) s₇.heap := fun p hp => by
        rcases List.mem_cons.mp hp with rfl | hp
        · obtain ⟨_, ⟨_, ys, ⟨n, e⟩, _⟩, _⟩ := (F₇.bd (x := "orders") rfl).1.2
          exact ⟨_, e, fun vs q => by cases q⟩
        · exact F₇.xk law_cells p hp
      have hmb : manyB k i ap = true := p2 ⟨i, hi⟩
      exact many_turn W hXn' h₇.1.le.t' l₇ (room.le (by decide)) hX₇ hi hk hmb p3a p3c F₇
    · intro s₆ m₆ F₆
      exact ru_ret (R := fun _ v => v = .bool true) m₆.le.t' ev_bool fun s₇ v m₇ r => by rw [r]
end
end Mine

/-! part 33 -/
open PySem PySem.Spec PySem.Calls PyProof.Rows PySem.W
set_option maxRecDepth 100000
set_option Elab.async false
set_option linter.unusedVariables false
namespace Mine

/-- a def that the ledger has under a name -/
def FnK (K : Frag) (n : Str) (P : FuncData → Prop) : Prop :=
  ∃ a oc od fd sl, nsIn K mainGlobals n = some (some (.ref a)) ∧ K.lookup a = some ⟨oc, od, .func fd, sl⟩ ∧ oc = .type "function" ∧ codeIn K fd.code fd.qualname = true ∧ P fd
def DfK (K : Frag) (T Kd : Addr) : Prop :=
  (∃ t0 o n, K.lookup T = some o ∧ o.cls = .type "tuple" ∧ o.data = .seq #[.int 0 t0, .none] n) ∧
  (∃ o h t n, K.lookup Kd = some o ∧ o.data = .dict #[{ hash := h, key := .str "key" t, val := .none }] n)
structure KF (K : Frag) : Prop where
  d21 : FnK K "_div2n1n" fun fd => ∃ name qual doc pm an cdv ct, fd = d21Fd name qual doc pm an cdv ct
  i2d : FnK K "_int2digits" fun fd => ∃ name doc pm an ct, fd = i2dFd name "_int2digits" doc pm an (.ref 34) ct
  d2i : FnK K "_digits2int" fun fd => ∃ name doc pm an ct, fd = d2iFd name "_digits2int" doc pm an (.ref 41) ct
  dp : FnK K "_divmod_pos" fun fd => ∃ name qual doc pm an cdv ct, fd = dpFd name qual doc pm an cdv ct
  id : FnK K "int_divmod" fun fd => ∃ name qual doc pm an cdv ct, fd = idFd name qual doc pm an cdv ct
  ins : FnK K "insort_left" fun fd => ∃ name qual T Kd doc pm an cdv ct, fd = insFd name qual T Kd doc pm an cdv ct ∧ DfK K T Kd
  bis : FnK K "bisect_left" fun fd => ∃ name qual T Kd doc pm an cdv ct, fd = bisFd name qual T Kd doc pm an cdv ct ∧ DfK K T Kd
  apart : FnK K "_law_apart" fun fd => ∃ name qual doc pm an cdv ct, fd = apartFd name qual doc pm an cdv ct
  leav : FnK K "_law_leaves" fun fd => ∃ name qual doc pm an cdv ct, fd = leavFd name qual doc pm an cdv ct
  lim : ∃ t, nsIn K mainGlobals "_DIV_LIMIT" = some (some (.int 4000 t))
  non : ∀ n ∈ (["sorted", "range", "len", "min", "tuple", "list", "sum", "divmod", "reversed"] : List Str), nsIn K mainGlobals n = some none

section
variable {prog : Program} {wd : World} {K : Frag} {h g : Heap} {mg mb : Str → Option Value}

theorem fn_of {n : Str} {P : FuncData → Prop} (X : K.In g) (up : ∀ b o, g.get? b = some o → h.get? b = some o) (G : g.Ns mainGlobals mg) (lim : h.NoLimit) (f : FnK K n P) : ∃ a fd, DefAt h a fd ∧ Glo h n (.ref a) ∧ P fd := by
  obtain ⟨a, oc, od, fd, sl, h1, h2, h3, h4, h5⟩ := f
  exact ⟨a, fd, ⟨⟨_, up _ _ (X _ _ h2), by rw [h3]; simp, rfl⟩, (codeRec_of X h4).keeps up, lim⟩, .inl ⟨mg, G.keeps up, mg_of X G h1⟩, h5⟩
theorem df_of {T Kd : Addr} (X : K.In g) (up : ∀ b o, g.get? b = some o → h.get? b = some o) (d : DfK K T Kd) : ∃ t0, DfAt h T Kd t0 := by
  obtain ⟨⟨t0, o, n, h1, h2, h3⟩, ⟨o', hh, t, n', h4, h5⟩⟩ := d
  refine ⟨t0, ⟨o, up _ _ (X _ _ h1), h2, n, h3⟩, fun x => nsFind #[{ hash := hh, key := .str "key" t, val := .none }] x, ⟨o', _, n', up _ _ (X _ _ h4), h5, fun e he => ?_, fun _ => rfl⟩, ?_⟩
  · simp at he
    subst he
    exact ⟨_, t, rfl⟩
  · rfl

theorem wd_of (X : K.In g) (up : ∀ b o, g.get? b = some o → h.get? b = some o) (G : g.Ns mainGlobals mg) (B : g.Ns builtinsNs mb) (lim : h.NoLimit) (hbu : ∀ x : Str, x ≠ "__name__" → mb x = bootBuiltins x) (n41 : Nest h 41 37) (n34 : Nest h 34 30) (F : KF K) : Wd prog wd h := by
  have glo : ∀ (n : Str) v, nsIn K mainGlobals n = some none → n ≠ "__name__" → bootBuiltins n = some v → Glo h n v := fun n v h1 h2 h3 => .inr ⟨mg, mb, G.keeps up, mg_none_of X G h1, B.keeps up, by rw [hbu n h2]; exact h3⟩
  have gsorted : Glo h "sorted" (.builtin "sorted") := glo _ _ (F.non _ (by simp)) (by decide) (by rfl)
  have grange : Glo h "range" (.type "range") := glo _ _ (F.non _ (by simp)) (by decide) (by rfl)
  have glen : Glo h "len" (.builtin "len") := glo _ _ (F.non _ (by simp)) (by decide) (by rfl)
  have gmin : Glo h "min" (.builtin "min") := glo _ _ (F.non _ (by simp)) (by decide) (by rfl)
  have gtuple : Glo h "tuple" (.type "tuple") := glo _ _ (F.non _ (by simp)) (by decide) (by rfl)
  have glist : Glo h "list" (.type "list") := glo _ _ (F.non _ (by simp)) (by decide) (by rfl)
  have gsum : Glo h "sum" (.builtin "sum") := glo _ _ (F.non _ (by simp)) (by decide) (by rfl)
  have gdivmod : Glo h "divmod" (.builtin "divmod") := glo _ _ (F.non _ (by simp)) (by decide) (by rfl)
  have grev : Glo h "reversed" (.type "reversed") := glo _ _ (F.non _ (by simp)) (by decide) (by rfl)
  obtain ⟨tl, hlimit⟩ := F.lim
  have glim : Glo h "_DIV_LIMIT" (.int 4000 tl) := .inl ⟨mg, G.keeps up, mg_of X G hlimit⟩
  obtain ⟨a1, f1, D1, g1, _, _, _, _, _, _, _, rfl⟩ := fn_of X up G lim F.d21
  obtain ⟨a2, f2, D2, g2, _, _, _, _, _, rfl⟩ := fn_of X up G lim F.i2d
  obtain ⟨a3, f3, D3, g3, _, _, _, _, _, rfl⟩ := fn_of X up G lim F.d2i
  obtain ⟨a4, f4, D4, g4, _, _, _, _, _, _, _, rfl⟩ := fn_of X up G lim F.dp
  obtain ⟨a5, f5, D5, g5, _, _, _, _, _, _, _, rfl⟩ := fn_of X up G lim F.id
  obtain ⟨a6, f6, D6, g6, _, _, T6, K6, _, _, _, _, _, rfl, df6⟩ := fn_of X up G lim F.ins
  obtain ⟨a7, f7, D7, g7, _, _, T7, K7, _, _, _, _, _, rfl, df7⟩ := fn_of X up G lim F.bis
  obtain ⟨a8, f8, D8, g8, _, _, _, _, _, _, _, rfl⟩ := fn_of X up G lim F.apart
  obtain ⟨a9, f9, D9, g9, _, _, _, _, _, _, _, rfl⟩ := fn_of X up G lim F.leav
  obtain ⟨t6, df6⟩ := df_of X up df6
  obtain ⟨t7, df7⟩ := df_of X up df7
  have k1 := d21_ok (prog := prog) (w := wd) D1 gdivmod glim
  have k2 := i2d_ok (prog := prog) (w := wd) rfl D2 n34 glen
  have k3 := d2i_ok (prog := prog) (w := wd) rfl D3 n41 glen
  have k4 := dp_ok D4 D2.fn k2 g2 D3.fn k3 g3 D1.fn k1 g1 grev
  have k5 := id_ok D5 D4.fn k4 g4
  exact ⟨⟨a8, _, D8.fn, g8, apart_ok D8 gmin grange g8⟩, ⟨a9, _, D9.fn, g9, leav_ok D9 gmin grange g9 D5.fn k5 g5⟩,
    ⟨a6, _, D6.fn, g6, fun A s D v xs x l room hD hx hlen => insort_ok D6 df6 D7.fn (bisect_ok D7 df7 glen true) g7 l room hD hx hlen⟩,
    ⟨a7, _, D7.fn, g7, bisect_ok D7 df7 glen false⟩, gsorted, grange, glen, gmin, gtuple, glist, gsum⟩
end
end Mine

/-! part 34 -/
open PySem PySem.Spec PySem.Calls PyProof.Rows PySem.W
set_option maxRecDepth 100000
set_option Elab.async false
set_option linter.unusedVariables false
namespace Mine

abbrev tabsL : List (Addr × Addr) := [(41, 37), (34, 30)]
theorem room0 (env : Env) : Room (callerA.deeper env) 90 := ⟨rfl, by show 1 + claimMargin + 1 + 90 < recursionLimit; decide +kernel, by show 4 + 3 + 128 + 8 * 90 < cLine; decide +kernel⟩

section
variable {prog p : Program} {wd : World} {loose : List Str} {mean : ExcName → Option Value} {mg mb m : Str → Option Value} {hb h₁ : Heap} {ns : List Int} {vs : List Value} {a fa : Addr} {cd : Value} {K : Frag} {w1 w0 : Obj} {c1 c0 : Option Value} {A : Around}

theorem nest_of {c P : Addr} (T : Top p loose mean mg mb hb) (C : CodeHd hb c P) (hP : hb.get? P = some (tabObj #[])) : Nest hb c P := by
  have hgs := T.g
  obtain ⟨bm, ob, b1, b2, b3, b4, b5, b6⟩ := T.bmain
  have hbP : bm ≠ P := fun q => by rw [q, hP] at b3; cases b3; cases b4
  have hbG : bm ≠ mainGlobals := fun q => by
    obtain ⟨o, es, ep, e, hd, _⟩ := hgs
    rw [q, e] at b3; cases b3; rw [hd] at b6; cases b6
  exact ⟨C, mg, T.g, bm, ob, b1, b2, hbG, hbP, b3, b4, b5, b6⟩

theorem ti_start {h : Heap} (e1 : h.get? 37 = some (tabObj #[])) (e2 : h.get? 30 = some (tabObj #[])) : TI h := ⟨⟨#[], e2, .inl rfl⟩, ⟨#[], e1, .inl rfl⟩⟩
theorem grown_of {h : Heap} (t : TI h) : GrownAll tabsL h := by
  obtain ⟨⟨ps, e, _⟩, ⟨ps', e', _⟩⟩ := t
  exact ⟨⟨ps', e'⟩, ⟨ps, e⟩, trivial⟩

theorem join (hT : TabsAt tabsL hb) (T : Top p loose mean mg mb hb) (X : K.In (ghostOf hb tabsL)) (hL : (ghostOf hb tabsL).IsList a vs.toArray) (hI : IntsAre vs ns)
    (F : Fr (ghostOf hb tabsL) hb.objs.size h₁ m) (hm : m "script" = some (.ref a))
    (N : News (ghostOf hb tabsL) hb.objs.size h₁ [(hb.objs.size + 1 + 1, w1), (hb.objs.size + 1, w0), (37, tabObj #[]), (30, tabObj #[])]) (d1 : w1.data = .cell c1) (d0 : w0.data = .cell c0)
    (hK : KF K) (room : Room A 90) {s : Shared} (hs : s.heap = h₁) {body : List Stmt} {env : Env} (hbody : body = dBody (sAt 14)) (henv : env = lawE hb.objs.size fa cd) {Q : Flow → Shared → Prop} {E : Value → Shared → Prop}
    (hQ : ∀ s', (∀ b o, (ghostOf hb tabsL).get? b = some o → s'.heap.get? b = some o) → s'.os = s.os → s'.gens = s.gens → GrownAll tabsL s'.heap → Q (.ret (.bool true)) s') :
    wpAny (model prog wd) A (execs body env) Q E s := by
  subst hbody henv
  obtain ⟨C1, t1⟩ := hT (41, 37) (by simp)
  obtain ⟨C2, t2⟩ := hT (34, 30) (by simp)
  have up : ∀ b o, (ghostOf hb tabsL).get? b = some o → hb.get? b = some o := fun b o e => of_hideAll _ e
  have dn : ∀ b o, b ≠ 30 → b ≠ 37 → hb.get? b = some o → (ghostOf hb tabsL).get? b = some o := fun b o n1 n2 e => ghost_ne e (by simp [n1, n2])
  have ti0 : TI hb := ti_start t1 t2
  have ti1 : TI h₁ := ti_start (N.get (by simp)) (N.get (by simp))
  have le0 : Le hb h₁ := ⟨ti0, ti1, fun b o n1 n2 e => F.keep b o (dn b o n1 n2 e)⟩
  have W : Wd prog wd hb := wd_of X up (ghost_ns hT T.g) (ghost_ns hT T.b) T.nolimit T.builtins (nest_of T C1 t1) (nest_of T C2 t2) hK
  have hXn : ∀ q ∈ fX (lawE hb.objs.size fa cd), hb.get? q = none := fun q hq => by
    have hq' : q ∈ [hb.objs.size, hb.objs.size + 2, hb.objs.size + 1] := hq
    simp only [List.mem_cons, List.not_mem_nil, or_false] at hq'
    refine Heap.get?_none_of_le ?_
    rcases hq' with rfl | rfl | rfl <;> omega
  subst hs
  have hF : Fs (lawE hb.objs.size fa cd) (fX (lawE hb.objs.size fa cd)) s.heap [("script", LstI ns)] := by
    have cl := N (hb.objs.size + 1 + 1, w1) List.mem_cons_self
    have cl0 := N (hb.objs.size + 1, w0) (List.mem_cons_of_mem _ List.mem_cons_self)
    have two : ∀ x, (lawE hb.objs.size fa cd).kindOf x = some .cell → x = "many" ∨ x = "order" := fun x hx => by
      have hm := mem_of_lookup hx
      have : ∀ q ∈ (dScope (sAt 14)).names, q.2 = .cell → q.1 = "many" ∨ q.1 = "order" := by decide
      exact this _ hm rfl
    refine ⟨rfl, List.mem_cons_self, fun x hx => ?_, fun x y c hx hy e1 e2 => ?_, m, F.ns, fun x R e => ?_⟩
    · rcases two x hx with rfl | rfl
      · exact ⟨hb.objs.size + 2, rfl, List.mem_cons_of_mem _ List.mem_cons_self, by show hb.objs.size + 2 ≠ hb.objs.size; omega, _, w1, cl.1, d1⟩
      · exact ⟨hb.objs.size + 1, rfl, List.mem_cons_of_mem _ (List.mem_cons_of_mem _ List.mem_cons_self), by show hb.objs.size + 1 ≠ hb.objs.size; omega, _, w0, cl0.1, d0⟩
    · have k1 : (lawE hb.objs.size fa cd).cells.lookup ("many" : Str) = some (hb.objs.size + 2) := rfl
      have k2 : (lawE hb.objs.size fa cd).cells.lookup ("order" : Str) = some (hb.objs.size + 1) := rfl
      rcases two x hx with rfl | rfl <;> rcases two y hy with rfl | rfl
      · rfl
      · rw [k1] at e1; rw [k2] at e2; have := e1.trans e2.symm; injection this with q; omega
      · rw [k2] at e1; rw [k1] at e2; have := e1.trans e2.symm; injection this with q; omega
      · rfl
    · have hx : x = "script" := by
        simp only [List.lookup] at e
        split at e
        · rename_i q; exact eq_of_beq q
        · cases e
      subst hx
      cases e
      refine ⟨LstI.mono.mn _, .ref a, ⟨a, vs.toArray, rfl, ?_, ?_⟩, .inl ⟨rfl, hm⟩⟩
      · obtain ⟨o, ho, r⟩ := hL
        exact ⟨o, F.keep _ _ ho, r⟩
      · simpa using of_intsAre hI
  refine wpAny_mono (law_run W hXn ti1 le0 room hF) (fun f s' q => ?_) fun e s' q => q.elim
  obtain ⟨⟨h', tk, rfl, lb⟩, rfl⟩ := q
  have l1 : Le hb h' := ((le0.b _).trans lb).le hXn
  refine hQ _ (fun b o e => ?_) rfl rfl (grown_of l1.t')
  have n1 : b ≠ 30 := fun q => by
    have := (N (30, tabObj #[]) (by simp)).2.2
    rw [q, this] at e; cases e
  have n2 : b ≠ 37 := fun q => by
    have := (N (37, tabObj #[]) (by simp)).2.2
    rw [q, this] at e; cases e
  exact l1.k b o n1 n2 (up b o e)
end
end Mine

/-! part 35 -/
open PySem PySem.W PyProof.Rows
set_option Elab.async false
set_option maxRecDepth 100000 in
set_option maxHeartbeats 8000000 in
open_top hd for PySem.Challenge.rw_gz0004_01
set_option maxRecDepth 100000 in
set_option maxHeartbeats 1000000 in
theorem PySem.Challenge.cw_gz0004_01_holds : PySem.Challenge.rw_gz0004_01.Holds := by
  refine hd ?_
  k_go0
  rename Fr (ghostOf _ _) _ _ _ => FG
  rename News (ghostOf _ _) _ _ _ => NG
  rename Frag.In _ (ghostOf _ _) => XG
  rename TabsAt _ _ => hT
  rename IntsAre _ _ => hI
  rename _ = (#[] : Array _) => hg
  rename Heap.IsList (ghostOf _ _) _ _ => hL
  refine Mine.join (fa := ?fa) (cd := ?cd) hT (by assumption) XG hL hI FG ?hm NG (by assumption) (by assumption) ?KK ?room rfl ?body ?env (fun s' k os gn gr => ?Q)
  case env => exact rfl
  case body => exact rfl
  case hm => exact rfl
  case KK =>
    refine ⟨?_, ?_, ?_, ?_, ?_, ?_, ?_, ?_, ?_, ?_, ?_⟩
    · exact ⟨_, _, _, _, _, rfl, rfl, rfl, rfl, _, _, _, _, _, _, _, rfl⟩
    · exact ⟨_, _, _, _, _, rfl, rfl, rfl, rfl, _, _, _, _, _, rfl⟩
    · exact ⟨_, _, _, _, _, rfl, rfl, rfl, rfl, _, _, _, _, _, rfl⟩
    · exact ⟨_, _, _, _, _, rfl, rfl, rfl, rfl, _, _, _, _, _, _, _, rfl⟩
    · exact ⟨_, _, _, _, _, rfl, rfl, rfl, rfl, _, _, _, _, _, _, _, rfl⟩
    · exact ⟨_, _, _, _, _, rfl, rfl, rfl, rfl, _, _, _, _, _, _, _, _, _, rfl, ⟨_, _, _, rfl, rfl, rfl⟩, _, _, _, _, rfl, rfl⟩
    · exact ⟨_, _, _, _, _, rfl, rfl, rfl, rfl, _, _, _, _, _, _, _, _, _, rfl, ⟨_, _, _, rfl, rfl, rfl⟩, _, _, _, _, rfl, rfl⟩
    · exact ⟨_, _, _, _, _, rfl, rfl, rfl, rfl, _, _, _, _, _, _, _, rfl⟩
    · exact ⟨_, _, _, _, _, rfl, rfl, rfl, rfl, _, _, _, _, _, _, _, rfl⟩
    · exact ⟨_, rfl⟩
    · intro n hn
      simp only [List.mem_cons, List.not_mem_nil, or_false] at hn
      rcases hn with rfl | rfl | rfl | rfl | rfl | rfl | rfl | rfl | rfl <;> rfl
  case room => exact Mine.room0 _
  case Q =>
    refine ⟨⟨.inl ⟨.bool true, .bool true, [], rfl, fun _ => rfl, .bool true, ?_, fun _ => ⟨List.nodup_nil, nofun⟩⟩, k, os, gn.trans hg⟩, gr⟩
    wrow_post
