import PyProof.Rows.All
import Wide.All
import OpenK.AllK
import Wide.FinOn
import PySem.Challenge.RW_go0001_01
set_option Elab.async false
set_option linter.all false
set_option linter.unusedVariables false
set_option maxRecDepth 100000

/- part 1 -/
namespace Mine
open PySem PySem.W PySem.Spec PySem.Calls PyProof.Rows

/-- a code table: not yet grown, or grown by the one inner def -/
def TabOk (P : Addr) (line col : Nat) (qual : Str) (h : Heap) : Prop :=
  h.get? P = some (tabObj #[]) ∨ ∃ c', h.get? P = some (tabObj #[rawInt line, rawInt col, .ref c']) ∧ h.CodeRec (.ref c') qual
def Tb (h : Heap) : Prop := TabOk 16 5 4 (Str.ofString "_int2digits.<locals>.inner") h ∧ TabOk 23 20 4 (Str.ofString "_digits2int.<locals>.inner") h

theorem codeRec_kept {h h' : Heap} {c : Value} {q : Str} (x : h.CodeRec c q) (k : ∀ b o, b ≠ 16 → b ≠ 23 → h.get? b = some o → h'.get? b = some o) (t : Tb h) : h'.CodeRec c q := by
  obtain ⟨a, o, vs, tk, e, ho, hd, hv⟩ := x
  refine ⟨a, o, vs, tk, e, k a o ?_ ?_ ho, hd, hv⟩
  · rintro rfl
    rcases t.1 with e1 | ⟨c', e1, _⟩ <;> rw [ho] at e1 <;> cases e1 <;> cases hd <;> simp [rawInt] at hv
  · rintro rfl
    rcases t.2 with e1 | ⟨c', e1, _⟩ <;> rw [ho] at e1 <;> cases e1 <;> cases hd <;> simp [rawInt] at hv

theorem TabOk.ex {P : Addr} {l c : Nat} {q : Str} {h : Heap} (t : TabOk P l c q h) : ∃ ps, h.get? P = some (tabObj ps) := by
  rcases t with e | ⟨c', e, _⟩ <;> exact ⟨_, e⟩
theorem TabOk.keep {P : Addr} {l c : Nat} {q : Str} {h h' : Heap} (t : TabOk P l c q h) (k : ∀ b o, h.get? b = some o → h'.get? b = some o) : TabOk P l c q h' := by
  rcases t with e | ⟨c', e, r⟩
  · exact .inl (k _ _ e)
  · exact .inr ⟨c', k _ _ e, r.keeps k⟩
theorem Tb.keep {h h' : Heap} (t : Tb h) (k : ∀ b o, h.get? b = some o → h'.get? b = some o) : Tb h' := ⟨t.1.keep k, t.2.keep k⟩

/-- the state is grown: outside X and the two tables all objects stand -/
structure StepX (X : Addr → Prop) (s s' : Shared) : Prop where
  same : ∃ h tk, s' = { s with heap := h, toks := tk }
  keep : ∀ b o, ¬ X b → b ≠ 16 → b ≠ 23 → s.heap.get? b = some o → s'.heap.get? b = some o
  tb : Tb s.heap → Tb s'.heap
abbrev Step := StepX (fun _ => False)

theorem StepX.refl {X : Addr → Prop} {s : Shared} : StepX X s s := ⟨⟨_, _, rfl⟩, fun _ _ _ _ _ e => e, id⟩
theorem StepX.trans {X : Addr → Prop} {s s' s'' : Shared} (a : StepX X s s') (b : StepX X s' s'') : StepX X s s'' := by
  obtain ⟨h, tk, rfl⟩ := a.same
  obtain ⟨h', tk', rfl⟩ := b.same
  exact ⟨⟨h', tk', rfl⟩, fun c o n1 n2 n3 e => b.keep c o n1 n2 n3 (a.keep c o n1 n2 n3 e), fun t => b.tb (a.tb t)⟩
theorem StepX.mono {X Y : Addr → Prop} {s s' : Shared} (a : StepX X s s') (h : ∀ b, X b → Y b) : StepX Y s s' := ⟨a.same, fun b o n => a.keep b o (fun x => n (h b x)), a.tb⟩
theorem Step.of {s : Shared} {h : Heap} {tk : Nat} (k : ∀ b o, s.heap.get? b = some o → h.get? b = some o) : Step s { s with heap := h, toks := tk } :=
  ⟨⟨_, _, rfl⟩, fun b o _ _ _ e => k b o e, fun t => t.keep k⟩
theorem Step.toks {s : Shared} {tk : Nat} : Step s { s with toks := tk } := Step.of fun _ _ e => e
theorem Step.push {s : Shared} {o : Obj} {tk : Nat} : Step s { s with heap := s.heap.push o, toks := tk } := Step.of fun _ _ e => Heap.get?_push_of_some _ e

theorem Tb.ne {h : Heap} {b : Addr} {o : Obj} (t : Tb h) (e : h.get? b = some o) (n : o.cls ≠ .none ∨ ∀ ps, o.data ≠ .fields ps) : b ≠ 16 ∧ b ≠ 23 := by
  constructor
  · rintro rfl
    obtain ⟨ps, q⟩ := t.1.ex
    rw [e] at q; cases q
    rcases n with n | n
    · exact n rfl
    · exact n _ rfl
  · rintro rfl
    obtain ⟨ps, q⟩ := t.2.ex
    rw [e] at q; cases q
    rcases n with n | n
    · exact n rfl
    · exact n _ rfl
theorem StepX.at {X : Addr → Prop} {s s' : Shared} (S : StepX X s s') (t : Tb s.heap) {b : Addr} {o : Obj} (hb : ¬ X b) (e : s.heap.get? b = some o) (n : o.cls ≠ .none ∨ ∀ ps, o.data ≠ .fields ps) : s'.heap.get? b = some o :=
  S.keep b o hb (t.ne e n).1 (t.ne e n).2 e

theorem StepX.list {X : Addr → Prop} {s s' : Shared} (S : StepX X s s') (t : Tb s.heap) {a : Addr} {its : Array Value} (hb : ¬ X a) (h : s.heap.IsList a its) : s'.heap.IsList a its := by
  obtain ⟨o, e, c, r⟩ := h
  exact ⟨o, S.at t hb e (.inl (by rw [c]; nofun)), c, r⟩
theorem StepX.ns {X : Addr → Prop} {s s' : Shared} (S : StepX X s s') (t : Tb s.heap) {a : Addr} {m : Str → Option Value} (hb : ¬ X a) (h : s.heap.Ns a m) : s'.heap.Ns a m := by
  obtain ⟨o, es, ep, e, d, r⟩ := h
  exact ⟨o, es, ep, S.at t hb e (.inr (by rw [d]; nofun)), d, r⟩
theorem StepX.cell {X : Addr → Prop} {s s' : Shared} (S : StepX X s s') (t : Tb s.heap) {a : Addr} {v : Option Value} (hb : ¬ X a) (h : s.heap.IsCell a v) : s'.heap.IsCell a v := by
  obtain ⟨o, e, d⟩ := h
  exact ⟨o, S.at t hb e (.inr (by rw [d]; nofun)), d⟩

/-- plain values, tokens and addresses forgotten -/
inductive AV where
  | non
  | bool (b : Bool)
  | int (i : Int)
  | il (l : List Int)
  | rng (n : Nat)

def At (h : Heap) (v : Value) : AV → Prop
  | .non => v = .none
  | .bool b => v = .bool b
  | .int i => ∃ t, v = .int i t
  | .il l => ∃ a vs, v = .ref a ∧ h.IsList a vs.toArray ∧ IntsAre vs l
  | .rng n => ∃ a t u w, v = .ref a ∧ IsRange h a 0 (n : Int) 1 t u w
/-- the objects that a value's meaning hangs on lie outside X -/
def Off (X : Addr → Prop) (v : Value) : Prop := ∀ a, v = .ref a → ¬ X a
theorem At.stepX {X : Addr → Prop} {s s' : Shared} (S : StepX X s s') (t : Tb s.heap) {v : Value} {av : AV} (hX : Off X v) (h : At s.heap v av) : At s'.heap v av := by
  cases av with
  | non => exact h
  | bool b => exact h
  | int i => exact h
  | il l =>
    obtain ⟨a, vs, rfl, hl, hi⟩ := h
    exact ⟨a, vs, rfl, S.list t (hX a rfl) hl, hi⟩
  | rng n =>
    obtain ⟨a, t1, u, w, rfl, hr⟩ := h
    exact ⟨a, t1, u, w, rfl, S.at t (hX a rfl) hr (.inl (by nofun))⟩
theorem At.step {s s' : Shared} (S : Step s s') (t : Tb s.heap) {v : Value} {av : AV} (h : At s.heap v av) : At s'.heap v av := h.stepX S t (fun _ _ => id)

/-- the place: program, world, the base heap (tables hidden), its global names -/
structure Cx where
  prog : Program
  w : World
  g : Heap
  mg : Str → Option Value
  mb : Str → Option Value

structure Glo (C : Cx) (h : Heap) : Prop where
  keep : ∀ b o, C.g.get? b = some o → h.get? b = some o
  tb : Tb h
structure Cx.Ok (C : Cx) : Prop where
  g16 : C.g.get? 16 = none
  g23 : C.g.get? 23 = none
  ng : C.g.Ns mainGlobals C.mg
  nb : C.g.Ns builtinsNs C.mb
  lim : C.g.NoLimit

theorem Glo.stepX {C : Cx} (O : C.Ok) {X : Addr → Prop} {s s' : Shared} (S : StepX X s s') (hX : ∀ b, X b → C.g.get? b = none) (G : Glo C s.heap) : Glo C s'.heap :=
  ⟨fun b o e => S.keep b o (fun x => by rw [hX b x] at e; cases e) (by rintro rfl; rw [O.g16] at e; cases e) (by rintro rfl; rw [O.g23] at e; cases e) (G.keep b o e), S.tb G.tb⟩
theorem Glo.step {C : Cx} (O : C.Ok) {s s' : Shared} (S : Step s s') (G : Glo C s.heap) : Glo C s'.heap := G.stepX O S (fun _ h => h.elim)

structure Room (A : Around) (k : Nat) : Prop where
  handled : A.handled = none
  depth : A.depth + k < 1000
  units : A.units + 4 * k + 100 < 9900
theorem Room.mono {A : Around} {k j : Nat} (R : Room A k) (h : j ≤ k) : Room A j := ⟨R.handled, by have := R.depth; omega, by have := R.units; omega⟩
theorem Room.deeper {A : Around} {k : Nat} {env : Env} (R : Room A (k + 1)) : Room (A.deeper env) k :=
  ⟨R.handled, by have := R.depth; show A.depth + 1 + k < 1000; omega, by have := R.units; show A.units + 3 + 4 * k + 100 < 9900; omega⟩

/-- a name of a frame (or of a comprehension) stands for v -/
def SeesV (env : Env) (h : Heap) (x : Str) (v : Value) : Prop :=
  (env.kindOf x = some .local ∧ ∃ m, h.Ns env.locals m ∧ m x = some v) ∨
  ((env.kindOf x = some .cell ∨ env.kindOf x = some .free) ∧ ∃ c, env.cells.lookup x = some c ∧ h.IsCell c (some v))
structure EnvOk (env : Env) : Prop where
  kind : env.scope.kind = .function
  glob : env.globals = mainGlobals
  blt : env.builtins = builtinsNs
abbrev Rho := List (Str × AV)
structure Sees (ρ : Rho) (env : Env) (h : Heap) : Prop where
  ok : EnvOk env
  at' : ∀ x av, ρ.lookup x = some av → ∃ v, SeesV env h x v ∧ At h v av
theorem SeesV.step {s s' : Shared} (S : Step s s') (t : Tb s.heap) {env : Env} {x : Str} {v : Value} (h : SeesV env s.heap x v) : SeesV env s'.heap x v := by
  rcases h with ⟨k, m, n, e⟩ | ⟨k, c, l, i⟩
  · exact .inl ⟨k, m, S.ns t (fun x => x) n, e⟩
  · exact .inr ⟨k, c, l, S.cell t (fun x => x) i⟩
theorem Sees.step {s s' : Shared} (S : Step s s') (t : Tb s.heap) {env : Env} {ρ : Rho} (h : Sees ρ env s.heap) : Sees ρ env s'.heap :=
  ⟨h.ok, fun x av e => let ⟨v, a, b⟩ := h.at' x av e; ⟨v, a.step S t, b.step S t⟩⟩
theorem Sees.sub {ρ ρ' : Rho} {env : Env} {h : Heap} (S : Sees ρ env h) (hs : ∀ x av, ρ'.lookup x = some av → ρ.lookup x = some av) : Sees ρ' env h :=
  ⟨S.ok, fun x av e => S.at' x av (hs x av e)⟩

section
variable (C : Cx)
/-- an expression's value -/
def Ev (k : Nat) (ρ : Rho) (sc : Scope) (e : Expr) (av : AV) : Prop :=
  ∀ (A : Around) (env : Env) (s : Shared) (Q : Value → Shared → Prop) (E : Value → Shared → Prop), Room A k → env.scope = sc → Sees ρ env s.heap → Glo C s.heap →
    (∀ v s', Step s s' → At s'.heap v av → Q v s') → wpAny (model C.prog C.w) A (eval e env) Q E s
/-- a test's truth -/
def Tr (k : Nat) (ρ : Rho) (sc : Scope) (e : Expr) (b : Bool) : Prop :=
  ∀ (A : Around) (env : Env) (s : Shared) (Q : Bool → Shared → Prop) (E : Value → Shared → Prop), Room A k → env.scope = sc → Sees ρ env s.heap → Glo C s.heap →
    (∀ s', Step s s' → Q b s') → wpAny (model C.prog C.w) A (isTrue e env (eval e env)) Q E s
/-- an expression's very value (a def, a built-in) -/
def EvV (k : Nat) (sc : Scope) (e : Expr) (v : Value) : Prop :=
  ∀ (A : Around) (env : Env) (s : Shared) (Q : Value → Shared → Prop) (E : Value → Shared → Prop), Room A k → env.scope = sc → EnvOk env → Glo C s.heap →
    (∀ s', Step s s' → Q v s') → wpAny (model C.prog C.w) A (eval e env) Q E s
def AtAll (h : Heap) : List Value → List AV → Prop
  | [], [] => True
  | v :: vs, a :: as => At h v a ∧ AtAll h vs as
  | _, _ => False
/-- what a call gives -/
def CallsTo (k : Nat) (f : Value) (avs : List AV) (av : AV) : Prop :=
  ∀ (A : Around) (s : Shared) (vs : List Value) (Q : Value → Shared → Prop) (E : Value → Shared → Prop), Room A k → Glo C s.heap → AtAll s.heap vs avs →
    (∀ v s', Step s s' → At s'.heap v av → Q v s') → wpAny (model C.prog C.w) A (call f vs) Q E s
def BinOk (op : Operator) (a b c : AV) : Prop :=
  ∀ (A : Around) (s : Shared) (va vb : Value) (Q : Value → Shared → Prop) (E : Value → Shared → Prop), Room A 0 → Glo C s.heap → At s.heap va a → At s.heap vb b →
    (∀ v s', Step s s' → At s'.heap v c → Q v s') → wpAny (model C.prog C.w) A (binaryOp op va vb) Q E s
def CmpOk (op : CmpOp) (a b : AV) (c : Bool) : Prop :=
  ∀ (A : Around) (s : Shared) (va vb : Value) (Q : Value → Shared → Prop) (E : Value → Shared → Prop), Room A 0 → Glo C s.heap → At s.heap va a → At s.heap vb b →
    (∀ s', Step s s' → Q (.bool c) s') → wpAny (model C.prog C.w) A (compareOp op va vb) Q E s
end

theorem atAll0 {h : Heap} {vs : List Value} (x : AtAll h vs []) : vs = [] := by
  cases vs with
  | nil => rfl
  | cons v r => exact x.elim
theorem atAll1 {h : Heap} {vs : List Value} {a : AV} (x : AtAll h vs [a]) : ∃ v, vs = [v] ∧ At h v a := by
  cases vs with
  | nil => exact x.elim
  | cons v r => obtain ⟨x1, x2⟩ := x; cases atAll0 x2; exact ⟨v, rfl, x1⟩
theorem atAll2 {h : Heap} {vs : List Value} {a b : AV} (x : AtAll h vs [a, b]) : ∃ v w, vs = [v, w] ∧ At h v a ∧ At h w b := by
  cases vs with
  | nil => exact x.elim
  | cons v r => obtain ⟨x1, x2⟩ := x; obtain ⟨w, rfl, x3⟩ := atAll1 x2; exact ⟨v, w, rfl, x1, x3⟩

theorem AtAll.step {s s' : Shared} (S : Step s s') (t : Tb s.heap) : ∀ {vs : List Value} {avs : List AV}, AtAll s.heap vs avs → AtAll s'.heap vs avs
  | [], [], _ => trivial
  | _ :: _, _ :: _, ⟨a, b⟩ => ⟨a.step S t, AtAll.step S t b⟩
  | [], _ :: _, h => h.elim
  | _ :: _, [], h => h.elim

section
variable {C : Cx} {k : Nat} {ρ : Rho} {sc : Scope}

theorem Ev.int {i : Int} {kk : Nat} {pos : Pos} : Ev C k ρ sc (.Constant (.int i) kk pos) (.int i) := fun A env s Q E _ _ _ _ h => wpAny_Constant_int (h _ _ Step.toks ⟨_, rfl⟩)
theorem Ev.bool {b : Bool} {kk : Nat} {pos : Pos} : Ev C k ρ sc (.Constant (.bool b) kk pos) (.bool b) := fun A env s Q E _ _ _ _ h => wpAny_Constant_bool (h _ _ StepX.refl rfl)
theorem Ev.non {kk : Nat} {pos : Pos} : Ev C k ρ sc (.Constant .none kk pos) .non := fun A env s Q E _ _ _ _ h => wpAny_Constant_none (h _ _ StepX.refl rfl)
theorem Ev.name {x : Str} {pos : Pos} {av : AV} (hx : ρ.lookup x = some av) (hd : (x == ("__debug__" : Str)) = false := by decide) (hn : (x == ("__classdict__" : Str)) = false := by decide) :
    Ev C k ρ sc (.Name x pos) av := fun A env s Q E _ hsc S G h => by
  obtain ⟨v, sv, av'⟩ := S.at' x av hx
  refine wpAny_Name ?_ hd
  rcases sv with ⟨hk, m, n, e⟩ | ⟨hk | hk, c, l, i⟩
  · exact wpAny_loadName_local S.ok.kind hk n e (h _ _ StepX.refl av')
  · exact wpAny_loadName_cell S.ok.kind hk l i (h _ _ StepX.refl av')
  · exact wpAny_loadName_free S.ok.kind hk l i (h _ _ StepX.refl av') hn
theorem Ev.bin {l r : Expr} {op : Operator} {pos : Pos} {a b c : AV} (O : C.Ok) (hl : Ev C k ρ sc l a) (hr : Ev C k ρ sc r b) (hb : BinOk C op a b c) : Ev C k ρ sc (.BinOp l op r pos) c := fun A env s Q E R hsc S G h => by
  refine wpAny_BinOp (hl A env s _ E R hsc S G fun va s₁ S₁ a₁ => ?_)
  have G₁ := G.step O S₁
  refine hr A env s₁ _ E R hsc (S.step S₁ G.tb) G₁ fun vb s₂ S₂ b₂ => ?_
  have G₂ := G₁.step O S₂
  exact hb A s₂ va vb Q E (R.mono (Nat.zero_le _)) G₂ (a₁.step S₂ G₁.tb) b₂ fun v s₃ S₃ c₃ => h v s₃ ((S₁.trans S₂).trans S₃) c₃
theorem Ev.cmp {l r : Expr} {op : CmpOp} {pos : Pos} {a b : AV} {c : Bool} (O : C.Ok) (hl : Ev C k ρ sc l a) (hr : Ev C k ρ sc r b) (hb : CmpOk C op a b c) (hm : behindInMarks op r = false := by with_unfolding_all rfl) :
    Ev C k ρ sc (.Compare l [op] [r] pos) (.bool c) := fun A env s Q E R hsc S G h => by
  refine wpAny_Compare1 (hl A env s _ E R hsc S G fun va s₁ S₁ a₁ => ?_) hm
  have G₁ := G.step O S₁
  refine hr A env s₁ _ E R hsc (S.step S₁ G.tb) G₁ fun vb s₂ S₂ b₂ => ?_
  have G₂ := G₁.step O S₂
  exact hb A s₂ va vb Q E (R.mono (Nat.zero_le _)) G₂ (a₁.step S₂ G₁.tb) b₂ fun s₃ S₃ => h _ s₃ ((S₁.trans S₂).trans S₃) rfl
theorem Tr.cmp {l r : Expr} {op : CmpOp} {pos : Pos} {a b : AV} {c : Bool} (O : C.Ok) (hl : Ev C k ρ sc l a) (hr : Ev C k ρ sc r b) (hb : CmpOk C op a b c) (hm : behindInMarks op r = false := by with_unfolding_all rfl) :
    Tr C k ρ sc (.Compare l [op] [r] pos) c := fun A env s Q E R hsc S G h => by
  refine wpAny_isTrue_Compare1 (hl A env s _ E R hsc S G fun va s₁ S₁ a₁ => ?_) hm
  have G₁ := G.step O S₁
  refine hr A env s₁ _ E R hsc (S.step S₁ G.tb) G₁ fun vb s₂ S₂ b₂ => ?_
  have G₂ := G₁.step O S₂
  exact hb A s₂ va vb _ E (R.mono (Nat.zero_le _)) G₂ (a₁.step S₂ G₁.tb) b₂ fun s₃ S₃ => wpAny_truthy_bool (h s₃ ((S₁.trans S₂).trans S₃))

theorem Tr.not {x : Expr} {pos : Pos} {b : Bool} (h : Tr C k ρ sc x b) : Tr C k ρ sc (.UnaryOp .Not x pos) (!b) := fun A env s Q E R hsc S G q =>
  wpAny_isTrue_Not (h A env s _ E R hsc S G fun s' S' => q s' S')

theorem Tr.and_nil {pos : Pos} : Tr C k ρ sc (.BoolOp .And [] pos) true := fun A env s Q E R hsc S G q => by
  show wpAny _ A (allTrue .And [] env) Q E s
  exact wpAny_pure (q s StepX.refl)
theorem Tr.and_cons {x : Expr} {rest : List Expr} {pos : Pos} {b c : Bool} (O : C.Ok) (h : Tr C k ρ sc x b) (h2 : b = true → Tr C k ρ sc (.BoolOp .And rest pos) c) : Tr C k ρ sc (.BoolOp .And (x :: rest) pos) (b && c) := fun A env s Q E R hsc S G q => by
  show wpAny _ A (allTrue .And (x :: rest) env) Q E s
  rw [show allTrue .And (x :: rest) env = (do let t ← isTrue x env (eval x env); match BoolOp.And, t with | .And, false => pure false | .Or, true => pure true | _, _ => allTrue .And rest env) from rfl]
  refine wpAny_bind (h A env s _ E R hsc S G fun s₁ S₁ => ?_)
  cases b with
  | false => exact wpAny_pure (q _ S₁)
  | true =>
    have G₁ := G.step O S₁
    exact h2 rfl A env s₁ _ E R hsc (S.step S₁ G.tb) G₁ fun s₂ S₂ => q s₂ (S₁.trans S₂)
theorem Tr.or_nil {pos : Pos} : Tr C k ρ sc (.BoolOp .Or [] pos) false := fun A env s Q E R hsc S G q => by
  show wpAny _ A (allTrue .Or [] env) Q E s
  exact wpAny_pure (q s StepX.refl)
theorem Tr.or_cons {x : Expr} {rest : List Expr} {pos : Pos} {b c : Bool} (O : C.Ok) (h : Tr C k ρ sc x b) (h2 : b = false → Tr C k ρ sc (.BoolOp .Or rest pos) c) : Tr C k ρ sc (.BoolOp .Or (x :: rest) pos) (b || c) := fun A env s Q E R hsc S G q => by
  show wpAny _ A (allTrue .Or (x :: rest) env) Q E s
  rw [show allTrue .Or (x :: rest) env = (do let t ← isTrue x env (eval x env); match BoolOp.Or, t with | .And, false => pure false | .Or, true => pure true | _, _ => allTrue .Or rest env) from rfl]
  refine wpAny_bind (h A env s _ E R hsc S G fun s₁ S₁ => ?_)
  cases b with
  | true => exact wpAny_pure (q _ S₁)
  | false =>
    have G₁ := G.step O S₁
    exact h2 rfl A env s₁ _ E R hsc (S.step S₁ G.tb) G₁ fun s₂ S₂ => q s₂ (S₁.trans S₂)
/-- a call, in a test -/
theorem Tr.of_bool {e : Expr} {b : Bool} (h : Ev C k ρ sc e (.bool b)) (he : ∀ env whole, isTrue e env whole = (do let v ← whole; standAt e.pos; holding [v] (truthy v))) : Tr C k ρ sc e b := fun A env s Q E R hsc S G q => by
  rw [he]
  exact wpAny_bind (h A env s _ E R hsc S G fun v s' S' a => wpAny_bind (wpAny_standAt (wpAny_holding (by rw [show v = .bool b from a]; exact wpAny_truthy_bool (q s' S')))))
theorem Ev.and2 {x y : Expr} {pos : Pos} {b c : Bool} (O : C.Ok) (h : Ev C k ρ sc x (.bool b)) (h2 : b = true → Ev C k ρ sc y (.bool c)) : Ev C k ρ sc (.BoolOp .And [x, y] pos) (.bool (b && c)) := fun A env s Q E R hsc S G q => by
  refine wpAny_And2 (h A env s _ E R hsc S G fun v s₁ S₁ a => ?_)
  rw [show v = .bool b from a]
  refine wpAny_truthy_bool ?_
  cases b with
  | false => exact q _ _ S₁ rfl
  | true =>
    have G₁ := G.step O S₁
    exact h2 rfl A env s₁ _ E R hsc (S.step S₁ G.tb) G₁ fun v s₂ S₂ a₂ => q v s₂ (S₁.trans S₂) a₂
end
end Mine

/- part 2 -/
namespace Mine
open PySem PySem.W PySem.Spec PySem.Calls PyProof.Rows

theorem ints_len {vs : List Value} {l : List Int} (h : IntsAre vs l) : vs.length = l.length := by
  induction h with
  | nil => rfl
  | cons n t _ ih => simp [ih]
theorem ints_get {vs : List Value} {l : List Int} (h : IntsAre vs l) : ∀ {i : Nat} {v : Value}, vs[i]? = some v → ∃ n t, v = .int n t ∧ l[i]? = some n := by
  induction h with
  | nil => intro i v e; simp at e
  | cons n t _ ih =>
    intro i v e
    cases i with
    | zero => simp at e; exact ⟨n, t, e.symm, by simp⟩
    | succ i => simp at e; obtain ⟨m, u, a, b⟩ := ih e; exact ⟨m, u, a, by simpa using b⟩
theorem ints_at {vs : List Value} {l : List Int} (h : IntsAre vs l) {i : Nat} {n : Int} (e : l[i]? = some n) : ∃ t, vs[i]? = some (.int n t) := by
  induction h generalizing i with
  | nil => simp at e
  | cons m t _ ih =>
    cases i with
    | zero => simp at e; exact ⟨t, by simp [e]⟩
    | succ i => simp at e; obtain ⟨u, a⟩ := ih e; exact ⟨u, by simpa using a⟩
theorem ints_append {vs ws : List Value} {l k : List Int} (h : IntsAre vs l) (h2 : IntsAre ws k) : IntsAre (vs ++ ws) (l ++ k) := IntsAre.append h h2
theorem ints_rep {vs : List Value} {l : List Int} (h : IntsAre vs l) : ∀ n, IntsAre (List.replicate n vs).flatten (List.replicate n l).flatten
  | 0 => .nil
  | n + 1 => by rw [List.replicate_succ, List.flatten_cons, List.replicate_succ, List.flatten_cons]; exact ints_append h (ints_rep h n)
theorem ints_take {vs : List Value} {l : List Int} (h : IntsAre vs l) : ∀ n, IntsAre (vs.take n) (l.take n) := by
  induction h with
  | nil => intro n; simp; exact .nil
  | cons m t _ ih =>
    intro n
    cases n with
    | zero => exact .nil
    | succ n => simp only [List.take_succ_cons]; exact .cons m t (ih n)
theorem ints_drop {vs : List Value} {l : List Int} (h : IntsAre vs l) : ∀ n, IntsAre (vs.drop n) (l.drop n) := by
  induction h with
  | nil => intro n; simp; exact .nil
  | cons m t h ih =>
    intro n
    cases n with
    | zero => exact .cons m t h
    | succ n => simp only [List.drop_succ_cons]; exact ih n
theorem ints_set {vs : List Value} {l : List Int} (h : IntsAre vs l) (x : Int) (t : Tok) : ∀ n, IntsAre (vs.set n (.int x t)) (l.set n x) := by
  induction h with
  | nil => intro n; simp; exact .nil
  | cons m u h ih =>
    intro n
    cases n with
    | zero => exact .cons x t h
    | succ n => exact .cons m u (ih n)
/-- every token forgotten: some values for the ints -/
theorem ints_ex : ∀ l : List Int, ∃ vs, IntsAre vs l
  | [] => ⟨[], .nil⟩
  | n :: r => let ⟨vs, h⟩ := ints_ex r; ⟨.int n 0 :: vs, .cons n 0 h⟩

section
variable {C : Cx}
theorem BinOk.add {a b : Int} : BinOk C .Add (.int a) (.int b) (.int (a + b)) := fun A s va vb Q E _ _ ⟨t, ha⟩ ⟨u, hb⟩ h => by
  subst ha hb; exact PySem.P.add_int (h _ _ Step.toks ⟨_, rfl⟩)
theorem BinOk.sub {a b : Int} : BinOk C .Sub (.int a) (.int b) (.int (a - b)) := fun A s va vb Q E _ _ ⟨t, ha⟩ ⟨u, hb⟩ h => by
  subst ha hb; exact PySem.P.sub_int (h _ _ Step.toks ⟨_, rfl⟩)
theorem BinOk.mul {a b : Int} (hm : IntMulOk a b) : BinOk C .Mult (.int a) (.int b) (.int (a * b)) := fun A s va vb Q E _ _ ⟨t, ha⟩ ⟨u, hb⟩ h => by
  subst ha hb; exact PySem.P.mul_int (h _ _ Step.toks ⟨_, rfl⟩) hm
theorem BinOk.mod {a b : Int} (hb0 : b ≠ 0) : BinOk C .Mod (.int a) (.int b) (.int (a.fmod b)) := fun A s va vb Q E _ _ ⟨t, ha⟩ ⟨u, hb⟩ h => by
  subst ha hb; exact PyProof.Rows.mod_int' hb0 (h _ _ Step.toks ⟨_, rfl⟩)
theorem BinOk.fdiv {a b : Int} (hb0 : b ≠ 0) (hs : b.natAbs < 1000000) : BinOk C .FloorDiv (.int a) (.int b) (.int (a.fdiv b)) := fun A s va vb Q E _ _ ⟨t, ha⟩ ⟨u, hb⟩ h => by
  subst ha hb; exact PyProof.Rows.floordiv_int hb0 (h _ _ Step.toks ⟨_, rfl⟩) (.inl (PyProof.noPylong_small (by omega)))
theorem BinOk.pow {a n : Int} (hn : 0 ≤ n) (hsz : (Builtin.Int.intBits a : Int) * n ≤ 2 ^ 27) : BinOk C .Pow (.int a) (.int n) (.int (a ^ n.toNat)) := fun A s va vb Q E _ _ ⟨t, ha⟩ ⟨u, hb⟩ h => by
  subst ha hb; exact PyProof.Rows.pow_int hn hsz (h _ _ Step.toks ⟨_, rfl⟩)
theorem BinOk.shr {a n : Int} (hn : 0 ≤ n) : BinOk C .RShift (.int a) (.int n) (.int (a.fdiv (2 ^ n.toNat))) := fun A s va vb Q E _ _ ⟨t, ha⟩ ⟨u, hb⟩ h => by
  subst ha hb; exact PyProof.Rows.rshift_int hn (h _ _ Step.toks ⟨_, rfl⟩)
theorem BinOk.shl {a n : Int} (hn : 0 ≤ n) (hn2 : n ≤ 1000000) (ha0 : a.natAbs < 2 ^ 64) : BinOk C .LShift (.int a) (.int n) (.int (a * 2 ^ n.toNat)) := fun A s va vb Q E _ _ ⟨t, ha⟩ ⟨u, hb⟩ h => by
  subst ha hb; exact PyProof.Rows.lshift_int_small hn hn2 ha0 (h _ _ Step.toks ⟨_, rfl⟩)
theorem BinOk.and {a b : Int} : BinOk C .BitAnd (.int a) (.int b) (.int (Builtin.bitAnd a b)) := fun A s va vb Q E _ _ ⟨t, ha⟩ ⟨u, hb⟩ h => by
  subst ha hb; exact PyProof.Rows.and_int (h _ _ Step.toks ⟨_, rfl⟩)
theorem BinOk.or {a b : Int} : BinOk C .BitOr (.int a) (.int b) (.int (Builtin.bitOr a b)) := fun A s va vb Q E _ _ ⟨t, ha⟩ ⟨u, hb⟩ h => by
  subst ha hb; exact PyProof.Rows.or_int (h _ _ Step.toks ⟨_, rfl⟩)
theorem BinOk.xor {a b : Int} : BinOk C .BitXor (.int a) (.int b) (.int (Builtin.bitXor a b)) := fun A s va vb Q E _ _ ⟨t, ha⟩ ⟨u, hb⟩ h => by
  subst ha hb; exact PyProof.Rows.xor_int (h _ _ Step.toks ⟨_, rfl⟩)

theorem isList_new (h : Heap) (vs : List Value) : (h.push { cls := .type "list", data := .seq vs.toArray }).IsList h.objs.size vs.toArray := ⟨_, Heap.get?_push_size _ rfl, rfl, _, rfl⟩
theorem BinOk.cat {a b : List Int} (hz : a.length + b.length ≤ 100000) : BinOk C .Add (.il a) (.il b) (.il (a ++ b)) := fun A s va vb Q E _ _ ⟨l, vs, ha, hl, hi⟩ ⟨b', ws, hb, hb', hj⟩ h => by
  subst ha hb
  obtain ⟨⟨cls, dd, data, sl⟩, ho, hc, n, hd⟩ := id hl
  obtain ⟨⟨cls2, dd2, data2, sl2⟩, ho2, hc2, n2, hd2⟩ := id hb'
  simp only at hc hd hc2 hd2
  subst hc hd hc2 hd2
  have e : vs.toArray ++ ws.toArray = (vs ++ ws).toArray := by simp
  have hsz : vs.toArray.size + ws.toArray.size ≤ sizeLine := by rw [List.size_toArray, List.size_toArray, ints_len hi, ints_len hj, sizeLine_eq]; omega
  refine concat_meets ⟨_, ho, rfl⟩ ⟨_, ho2, rfl⟩ noFill_list_add seq_list_add PySem.F.slot_list_add PySem.F.entry_list_add (PySem.F.args_list_add_2 _ _) (list_addW l b' vs.toArray ws.toArray n n2 dd dd2 sl sl2 hsz) ⟨ho, ho2, ?_⟩
  rw [e]
  exact h _ _ Step.push ⟨_, _, rfl, isList_new _ _, ints_append hi hj⟩
theorem BinOk.rep {a : List Int} {n : Int} (hn : n < 100000) (hz : a.length * n.toNat ≤ 100000) (hlo : -100000 ≤ n) : BinOk C .Mult (.il a) (.int n) (.il (List.replicate n.toNat a).flatten) := fun A s va vb Q E _ _ ⟨l, vs, ha, hl, hi⟩ ⟨u, hb⟩ h => by
  subst ha hb
  obtain ⟨⟨cls, d, data, sl⟩, ho, hcl, k, hd⟩ := id hl
  simp only at hcl hd
  subst hcl hd
  have hsz' : vs.toArray.size * n.toNat ≤ 100000 := by rw [List.size_toArray, ints_len hi]; exact hz
  refine wpAny_binaryOp_repeat_ref (T := "list") (U := "int") (by decide) ⟨_, ho, rfl⟩ (fun s' => typeIs_int s' n u) noFill_list_mul PySem.F.fills_int_mul PySem.F.slot_int_rmul repeat_list PySem.F.slot_int_index.lookup
    (call_meets PySem.F.slot_int_rmul (typeIs_int s n u) PySem.F.entry_int_rmul (PySem.F.args_int_rmul_2 _ _) (lm_int_rmul_list_any n u l vs.toArray k d sl)
      ⟨ho, rfl, ⟨_, ho, rfl⟩, call_meets PySem.F.slot_list_mul ⟨_, ho, rfl⟩ PySem.F.entry_list_mul (PySem.F.args_list_mul_2 _ _)
        (lm_list_mul_any l vs.toArray k d sl n u (by simp [Builtin.List.listFitsIndex]; omega) (by omega) (by rw [List.size_toArray] at hsz'; simp [Builtin.List.listTooLong, sizeLine]; omega))
        ⟨ho, ?_⟩⟩)
  rw [listMul_foldl_if]
  exact h _ _ Step.push ⟨_, _, rfl, isList_new _ _, ints_rep hi _⟩

theorem CmpOk.lt {a b : Int} : CmpOk C .Lt (.int a) (.int b) (decide (a < b)) := fun A s va vb Q E _ _ ⟨t, ha⟩ ⟨u, hb⟩ h => by
  subst ha hb; exact PySem.P.lt_int (h _ StepX.refl)
theorem CmpOk.gt {a b : Int} : CmpOk C .Gt (.int a) (.int b) (decide (a > b)) := fun A s va vb Q E _ _ ⟨t, ha⟩ ⟨u, hb⟩ h => by
  subst ha hb; exact PySem.P.gt_int (h _ StepX.refl)
theorem CmpOk.eq {a b : Int} : CmpOk C .Eq (.int a) (.int b) (a == b) := fun A s va vb Q E _ _ ⟨t, ha⟩ ⟨u, hb⟩ h => by
  subst ha hb; exact PySem.P.eq_int (h _ StepX.refl)
theorem CmpOk.ne {a b : Int} : CmpOk C .NotEq (.int a) (.int b) (a != b) := fun A s va vb Q E _ _ ⟨t, ha⟩ ⟨u, hb⟩ h => by
  subst ha hb; exact PySem.P.ne_int (h _ StepX.refl)
theorem CmpOk.eqL {a b : List Int} : CmpOk C .Eq (.il a) (.il b) (decide (a = b)) := fun A s va vb Q E R _ ⟨l, vs, ha, hl, hi⟩ ⟨b', ws, hb, hb', hj⟩ h => by
  subst ha hb; exact ke_eq_ints hl hb' hi hj (by have := R.units; show A.units + 64 < 9900; omega) (h _ StepX.refl)
theorem CmpOk.neL {a b : List Int} : CmpOk C .NotEq (.il a) (.il b) (!decide (a = b)) := fun A s va vb Q E R _ ⟨l, vs, ha, hl, hi⟩ ⟨b', ws, hb, hb', hj⟩ h => by
  subst ha hb; exact ke_ne_ints hl hb' hi hj (by have := R.units; show A.units + 64 < 9900; omega) (h _ StepX.refl)
theorem CmpOk.isNon {v : Value} {a : AV} (hn : a = .non) : CmpOk C .Is a .non true := fun A s va vb Q E R _ ha hb h => by
  subst hn
  rw [show va = .none from ha, show vb = .none from hb]
  exact PyProof.Rows.is_none_none (h _ StepX.refl)

theorem CallsTo.len {l : List Int} (hz : l.length ≤ 100000) : CallsTo C 0 (.builtin "len") [.il l] (.int l.length) := fun A s vs Q E R G hat h => by
  obtain ⟨v, rfl, a, ws, rfl, hl, hi⟩ := atAll1 hat
  · skip
    have e : ws.toArray.size = l.length := by rw [List.size_toArray, ints_len hi]
    refine Calls.call_len_list hl (by rw [e]; omega) ?_
    rw [e]
    exact h _ _ Step.toks ⟨_, rfl⟩
theorem CallsTo.sum {l : List Int} : CallsTo C 0 (.builtin "sum") [.il l] (.int l.sum) := fun A s vs Q E R G hat h => by
  obtain ⟨v, rfl, a, ws, rfl, hl, hi⟩ := atAll1 hat
  · obtain ⟨xs, hx⟩ := AllInts.items hi.allInts
    rw [hx] at hl
    have e1 := nums_intItems xs
    rw [← hx] at e1
    have e2 : numsOf ws = l := hi.numsOf
    refine sum_intListG R.handled hl fun h' tk t' hk => ?_
    have e3 : preSum (numAt xs) xs.size = l.sum := by
      rw [preSum_eq, List.take_of_length_le (by simp), ← e1]
      show (numsOf ws).sum = _
      rw [e2]
    rw [e3]
    exact h _ _ (Step.of hk) ⟨_, rfl⟩
theorem CallsTo.abs {i : Int} : CallsTo C 0 (.builtin "abs") [.int i] (.int (if i < 0 then -i else i)) := fun A s vs Q E R G hat h => by
  obtain ⟨v, rfl, t, rfl⟩ := atAll1 hat
  · skip
    exact PyProof.Rows.call_abs_int fun u tk => h _ _ Step.toks ⟨_, rfl⟩
theorem CallsTo.intB {b : Bool} : CallsTo C 0 (.type "int") [.bool b] (.int (if b then 1 else 0)) := fun A s vs Q E R G hat h => by
  obtain ⟨v, rfl, hv⟩ := atAll1 hat
  · skip
    rw [show v = .bool b from hv]
    exact call_int_bool (h _ _ Step.toks ⟨_, rfl⟩)
theorem CallsTo.range {n : Nat} : CallsTo C 0 (.type "range") [.int n] (.rng n) := fun A s vs Q E R G hat h => by
  obtain ⟨v, rfl, t, rfl⟩ := atAll1 hat
  · skip
    exact call_range_1 (h _ _ Step.push ⟨_, _, _, _, rfl, Heap.get?_push_size _ rfl⟩)
theorem CallsTo.sorted {l : List Int} (h64 : l.length < 64) (hs : l.Pairwise (· ≤ ·)) : CallsTo C 0 (.builtin "sorted") [.il l] (.il l) := fun A s vs Q E R G hat h => by
  obtain ⟨v, rfl, a, ws, rfl, hl, hi⟩ := atAll1 hat
  · skip
    refine sorted_ints hl hi (by rw [ints_len hi]; exact h64) fun out ns' a1 a2 a3 => ?_
    have e : ns' = l := List.Perm.eq_of_pairwise (fun a b _ _ h1 h2 => Int.le_antisymm h1 h2) a3 hs a2
    subst e
    obtain ⟨n, he⟩ := sortedAll_at s.heap ws out
    exact h _ _ (Step.of fun b o q => sortedAll_old q) ⟨_, out.toList, rfl, ⟨_, he, rfl, n, by simp⟩, a1⟩
end
end Mine

/- part 3 -/
namespace Mine
open PySem PySem.W PySem.Spec PySem.Calls PyProof.Rows

/-- calls' arguments, one after another -/
def EvL (C : Cx) (k : Nat) (ρ : Rho) (sc : Scope) (es : List Expr) (avs : List AV) : Prop :=
  ∀ (pos : Pos) (A : Around) (env : Env) (s : Shared) (Q : List Value → Shared → Prop) (E : Value → Shared → Prop), Room A k → env.scope = sc → Sees ρ env s.heap → Glo C s.heap →
    (∀ vs s', Step s s' → AtAll s'.heap vs avs → Q vs s') → wpAny (model C.prog C.w) A (spliced (backTo pos (starEach es env))) Q E s
def Plain (e : Expr) : Prop := ∀ rest env, starEach (e :: rest) env = (false, eval e env) :: starEach rest env
def Plains : List Expr → Prop
  | [] => True
  | e :: r => Plain e ∧ Plains r
theorem Plains.any {env : Env} {pos : Pos} : ∀ {es : List Expr}, Plains es → (backTo pos (starEach es env)).any (·.1) = false
  | [], _ => rfl
  | e :: r, ⟨h, h2⟩ => by rw [h]; show (false || (backTo pos (starEach r env)).any (·.1)) = false; rw [h2.any]; rfl
/-- the call's road for f: no counting of references in the way -/
def Keeps (C : Cx) (f : Value) : Prop := ∀ h, Glo C h → ∃ k, (k = Keeper.frame ∨ k = Keeper.machine ∨ k = Keeper.boundFrame) ∧ Looks (model C.prog C.w) h (keeperOf f) k

section
variable {C : Cx} {k : Nat} {ρ : Rho} {sc : Scope}
theorem Keeps.builtin {id : String} : Keeps C (.builtin id) := fun _ _ => ⟨.machine, .inr (.inl rfl), Looks.of_pure rfl⟩
theorem Keeps.type {id : String} : Keeps C (.type id) := fun _ _ => ⟨.machine, .inr (.inl rfl), Looks.of_pure rfl⟩
theorem Keeps.fn {a : Addr} {o : Obj} {fd : FuncData} (e : C.g.get? a = some o) (hd : o.data = .func fd) : Keeps C (.ref a) := fun h G => by
  obtain ⟨c, d, dt, sl⟩ := o
  simp only at hd
  subst hd
  exact ⟨.frame, .inl rfl, (Looks.ld (part := none) (G.keep _ _ e)).andThen .now⟩

theorem EvL.nil : EvL C k ρ sc [] [] := fun pos A env s Q E _ _ _ _ h => Calls.spliced_nil (h [] s StepX.refl trivial)
theorem EvL.cons {e : Expr} {rest : List Expr} {a : AV} {as : List AV} (O : C.Ok) (he : Ev C k ρ sc e a) (hr : EvL C k ρ sc rest as) (hp : Plain e := by intro _ _; rfl) : EvL C k ρ sc (e :: rest) (a :: as) :=
  fun pos A env s Q E R hsc S G h => by
    rw [hp]
    refine Calls.spliced_cons (he A env s _ E R hsc S G fun v s₁ S₁ a₁ => ?_)
    have G₁ := G.step O S₁
    exact hr pos A env s₁ _ E R hsc (S.step S₁ G.tb) G₁ fun vs s₂ S₂ as₂ => h _ s₂ (S₁.trans S₂) ⟨a₁.step S₂ G₁.tb, as₂⟩

theorem callWith_any {pos : Pos} {f : Value} {e : Expr} {rest : List Expr} {env : Env} {avs : List AV} {A : Around} {s : Shared} {Q : Value → Shared → Prop} {E : Value → Shared → Prop} (O : C.Ok) (hk : Keeps C f) (hp : Plains (e :: rest))
    (ha : EvL C k ρ sc (e :: rest) avs) (R : Room A k) (hsc : env.scope = sc) (S : Sees ρ env s.heap) (G : Glo C s.heap)
    (h : ∀ vs s', Step s s' → AtAll s'.heap vs avs → wpAny (model C.prog C.w) A (call f vs) Q E s') : wpAny (model C.prog C.w) A (callWith pos f [] (backTo pos (starEach (e :: rest) env)) []) Q E s := by
  refine callWith_of (P := Glo C) (by rw [hp.any]; rfl) (fun hh g => hk hh g) ?_
  have := ha pos A env s (fun vs s' => Glo C s'.heap ∧ wpAny (model C.prog C.w) A (call f vs) Q E s') E R hsc S G fun vs s' S' a => ⟨G.step O S', h vs s' S' a⟩
  rw [hp.1] at this ⊢
  exact Calls.evalArgs_plain this

theorem CallsTo.mono {f : Value} {avs : List AV} {av : AV} {j : Nat} (h : CallsTo C k f avs av) (hj : k ≤ j) : CallsTo C j f avs av := fun A s vs Q E R G a q => h A s vs Q E (R.mono hj) G a q

theorem Ev.call {x : Str} {np pos : Pos} {e : Expr} {rest : List Expr} {f : Value} {avs : List AV} {av : AV} {j : Nat} (O : C.Ok) (hf : EvV C k sc (.Name x np) f) (hk : Keeps C f) (ha : EvL C k ρ sc (e :: rest) avs) (hc : CallsTo C j f avs av)
    (hj : j ≤ k) (hp : Plains (e :: rest)) : Ev C k ρ sc (.Call (.Name x np) (e :: rest) [] pos) av := fun A env s Q E R hsc S G h => by
  show wpAny _ A (do callWith pos (← eval (.Name x np) env) [] (backTo pos (starEach (e :: rest) env)) []) Q E s
  refine wpAny_bind (hf A env s _ E R hsc S.ok G fun s₁ S₁ => ?_)
  have G₁ := G.step O S₁
  exact callWith_any O hk hp ha R hsc (S.step S₁ G.tb) G₁ fun vs s₂ S₂ a₂ => hc A s₂ vs Q E (R.mono hj) (G₁.step O S₂) a₂ fun v s₃ S₃ a₃ => h v s₃ ((S₁.trans S₂).trans S₃) a₃

theorem EvV.glob {x : Str} {pos : Pos} {v : Value} (O : C.Ok) (hx : sc.names.lookup x = some .globalImplicit) (hv : C.mg x = some v) (hd : (x == ("__debug__" : Str)) = false := by decide) : EvV C k sc (.Name x pos) v :=
  fun A env s Q E R hsc S G h => by
    subst hsc
    refine Calls.Name_function_global S.kind hx (Calls.loadGlobal_global (mg := C.mg) ?_ hv (h s StepX.refl)) hd
    rw [S.glob]; exact O.ng.keeps G.keep
theorem EvV.blt {x : Str} {pos : Pos} {v : Value} (O : C.Ok) (hx : sc.names.lookup x = some .globalImplicit) (hn : C.mg x = none) (hv : C.mb x = some v) (hd : (x == ("__debug__" : Str)) = false := by decide) : EvV C k sc (.Name x pos) v :=
  fun A env s Q E R hsc S G h => by
    subst hsc
    refine Calls.Name_function_global S.kind hx (Calls.loadGlobal_builtin (mg := C.mg) (mb := C.mb) ?_ hn ?_ hv (h s StepX.refl)) hd
    · rw [S.glob]; exact O.ng.keeps G.keep
    · rw [S.blt]; exact O.nb.keeps G.keep

theorem sub_tail {prog : Program} {w : World} {A : Around} {s : Shared} {E : Value → Shared → Prop} {value slice : Expr} {o i : Value} {T id : String} {Q : Value → Shared → Prop} {ls : List Value} (hT : s.TypeIs o T)
    (hl : typeLookup (.type T) "__getitem__" = pure (some (.builtin id))) (h : wpAny (model prog w) A (getItem o i) Q E s) (hs : subscripted slice false o i = operate ls (getItem o i)) :
    wpAny (model prog w) A (subscriptTail value slice o i) Q E s := by
  unfold subscriptTail
  refine wpAny_bind ?_
  rw [getitemInPython_of_ne hT.not_modules]
  refine wpAny_bind (wpAny_specialOf hT hl ?_)
  have fin : wpAny (model prog w) A (subscripted slice false o i) (fun r s₃ => wpAny (model prog w) A (letTemporaryGo value o r >>= fun _ => pure r) Q E s₃) E s := by
    rw [hs]
    exact wpAny_operating (wpAny_mono h (fun r s₃ h₃ => wpAny_bind (wpAny_letTemporaryGo (wpAny_pure h₃))) fun _ _ x => x)
  first
    | exact wpAny_pure (wpAny_bind fin)
    | exact wpAny_bind (wpAny_pure (wpAny_bind fin))
    | exact wpAny_bind fin

def PlainSub (slice : Expr) : Prop := ∀ o i, subscripted slice false o i = operate [o, i] (getItem o i)
theorem Ev.item {e i : Expr} {pos : Pos} {l : List Int} {j n : Int} (O : C.Ok) (he : Ev C k ρ sc e (.il l)) (hi : Ev C k ρ sc i (.int j)) (h0 : 0 ≤ j) (hn : l[j.toNat]? = some n) (hz : l.length ≤ 100000)
    (hs : PlainSub i := by intro _ _; rfl) : Ev C k ρ sc (.Subscript e i pos) (.int n) := fun A env s Q E R hsc S G h => by
  refine Subscript_ (he A env s _ E R hsc S G fun vo s₁ S₁ a₁ => ?_)
  have G₁ := G.step O S₁
  refine hi A env s₁ _ E R hsc (S.step S₁ G.tb) G₁ fun vi s₂ S₂ a₂ => ?_
  obtain ⟨a, vs, rfl, hl, hI⟩ := a₁.step S₂ G₁.tb
  obtain ⟨t, rfl⟩ := a₂
  obtain ⟨u, hu⟩ := ints_at hI hn
  have hj : j.toNat < l.length := by rw [List.getElem?_eq_some_iff] at hn; exact hn.1
  refine sub_tail hl.typeIs slot_list_getitem.lookup (wpAny_getItem_list hl h0 (by omega) (by simpa using hu) (h _ _ (S₁.trans S₂) ⟨u, rfl⟩)) (hs _ _)
theorem Ev.itemNeg {e i : Expr} {pos : Pos} {l : List Int} {j n : Int} (O : C.Ok) (he : Ev C k ρ sc e (.il l)) (hi : Ev C k ρ sc i (.int j)) (h0 : j < 0) (h1 : -(l.length : Int) ≤ j) (hn : l[(j + l.length).toNat]? = some n) (hz : l.length ≤ 100000)
    (hs : PlainSub i := by intro _ _; rfl) : Ev C k ρ sc (.Subscript e i pos) (.int n) := fun A env s Q E R hsc S G h => by
  refine Subscript_ (he A env s _ E R hsc S G fun vo s₁ S₁ a₁ => ?_)
  have G₁ := G.step O S₁
  refine hi A env s₁ _ E R hsc (S.step S₁ G.tb) G₁ fun vi s₂ S₂ a₂ => ?_
  obtain ⟨a, vs, rfl, hl, hI⟩ := a₁.step S₂ G₁.tb
  obtain ⟨t, rfl⟩ := a₂
  obtain ⟨u, hu⟩ := ints_at hI hn
  have hz' : vs.toArray.size = l.length := by rw [List.size_toArray, ints_len hI]
  refine sub_tail hl.typeIs slot_list_getitem.lookup (wpAny_getItem_list_neg hl h0 (by rw [hz']; exact h1) (by omega) (by rw [hz']; simpa using hu) (h _ _ (S₁.trans S₂) ⟨u, rfl⟩)) (hs _ _)
theorem Ev.upto {e u : Expr} {p pos : Pos} {l : List Int} {j : Int} (O : C.Ok) (he : Ev C k ρ sc e (.il l)) (hu : Ev C k ρ sc u (.int j)) (h0 : 0 ≤ j) (hz : l.length ≤ 100000) :
    Ev C k ρ sc (.Subscript e (.Slice none (some u) none p) pos) (.il (l.take j.toNat)) := fun A env s Q E R hsc S G h => by
  refine Subscript_ (he A env s _ E R hsc S G fun vo s₁ S₁ a₁ => ?_)
  have G₁ := G.step O S₁
  refine wpAny_Slice ?_
  rw [evalPart_none]
  refine wpAny_pure ?_
  refine hu A env s₁ _ E R hsc (S.step S₁ G.tb) G₁ fun vi s₂ S₂ a₂ => ?_
  refine wpAny_pure ?_
  obtain ⟨a, vs, rfl, hl, hI⟩ := a₁.step S₂ G₁.tb
  obtain ⟨t, rfl⟩ := a₂
  have hz' : vs.toArray.size = l.length := by rw [List.size_toArray, ints_len hI]
  refine sub_tail (s := { s₂ with heap := s₂.heap.push _ }) (Heap.IsList.typeIs (s := { s₂ with heap := s₂.heap.push _ }) (hl.push _)) slot_list_getitem.lookup (wpAny_getItem_list_slice (s := { s₂ with heap := s₂.heap.push _ }) (hl.push _) (Heap.IsSliceOf.new ..) .none (.int _ _) .none (by simp) ?_ (by rw [hz', sizeLine_eq]; omega)) rfl
  have e1 := slice_ints_uptoW hI h0
  refine h _ _ (((S₁.trans S₂).trans Step.push).trans Step.push) ⟨_, _, rfl, ?_, e1⟩
  rw [Array.toArray_toList]
  exact ⟨_, Heap.get?_push_size _ rfl, rfl, 0, rfl⟩
theorem Ev.list {es : List Expr} {pos : Pos} {l : List Int} (O : C.Ok) (he : EvL C k ρ sc es (l.map .int)) (hz : l.length ≤ 1000) : Ev C k ρ sc (.List es pos) (.il l) := fun A env s Q E R hsc S G h => by
  refine List_ (he pos A env s _ E R hsc S G fun vs s₁ S₁ a₁ => ?_)
  have hI : ∀ {vs : List Value} {l : List Int}, AtAll s₁.heap vs (l.map .int) → IntsAre vs l := by
    intro vs
    induction vs with
    | nil => intro l a; cases l with
      | nil => exact .nil
      | cons _ _ => exact a.elim
    | cons v r ih => intro l a; cases l with
      | nil => exact a.elim
      | cons n l => obtain ⟨⟨t, rfl⟩, a2⟩ := a; exact .cons n t (ih a2)
  have hI := hI a₁
  exact wpAny_newObj_type (h _ _ (S₁.trans Step.push) ⟨_, vs, rfl, isList_new _ _, hI⟩) (by show vs.toArray.size ≤ sizeLine; rw [List.size_toArray, ints_len hI, sizeLine_eq]; omega)
theorem Ev.bits {e : Expr} {apos pos : Pos} {i : Int} (O : C.Ok) (he : Ev C k ρ sc e (.int i)) (hline : (apos.endLine == pos.line) = true) (hbase : ∀ env, attributeBase e (Str.ofString "bit_length") env (eval e env) = eval e env) :
    Ev C k ρ sc (.Call (.Attribute e (Str.ofString "bit_length") apos) [] [] pos) (.int (Builtin.Int.intBits i)) := fun A env s Q E R hsc S G h => by
  refine wpAny_Call_method (T := "int") (id := "int.bit_length") (hbase env) rfl hline F.plainAttrs_int F.slot_int_bit_length F.type_int_bit_length (he A env s _ E R hsc S G fun v s₁ S₁ a₁ => ?_)
  obtain ⟨t, rfl⟩ := a₁
  refine ⟨typeIs_int _ _ _, fun a e => by (cases e), ?_⟩
  exact method0_gives F.slot_int_bit_length F.entry_int_bit_length (typeIs_int _ _ _) (F.args_int_bit_length_1 _) (AutoIntG2.int_bit_length_int_0 i t) (h _ _ (S₁.trans Step.toks) ⟨_, rfl⟩)
end
end Mine

/- part 4 -/
namespace Mine
open PySem PySem.W PySem.Spec PySem.Calls PyProof.Rows

/-- a code's record does not lie there -/
def NotCode (h : Heap) (a : Addr) : Prop := ∀ o vs q tk, h.get? a = some o → o.data = .fields vs → vs[1]? ≠ some (.str q tk)
theorem notCode_of {h : Heap} {a : Addr} {o : Obj} (e : h.get? a = some o) (n : ∀ vs, o.data ≠ .fields vs) : NotCode h a := fun o' vs q tk e' d => by
  rw [e] at e'; cases e'; exact absurd d (n vs)
theorem TabOk.but {P a : Addr} {l c : Nat} {q : Str} {h h' : Heap} (t : TabOk P l c q h) (k : ∀ b o, b ≠ a → h.get? b = some o → h'.get? b = some o) (n : NotCode h a) (hP : P ≠ a) : TabOk P l c q h' := by
  rcases t with e | ⟨c', e, r⟩
  · exact .inl (k _ _ hP e)
  · refine .inr ⟨c', k _ _ hP e, ?_⟩
    obtain ⟨b, o, vs, tk, e1, ho, hd, hv⟩ := r
    cases e1
    exact ⟨_, o, vs, tk, rfl, k _ o (fun q => n o vs _ tk (q ▸ ho) hd hv) ho, hd, hv⟩
theorem StepX.of_but {s : Shared} {h : Heap} {tk : Nat} {a : Addr} (k : ∀ b o, b ≠ a → s.heap.get? b = some o → h.get? b = some o) (n : NotCode s.heap a) (n1 : a ≠ 16) (n2 : a ≠ 23) :
    StepX (fun b => b = a) s { s with heap := h, toks := tk } :=
  ⟨⟨_, _, rfl⟩, fun b o hb _ _ e => k b o hb e, fun t => ⟨t.1.but k n (Ne.symm n1), t.2.but k n (Ne.symm n2)⟩⟩
/-- what is new may change -/
theorem StepX.grow {X Y : Addr → Prop} {s s' s'' : Shared} (S : StepX X s s') (T : StepX Y s' s'') (hY : ∀ b, Y b → s.heap.get? b = none) : StepX X s s'' := by
  obtain ⟨h, tk, rfl⟩ := S.same
  obtain ⟨h', tk', rfl⟩ := T.same
  exact ⟨⟨h', tk', rfl⟩, fun b o n1 n2 n3 e => T.keep b o (fun y => by rw [hY b y] at e; cases e) n2 n3 (S.keep b o n1 n2 n3 e), fun t => T.tb (S.tb t)⟩
theorem StepX.none_of {X : Addr → Prop} {s s' : Shared} (S : StepX X s s') (t : Tb s.heap) {a : Addr} (hX : ¬ X a) (e : s'.heap.get? a = none) : s.heap.get? a = none := by
  cases q : s.heap.get? a with
  | none => rfl
  | some o =>
    by_cases h1 : a = 16
    · subst h1; obtain ⟨ps, z⟩ := (S.tb t).1.ex; rw [e] at z; cases z
    · by_cases h2 : a = 23
      · subst h2; obtain ⟨ps, z⟩ := (S.tb t).2.ex; rw [e] at z; cases z
      · have := S.keep a o hX h1 h2 q
        rw [e] at this; cases this
theorem get_size (h : Heap) : h.get? h.objs.size = none := by
  cases q : h.get? h.objs.size with
  | none => rfl
  | some o => exact absurd (Heap.lt_size q) (Nat.lt_irrefl _)

/-- what an iteration runs over -/
def items : AV → Option (List Int)
  | .il l => some l
  | .rng n => some ((List.range n).map Int.ofNat)
  | _ => none

structure Src (C : Cx) (A : Around) (I : Addr) (dep : Addr → Prop) (l : List Int) (St : Nat → Heap → Prop) : Prop where
  obj : ∀ (i : Nat) (h : Heap), St i h → ∃ o, h.get? I = some o ∧ (o.cls = .type "list_iterator" ∨ o.cls = .type "range_iterator") ∧ ∃ vs, o.data = .fields vs
  depk : ∀ (i : Nat) (h : Heap), St i h → ∀ b, dep b → ∃ o, h.get? b = some o ∧ ∃ vs n, o.data = .seq vs n
  next : ∀ (i : Nat) (s : Shared) (Q : Option Value → Shared → Prop) (E : Value → Shared → Prop) (n : Int), l[i]? = some n → St i s.heap →
    (∀ t s', StepX (fun b => b = I) s s' → St (i + 1) s'.heap → Q (some (.int n t)) s') → wpAny (model C.prog C.w) A (pyNext (.ref I)) Q E s
  done : ∀ (s : Shared) (Q : Option Value → Shared → Prop) (E : Value → Shared → Prop), St l.length s.heap → (∀ s', StepX (fun b => b = I) s s' → Q none s') → wpAny (model C.prog C.w) A (pyNext (.ref I)) Q E s
  self : ∀ (i : Nat) (s : Shared) (Q : Value → Shared → Prop) (E : Value → Shared → Prop), St i s.heap → Q (.ref I) s → wpAny (model C.prog C.w) A (pyIter (.ref I)) Q E s
  step : ∀ (i : Nat) (X : Addr → Prop) (s s' : Shared), StepX X s s' → Tb s.heap → ¬ X I → (∀ b, X b → ¬ dep b) → St i s.heap → St i s'.heap

theorem src_list {C : Cx} {A : Around} {I a : Addr} {vs : List Value} {l : List Int} (hh : A.handled = none) (hne : a ≠ I) (hi : IntsAre vs l) (h1 : I ≠ 16) (h2 : I ≠ 23) :
    Src C A I (fun b => b = a) l (fun i h => h.IsListIter I a i ∧ h.IsList a vs.toArray) where
  obj := fun i h st => let ⟨o, e, c, d⟩ := st.1; ⟨o, e, .inl c, _, d⟩
  depk := fun i h st b hb => let ⟨o, e, _, n, d⟩ := st.2; ⟨o, hb ▸ e, _, n, d⟩
  next := fun i s Q E n hn st h => by
    obtain ⟨t, ht⟩ := ints_at hi hn
    refine wpAny_pyNext_list_item st.1 st.2 (by simpa using ht) fun h' it' sb => ?_
    refine h t _ (StepX.of_but (fun b o hb e => sb.extBut b o hb e) ?_ h1 h2) ⟨it', st.2.extBut sb.extBut hne⟩
    obtain ⟨o, e, _, d⟩ := st.1
    intro o' vs' q tk e' d'
    rw [e] at e'; cases e'
    rw [d] at d'; cases d'
    simp
  done := fun s Q E st h => by
    refine wpAny_pyNext_list_end hh st.1 st.2 (by simp [ints_len hi]) fun h' he => ?_
    refine h _ (StepX.of_but (fun b o hb e => he b o hb e) ?_ h1 h2)
    obtain ⟨o, e, _, d⟩ := st.1
    intro o' vs' q tk e' d'
    rw [e] at e'; cases e'
    rw [d] at d'; cases d'
    simp
  self := fun i s Q E st h => wpAny_pyIter_listiter st.1 h
  step := fun i X s s' S t hI hd st => by
    refine ⟨?_, S.list t (fun x => hd _ x rfl) st.2⟩
    obtain ⟨o, e, c, d⟩ := st.1
    exact ⟨o, S.at t hI e (.inl (by rw [c]; nofun)), c, d⟩
theorem src_range {C : Cx} {A : Around} {I : Addr} {n : Nat} (hh : A.handled = none) (h1 : I ≠ 16) (h2 : I ≠ 23) :
    Src C A I (fun _ => False) ((List.range n).map Int.ofNat) (fun i h => IsRangeIter h I (i : Nat) ((n : Int) - (i : Nat)) 1) where
  obj := fun i h st => ⟨_, st, .inr rfl, _, rfl⟩
  depk := fun i h st b hb => hb.elim
  next := fun i s Q E m hn st h => by
    have hi : i < n ∧ m = (i : Int) := by
      rw [List.getElem?_map, Option.map_eq_some_iff] at hn
      obtain ⟨j, hj, rfl⟩ := hn
      rw [List.getElem?_eq_some_iff] at hj
      obtain ⟨hl, rfl⟩ := hj
      simp at hl ⊢
      exact hl
    obtain ⟨hi, rfl⟩ := hi
    refine wpAny_pyNext_range_item st (by omega) fun h' it' sb => ?_
    refine h _ _ (StepX.of_but (tk := s.toks + 1) (fun b o hb e => sb.extBut b o hb e) ?_ h1 h2) ?_
    · intro o' vs' q tk e' d'
      rw [st] at e'; cases e'
      cases d'
      simp [rawInt]
    · show IsRangeIter h' I ((i + 1 : Nat) : Int) ((n : Int) - (i + 1 : Nat)) 1
      have e1 : ((i + 1 : Nat) : Int) = (i : Int) + 1 := by omega
      have e2 : (n : Int) - ((i + 1 : Nat) : Int) = (n : Int) - (i : Int) - 1 := by omega
      rw [e2, e1]; exact it'
  done := fun s Q E st h => by
    simp only [List.length_map, List.length_range] at st
    refine wpAny_pyNext_range_end hh st (by omega) fun h' he => ?_
    refine h _ (StepX.of_but (fun b o hb e => he b o hb e) ?_ h1 h2)
    intro o' vs' q tk e' d'
    rw [st] at e'; cases e'
    cases d'
    simp [rawInt]
  self := fun i s Q E st h => wpAny_pyIter_rangeiter st h
  step := fun i X s s' S t hI hd st => S.at t hI st (.inl (by nofun))

theorem pyIter_src {C : Cx} {A : Around} {k : Nat} {s : Shared} {xv : Value} {av : AV} {l : List Int} {Q : Value → Shared → Prop} {E : Value → Shared → Prop} (R : Room A k) (t : Tb s.heap) (hl : items av = some l) (ha : At s.heap xv av) (hz : l.length ≤ 100000)
    (h : ∀ I dep St s', Step s s' → s.heap.get? I = none → (∃ o, s'.heap.get? I = some o) → (∀ b, dep b → ∃ o, s.heap.get? b = some o) → (∀ n, av = .rng n → ∀ b, ¬ dep b) → Src C A I dep l St → St 0 s'.heap → Q (.ref I) s') : wpAny (model C.prog C.w) A (pyIter xv) Q E s := by
  have n1 : s.heap.objs.size ≠ 16 := fun q => by obtain ⟨ps, z⟩ := t.1.ex; rw [← q, get_size] at z; cases z
  have n2 : s.heap.objs.size ≠ 23 := fun q => by obtain ⟨ps, z⟩ := t.2.ex; rw [← q, get_size] at z; cases z
  cases av with
  | non => cases hl
  | bool b => cases hl
  | int i => cases hl
  | il l' =>
    cases hl
    obtain ⟨a, vs, rfl, hL, hi⟩ := ha
    obtain ⟨o, ho, _⟩ := id hL
    have hne : a ≠ s.heap.objs.size := Nat.ne_of_lt (Heap.lt_size ho)
    refine wpAny_pyIter_list hL (h _ (fun b => b = a) _ _ Step.push (get_size _) ⟨_, Heap.get?_push_size _ rfl⟩ (fun b hb => ⟨o, hb ▸ ho⟩) (fun _ q => by cases q) (src_list R.handled hne hi n1 n2) ⟨⟨_, Heap.get?_push_size _ rfl, rfl, rfl⟩, hL.push _⟩)
  | rng n =>
    cases hl
    obtain ⟨a, t1, u, w, rfl, hR⟩ := ha
    simp only [List.length_map, List.length_range] at hz
    have e : Builtin.Range.rangeSize 0 (n : Int) 1 = (n : Int) := by rw [rangeSize_one]; split <;> omega
    refine wpAny_pyIter_range hR (small_one (by omega) (by omega) (by omega) (by omega)) ?_
    rw [e]
    refine h _ _ _ _ Step.push (get_size _) ⟨_, Heap.get?_push_size _ rfl⟩ (fun b hb => hb.elim) (fun _ _ _ q => q) (src_range R.handled n1 n2) ?_
    have q : IsRangeIter (s.heap.push { cls := .type "range_iterator", data := .fields #[rawInt 0, rawInt (n : Int), rawInt 1] }) s.heap.objs.size 0 (n : Int) 1 := Heap.get?_push_size _ rfl
    simpa using q

/-- cells for the free names -/
theorem forIn_closure {env : Env} (f : Str × NameKind → List (Str × Addr) → Sem (ForInStep (List (Str × Addr)))) (hf : ∀ n kd cs, f (n, kd) cs = if kd == NameKind.free then (do let c ← cellOf env n; pure (.yield ((n, c) :: cs))) else pure (.yield cs)) :
    ∀ (names : List (Str × NameKind)) (acc : List (Str × Addr)), (∀ x ∈ names, x.2 = .free → ∃ c, env.cells.lookup x.1 = some c) →
      ∃ cl, forIn names acc f = pure cl ∧ ∀ x, cl.lookup x = (if names.any (fun y => y.1 == x && y.2 == .free) then env.cells.lookup x else acc.lookup x)
  | [], acc, _ => ⟨acc, rfl, fun x => by simp⟩
  | (n, kd) :: r, acc, h => by
    rw [List.forIn_cons, hf]
    by_cases hk : kd = .free
    · subst hk
      obtain ⟨c, hc⟩ := h (n, .free) (.head _) rfl
      obtain ⟨cl, e, hl⟩ := forIn_closure f hf r ((n, c) :: acc) (fun x hx => h x (.tail _ hx))
      refine ⟨cl, ?_, fun x => ?_⟩
      · simp only [beq_self_eq_true, if_true]
        have : cellOf env n = pure c := by unfold cellOf; simp only at hc; rw [hc]
        rw [this]
        exact e
      · rw [hl, List.any_cons]
        by_cases hx : n = x
        · subst hx
          simp only [beq_self_eq_true, Bool.and_true, Bool.true_or, if_true, List.lookup_cons]
          split
          · rfl
          · exact hc.symm
        · have h1 : (n == x) = false := by simpa using hx
          have h2 : (x == n) = false := by simpa using Ne.symm hx
          simp only [h1, Bool.false_and, Bool.false_or, List.lookup_cons, h2]
    · obtain ⟨cl, e, hl⟩ := forIn_closure f hf r acc (fun x hx => h x (.tail _ hx))
      have h1 : (kd == NameKind.free) = false := by simpa using hk
      refine ⟨cl, ?_, fun x => ?_⟩
      · simp only [h1, Bool.false_eq_true, if_false]
        exact e
      · rw [hl, List.any_cons]
        simp only [h1, Bool.and_false, Bool.false_or]
theorem closure_of {env : Env} {scope : Scope} (h : ∀ x ∈ scope.names, x.2 = .free → ∃ c, env.cells.lookup x.1 = some c) :
    ∃ cl, closureFor scope env = pure cl ∧ ∀ x, cl.lookup x = (if scope.names.any (fun y => y.1 == x && y.2 == .free) then env.cells.lookup x else none) := by
  obtain ⟨cl, e, hl⟩ := forIn_closure (env := env) (fun x cs => if x.2 == NameKind.free then (do let c ← cellOf env x.1; pure (.yield ((x.1, c) :: cs))) else pure (.yield cs)) (fun _ _ _ => rfl) scope.names [] h
  refine ⟨cl, ?_, hl⟩
  simp only [closureFor]
  rw [e]
  rfl
end Mine

/- part 5 -/
namespace Mine
open PySem PySem.W PySem.Spec PySem.Calls PyProof.Rows

theorem newComp {M : Model} {A : Around} {E : Value → Shared → Prop} {s : Shared} {scope : Scope} {cl : List (Str × Addr)} {env : Env} {Q : Env → Shared → Prop}
    (h : Q { scope := scope, locals := s.heap.objs.size, globals := env.globals, cells := cellsFrom (s.heap.objs.size + 1) scope.names cl, qual := env.qual, func := none, code := env.code, frame := env.frame, builtins := env.builtins }
      { s with heap := pushCells (s.heap.push { cls := .type "dict", data := .dict #[] }) scope.names }) :
    wpAny M A (newFunctionEnv scope env.globals cl [] env.qual none .none (some env)) Q E s := by
  simp only [newFunctionEnv, Option.isSome_some, if_true]
  refine wpAny_bind (wpAny_alloc ?_)
  refine wpAny_bind (wpAny_layCells _ (fun name kind cells => by cases hkc : kind == NameKind.cell <;> simp [hkc]) _ _ _ _ ?_)
  rw [show ({ s with heap := s.heap.push { cls := .type "dict", data := .dict #[] } } : Shared).heap.objs.size = s.heap.objs.size + 1 from Heap.size_push ..]
  simp only [List.forIn_nil]
  exact wpAny_bind (wpAny_pure (wpAny_pure h))

def relabelS (scope sc : Scope) : Scope :=
  { scope with names := scope.names.map fun (n, k) => if (k == .free && sc.kind == .function && sc.names.lookup n == some .cell) then (n, .cell) else (n, k) }
theorem relabelS_eq {scope : Scope} {env : Env} : relabel scope env = relabelS scope env.scope := rfl
theorem lookup_relabel {names : List (Str × NameKind)} {g : Str → NameKind → Bool} {x : Str} {kd : NameKind} : names.lookup x = some kd →
    (names.map fun (n, k) => if g n k then (n, NameKind.cell) else (n, k)).lookup x = some (if g x kd then .cell else kd) := by
  induction names with
  | nil => intro h; simp at h
  | cons y r ih =>
    obtain ⟨n, k⟩ := y
    intro h
    rw [List.lookup_cons] at h
    rw [List.map_cons]
    cases hx : x == n with
    | true =>
      rw [hx] at h
      cases h
      have := beq_iff_eq.mp hx
      subst this
      by_cases hg : g x kd = true <;> simp [List.lookup_cons, hg]
    | false =>
      rw [hx] at h
      have := ih h
      by_cases hg : g n k = true <;> simp only [hg, if_true, if_false, Bool.false_eq_true, List.lookup_cons, hx] <;> exact this

/-- the comprehension's own name: a local, or a cell -/
inductive CT (x : Str) (scope : Scope) : Prop
  | loc (hx : scope.names.lookup x = some .local) (hc : ∀ n cl, cellsFrom n scope.names cl = cl) (hp : ∀ h, pushCells h scope.names = h)
  | cel (hx : scope.names.lookup x = some .cell) (hc : ∀ n cl, cellsFrom n scope.names cl = (x, n) :: cl) (hp : ∀ h, pushCells h scope.names = h.push { cls := .type "cell", data := .cell none })

/-- where a name is stored -/
def TReady (env : Env) (x : Str) (w : Addr) (h : Heap) : Prop :=
  (env.kindOf x = some .local ∧ w = env.locals ∧ ∃ m, h.Ns w m) ∨ (env.kindOf x = some .cell ∧ env.cells.lookup x = some w ∧ ∃ v, h.IsCell w v)
theorem TReady.stepX {X : Addr → Prop} {s s' : Shared} (S : StepX X s s') (t : Tb s.heap) {env : Env} {x : Str} {w : Addr} (hX : ¬ X w) (h : TReady env x w s.heap) : TReady env x w s'.heap := by
  rcases h with ⟨a, b, m, n⟩ | ⟨a, b, v, c⟩
  · exact .inl ⟨a, b, m, S.ns t hX n⟩
  · exact .inr ⟨a, b, v, S.cell t hX c⟩
theorem TReady.notCode {env : Env} {x : Str} {w : Addr} {h : Heap} (r : TReady env x w h) : NotCode h w := by
  rcases r with ⟨_, _, m, o, es, ep, e, d, _⟩ | ⟨_, _, v, o, e, d⟩
  · exact notCode_of e (by rw [d]; nofun)
  · exact notCode_of e (by rw [d]; nofun)
theorem TReady.ne {env : Env} {x : Str} {w : Addr} {h : Heap} (r : TReady env x w h) (t : Tb h) : w ≠ 16 ∧ w ≠ 23 := by
  rcases r with ⟨_, _, m, o, es, ep, e, d, _⟩ | ⟨_, _, v, o, e, d⟩
  · exact t.ne e (.inr (by rw [d]; nofun))
  · exact t.ne e (.inr (by rw [d]; nofun))
theorem TReady.obj {env : Env} {x : Str} {w : Addr} {h : Heap} (r : TReady env x w h) : ∃ o, h.get? w = some o := by
  rcases r with ⟨_, _, m, o, es, ep, e, d, _⟩ | ⟨_, _, v, o, e, d⟩ <;> exact ⟨o, e⟩
theorem store_ready {M : Model} {A : Around} {E : Value → Shared → Prop} {s : Shared} {env : Env} {x : Str} {w : Addr} {v : Value} {Q : Unit → Shared → Prop} (hk : env.scope.kind = .function) (t : Tb s.heap) (r : TReady env x w s.heap)
    (h : ∀ s', StepX (fun b => b = w) s s' → TReady env x w s'.heap → SeesV env s'.heap x v → Q () s') : wpAny M A (storeName env x v) Q E s := by
  have n := r.ne t
  have nc := r.notCode
  rcases r with ⟨a, rfl, m, ns⟩ | ⟨a, b, v0, c⟩
  · refine wpAny_storeName_local a ns (fun h' ns' sb => ?_) (by rw [hk]; rfl)
    exact h _ (StepX.of_but (fun b o hb e => sb.extBut b o hb e) nc n.1 n.2) (.inl ⟨a, rfl, _, ns'⟩) (.inl ⟨a, _, ns', by simp⟩)
  · refine wpAny_storeName_cell hk a b c fun h' c' sb => ?_
    exact h _ (StepX.of_but (fun b o hb e => sb.extBut b o hb e) nc n.1 n.2) (.inr ⟨a, b, _, c'⟩) (.inr ⟨.inl a, w, b, c'⟩)

def vis (scope : Scope) (ρ : Rho) : Rho := ρ.filter fun p => scope.names.lookup p.1 == some .free
theorem vis_lookup {scope : Scope} : ∀ {ρ : Rho} {y : Str} {av : AV}, (vis scope ρ).lookup y = some av → scope.names.lookup y = some .free ∧ ρ.lookup y = some av
  | [], y, av, h => by simp [vis] at h
  | (n, a) :: r, y, av, h => by
    unfold vis at h
    rw [List.filter_cons] at h
    split at h
    · rename_i hn
      rw [List.lookup_cons] at h ⊢
      cases hy : y == n with
      | true =>
        rw [hy] at h
        have := beq_iff_eq.mp hy
        subst this
        exact ⟨by simpa using hn, by simpa using h⟩
      | false => rw [hy] at h; exact vis_lookup h
    · rename_i hn
      have q := vis_lookup (ρ := r) h
      rw [List.lookup_cons]
      cases hy : y == n with
      | true =>
        have := beq_iff_eq.mp hy
        subst this
        rw [q.1] at hn
        simp at hn
      | false => exact q
def chkFree (scope sc : Scope) (ρ : Rho) : Bool := scope.names.all fun y => y.2 != .free || ((ρ.lookup y.1).isSome && (sc.names.lookup y.1 == some .cell || sc.names.lookup y.1 == some .free))

section
variable {C : Cx} {k : Nat} {ρ : Rho} {sc : Scope}
/-- a comprehension's tests -/
def Trs (C : Cx) (k : Nat) (ρ : Rho) (sc : Scope) (ifs : List Expr) (b : Bool) : Prop :=
  ∀ (A : Around) (env : Env) (s : Shared) (Q : Bool → Shared → Prop) (E : Value → Shared → Prop), Room A k → env.scope = sc → Sees ρ env s.heap → Glo C s.heap →
    (∀ s', Step s s' → Q b s') → wpAny (model C.prog C.w) A (forIn ifs true fun c r => if r = true then do let ok ← isTrue c env (eval c env); pure (ForInStep.yield ok) else pure (ForInStep.yield r)) Q E s
theorem Trs.nil : Trs C k ρ sc [] true := fun A env s Q E _ _ _ _ h => wpAny_tests_nil (h s StepX.refl)
theorem Trs.one {c : Expr} {b : Bool} (h : Tr C k ρ sc c b) : Trs C k ρ sc [c] b := fun A env s Q E R hsc S G q => wpAny_tests_one (h A env s Q E R hsc S G q)

theorem cells_free {scope : Scope} {env : Env} {h : Heap} (S : Sees ρ env h) (chk : chkFree scope env.scope ρ = true) : ∀ x ∈ scope.names, x.2 = .free → ∃ c v, env.cells.lookup x.1 = some c ∧ h.IsCell c (some v) := fun x hx hf => by
  have := List.all_eq_true.mp chk x hx
  rw [hf] at this
  simp only [bne_self_eq_false, Bool.false_or, Bool.and_eq_true, Bool.or_eq_true, beq_iff_eq, Option.isSome_iff_exists] at this
  obtain ⟨⟨av, e⟩, kd⟩ := this
  obtain ⟨v, sv, _⟩ := S.at' x.1 av e
  rcases sv with ⟨k1, _⟩ | ⟨_, c, l, i⟩
  · have k1' : env.scope.names.lookup x.1 = some .local := k1
    rw [k1'] at kd; rcases kd with kd | kd <;> cases kd
  · exact ⟨c, v, l, i⟩

/-- what the comprehension's body sees -/
theorem sees_inner {scope : Scope} {env : Env} {s s' : Shared} {cl cells : List (Str × Addr)} {Cd : Addr} {x : Str} {v : Value} {av : AV} (hkind : scope.kind = .function) (S : Sees ρ env s.heap) (t : Tb s.heap) (chk : chkFree scope env.scope ρ = true)
    (hcl : ∀ x, cl.lookup x = (if scope.names.any (fun y => y.1 == x && y.2 == .free) then env.cells.lookup x else none))
    (hcells : ∀ y, y ≠ x → cells.lookup y = cl.lookup y) (hx : scope.names.lookup x ≠ some .free) (St : Step s s') (sv : SeesV (compEnvC scope cells Cd env) s'.heap x v) (ha : At s'.heap v av) :
    Sees ((x, av) :: vis scope ρ) (compEnvC scope cells Cd env) s'.heap := by
  refine ⟨⟨hkind, S.ok.glob, S.ok.blt⟩, fun y bv e => ?_⟩
  rw [List.lookup_cons] at e
  cases hy : y == x with
  | true =>
    rw [hy] at e
    cases e
    have := beq_iff_eq.mp hy
    subst this
    exact ⟨v, sv, ha⟩
  | false =>
    rw [hy] at e
    obtain ⟨hf, hr⟩ := vis_lookup e
    have hyx : y ≠ x := by simpa using hy
    obtain ⟨u, su, au⟩ := S.at' y bv hr
    have hmem : (y, NameKind.free) ∈ scope.names := mem_of_lookup hf
    obtain ⟨c, v', hc, hi⟩ := cells_free S chk (y, .free) hmem rfl
    refine ⟨u, .inr ⟨?_, c, ?_, ?_⟩, au.step St t⟩
    · have := lookup_relabel (g := fun n k => (k == NameKind.free && env.scope.kind == .function && env.kindOf n == some .cell)) hf
      by_cases hg : (NameKind.free == NameKind.free && env.scope.kind == .function && env.kindOf y == some .cell) = true
      · rw [if_pos hg] at this; exact .inl this
      · rw [if_neg hg] at this; exact .inr this
    · show cells.lookup y = some c
      rw [hcells y hyx, hcl, if_pos]
      · exact hc
      · exact List.any_eq_true.mpr ⟨_, hmem, by simp⟩
    · rcases su with ⟨k1, _⟩ | ⟨_, c', l', i'⟩
      · have := List.all_eq_true.mp chk _ hmem
        simp only [bne_self_eq_false, Bool.false_or, Bool.and_eq_true, Bool.or_eq_true, beq_iff_eq, Option.isSome_iff_exists] at this
        have k1' : env.scope.names.lookup y = some .local := k1
        rw [k1'] at this; rcases this.2 with kd | kd <;> cases kd
      · rw [hc] at l'; cases l'
        exact St.cell t (fun x => x) i'
end
end Mine

/- part 6 -/
namespace Mine
open PySem PySem.W PySem.Spec PySem.Calls PyProof.Rows

theorem take_filter_map (l : List Int) (p : Int → Bool) (f : Int → Int) (i : Nat) (n : Int) (h : l[i]? = some n) : ((l.take (i + 1)).filter p).map f = ((l.take i).filter p).map f ++ (if p n then [f n] else []) := by
  rw [List.take_add_one, h, List.filter_append, List.map_append]
  cases hp : p n <;> simp [hp]

section
variable {C : Cx} {k : Nat} {ρ : Rho} {sc : Scope}

/-- one clause's loop, from its frame on -/
theorem comp_loop {A : Around} {env : Env} {elt iter : Expr} {x : Str} {px : Pos} {ifs : List Expr} {scope : Scope} {pos : Pos} {cl cells : List (Str × Addr)} {Cd D I W : Addr} {dep : Addr → Prop} {St : Nat → Heap → Prop} {l : List Int} {s sB : Shared}
    {p : Int → Bool} {f : Int → Int} {RR : Result → Shared → Prop}
    (O : C.Ok) (hkind : scope.kind = .function) (R : Room A k) (hsc : env.scope = sc) (S : Sees ρ env sB.heap) (G : Glo C sB.heap) (chk : chkFree scope sc ρ = true)
    (hcl : ∀ x, cl.lookup x = (if scope.names.any (fun y => y.1 == x && y.2 == .free) then env.cells.lookup x else none))
    (hcells : ∀ y, y ≠ x → cells.lookup y = cl.lookup y) (hx : scope.names.lookup x ≠ some .free)
    (src : Src C A I dep l St) (hz : l.length ≤ 100000)
    (ht : ∀ n ∈ l, Trs C k ((x, .int n) :: vis scope ρ) (relabelS scope sc) ifs (p n))
    (he : ∀ n ∈ l, p n = true → Ev C k ((x, .int n) :: vis scope ρ) (relabelS scope sc) elt (.int (f n)))
    (fI : sB.heap.get? I = none) (fD : sB.heap.get? D = none) (fC : sB.heap.get? Cd = none) (fW : sB.heap.get? W = none) (hdep : ∀ b, dep b → ∃ o, sB.heap.get? b = some o)
    (ID : I ≠ D) (IC : I ≠ Cd) (IW : I ≠ W) (DC : D ≠ Cd) (DW : D ≠ W) (CW : Cd ≠ W ∨ (W = Cd ∧ scope.names.lookup x = some .local))
    (st0 : St 0 s.heap) (S0 : Step sB s) (hD : ∃ n, s.heap.get? D = some { cls := .type "list", data := .seq #[] n }) (hC : ∃ m, s.heap.Ns Cd m) (hW : TReady (compEnvC scope cells Cd env) x W s.heap)
    (hRR : ∀ s' vs, Step sB s' → (∃ m, s'.heap.Ns Cd m) → s'.heap.IsList D (List.toArray vs) → IntsAre vs ((l.filter p).map f) → RR (.ok .next) s') :
    codeAny (model C.prog C.w) A (.compLoop (.ListComp elt [⟨.Name x px, iter, ifs, 0⟩] scope pos) 0 (.ref I) (.ref D) (compEnvC scope cells Cd env)) RR s := by
  subst hsc
  have dep_ne : ∀ {a : Addr}, sB.heap.get? a = none → ∀ b, b = a → ¬ dep b := fun fa b hb d => by obtain ⟨o, e⟩ := hdep b d; rw [hb, fa] at e; cases e
  refine codeAny_compLoop_tests
    (fun j s' => ∃ i vs, i ≤ l.length ∧ j = l.length + 1 - i ∧ St i s'.heap ∧ Step sB s' ∧ (∃ n, s'.heap.get? D = some { cls := .type "list", data := .seq (List.toArray vs) n }) ∧ (∃ m, s'.heap.Ns Cd m) ∧ TReady (compEnvC scope cells Cd env) x W s'.heap ∧
      IntsAre vs (((l.take i).filter p).map f)) ?_ (l.length + 1) ⟨0, [], Nat.zero_le _, rfl, st0, S0, hD, hC, hW, .nil⟩
  rintro j s' ⟨i, vs, hi, rfl, st, SB, ⟨nD, hD⟩, hC, hW, hI⟩
  have G' := G.step O SB
  by_cases hlt : i < l.length
  · obtain ⟨n, hn⟩ : ∃ n, l[i]? = some n := ⟨l[i], by simp [hlt]⟩
    have hmem : n ∈ l := List.mem_of_getElem? hn
    refine src.next i s' _ _ n hn st fun t s₁ S₁ st₁ => ?_
    have SB₁ := SB.grow S₁ (fun b hb => hb ▸ fI)
    have G₁ := G.step O SB₁
    have hC₁ : ∃ m, s₁.heap.Ns Cd m := let ⟨m, h⟩ := hC; ⟨m, S₁.ns G'.tb (fun q => IC q.symm) h⟩
    have hW₁ := hW.stepX S₁ G'.tb (fun q => IW q.symm)
    have hD₁ := S₁.at G'.tb (b := D) (fun q => ID q.symm) hD (.inl (by nofun))
    refine wpAny_assign_Name (store_ready hkind G₁.tb hW₁ fun s₂ S₂ hW₂ sv => ?_)
    have SB₂ := SB₁.grow S₂ (fun b hb => hb ▸ fW)
    have G₂ := G.step O SB₂
    have st₂ := src.step _ _ _ _ S₂ G₁.tb (fun q => IW q) (dep_ne fW) st₁
    have hD₂ := S₂.at G₁.tb (b := D) (fun q => DW q) hD₁ (.inl (by nofun))
    have hC₂ : ∃ m, s₂.heap.Ns Cd m := by
      rcases CW with cw | ⟨cw, hl⟩
      · obtain ⟨m, h⟩ := hC₁; exact ⟨m, S₂.ns G₁.tb (fun q => cw q) h⟩
      · rcases hW₂ with ⟨_, e, m, h⟩ | ⟨kc, _⟩
        · exact ⟨m, cw ▸ h⟩
        · have hl' := lookup_relabel_local (env := env) hl
          have kc' : (scope.names.map fun (n, k) => if (k == NameKind.free && env.scope.kind == .function && env.kindOf n == some .cell) then (n, NameKind.cell) else (n, k)).lookup x = some .cell := kc
          rw [hl'] at kc'; cases kc'
    have sees₂ := sees_inner hkind S G.tb chk hcl hcells hx SB₂ sv (show At s₂.heap (.int n t) (.int n) from ⟨t, rfl⟩)
    refine ht n hmem A _ s₂ _ _ R rfl sees₂ G₂ fun s₃ S₃ => ?_
    have SB₃ := SB₂.trans S₃
    have G₃ := G.step O SB₃
    have st₃ := src.step _ _ _ _ S₃ G₂.tb (fun q => q) (fun _ q => q.elim) st₂
    have hD₃ := S₃.at G₂.tb (b := D) (fun q => q) hD₂ (.inl (by nofun))
    have hC₃ : ∃ m, s₃.heap.Ns Cd m := let ⟨m, h⟩ := hC₂; ⟨m, S₃.ns G₂.tb (fun q => q) h⟩
    have hW₃ := hW₂.stepX S₃ G₂.tb (fun q => q)
    have hfm := take_filter_map l p f i n hn
    cases hp : p n with
    | false =>
      simp only [Bool.false_eq_true, if_false]
      refine ⟨l.length + 1 - (i + 1), by omega, i + 1, vs, hlt, rfl, st₃, SB₃, ⟨nD, hD₃⟩, hC₃, hW₃, ?_⟩
      rw [hfm, hp]; simpa using hI
    | true =>
      simp only [if_true]
      refine he n hmem hp A _ s₃ _ _ R rfl (sees₂.step S₃ G₂.tb) G₃ fun v s₄ S₄ a₄ => ?_
      obtain ⟨tv, rfl⟩ := a₄
      have SB₄ := SB₃.trans S₄
      have G₄ := G.step O SB₄
      have st₄ := src.step _ _ _ _ S₄ G₃.tb (fun q => q) (fun _ q => q.elim) st₃
      have hD₄ := S₄.at G₃.tb (b := D) (fun q => q) hD₃ (.inl (by nofun))
      have hC₄ : ∃ m, s₄.heap.Ns Cd m := let ⟨m, h⟩ := hC₃; ⟨m, S₄.ns G₃.tb (fun q => q) h⟩
      have hW₄ := hW₃.stepX S₄ G₃.tb (fun q => q)
      have hlen : vs.length ≤ l.length := by
        rw [ints_len hI, List.length_map]
        exact Nat.le_trans (List.length_filter_le _ _) (by rw [List.length_take]; omega)
      refine append_at (hsz := by rw [List.size_toArray, sizeLine_eq]; omega) hD₄ fun h₅ sb hD₅ => ?_
      have nD2 := G₄.tb.ne hD₄ (.inl (by nofun))
      have S₅ : StepX (fun b => b = D) s₄ { s₄ with heap := h₅ } := StepX.of_but (fun b o hb e => sb.extBut b o hb e) (notCode_of hD₄ (by nofun)) nD2.1 nD2.2
      have SB₅ := SB₄.grow S₅ (fun b hb => hb ▸ fD)
      refine ⟨l.length + 1 - (i + 1), by omega, i + 1, vs ++ [.int (f n) tv], hlt, rfl, src.step _ _ _ _ S₅ G₄.tb (fun q => ID q) (dep_ne fD) st₄, SB₅, ⟨nD + 1, by rw [hD₅]; simp⟩,
        let ⟨m, h⟩ := hC₄; ⟨m, S₅.ns G₄.tb (fun q => DC q.symm) h⟩, hW₄.stepX S₅ G₄.tb (fun q => DW q.symm), ?_⟩
      rw [hfm, hp]
      exact ints_append hI (.cons _ _ .nil)
  · obtain rfl : i = l.length := Nat.le_antisymm hi (Nat.not_lt.mp hlt)
    refine src.done s' _ _ st fun s₁ S₁ => ?_
    refine hRR s₁ vs (SB.grow S₁ (fun b hb => hb ▸ fI)) (let ⟨m, h⟩ := hC; ⟨m, S₁.ns G'.tb (fun q => IC q.symm) h⟩) ⟨_, S₁.at G'.tb (b := D) (fun q => ID q.symm) hD (.inl (by nofun)), rfl, nD, rfl⟩ ?_
    rw [List.take_length] at hI
    exact hI

/-- the whole comprehension, its list handed on -/
theorem comp_core {A : Around} {env : Env} {elt iter : Expr} {x : Str} {px : Pos} {ifs : List Expr} {scope : Scope} {pos : Pos} {l : List Int} {s : Shared} {av : AV} {E : Value → Shared → Prop}
    {p : Int → Bool} {f : Int → Int} {RR : Value → Addr → Result → Shared → Prop} {cl : List (Str × Addr)}
    (O : C.Ok) (T : CT x scope) (hkind : scope.kind = .function) (R : Room A k) (hsc : env.scope = sc) (S : Sees ρ env s.heap) (G : Glo C s.heap) (chk : chkFree scope sc ρ = true)
    (hcl : ∀ x, cl.lookup x = (if scope.names.any (fun y => y.1 == x && y.2 == .free) then env.cells.lookup x else none))
    (hi : Ev C k ρ sc iter av) (hl : items av = some l) (hz : l.length ≤ 100000)
    (ht : ∀ n ∈ l, Trs C k ((x, .int n) :: vis scope ρ) (relabelS scope sc) ifs (p n))
    (he : ∀ n ∈ l, p n = true → Ev C k ((x, .int n) :: vis scope ρ) (relabelS scope sc) elt (.int (f n)))
    (hRR : ∀ s' D Cd vs, Step s s' → s.heap.get? D = none → s.heap.get? Cd = none → D ≠ Cd → (∃ m, s'.heap.Ns Cd m) → s'.heap.IsList D (List.toArray vs) → IntsAre vs ((l.filter p).map f) → RR (.ref D) Cd (.ok .next) s') :
    wpAny (model C.prog C.w) A (eval iter env) (fun xv s₁ => wpAny (model C.prog C.w) A (pyIter xv) (fun it s₂ => wpAny (model C.prog C.w) A (newList []) (fun acc s₃ =>
      wpAny (model C.prog C.w) A (newFunctionEnv scope env.globals cl [] env.qual none .none (some env)) (fun cenv s₄ =>
        codeAny (model C.prog C.w) A (.compStart (.ListComp elt [⟨.Name x px, iter, ifs, 0⟩] scope pos) 0 it acc { cenv with scope := relabel scope env }) (RR acc cenv.locals) s₄) E s₃) E s₂) E s₁) E s := by
  refine hi A env s _ E R hsc S G fun xv s₁ S₁ a₁ => ?_
  have G₁ := G.step O S₁
  refine pyIter_src R G₁.tb hl a₁ hz fun I dep St s₂ S₂ fI ⟨oI, hoI⟩ hdep _ src st₀ => ?_
  have G₂ := G₁.step O S₂
  refine wpAny_newObj_type (newComp ?_)
  simp only
  generalize hH : s₂.heap.push { cls := .type "list", dict := none, data := .seq ([] : List Value).toArray } = H
  have hHs : H.objs.size = s₂.heap.objs.size + 1 := by rw [← hH, Heap.size_push]
  have fr1 : ∀ a, s₂.heap.objs.size ≤ a → s₁.heap.get? a = none := fun a ha => by
    refine S₂.none_of G₁.tb (fun q => q) ?_
    cases q : s₂.heap.get? a with
    | none => rfl
    | some o => exact absurd (Heap.lt_size q) (Nat.not_lt.mpr ha)
  have ltI := Heap.lt_size hoI
  have upH : ∀ b o, s₂.heap.get? b = some o → H.get? b = some o := fun b o e => hH ▸ Heap.get?_push_of_some _ e
  have hDH : H.get? s₂.heap.objs.size = some { cls := .type "list", data := .seq #[] 0 } := by rw [← hH]; exact Heap.get?_push_size _ rfl
  have upD : ∀ b o, H.get? b = some o → (H.push { cls := .type "dict", data := .dict #[] }).get? b = some o := fun b o e => Heap.get?_push_of_some _ e
  have hCH : (H.push { cls := .type "dict", data := .dict #[] }).Ns H.objs.size (fun _ => none) := Heap.Ns.new ..
  have sz2 : (H.push { cls := .type "dict", data := .dict #[] }).objs.size = H.objs.size + 1 := Heap.size_push ..
  have fin : ∀ (s₄ : Shared) (cells : List (Str × Addr)) (W : Addr), Step s₂ s₄ → (∀ b o, (H.push { cls := .type "dict", data := .dict #[] }).get? b = some o → s₄.heap.get? b = some o) → H.objs.size ≤ W →
      (∀ y, y ≠ x → cells.lookup y = cl.lookup y) → scope.names.lookup x ≠ some .free → (H.objs.size ≠ W ∨ (W = H.objs.size ∧ scope.names.lookup x = some .local)) → TReady (compEnvC scope cells H.objs.size env) x W s₄.heap →
      codeAny (model C.prog C.w) A (.compStart (.ListComp elt [⟨.Name x px, iter, ifs, 0⟩] scope pos) 0 (.ref I) (.ref s₂.heap.objs.size) (compEnvC scope cells H.objs.size env)) (RR (.ref s₂.heap.objs.size) H.objs.size) s₄ := by
    intro s₄ cells W S₄ up hWle hcells hx cw hW
    have ltW : I < W := Nat.lt_of_lt_of_le ltI (by rw [hHs] at hWle; exact Nat.le_trans (Nat.le_succ _) hWle)
    have st₄ := src.step _ _ _ _ S₄ G₂.tb (fun q => q) (fun _ q => q.elim) st₀
    have L : codeAny (model C.prog C.w) A (.compLoop (.ListComp elt [⟨.Name x px, iter, ifs, 0⟩] scope pos) 0 (.ref I) (.ref s₂.heap.objs.size) (compEnvC scope cells H.objs.size env)) (RR (.ref s₂.heap.objs.size) H.objs.size) s₄ := by
      refine comp_loop (sB := s₁) (W := W) (l := l) (p := p) (f := f) O hkind R hsc (S.step S₁ G.tb) G₁ chk hcl hcells hx src hz ht he fI (fr1 _ (Nat.le_refl _)) (fr1 _ (by rw [hHs]; exact Nat.le_succ _)) (fr1 _ (by rw [hHs] at hWle; exact Nat.le_trans (Nat.le_succ _) hWle))
        hdep (Nat.ne_of_lt ltI) (Nat.ne_of_lt (by rw [hHs]; exact Nat.lt_succ_of_lt ltI)) (Nat.ne_of_lt ltW) (Nat.ne_of_lt (by rw [hHs]; exact Nat.lt_succ_self _)) (Nat.ne_of_lt (by rw [hHs] at hWle; exact hWle)) cw st₄ (S₂.trans S₄)
        ⟨0, up _ _ (upD _ _ hDH)⟩ ⟨_, hCH.keeps up⟩ hW fun s' vs S' hC' hL hI => ?_
      exact hRR s' _ _ vs (S₁.trans S') (S₁.none_of G.tb (fun q => q) (fr1 _ (Nat.le_refl _))) (S₁.none_of G.tb (fun q => q) (fr1 _ (by rw [hHs]; exact Nat.le_succ _))) (Nat.ne_of_lt (by rw [hHs]; exact Nat.lt_succ_self _)) hC' hL hI
    exact codeAny_compStart_list L (src.self 0 _ _ _ st₄ L)
  cases T with
  | loc hx hc hp =>
    rw [hp, hc]
    refine fin { s₂ with heap := H.push { cls := .type "dict", data := .dict #[] } } cl H.objs.size (Step.of fun b o e => upD _ _ (upH _ _ e)) (fun _ _ e => e) (Nat.le_refl _) (fun _ _ => rfl) (by rw [hx]; nofun) (.inr ⟨rfl, hx⟩) (.inl ⟨lookup_relabel_local hx, rfl, _, hCH⟩)
  | cel hx hc hp =>
    rw [hp, hc]
    have upC : ∀ b o, (H.push { cls := .type "dict", data := .dict #[] }).get? b = some o → ((H.push { cls := .type "dict", data := .dict #[] }).push { cls := .type "cell", data := .cell none }).get? b = some o := fun b o e => Heap.get?_push_of_some _ e
    refine fin { s₂ with heap := (H.push { cls := .type "dict", data := .dict #[] }).push { cls := .type "cell", data := .cell none } } ((x, H.objs.size + 1) :: cl) (H.objs.size + 1) (Step.of fun b o e => upC _ _ (upD _ _ (upH _ _ e))) upC (Nat.le_succ _)
      (fun y hy => by rw [List.lookup_cons]; have : (y == x) = false := by simpa using hy
                      rw [this]) (by rw [hx]; nofun) (.inl (Nat.ne_of_lt (Nat.lt_succ_self _))) (.inr ⟨?_, ?_, none, { cls := .type "cell", data := .cell none }, ?_, rfl⟩)
    · have := lookup_relabel (g := fun n k => (k == NameKind.free && env.scope.kind == .function && env.kindOf n == some .cell)) hx
      simp only [show (NameKind.cell == NameKind.free) = false from rfl, Bool.false_and, Bool.false_eq_true, if_false] at this
      exact this
    · show List.lookup x ((x, H.objs.size + 1) :: cl) = _
      simp [List.lookup_cons]
    · rw [← sz2]; exact Heap.get?_push_size _ rfl

theorem Ev.comp {elt iter : Expr} {x : Str} {px : Pos} {ifs : List Expr} {scope : Scope} {pos : Pos} {l : List Int} {av : AV} {p : Int → Bool} {f : Int → Int}
    (O : C.Ok) (T : CT x scope) (hkind : scope.kind = .function) (hnames : ∀ y ∈ scope.names, y.2 = .local → scope.names.lookup y.1 = some .local) (chk : chkFree scope sc ρ = true)
    (hi : Ev C k ρ sc iter av) (hl : items av = some l) (hz : l.length ≤ 100000)
    (ht : ∀ n ∈ l, Trs C k ((x, .int n) :: vis scope ρ) (relabelS scope sc) ifs (p n))
    (he : ∀ n ∈ l, p n = true → Ev C k ((x, .int n) :: vis scope ρ) (relabelS scope sc) elt (.int (f n)))
    (hs : ∀ env x, foldedSetIterable iter env x = pure x := by intro _ _; rfl) :
    Ev C k ρ sc (.ListComp elt [⟨.Name x px, iter, ifs, 0⟩] scope pos) (.il ((l.filter p).map f)) := fun A env s Q E R hsc S G h => by
  obtain ⟨cl, hclos, hcl⟩ := closure_of (scope := scope) (env := env) fun x hx hf => let ⟨c, _, e, _⟩ := cells_free S (hsc.symm ▸ chk) x hx hf; ⟨c, e⟩
  rw [eval_ListComp]
  refine wpAny_comprehension_free (use := none) rfl (hs env) hclos hkind hnames ?_
  refine comp_core O T hkind R hsc S G chk hcl hi hl hz ht he fun s' D Cd vs S' fD fC hne hC hL hI => ?_
  obtain ⟨m, hm⟩ := hC
  refine ⟨m, hm, fun h' sb => ?_⟩
  have G' := G.step O S'
  obtain ⟨o, es, ep, e, d, _⟩ := id hm
  have n := G'.tb.ne e (.inr (by rw [d]; nofun))
  have S2 : StepX (fun b => b = Cd) s' { s' with heap := h' } := StepX.of_but (tk := s'.toks) (fun b o hb e => sb.extBut b o hb e) (notCode_of e (by rw [d]; nofun)) n.1 n.2
  exact h _ _ (S'.grow S2 fun b hb => hb ▸ fC) ⟨D, vs, rfl, S2.list G'.tb hne hL, hI⟩
end
end Mine

/- part 7 -/
namespace Mine
open PySem PySem.W PySem.Spec PySem.Calls PyProof.Rows

theorem ns_same {h : Heap} {a : Addr} {m m' : Str → Option Value} (x : h.Ns a m) (y : h.Ns a m') : ∀ n, m n = m' n := by
  obtain ⟨o, es, ep, e, d, _, f⟩ := x
  obtain ⟨o', es', ep', e', d', _, f'⟩ := y
  rw [e] at e'; cases e'
  rw [d] at d'; cases d'
  intro n
  rw [← f n, ← f' n]
/-- x is stored: the other names stand -/
theorem store_any {M : Model} {A : Around} {E : Value → Shared → Prop} {s : Shared} {env : Env} {x : Str} {w : Addr} {v : Value} {Q : Unit → Shared → Prop} (hk : env.scope.kind = .function) (t : Tb s.heap) (r : TReady env x w s.heap)
    (ap : env.kindOf x = some .cell → ∀ y, env.cells.lookup y = some w → y = x)
    (h : ∀ s', StepX (fun b => b = w) s s' → TReady env x w s'.heap → SeesV env s'.heap x v → (∀ y u, y ≠ x → SeesV env s.heap y u → SeesV env s'.heap y u) → Q () s') : wpAny M A (storeName env x v) Q E s := by
  have n := r.ne t
  have nc := r.notCode
  rcases r with ⟨a, rfl, m, ns⟩ | ⟨a, b, v0, c⟩
  · refine wpAny_storeName_local a ns (fun h' ns' sb => ?_) (by rw [hk]; rfl)
    have St : StepX (fun b => b = env.locals) s { s with heap := h', toks := s.toks + 1 } := StepX.of_but (fun b o hb e => sb.extBut b o hb e) nc n.1 n.2
    refine h _ St (.inl ⟨a, rfl, _, ns'⟩) (.inl ⟨a, _, ns', by simp⟩) fun y u hy sv => ?_
    rcases sv with ⟨ky, m1, ns1, e1⟩ | ⟨ky, c, lc, ic⟩
    · refine .inl ⟨ky, _, ns', ?_⟩
      simp only [if_neg hy]
      rw [ns_same ns ns1 y]; exact e1
    · refine .inr ⟨ky, c, lc, St.cell t ?_ ic⟩
      rintro rfl
      obtain ⟨o, es, ep, e, d, _⟩ := ns
      obtain ⟨o', e', d'⟩ := ic
      rw [e] at e'; cases e'; rw [d] at d'; cases d'
  · refine wpAny_storeName_cell hk a b c fun h' c' sb => ?_
    have St : StepX (fun b => b = w) s { s with heap := h', toks := s.toks } := StepX.of_but (fun b o hb e => sb.extBut b o hb e) nc n.1 n.2
    refine h _ St (.inr ⟨a, b, _, c'⟩) (.inr ⟨.inl a, w, b, c'⟩) fun y u hy sv => ?_
    rcases sv with ⟨ky, m1, ns1, e1⟩ | ⟨ky, c1, lc, ic⟩
    · refine .inl ⟨ky, m1, St.ns t ?_ ns1, e1⟩
      intro q
      obtain ⟨o, es, ep, e, d, _⟩ := ns1
      obtain ⟨o', e', d'⟩ := c
      rw [q] at e
      rw [e] at e'; cases e'; rw [d] at d'; cases d'
    · refine .inr ⟨ky, c1, lc, St.cell t ?_ ic⟩
      rintro rfl
      exact hy (ap a y lc)
theorem TReady.off {env : Env} {x : Str} {w : Addr} {h : Heap} (r : TReady env x w h) {v : Value} {av : AV} (a : At h v av) : Off (fun b => b = w) v := by
  rintro b rfl rfl
  have key : ∀ o, h.get? b = some o → (∃ es ep, o.data = .dict es ep) ∨ ∃ v, o.data = .cell v := fun o e => by
    rcases r with ⟨_, _, m, o', es, ep, e', d, _⟩ | ⟨_, _, v, o', e', d⟩
    · rw [e] at e'; cases e'; exact .inl ⟨_, _, d⟩
    · rw [e] at e'; cases e'; exact .inr ⟨_, d⟩
  cases av with
  | non => cases a
  | bool b => cases a
  | int i => obtain ⟨t, e⟩ := a; cases e
  | il l =>
    obtain ⟨a', vs, e, ⟨o, ho, _, n, hd⟩, _⟩ := a
    cases e
    rcases key o ho with ⟨_, _, d⟩ | ⟨_, d⟩ <;> rw [hd] at d <;> cases d
  | rng n =>
    obtain ⟨a', t, u, w', e, hr⟩ := a
    cases e
    rcases key _ hr with ⟨_, _, d⟩ | ⟨_, d⟩ <;> cases d
theorem Sees.store {ρ : Rho} {env : Env} {s s' : Shared} {x : Str} {w : Addr} {v : Value} {av : AV} (S : Sees ρ env s.heap) (t : Tb s.heap) (r : TReady env x w s.heap) (St : StepX (fun b => b = w) s s') (sv : SeesV env s'.heap x v)
    (keep : ∀ y u, y ≠ x → SeesV env s.heap y u → SeesV env s'.heap y u) (ha : At s.heap v av) : Sees ((x, av) :: ρ) env s'.heap := by
  refine ⟨S.ok, fun y bv e => ?_⟩
  rw [List.lookup_cons] at e
  cases hy : y == x with
  | true =>
    rw [hy] at e; cases e
    have := beq_iff_eq.mp hy
    subst this
    exact ⟨v, sv, ha.stepX St t (r.off ha)⟩
  | false =>
    rw [hy] at e
    obtain ⟨u, su, au⟩ := S.at' y bv e
    exact ⟨u, keep y u (by simpa using hy) su, au.stepX St t (r.off au)⟩
end Mine

/- part 8 -/
namespace Mine
open PySem PySem.W PySem.Spec PySem.Calls PyProof.Rows

theorem turn0 (elt t1 i1 t2 i2 : Expr) (ifs : List Expr) (scope : Scope) (pos : Pos) (it acc : Value) (env : Env) :
    compTurn (.ListComp elt [⟨t1, i1, [], 0⟩, ⟨t2, i2, ifs, 0⟩] scope pos) 0 it acc env = (do
      standAt i1.pos
      match ← pyNext it with
      | none => pure (.done .next)
      | some v =>
        letOwnedTupleGo t1 it v
        assign t1 env v
        let x ← eval i2 env
        standAt i2.pos
        let x ← foldedSetIterable i2 env x
        let it' ← holding [x] (pyIter x)
        let _ ← runOwn (.compStart (.ListComp elt [⟨t1, i1, [], 0⟩, ⟨t2, i2, ifs, 0⟩] scope pos) 1 it' acc env) env
        again (.compLoop (.ListComp elt [⟨t1, i1, [], 0⟩, ⟨t2, i2, ifs, 0⟩] scope pos) 0 it acc env)) := by rfl
theorem turn1 (elt t1 i1 t2 i2 : Expr) (ifs : List Expr) (scope : Scope) (pos : Pos) (it acc : Value) (env : Env) :
    compTurn (.ListComp elt [⟨t1, i1, [], 0⟩, ⟨t2, i2, ifs, 0⟩] scope pos) 1 it acc env = (do
      standAt i2.pos
      match ← pyNext it with
      | none => pure (.done .next)
      | some v =>
        letOwnedTupleGo t2 it v
        assign t2 env v
        let mut ok := true
        for c in ifs do
          if ok then ok ← isTrue c env (eval c env)
        if ok then
          (do let _ ← call (.builtin "list.append") [acc, ← eval elt env])
        again (.compLoop (.ListComp elt [⟨t1, i1, [], 0⟩, ⟨t2, i2, ifs, 0⟩] scope pos) 1 it acc env)) := by rfl

section
variable {prog : Program} {w : World} {A : Around} {E : Value → Shared → Prop} {R : Result → Shared → Prop} {s : Shared}
theorem start1 {elt t1 i1 t2 i2 : Expr} {ifs : List Expr} {scope : Scope} {pos : Pos} {it acc : Value} {env : Env}
    (h0 : codeAny (model prog w) A (.compLoop (.ListComp elt [⟨t1, i1, [], 0⟩, ⟨t2, i2, ifs, 0⟩] scope pos) 1 it acc env) R s)
    (h : wpAny (model prog w) A (pyIter it) (fun it' s' => codeAny (model prog w) A (.compLoop (.ListComp elt [⟨t1, i1, [], 0⟩, ⟨t2, i2, ifs, 0⟩] scope pos) 1 it' acc env) R s')
      (notedBy (model prog w) A env fun x s' => R (.error x) s') s) :
    codeAny (model prog w) A (.compStart (.ListComp elt [⟨t1, i1, [], 0⟩, ⟨t2, i2, ifs, 0⟩] scope pos) 1 it acc env) R s := by
  refine codeAny_of_tree ?_
  show wpAny _ _ ((compStart (.ListComp elt [⟨t1, i1, [], 0⟩, ⟨t2, i2, ifs, 0⟩] scope pos) 1 it acc env).onRaise (fun x => do noteFrame x env; standAt theWindowsPlace)) _ _ s
  refine wpAny_notedAt ?_
  unfold compStart
  show wpAny _ _ (ask >>= _) _ _ s
  refine wpAny_bind (wpAny_askSetting (wpAny_ite ?_))
  split
  · first
      | exact wpAny_bind (wpAny_pure (wpAny_pure (And.intro rfl h0)))
      | exact wpAny_pure (And.intro rfl h0)
  · first
      | exact wpAny_bind (wpAny_rule (wpAny_bind (wpAny_standAt (wpAny_bind (wpAny_mono h (fun it' s' h' => wpAny_pure (And.intro rfl h')) fun _ _ x => x)))))
      | (refine wpAny_bind (wpAny_rule ?_); show wpAny _ _ (standAt i2.pos >>= _) _ _ s; exact wpAny_bind (wpAny_standAt (wpAny_bind (wpAny_mono h (fun it' s' h' => wpAny_pure (And.intro rfl h')) fun _ _ x => x))))
theorem loop1 {elt t1 i1 t2 i2 : Expr} {ifs : List Expr} {scope : Scope} {pos : Pos} {it acc : Value} {env : Env} (I : Nat → Shared → Prop)
    (turn : ∀ n s, I n s → wpAny (model prog w) A (pyNext it) (fun r s₁ => match r with
      | none => R (.ok .next) s₁
      | some v => wpAny (model prog w) A (assign t2 env v) (fun _ s₂ =>
          wpAny (model prog w) A (forIn ifs true fun c r => if r = true then do let ok ← isTrue c env (eval c env); pure (ForInStep.yield ok) else pure (ForInStep.yield r)) (fun ok s₃ =>
            if ok = true then wpAny (model prog w) A (eval elt env) (fun x s₄ =>
              wpAny (model prog w) A (call (.builtin "list.append") [acc, x]) (fun _ s₅ => ∃ m, m < n ∧ I m s₅) (notedBy (model prog w) A env fun e s' => R (.error e) s') s₄) (notedBy (model prog w) A env fun e s' => R (.error e) s') s₃
            else ∃ m, m < n ∧ I m s₃) (notedBy (model prog w) A env fun e s' => R (.error e) s') s₂) (notedBy (model prog w) A env fun e s' => R (.error e) s') s₁) (notedBy (model prog w) A env fun e s' => R (.error e) s') s)
    (n : Nat) (h : I n s) (ht : ∀ v, letOwnedTupleGo t2 it v = pure () := by intro _; rfl) :
    codeAny (model prog w) A (.compLoop (.ListComp elt [⟨t1, i1, [], 0⟩, ⟨t2, i2, ifs, 0⟩] scope pos) 1 it acc env) R s := by
  refine codeAny_loop rfl I (fun n s hI => ?_) n h
  show wpAny _ A ((compTurn (.ListComp elt [⟨t1, i1, [], 0⟩, ⟨t2, i2, ifs, 0⟩] scope pos) 1 it acc env).onRaise (fun x => do noteFrame x env; theTreesLotGoes x)) _ _ s
  refine wpAny_noted ?_
  rw [turn1]
  refine wpAny_bind (wpAny_standAt (wpAny_bind (wpAny_mono (turn n s hI) (fun r s₁ h₁ => ?_) fun _ _ h' => h')))
  cases r with
  | none => exact wpAny_pure h₁
  | some v =>
    refine wpAny_bind (wpAny_of_eq (ht v) ?_)
    refine wpAny_bind (wpAny_mono h₁ (fun _ s₂ h₂ => wpAny_bind (wpAny_mono h₂ (fun ok s₃ h₃ => ?_) fun _ _ h' => h')) fun _ _ h' => h')
    cases ok with
    | false => exact wpAny_pure ⟨rfl, h₃⟩
    | true =>
      exact wpAny_bind (wpAny_bind (wpAny_mono h₃ (fun x s₄ h₄ => wpAny_bind (wpAny_mono h₄ (fun _ s₅ h₅ => wpAny_pure (wpAny_pure ⟨rfl, h₅⟩)) fun _ _ h' => h')) fun _ _ h' => h'))
theorem loop0 {elt t1 i1 t2 i2 : Expr} {ifs : List Expr} {scope : Scope} {pos : Pos} {it acc : Value} {env : Env} (I : Nat → Shared → Prop)
    (turn : ∀ n s, I n s → wpAny (model prog w) A (pyNext it) (fun r s₁ => match r with
      | none => R (.ok .next) s₁
      | some v => wpAny (model prog w) A (assign t1 env v) (fun _ s₂ =>
          wpAny (model prog w) A (eval i2 env) (fun x s₃ => wpAny (model prog w) A (pyIter x) (fun it' s₄ =>
            codeAny (model prog w) A (.compStart (.ListComp elt [⟨t1, i1, [], 0⟩, ⟨t2, i2, ifs, 0⟩] scope pos) 1 it' acc env)
              (fun r s' => match r with | .ok f => ∃ m, m < n ∧ I m s' | .error e => cameBackBy (model prog w) A env (notedBy (model prog w) A env fun e s' => R (.error e) s') e s') s₄)
            (notedBy (model prog w) A env fun e s' => R (.error e) s') s₃) (notedBy (model prog w) A env fun e s' => R (.error e) s') s₂) (notedBy (model prog w) A env fun e s' => R (.error e) s') s₁) (notedBy (model prog w) A env fun e s' => R (.error e) s') s)
    (n : Nat) (h : I n s) (ht : ∀ v, letOwnedTupleGo t1 it v = pure () := by intro _; rfl) (hs : ∀ x, foldedSetIterable i2 env x = pure x := by intro _; rfl) :
    codeAny (model prog w) A (.compLoop (.ListComp elt [⟨t1, i1, [], 0⟩, ⟨t2, i2, ifs, 0⟩] scope pos) 0 it acc env) R s := by
  refine codeAny_loop rfl I (fun n s hI => ?_) n h
  show wpAny _ A ((compTurn (.ListComp elt [⟨t1, i1, [], 0⟩, ⟨t2, i2, ifs, 0⟩] scope pos) 0 it acc env).onRaise (fun x => do noteFrame x env; theTreesLotGoes x)) _ _ s
  refine wpAny_noted ?_
  rw [turn0]
  refine wpAny_bind (wpAny_standAt (wpAny_bind (wpAny_mono (turn n s hI) (fun r s₁ h₁ => ?_) fun _ _ h' => h')))
  cases r with
  | none => exact wpAny_pure h₁
  | some v =>
    refine wpAny_bind (wpAny_of_eq (ht v) ?_)
    refine wpAny_bind (wpAny_mono h₁ (fun _ s₂ h₂ => wpAny_bind (wpAny_mono h₂ (fun x s₃ h₃ => wpAny_bind (wpAny_standAt (wpAny_bind (wpAny_of_eq (hs x) (wpAny_bind (wpAny_holding (wpAny_mono h₃ (fun it' s₄ h₄ => ?_) fun _ _ h' => h')))))))
      fun _ _ h' => h')) fun _ _ h' => h')
    refine wpAny_bind (wpAny_runOwn (h := none) (codeAny_mono h₄ fun r s' hr => ?_))
    cases r with
    | ok f => exact wpAny_pure ⟨rfl, hr⟩
    | error e => exact hr
end
end Mine

/- part 9 -/
namespace Mine
open PySem PySem.W PySem.Spec PySem.Calls PyProof.Rows

theorem SeesV.stepX {X : Addr → Prop} {s s' : Shared} (S : StepX X s s') (t : Tb s.heap) {env : Env} {x : Str} {v : Value} (hl : ¬ X env.locals) (hc : ∀ c, env.cells.lookup x = some c → ¬ X c) (h : SeesV env s.heap x v) : SeesV env s'.heap x v := by
  rcases h with ⟨k, m, n, e⟩ | ⟨k, c, l, i⟩
  · exact .inl ⟨k, m, S.ns t hl n, e⟩
  · exact .inr ⟨k, c, l, S.cell t (hc c l) i⟩
theorem SeesV.loc {X : Addr → Prop} {s s' : Shared} (S : StepX X s s') (t : Tb s.heap) {env : Env} {x : Str} {v : Value} (hl : ¬ X env.locals) (hk : env.kindOf x = some .local) (h : SeesV env s.heap x v) : SeesV env s'.heap x v := by
  rcases h with ⟨k, m, n, e⟩ | ⟨k, c, l, i⟩
  · exact .inl ⟨k, m, S.ns t hl n, e⟩
  · rw [hk] at k; rcases k with k | k <;> cases k

section
variable {C : Cx} {k : Nat} {ρ : Rho} {sc : Scope}
theorem sees_inner2 {scope : Scope} {env : Env} {s s' : Shared} {cl : List (Str × Addr)} {Cd : Addr} {x y : Str} {v u : Value} {av bv : AV} (hkind : scope.kind = .function) (S : Sees ρ env s.heap) (t : Tb s.heap) (chk : chkFree scope env.scope ρ = true)
    (hcl : ∀ x, cl.lookup x = (if scope.names.any (fun y => y.1 == x && y.2 == .free) then env.cells.lookup x else none))
    (hx : scope.names.lookup x ≠ some .free) (St : Step s s') (sv : SeesV (compEnvC scope cl Cd env) s'.heap x v) (ha : At s'.heap v av) (sy : SeesV (compEnvC scope cl Cd env) s'.heap y u) (hb : At s'.heap u bv) :
    Sees ((y, bv) :: (x, av) :: vis scope ρ) (compEnvC scope cl Cd env) s'.heap := by
  have S1 := sees_inner (cells := cl) (Cd := Cd) hkind S t chk hcl (fun _ _ => rfl) hx St sv ha
  refine ⟨S1.ok, fun z cv e => ?_⟩
  rw [List.lookup_cons] at e
  cases hz : z == y with
  | true =>
    rw [hz] at e; cases e
    have := beq_iff_eq.mp hz
    subst this
    exact ⟨u, sy, hb⟩
  | false => rw [hz] at e; exact S1.at' z cv e

/-- the inner clause's loop -/
theorem comp2_inner {A : Around} {env : Env} {elt i1 i2 : Expr} {x y : Str} {px py : Pos} {ifs : List Expr} {scope : Scope} {pos : Pos} {cl : List (Str × Addr)} {Cd D I : Addr} {dep : Addr → Prop} {St : Nat → Heap → Prop} {l : List Int} {s sB : Shared}
    {a : Int} {ta : Tok} {p : Int → Bool} {f : Int → Int} {vs0 : List Value} {o0 : List Int} {RR : Result → Shared → Prop}
    (O : C.Ok) (hkind : scope.kind = .function) (R : Room A k) (hsc : env.scope = sc) (S : Sees ρ env sB.heap) (G : Glo C sB.heap) (chk : chkFree scope sc ρ = true)
    (hcl : ∀ x, cl.lookup x = (if scope.names.any (fun y => y.1 == x && y.2 == .free) then env.cells.lookup x else none))
    (hx : scope.names.lookup x = some .local) (hy : scope.names.lookup y = some .local) (hxy : x ≠ y)
    (src : Src C A I dep l St) (hz : o0.length + l.length ≤ 100000)
    (ht : ∀ n ∈ l, Trs C k ((y, .int n) :: (x, .int a) :: vis scope ρ) (relabelS scope sc) ifs (p n))
    (he : ∀ n ∈ l, p n = true → Ev C k ((y, .int n) :: (x, .int a) :: vis scope ρ) (relabelS scope sc) elt (.int (f n)))
    (fI : sB.heap.get? I = none) (fD : sB.heap.get? D = none) (fC : sB.heap.get? Cd = none) (hdep : ∀ b, dep b → b ≠ Cd ∧ b ≠ D)
    (ID : I ≠ D) (IC : I ≠ Cd) (DC : D ≠ Cd)
    (st0 : St 0 s.heap) (S0 : Step sB s) (hD : ∃ n, s.heap.get? D = some { cls := .type "list", data := .seq (List.toArray vs0) n }) (hC : ∃ m, s.heap.Ns Cd m) (hI0 : IntsAre vs0 o0)
    (sx : SeesV (compEnvC scope cl Cd env) s.heap x (.int a ta))
    (hRR : ∀ s' vs, StepX (fun b => b = I ∨ b = Cd ∨ b = D) s s' → Step sB s' → (∃ m, s'.heap.Ns Cd m) → (∃ n, s'.heap.get? D = some { cls := .type "list", data := .seq (List.toArray vs) n }) → IntsAre vs (o0 ++ (l.filter p).map f) → RR (.ok .next) s') :
    codeAny (model C.prog C.w) A (.compLoop (.ListComp elt [⟨.Name x px, i1, [], 0⟩, ⟨.Name y py, i2, ifs, 0⟩] scope pos) 1 (.ref I) (.ref D) (compEnvC scope cl Cd env)) RR s := by
  subst hsc
  have hkx : (compEnvC scope cl Cd env).kindOf x = some .local := lookup_relabel_local hx
  have hky : (compEnvC scope cl Cd env).kindOf y = some .local := lookup_relabel_local hy
  refine loop1
    (fun j s' => ∃ i vs, i ≤ l.length ∧ j = l.length + 1 - i ∧ St i s'.heap ∧ StepX (fun b => b = I ∨ b = Cd ∨ b = D) s s' ∧ Step sB s' ∧ (∃ n, s'.heap.get? D = some { cls := .type "list", data := .seq (List.toArray vs) n }) ∧ (∃ m, s'.heap.Ns Cd m) ∧
      SeesV (compEnvC scope cl Cd env) s'.heap x (.int a ta) ∧ IntsAre vs (o0 ++ ((l.take i).filter p).map f)) ?_ (l.length + 1) ⟨0, vs0, Nat.zero_le _, rfl, st0, StepX.refl, S0, hD, hC, sx, by simpa using hI0⟩
  rintro j s' ⟨i, vs, hi, rfl, st, SX, SB, ⟨nD, hD⟩, hC, sx, hI⟩
  have G' := G.step O SB
  by_cases hlt : i < l.length
  · obtain ⟨n, hn⟩ : ∃ n, l[i]? = some n := ⟨l[i], by simp [hlt]⟩
    have hmem : n ∈ l := List.mem_of_getElem? hn
    refine src.next i s' _ _ n hn st fun t s₁ S₁ st₁ => ?_
    have SB₁ := SB.grow S₁ (fun b hb => hb ▸ fI)
    have SX₁ := SX.trans (S₁.mono fun b hb => .inl hb)
    have G₁ := G.step O SB₁
    have hC₁ : ∃ m, s₁.heap.Ns Cd m := let ⟨m, h⟩ := hC; ⟨m, S₁.ns G'.tb (fun q => IC q.symm) h⟩
    have sx₁ := sx.loc S₁ G'.tb (fun q => IC q.symm) hkx
    have hD₁ := S₁.at G'.tb (b := D) (fun q => ID q.symm) hD (.inl (by nofun))
    refine wpAny_assign_Name (store_any (w := Cd) hkind G₁.tb (.inl ⟨hky, rfl, hC₁⟩) (fun h => by rw [hky] at h; cases h) fun s₂ S₂ hW₂ sv keep => ?_)
    have SB₂ := SB₁.grow S₂ (fun b hb => hb ▸ fC)
    have SX₂ := SX₁.trans (S₂.mono fun b hb => .inr (.inl hb))
    have G₂ := G.step O SB₂
    have sx₂ := keep x _ hxy sx₁
    have st₂ := src.step _ _ _ _ S₂ G₁.tb (fun q => IC q) (fun b hb d => (hdep b d).1 hb) st₁
    have hD₂ := S₂.at G₁.tb (b := D) (fun q => DC q) hD₁ (.inl (by nofun))
    have hC₂ : ∃ m, s₂.heap.Ns Cd m := by
      rcases hW₂ with ⟨_, _, m, h⟩ | ⟨kc, _⟩
      · exact ⟨m, h⟩
      · rw [hky] at kc; cases kc
    have sees₂ := sees_inner2 hkind S G.tb chk hcl (by rw [hx]; nofun) SB₂ sx₂ (show At s₂.heap (.int a ta) (.int a) from ⟨ta, rfl⟩) sv (show At s₂.heap (.int n t) (.int n) from ⟨t, rfl⟩)
    refine ht n hmem A _ s₂ _ _ R rfl sees₂ G₂ fun s₃ S₃ => ?_
    have SB₃ := SB₂.trans S₃
    have SX₃ := SX₂.trans (S₃.mono fun b hb => hb.elim)
    have G₃ := G.step O SB₃
    have sx₃ := sx₂.loc S₃ G₂.tb (fun q => q) hkx
    have st₃ := src.step _ _ _ _ S₃ G₂.tb (fun q => q) (fun _ q => q.elim) st₂
    have hD₃ := S₃.at G₂.tb (b := D) (fun q => q) hD₂ (.inl (by nofun))
    have hC₃ : ∃ m, s₃.heap.Ns Cd m := let ⟨m, h⟩ := hC₂; ⟨m, S₃.ns G₂.tb (fun q => q) h⟩
    have hfm := take_filter_map l p f i n hn
    cases hp : p n with
    | false =>
      simp only [Bool.false_eq_true, if_false]
      refine ⟨l.length + 1 - (i + 1), by omega, i + 1, vs, hlt, rfl, st₃, SX₃, SB₃, ⟨nD, hD₃⟩, hC₃, sx₃, ?_⟩
      rw [hfm, hp]; simpa using hI
    | true =>
      simp only [if_true]
      refine he n hmem hp A _ s₃ _ _ R rfl (sees₂.step S₃ G₂.tb) G₃ fun v s₄ S₄ a₄ => ?_
      obtain ⟨tv, rfl⟩ := a₄
      have SB₄ := SB₃.trans S₄
      have SX₄ := SX₃.trans (S₄.mono fun b hb => hb.elim)
      have G₄ := G.step O SB₄
      have sx₄ := sx₃.loc S₄ G₃.tb (fun q => q) hkx
      have st₄ := src.step _ _ _ _ S₄ G₃.tb (fun q => q) (fun _ q => q.elim) st₃
      have hD₄ := S₄.at G₃.tb (b := D) (fun q => q) hD₃ (.inl (by nofun))
      have hC₄ : ∃ m, s₄.heap.Ns Cd m := let ⟨m, h⟩ := hC₃; ⟨m, S₄.ns G₃.tb (fun q => q) h⟩
      have hlen : vs.length ≤ o0.length + l.length := by
        rw [ints_len hI, List.length_append, List.length_map]
        refine Nat.add_le_add_left ?_ _
        exact Nat.le_trans (List.length_filter_le _ _) (by rw [List.length_take]; omega)
      refine append_at (hsz := by rw [List.size_toArray, sizeLine_eq]; omega) hD₄ fun h₅ sb hD₅ => ?_
      have nD2 := G₄.tb.ne hD₄ (.inl (by nofun))
      have S₅ : StepX (fun b => b = D) s₄ { s₄ with heap := h₅ } := StepX.of_but (fun b o hb e => sb.extBut b o hb e) (notCode_of hD₄ (by nofun)) nD2.1 nD2.2
      have SB₅ := SB₄.grow S₅ (fun b hb => hb ▸ fD)
      refine ⟨l.length + 1 - (i + 1), by omega, i + 1, vs ++ [.int (f n) tv], hlt, rfl, src.step _ _ _ _ S₅ G₄.tb (fun q => ID q) (fun b hb d => (hdep b d).2 hb) st₄, SX₄.trans (S₅.mono fun b hb => .inr (.inr hb)), SB₅, ⟨nD + 1, by rw [hD₅]; simp⟩,
        let ⟨m, h⟩ := hC₄; ⟨m, S₅.ns G₄.tb (fun q => DC q.symm) h⟩, sx₄.loc S₅ G₄.tb (fun q => DC q.symm) hkx, ?_⟩
      rw [hfm, hp, ← List.append_assoc]
      exact ints_append hI (.cons _ _ .nil)
  · obtain rfl : i = l.length := Nat.le_antisymm hi (Nat.not_lt.mp hlt)
    refine src.done s' _ _ st fun s₁ S₁ => ?_
    rw [List.take_length] at hI
    exact hRR s₁ vs (SX.trans (S₁.mono fun b hb => .inl hb)) (SB.grow S₁ (fun b hb => hb ▸ fI)) (let ⟨m, h⟩ := hC; ⟨m, S₁.ns G'.tb (fun q => IC q.symm) h⟩) ⟨nD, S₁.at G'.tb (b := D) (fun q => ID q.symm) hD (.inl (by nofun))⟩ hI

theorem flatMap_take (l : List Int) (g : Int → List Int) (i : Nat) (n : Int) (h : l[i]? = some n) : (l.take (i + 1)).flatMap g = (l.take i).flatMap g ++ g n := by
  rw [List.take_add_one, h, List.flatMap_append]; simp

theorem flatMap_len (l : List Int) (g : Int → List Int) (m : Nat) (h : ∀ a, (g a).length ≤ m) : (l.flatMap g).length ≤ l.length * m := by
  induction l with
  | nil => simp
  | cons a r ih =>
    rw [List.flatMap_cons, List.length_append, List.length_cons, Nat.succ_mul]
    have := h a
    omega
/-- the outer clause's loop -/
theorem comp2_outer {A : Around} {env : Env} {elt i1 i2 : Expr} {x y : Str} {px py : Pos} {ifs : List Expr} {scope : Scope} {pos : Pos} {cl : List (Str × Addr)} {Cd D I : Addr} {dep : Addr → Prop} {St : Nat → Heap → Prop} {l l2 : List Int} {av2 : AV} {s sB : Shared}
    {p : Int → Int → Bool} {f : Int → Int → Int} {RR : Result → Shared → Prop}
    (O : C.Ok) (hkind : scope.kind = .function) (R : Room A k) (hsc : env.scope = sc) (S : Sees ρ env sB.heap) (G : Glo C sB.heap) (chk : chkFree scope sc ρ = true)
    (hcl : ∀ x, cl.lookup x = (if scope.names.any (fun y => y.1 == x && y.2 == .free) then env.cells.lookup x else none))
    (hx : scope.names.lookup x = some .local) (hy : scope.names.lookup y = some .local) (hxy : x ≠ y)
    (src : Src C A I dep l St) (hz : l.length * l2.length + l2.length ≤ 100000)
    (h2 : ∀ a ∈ l, Ev C k ((x, .int a) :: vis scope ρ) (relabelS scope sc) i2 av2) (hl2 : items av2 = some l2) (hr2 : ∃ n, av2 = .rng n)
    (ht : ∀ a ∈ l, ∀ n ∈ l2, Trs C k ((y, .int n) :: (x, .int a) :: vis scope ρ) (relabelS scope sc) ifs (p a n))
    (he : ∀ a ∈ l, ∀ n ∈ l2, p a n = true → Ev C k ((y, .int n) :: (x, .int a) :: vis scope ρ) (relabelS scope sc) elt (.int (f a n)))
    (hs : ∀ env x, foldedSetIterable i2 env x = pure x)
    (fI : sB.heap.get? I = none) (fD : sB.heap.get? D = none) (fC : sB.heap.get? Cd = none) (hdep : ∀ b, dep b → ∃ o, sB.heap.get? b = some o)
    (ID : I ≠ D) (IC : I ≠ Cd) (DC : D ≠ Cd)
    (st0 : St 0 s.heap) (S0 : Step sB s) (hI0 : ∃ o, s.heap.get? I = some o) (hD : ∃ n, s.heap.get? D = some { cls := .type "list", data := .seq #[] n }) (hC : ∃ m, s.heap.Ns Cd m)
    (hRR : ∀ s' vs, Step sB s' → (∃ m, s'.heap.Ns Cd m) → s'.heap.IsList D (List.toArray vs) → IntsAre vs (l.flatMap fun a => (l2.filter (p a)).map (f a)) → RR (.ok .next) s') :
    codeAny (model C.prog C.w) A (.compLoop (.ListComp elt [⟨.Name x px, i1, [], 0⟩, ⟨.Name y py, i2, ifs, 0⟩] scope pos) 0 (.ref I) (.ref D) (compEnvC scope cl Cd env)) RR s := by
  subst hsc
  have hkx : (compEnvC scope cl Cd env).kindOf x = some .local := lookup_relabel_local hx
  have dep_ne : ∀ {a : Addr}, sB.heap.get? a = none → ∀ b, b = a → ¬ dep b := fun fa b hb d => by obtain ⟨o, e⟩ := hdep b d; rw [hb, fa] at e; cases e
  refine loop0 (hs := hs _)
    (fun j s' => ∃ i vs, i ≤ l.length ∧ j = l.length + 1 - i ∧ St i s'.heap ∧ Step sB s' ∧ (∃ n, s'.heap.get? D = some { cls := .type "list", data := .seq (List.toArray vs) n }) ∧ (∃ m, s'.heap.Ns Cd m) ∧
      IntsAre vs ((l.take i).flatMap fun a => (l2.filter (p a)).map (f a))) ?_ (l.length + 1) ⟨0, [], Nat.zero_le _, rfl, st0, S0, hD, hC, .nil⟩
  rintro j s' ⟨i, vs, hi, rfl, st, SB, ⟨nD, hD⟩, hC, hI⟩
  have G' := G.step O SB
  by_cases hlt : i < l.length
  · obtain ⟨n, hn⟩ : ∃ n, l[i]? = some n := ⟨l[i], by simp [hlt]⟩
    have hmem : n ∈ l := List.mem_of_getElem? hn
    refine src.next i s' _ _ n hn st fun t s₁ S₁ st₁ => ?_
    have SB₁ := SB.grow S₁ (fun b hb => hb ▸ fI)
    have G₁ := G.step O SB₁
    have hC₁ : ∃ m, s₁.heap.Ns Cd m := let ⟨m, h⟩ := hC; ⟨m, S₁.ns G'.tb (fun q => IC q.symm) h⟩
    have hD₁ := S₁.at G'.tb (b := D) (fun q => ID q.symm) hD (.inl (by nofun))
    refine wpAny_assign_Name (store_any (w := Cd) hkind G₁.tb (.inl ⟨hkx, rfl, hC₁⟩) (fun h => by rw [hkx] at h; cases h) fun s₂ S₂ hW₂ sv keep => ?_)
    have SB₂ := SB₁.grow S₂ (fun b hb => hb ▸ fC)
    have G₂ := G.step O SB₂
    have st₂ := src.step _ _ _ _ S₂ G₁.tb (fun q => IC q) (dep_ne fC) st₁
    have hD₂ := S₂.at G₁.tb (b := D) (fun q => DC q) hD₁ (.inl (by nofun))
    have hC₂ : ∃ m, s₂.heap.Ns Cd m := by
      rcases hW₂ with ⟨_, _, m, h⟩ | ⟨kc, _⟩
      · exact ⟨m, h⟩
      · rw [hkx] at kc; cases kc
    have sees₂ := sees_inner (cells := cl) (Cd := Cd) hkind S G.tb chk hcl (fun _ _ => rfl) (by rw [hx]; nofun) SB₂ sv (show At s₂.heap (.int n t) (.int n) from ⟨t, rfl⟩)
    refine h2 n hmem A _ s₂ _ _ R rfl sees₂ G₂ fun xv s₃ S₃ a₃ => ?_
    have SB₃ := SB₂.trans S₃
    have G₃ := G.step O SB₃
    have sx₃ := sv.loc S₃ G₂.tb (fun q => q) hkx
    have st₃ := src.step _ _ _ _ S₃ G₂.tb (fun q => q) (fun _ q => q.elim) st₂
    have hD₃ := S₃.at G₂.tb (b := D) (fun q => q) hD₂ (.inl (by nofun))
    have hC₃ : ∃ m, s₃.heap.Ns Cd m := let ⟨m, h⟩ := hC₂; ⟨m, S₃.ns G₂.tb (fun q => q) h⟩
    refine pyIter_src R G₃.tb hl2 a₃ (by omega) fun I2 dep2 St2 s₄ S₄ fI2 ⟨oI2, hoI2⟩ hdep2 hrng src2 st2 => ?_
    have SB₄ := SB₃.trans S₄
    have G₄ := G.step O SB₄
    have sx₄ := sx₃.loc S₄ G₃.tb (fun q => q) hkx
    have st₄ := src.step _ _ _ _ S₄ G₃.tb (fun q => q) (fun _ q => q.elim) st₃
    have hD₄ := S₄.at G₃.tb (b := D) (fun q => q) hD₃ (.inl (by nofun))
    have hC₄ : ∃ m, s₄.heap.Ns Cd m := let ⟨m, h⟩ := hC₃; ⟨m, S₄.ns G₃.tb (fun q => q) h⟩
    have hlen : vs.length ≤ l.length * l2.length := by
      rw [ints_len hI]
      exact Nat.le_trans (flatMap_len _ _ l2.length (fun a => by rw [List.length_map]; exact List.length_filter_le _ _)) (Nat.mul_le_mul_right _ (by rw [List.length_take]; omega))
    have fI2B := SB₃.none_of G.tb (fun q => q) fI2
    have I2D : I2 ≠ D := fun q => by rw [q, hD₃] at fI2; cases fI2
    have I2C : I2 ≠ Cd := fun q => by obtain ⟨m, o, _, _, e, _⟩ := hC₃; rw [q, e] at fI2; cases fI2
    have I2I : I ≠ I2 := fun q => by obtain ⟨o, e, _⟩ := src.obj _ _ st₃; rw [q, fI2] at e; cases e
    have L : codeAny (model C.prog C.w) A (.compLoop (.ListComp elt [⟨.Name x px, i1, [], 0⟩, ⟨.Name y py, i2, ifs, 0⟩] scope pos) 1 (.ref I2) (.ref D) (compEnvC scope cl Cd env))
        (fun r s' => match r with | .ok _ => ∃ m, m < l.length + 1 - i ∧ (∃ i vs, i ≤ l.length ∧ m = l.length + 1 - i ∧ St i s'.heap ∧ Step sB s' ∧ (∃ n, s'.heap.get? D = some { cls := .type "list", data := .seq (List.toArray vs) n }) ∧ (∃ m, s'.heap.Ns Cd m) ∧
          IntsAre vs ((l.take i).flatMap fun a => (l2.filter (p a)).map (f a))) | .error e => cameBackBy (model C.prog C.w) A (compEnvC scope cl Cd env) (notedBy (model C.prog C.w) A (compEnvC scope cl Cd env) fun e s' => RR (.error e) s') e s') s₄ := by
      refine comp2_inner (l := l2) (p := p n) (f := f n) (vs0 := vs) (o0 := (l.take i).flatMap fun a => (l2.filter (p a)).map (f a)) O hkind R rfl S G chk hcl hx hy hxy src2 (by rw [← ints_len hI]; omega) (ht n hmem) (he n hmem) fI2B fD fC (fun b d => ?_) I2D I2C DC st2 SB₄ ⟨nD, hD₄⟩ hC₄ hI sx₄ fun s₅ us SX SB₅ hC₅ hD₅ hI₅ => ?_
      · obtain ⟨m, hm⟩ := hr2; exact (hrng m hm b d).elim
      · refine ⟨l.length + 1 - (i + 1), by omega, i + 1, us, hlt, rfl, ?_, SB₅, hD₅, hC₅, ?_⟩
        · refine src.step _ _ _ _ SX G₄.tb ?_ ?_ st₄
          · rintro (q | q | q)
            · exact I2I q
            · exact IC q
            · exact ID q
          · rintro b (q | q | q) d
            · exact dep_ne fI2B b q d
            · exact dep_ne fC b q d
            · exact dep_ne fD b q d
        · rw [flatMap_take l _ i n hn]; exact hI₅
    exact start1 L (src2.self 0 _ _ _ st2 L)
  · obtain rfl : i = l.length := Nat.le_antisymm hi (Nat.not_lt.mp hlt)
    refine src.done s' _ _ st fun s₁ S₁ => ?_
    rw [List.take_length] at hI
    exact hRR s₁ vs (SB.grow S₁ (fun b hb => hb ▸ fI)) (let ⟨m, h⟩ := hC; ⟨m, S₁.ns G'.tb (fun q => IC q.symm) h⟩) ⟨_, S₁.at G'.tb (b := D) (fun q => ID q.symm) hD (.inl (by nofun)), rfl, nD, rfl⟩ hI

theorem Ev.comp2 {elt i1 i2 : Expr} {x y : Str} {px py : Pos} {ifs : List Expr} {scope : Scope} {pos : Pos} {l l2 : List Int} {av av2 : AV} {p : Int → Int → Bool} {f : Int → Int → Int}
    (O : C.Ok) (hx : scope.names.lookup x = some .local) (hy : scope.names.lookup y = some .local) (hxy : x ≠ y) (hc : ∀ n cl, cellsFrom n scope.names cl = cl) (hp : ∀ h, pushCells h scope.names = h)
    (hkind : scope.kind = .function) (hnames : ∀ y ∈ scope.names, y.2 = .local → scope.names.lookup y.1 = some .local) (chk : chkFree scope sc ρ = true)
    (hi : Ev C k ρ sc i1 av) (hl : items av = some l) (hz : l.length * l2.length + l2.length ≤ 100000) (hz1 : l.length ≤ 100000)
    (h2 : ∀ a ∈ l, Ev C k ((x, .int a) :: vis scope ρ) (relabelS scope sc) i2 av2) (hl2 : items av2 = some l2) (hr2 : ∃ n, av2 = .rng n)
    (ht : ∀ a ∈ l, ∀ n ∈ l2, Trs C k ((y, .int n) :: (x, .int a) :: vis scope ρ) (relabelS scope sc) ifs (p a n))
    (he : ∀ a ∈ l, ∀ n ∈ l2, p a n = true → Ev C k ((y, .int n) :: (x, .int a) :: vis scope ρ) (relabelS scope sc) elt (.int (f a n)))
    (hs1 : ∀ env x, foldedSetIterable i1 env x = pure x := by intro _ _; rfl) (hs2 : ∀ env x, foldedSetIterable i2 env x = pure x := by intro _ _; rfl) :
    Ev C k ρ sc (.ListComp elt [⟨.Name x px, i1, [], 0⟩, ⟨.Name y py, i2, ifs, 0⟩] scope pos) (.il (l.flatMap fun a => (l2.filter (p a)).map (f a))) := fun A env s Q E R hsc S G h => by
  obtain ⟨cl, hclos, hcl⟩ := closure_of (scope := scope) (env := env) fun x hx hf => let ⟨c, _, e, _⟩ := cells_free S (hsc.symm ▸ chk) x hx hf; ⟨c, e⟩
  rw [eval_ListComp]
  refine wpAny_comprehension_free (use := none) rfl (hs1 env) hclos hkind hnames ?_
  refine hi A env s _ E R hsc S G fun xv s₁ S₁ a₁ => ?_
  have G₁ := G.step O S₁
  refine pyIter_src R G₁.tb hl a₁ hz1 fun I dep St s₂ S₂ fI ⟨oI, hoI⟩ hdep _ src st₀ => ?_
  have G₂ := G₁.step O S₂
  refine wpAny_newObj_type (newComp ?_)
  simp only
  generalize hH : s₂.heap.push { cls := .type "list", dict := none, data := .seq ([] : List Value).toArray } = H
  have hHs : H.objs.size = s₂.heap.objs.size + 1 := by rw [← hH, Heap.size_push]
  have fr1 : ∀ a, s₂.heap.objs.size ≤ a → s₁.heap.get? a = none := fun a ha => by
    refine S₂.none_of G₁.tb (fun q => q) ?_
    cases q : s₂.heap.get? a with
    | none => rfl
    | some o => exact absurd (Heap.lt_size q) (Nat.not_lt.mpr ha)
  have ltI := Heap.lt_size hoI
  have upH : ∀ b o, s₂.heap.get? b = some o → H.get? b = some o := fun b o e => hH ▸ Heap.get?_push_of_some _ e
  have hDH : H.get? s₂.heap.objs.size = some { cls := .type "list", data := .seq #[] 0 } := by rw [← hH]; exact Heap.get?_push_size _ rfl
  have upD : ∀ b o, H.get? b = some o → (H.push { cls := .type "dict", data := .dict #[] }).get? b = some o := fun b o e => Heap.get?_push_of_some _ e
  have hCH : (H.push { cls := .type "dict", data := .dict #[] }).Ns H.objs.size (fun _ => none) := Heap.Ns.new ..
  rw [hp, hc]
  have S₄ : Step s₂ { s₂ with heap := H.push { cls := .type "dict", data := .dict #[] } } := Step.of fun b o e => upD _ _ (upH _ _ e)
  have st₄ := src.step _ _ _ _ S₄ G₂.tb (fun q => q) (fun _ q => q.elim) st₀
  have L : codeAny (model C.prog C.w) A (.compLoop (.ListComp elt [⟨.Name x px, i1, [], 0⟩, ⟨.Name y py, i2, ifs, 0⟩] scope pos) 0 (.ref I) (.ref s₂.heap.objs.size) (compEnvC scope cl H.objs.size env)) (compPost (model C.prog C.w) A E none Q (.ref s₂.heap.objs.size) H.objs.size) { s₂ with heap := H.push { cls := .type "dict", data := .dict #[] } } := by
    refine comp2_outer (sB := s₁) (l := l) (l2 := l2) (p := p) (f := f) O hkind R hsc (S.step S₁ G.tb) G₁ chk hcl hx hy hxy src hz h2 hl2 hr2 ht he hs2 fI (fr1 _ (Nat.le_refl _)) (fr1 _ (by rw [hHs]; exact Nat.le_succ _))
      hdep (Nat.ne_of_lt ltI) (Nat.ne_of_lt (by rw [hHs]; exact Nat.lt_succ_of_lt ltI)) (Nat.ne_of_lt (by rw [hHs]; exact Nat.lt_succ_self _)) st₄ (S₂.trans S₄) ⟨_, upD _ _ (upH _ _ hoI)⟩
      ⟨0, upD _ _ hDH⟩ ⟨_, hCH⟩ fun s' vs S' hC' hL hI => ?_
    obtain ⟨m, hm⟩ := hC'
    refine ⟨m, hm, fun h' sb => ?_⟩
    have G' := G₁.step O S'
    obtain ⟨o, es, ep, e, d, _⟩ := id hm
    have n := G'.tb.ne e (.inr (by rw [d]; nofun))
    have S2 : StepX (fun b => b = H.objs.size) s' { s' with heap := h' } := StepX.of_but (tk := s'.toks) (fun b o hb e => sb.extBut b o hb e) (notCode_of e (by rw [d]; nofun)) n.1 n.2
    exact h _ _ (S₁.trans (S'.grow S2 fun b hb => hb ▸ (fr1 _ (by rw [hHs]; exact Nat.le_succ _)))) ⟨s₂.heap.objs.size, vs, rfl, S2.list G'.tb (Nat.ne_of_lt (by rw [hHs]; exact Nat.lt_succ_self _)) hL, hI⟩
  exact codeAny_compStart_list L (src.self 0 _ _ _ st₄ L)
end
end Mine

/- part 10 -/
namespace Mine
open PySem PySem.W PySem.Spec PySem.Calls PyProof.Rows

/-- what a frame may change: its names -/
def Own (env : Env) (b : Addr) : Prop := b = env.locals ∨ ∃ x, env.kindOf x = some .cell ∧ env.cells.lookup x = some b
structure Frm (C : Cx) (env : Env) : Prop where
  fresh : ∀ b, Own env b → C.g.get? b = none
  apart : ∀ x y c, env.kindOf x = some .cell → env.cells.lookup x = some c → env.cells.lookup y = some c → y = x
structure Rdy (env : Env) (h : Heap) : Prop where
  ns : ∃ m, h.Ns env.locals m
  cells : ∀ x, env.kindOf x = some .cell → ∃ c v, env.cells.lookup x = some c ∧ h.IsCell c v

theorem Rdy.step {env : Env} {s s' : Shared} (S : Step s s') (t : Tb s.heap) (r : Rdy env s.heap) : Rdy env s'.heap :=
  ⟨let ⟨m, h⟩ := r.ns; ⟨m, S.ns t (fun q => q) h⟩, fun x hx => let ⟨c, v, a, b⟩ := r.cells x hx; ⟨c, v, a, S.cell t (fun q => q) b⟩⟩
theorem Rdy.kind {env : Env} {h : Heap} (r : Rdy env h) {b : Addr} (hb : Own env b) : ∃ o, h.get? b = some o ∧ ((∃ es ep, o.data = .dict es ep) ∨ ∃ v, o.data = .cell v) := by
  rcases hb with rfl | ⟨x, kx, lx⟩
  · obtain ⟨m, o, es, ep, e, d, _⟩ := r.ns
    exact ⟨o, e, .inl ⟨_, _, d⟩⟩
  · obtain ⟨c, v, l, o, e, d⟩ := r.cells x kx
    rw [lx] at l; cases l
    exact ⟨o, e, .inr ⟨_, d⟩⟩
/-- new things of the call (an iterator, a list) may change too -/
theorem Rdy.stepX {X : Addr → Prop} {env : Env} {s s' : Shared} (S : StepX X s s') (t : Tb s.heap) (hX : ∀ a o, X a → s.heap.get? a = some o → (∀ es ep, o.data ≠ .dict es ep) ∧ ∀ v, o.data ≠ .cell v) (r : Rdy env s.heap) : Rdy env s'.heap := by
  refine ⟨?_, fun x hx => ?_⟩
  · obtain ⟨m, h⟩ := r.ns
    refine ⟨m, S.ns t (fun q => ?_) h⟩
    obtain ⟨o, es, ep, e, d, _⟩ := h
    exact (hX _ o q e).1 es ep d
  · obtain ⟨c, v, a, b⟩ := r.cells x hx
    refine ⟨c, v, a, S.cell t (fun q => ?_) b⟩
    obtain ⟨o, e, d⟩ := b
    exact (hX _ o q e).2 v d

theorem off_of_kind {h : Heap} {w : Addr} (kw : ∀ o, h.get? w = some o → (∃ es ep, o.data = .dict es ep) ∨ ∃ v, o.data = .cell v) {v : Value} {av : AV} (a : At h v av) : Off (fun b => b = w) v := by
  rintro q rfl rfl
  cases av with
  | non => cases a
  | bool _ => cases a
  | int _ => obtain ⟨_, e⟩ := a; cases e
  | il l =>
    obtain ⟨_, _, e, ⟨o, ho, _, n, hd⟩, _⟩ := a
    cases e
    rcases kw o ho with ⟨_, _, d⟩ | ⟨_, d⟩ <;> rw [hd] at d <;> cases d
  | rng n =>
    obtain ⟨_, _, _, _, e, hr⟩ := a
    cases e
    rcases kw _ hr with ⟨_, _, d⟩ | ⟨_, d⟩ <;> cases d
/-- what is known of a value lies in the heap -/
theorem off_of_none {h : Heap} {w : Addr} (kw : h.get? w = none) {v : Value} {av : AV} (a : At h v av) : Off (fun b => b = w) v := by
  rintro q rfl rfl
  cases av with
  | non => cases a
  | bool _ => cases a
  | int _ => obtain ⟨_, e⟩ := a; cases e
  | il l => obtain ⟨_, _, e, ⟨o, ho, _⟩, _⟩ := a; cases e; rw [kw] at ho; cases ho
  | rng n => obtain ⟨_, _, _, _, e, hr⟩ := a; cases e; exact absurd (kw.symm.trans hr) (by nofun)

abbrev Nm (sc : Scope) (x : Str) : Prop := sc.names.lookup x = some .local ∨ sc.names.lookup x = some .cell
section
variable {C : Cx} {k : Nat} {ρ : Rho} {sc : Scope}

theorem store_name {A : Around} {env : Env} {s : Shared} {x : Str} {v : Value} {av : AV} {Q : Unit → Shared → Prop} {E : Value → Shared → Prop} (O : C.Ok) (hsc : env.scope = sc) (hx : Nm sc x) (F : Frm C env) (Rd : Rdy env s.heap) (S : Sees ρ env s.heap) (G : Glo C s.heap)
    (ha : At s.heap v av) (h : ∀ s', StepX (Own env) s s' → Rdy env s'.heap → Sees ((x, av) :: ρ) env s'.heap → (∃ w, StepX (fun b => b = w) s s' ∧ Own env w ∧ (∃ o, s.heap.get? w = some o) ∧ (∀ o, s.heap.get? w = some o → (∃ es ep, o.data = .dict es ep) ∨ ∃ v, o.data = .cell v) ∧ SeesV env s'.heap x v ∧ (∀ z u, z ≠ x → SeesV env s.heap z u → SeesV env s'.heap z u) ∧ ((env.kindOf x = some .local ∧ w = env.locals) ∨ (env.kindOf x = some .cell ∧ env.cells.lookup x = some w))) → Q () s') : wpAny (model C.prog C.w) A (storeName env x v) Q E s := by
  subst hsc
  have ready : ∃ w, TReady env x w s.heap := by
    rcases hx with hx | hx
    · exact ⟨env.locals, .inl ⟨hx, rfl, Rd.ns⟩⟩
    · obtain ⟨c, v, l, i⟩ := Rd.cells x hx
      exact ⟨c, .inr ⟨hx, l, v, i⟩⟩
  obtain ⟨w, r⟩ := ready
  have ow : Own env w := r.elim (fun z => .inl z.2.1) fun z => .inr ⟨x, z.1, z.2.1⟩
  have kd : ∀ o, s.heap.get? w = some o → (∃ es ep, o.data = .dict es ep) ∨ ∃ v, o.data = .cell v := fun o e => by
    rcases r with ⟨_, _, m, o', es, ep, e', d, _⟩ | ⟨_, _, v, o', e', d⟩
    · rw [e] at e'; cases e'; exact .inl ⟨_, _, d⟩
    · rw [e] at e'; cases e'; exact .inr ⟨_, d⟩
  refine store_any S.ok.kind G.tb r (fun hc y hy => ?_) fun s' S' r' sv keep => ?_
  · rcases r with ⟨kl, _⟩ | ⟨kc, l, _⟩
    · rw [kl] at hc; cases hc
    · exact F.apart x y w kc l hy
  · refine h s' (S'.mono fun b hb => hb ▸ ow) ⟨?_, fun y hy => ?_⟩ (S.store G.tb r S' sv keep ha) ⟨w, S', ow, r.obj, kd, sv, keep, (r.imp (fun z => ⟨z.1, z.2.1⟩) fun z => ⟨z.1, z.2.1⟩)⟩
    · rcases r' with ⟨_, e, m, n⟩ | ⟨kc, l, v', ic⟩
      · exact ⟨m, e ▸ n⟩
      · obtain ⟨m, n⟩ := Rd.ns
        refine ⟨m, S'.ns G.tb (fun q => ?_) n⟩
        have q' : env.locals = w := q
        obtain ⟨o, es, ep, e, d, _⟩ := n
        rw [q'] at e
        rcases r with ⟨kl, _⟩ | ⟨_, _, v0, o', e', d'⟩
        · rw [kl] at kc; cases kc
        · rw [e] at e'; cases e'; rw [d] at d'; cases d'
    · obtain ⟨c, v1, l, i⟩ := Rd.cells y hy
      by_cases hc : c = w
      · subst hc
        rcases r' with ⟨kl, e, m, n⟩ | ⟨_, _, v', ic⟩
        · obtain ⟨o, e1, d1⟩ := i
          rcases kd o e1 with ⟨_, _, d⟩ | ⟨_, d⟩
          · rw [d1] at d; cases d
          · rcases r with ⟨_, _, m, o', es, ep, e', d', _⟩ | ⟨kc, _⟩
            · rw [e1] at e'; cases e'; rw [d1] at d'; cases d'
            · rw [kl] at kc; cases kc
        · exact ⟨c, _, l, ic⟩
      · exact ⟨c, v1, l, S'.cell G.tb hc i⟩

/-- statements -/
def Ex (C : Cx) (k : Nat) (ρ : Rho) (sc : Scope) (ss : List Stmt) (N : Rho → Prop) (T : AV → Prop) : Prop :=
  ∀ (A : Around) (env : Env) (s : Shared) (Q : Flow → Shared → Prop) (E : Value → Shared → Prop), Room A k → env.scope = sc → Frm C env → Rdy env s.heap → Sees ρ env s.heap → Glo C s.heap →
    (∀ s' ρ', N ρ' → Sees ρ' env s'.heap → Rdy env s'.heap → StepX (Own env) s s' → Q .next s') → (∀ v av s', T av → At s'.heap v av → StepX (Own env) s s' → Q (.ret v) s') → wpAny (model C.prog C.w) A (execs ss env) Q E s
def Ex1 (C : Cx) (k : Nat) (ρ : Rho) (sc : Scope) (st : Stmt) (N : Rho → Prop) (T : AV → Prop) : Prop :=
  ∀ (A : Around) (env : Env) (s : Shared) (Q : Flow → Shared → Prop) (E : Value → Shared → Prop), Room A k → env.scope = sc → Frm C env → Rdy env s.heap → Sees ρ env s.heap → Glo C s.heap →
    (∀ s' ρ', N ρ' → Sees ρ' env s'.heap → Rdy env s'.heap → StepX (Own env) s s' → Q .next s') → (∀ v av s', T av → At s'.heap v av → StepX (Own env) s s' → Q (.ret v) s') → wpAny (model C.prog C.w) A (exec st env) Q E s

theorem up {X : Addr → Prop} {s s' : Shared} (S : Step s s') : StepX X s s' := S.mono fun _ h => h.elim
theorem Frm.glo {env : Env} (F : Frm C env) (O : C.Ok) {s s' : Shared} (S : StepX (Own env) s s') (G : Glo C s.heap) : Glo C s'.heap := G.stepX O S F.fresh

theorem Ex.nil {N : Rho → Prop} {T : AV → Prop} (h : N ρ) : Ex C k ρ sc [] N T := fun A env s Q E _ _ _ Rd S _ hn _ => wpAny_execs_nil (hn s ρ h S Rd StepX.refl)
theorem Ex.cons {st : Stmt} {rest : List Stmt} {N N' : Rho → Prop} {T : AV → Prop} (O : C.Ok) (h : Ex1 C k ρ sc st N' T) (h2 : ∀ ρ', N' ρ' → Ex C k ρ' sc rest N T) : Ex C k ρ sc (st :: rest) N T := fun A env s Q E R hsc F Rd S G hn ht =>
  wpAny_execs_cons (h A env s _ E R hsc F Rd S G (fun s' ρ' n S' Rd' St => h2 ρ' n A env s' Q E R hsc F Rd' S' (F.glo O St G) (fun s'' ρ'' n2 S2 Rd2 St2 => hn s'' ρ'' n2 S2 Rd2 (St.trans St2)) fun v av s'' t a St2 => ht v av s'' t a (St.trans St2)) fun v av s' t a St => ht v av s' t a St)
theorem Ex.one {st : Stmt} {N : Rho → Prop} {T : AV → Prop} (O : C.Ok) (h : Ex1 C k ρ sc st N T) : Ex C k ρ sc [st] N T := Ex.cons O h fun ρ' n => Ex.nil n
theorem Ex.weak {ss : List Stmt} {ρ' : Rho} {N : Rho → Prop} {T : AV → Prop} (h : Ex C k ρ' sc ss N T) (hs : ∀ x av, ρ'.lookup x = some av → ρ.lookup x = some av) : Ex C k ρ sc ss N T :=
  fun A env s Q E R hsc F Rd S G hn ht => h A env s Q E R hsc F Rd (S.sub hs) G hn ht
theorem Ex.post {ss : List Stmt} {N N' : Rho → Prop} {T T' : AV → Prop} (h : Ex C k ρ sc ss N T) (hN : ∀ r, N r → N' r) (hT : ∀ a, T a → T' a) : Ex C k ρ sc ss N' T' :=
  fun A env s Q E R hsc F Rd S G hn ht => h A env s Q E R hsc F Rd S G (fun s' r n => hn s' r (hN r n)) fun v av s' t => ht v av s' (hT av t)

theorem Ex1.assign {x : Str} {px pos : Pos} {e : Expr} {av : AV} {N : Rho → Prop} {T : AV → Prop} (O : C.Ok) (hx : Nm sc x) (he : Ev C k ρ sc e av) (hn : N ((x, av) :: ρ))
    (hs : ∀ env, env.scope = sc → swapsWith e (some (.Name x px)) pos.line env = pure false) : Ex1 C k ρ sc (.Assign [.Name x px] e pos) N T := fun A env s Q E R hsc F Rd S G hN hT => by
  refine wpAny_Assign_Name (hs := hs env hsc) (he A env s _ E R hsc S G fun v s₁ S₁ a₁ => ?_)
  have t := G.tb
  exact store_name O hsc hx F (Rd.step S₁ t) (S.step S₁ t) (G.step O S₁) a₁ fun s' S' Rd' Se' _ => hN s' _ hn Se' Rd' ((up S₁).trans S')

theorem Ex1.ret {e : Expr} {pos : Pos} {av : AV} {N : Rho → Prop} {T : AV → Prop} (he : Ev C k ρ sc e av) (hT : T av) : Ex1 C k ρ sc (.Return (some e) pos) N T := fun A env s Q E R hsc F Rd S G _ ht =>
  wpAny_Return_some (he A env s _ E R hsc S G fun v s₁ S₁ a₁ => ht v av s₁ hT a₁ (up S₁))
theorem Ex1.retNone {pos : Pos} {N : Rho → Prop} {T : AV → Prop} (hT : T .non) : Ex1 C k ρ sc (.Return none pos) N T := fun A env s Q E R hsc F Rd S G _ ht =>
  wpAny_Return_none (ht .none .non s hT rfl StepX.refl)
theorem Ex1.ite {test : Expr} {body orelse : List Stmt} {pos : Pos} {b : Bool} {N : Rho → Prop} {T : AV → Prop} (O : C.Ok) (ht : Tr C k ρ sc test b) (h1 : b = true → Ex C k ρ sc body N T) (h2 : b = false → Ex C k ρ sc orelse N T) :
    Ex1 C k ρ sc (.If test body orelse pos) N T := fun A env s Q E R hsc F Rd S G hN hT => by
  have t := G.tb
  refine wpAny_If (ht A env s _ E R hsc S G fun s₁ S₁ => ?_)
  cases b with
  | true => exact h1 rfl A env s₁ Q E R hsc F (Rd.step S₁ t) (S.step S₁ t) (G.step O S₁) (fun s' r n Se Rd' St => hN s' r n Se Rd' ((up S₁).trans St)) fun v av s' t a St => hT v av s' t a ((up S₁).trans St)
  | false => exact h2 rfl A env s₁ Q E R hsc F (Rd.step S₁ t) (S.step S₁ t) (G.step O S₁) (fun s' r n Se Rd' St => hN s' r n Se Rd' ((up S₁).trans St)) fun v av s' t a St => hT v av s' t a ((up S₁).trans St)

theorem tup_step {X : Addr → Prop} {s s' : Shared} (S : StepX X s s') (t : Tb s.heap) {a : Addr} {its : Array Value} (hb : ¬ X a) (h : IsTup s.heap a its) : IsTup s'.heap a its := by
  obtain ⟨o, e, c, r⟩ := h
  exact ⟨o, S.at t hb e (.inl (by rw [c]; nofun)), c, r⟩
/-- two names from a pair, stored in their order -/
theorem Ex1.pair {x y : Str} {px py tp vp pos : Pos} {kk kv : Nat} {e f : Expr} {a b : AV} {N : Rho → Prop} {T : AV → Prop} (O : C.Ok) (hx : Nm sc x) (hy : Nm sc y) (he : EvL C k ρ sc [e, f] [a, b]) (hn : N ((y, b) :: (x, a) :: ρ))
    (hs : ∀ env, env.scope = sc → swapsWithSole [.Tuple [.Name x px, .Name y py] kk tp] (.Tuple [e, f] kv vp) pos.line env = pure false)
    (hw : ∀ env, env.scope = sc → swappedStores [.Tuple [.Name x px, .Name y py] kk tp] (.Tuple [e, f] kv vp) env = pure none) :
    Ex1 C k ρ sc (.Assign [.Tuple [.Name x px, .Name y py] kk tp] (.Tuple [e, f] kv vp) pos) N T := fun A env s Q E R hsc F Rd S G1 hN hT => by
  refine Assign_Tuple (hs := hs env hsc) (hw := hw env hsc) ?_
  refine Tuple_ (he vp A env s _ E R hsc S G1 fun vs s₁ S₁ a₁ => ?_)
  obtain ⟨v, u, rfl, av, bv⟩ := atAll2 a₁
  refine wpAny_newObj_type ?_ (by show [v, u].toArray.size ≤ sizeLine; rw [sizeLine_eq]; exact Nat.le_of_ble_eq_true rfl)
  have St : Step s₁ { s₁ with heap := s₁.heap.push { cls := .type "tuple", data := .seq [v, u].toArray } } := Step.push
  have G₁ := G1.step O S₁
  have G₂ := G₁.step O St
  refine assign_Tuple_tuple R.handled (items := #[v, u]) ⟨_, Heap.get?_push_size _ rfl, rfl, _, rfl⟩ rfl rfl fun h' he' => ?_
  have St2 : Step { s₁ with heap := s₁.heap.push { cls := .type "tuple", data := .seq [v, u].toArray } } { s₁ with heap := h' } := Step.of fun b o e => he' b o (Nat.ne_of_lt (Heap.lt_size e)) e
  have G₃ := G₂.step O St2
  have S₂ := (S₁.trans St).trans St2
  have t := G1.tb
  refine assignInOrder_cons (wpAny_assign_Name (store_name O hsc hx F (Rd.step S₂ t) (S.step S₂ t) G₃ ((av.step St G₁.tb).step St2 G₂.tb) fun s₃ S₃ Rd₃ Se₃ ⟨w, Sw, _, _, kw, _⟩ => ?_))
  have b₂ := (bv.step St G₁.tb).step St2 G₂.tb
  have b₃ : At s₃.heap u b := b₂.stepX Sw G₃.tb (off_of_kind kw b₂)
  refine assignInOrder_cons (wpAny_assign_Name (store_name O hsc hy F Rd₃ Se₃ (F.glo O S₃ G₃) b₃ fun s₄ S₄ Rd₄ Se₄ _ => ?_))
  exact assignInOrder_nil (hN s₄ _ hn Se₄ Rd₄ (((up S₂).trans S₃).trans S₄))
/-- .. in the turned order -/
theorem Ex1.pairSwapped {x y : Str} {px py tp vp pos : Pos} {kk kv : Nat} {e f : Expr} {a b : AV} {N : Rho → Prop} {T : AV → Prop} (O : C.Ok) (hx : Nm sc x) (hy : Nm sc y) (he : EvL C k ρ sc [e, f] [a, b]) (hn : N ((x, a) :: (y, b) :: ρ))
    (hs : ∀ env, env.scope = sc → swapsWithSole [.Tuple [.Name x px, .Name y py] kk tp] (.Tuple [e, f] kv vp) pos.line env = pure false)
    (hw : ∀ env, env.scope = sc → swappedStores [.Tuple [.Name x px, .Name y py] kk tp] (.Tuple [e, f] kv vp) env = pure (some [x, y])) :
    Ex1 C k ρ sc (.Assign [.Tuple [.Name x px, .Name y py] kk tp] (.Tuple [e, f] kv vp) pos) N T := fun A env s Q E R hsc F Rd S G1 hN hT => by
  refine Assign_Tuple_swapped (hs := hs env hsc) (hw := hw env hsc) ?_
  refine Tuple_ (he vp A env s _ E R hsc S G1 fun vs s₁ S₁ a₁ => ?_)
  obtain ⟨v, u, rfl, av, bv⟩ := atAll2 a₁
  refine wpAny_newObj_type ?_ (by show [v, u].toArray.size ≤ sizeLine; rw [sizeLine_eq]; exact Nat.le_of_ble_eq_true rfl)
  have St : Step s₁ { s₁ with heap := s₁.heap.push { cls := .type "tuple", data := .seq [v, u].toArray } } := Step.push
  have G₁ := G1.step O S₁
  have G₂ := G₁.step O St
  refine unpackItems_tuple R.handled (items := #[v, u]) ⟨_, Heap.get?_push_size _ rfl, rfl, _, rfl⟩ fun h' he' => ?_
  have St2 : Step { s₁ with heap := s₁.heap.push { cls := .type "tuple", data := .seq [v, u].toArray } } { s₁ with heap := h' } := Step.of fun b o e => he' b o (Nat.ne_of_lt (Heap.lt_size e)) e
  have G₃ := G₂.step O St2
  have S₂ := (S₁.trans St).trans St2
  have t := G1.tb
  show wpAny _ A (assignInOrder [fun n => bindName env y n, fun n => bindName env x n] [u, v]) _ _ _
  refine assignInOrder_cons (bindName_ (store_name O hsc hy F (Rd.step S₂ t) (S.step S₂ t) G₃ ((bv.step St G₁.tb).step St2 G₂.tb) fun s₃ S₃ Rd₃ Se₃ ⟨w, Sw, _, _, kw, _⟩ => ?_))
  have b₂ := (av.step St G₁.tb).step St2 G₂.tb
  have b₃ : At s₃.heap v a := b₂.stepX Sw G₃.tb (off_of_kind kw b₂)
  refine assignInOrder_cons (bindName_ (store_name O hsc hx F Rd₃ Se₃ (F.glo O S₃ G₃) b₃ fun s₄ S₄ Rd₄ Se₄ _ => ?_))
  exact assignInOrder_nil (hN s₄ _ hn Se₄ Rd₄ (((up S₂).trans S₃).trans S₄))
end
end Mine

/- part 11 -/
namespace Mine
open PySem PySem.W PySem.Spec PySem.Calls PyProof.Rows

section
variable {C : Cx} {k : Nat} {ρ : Rho} {sc : Scope}
/-- a local name takes a comprehension's list -/
theorem Ex1.assignComp {y : Str} {py spos : Pos} {elt iter : Expr} {x : Str} {px : Pos} {ifs : List Expr} {scope : Scope} {pos : Pos} {l : List Int} {av : AV} {p : Int → Bool} {f : Int → Int} {N : Rho → Prop} {Tt : AV → Prop}
    (O : C.Ok) (T : CT x scope) (hkind : scope.kind = .function) (hnames : ∀ y ∈ scope.names, y.2 = .local → scope.names.lookup y.1 = some .local) (chk : chkFree scope sc ρ = true)
    (hi : Ev C k ρ sc iter av) (hl : items av = some l) (hz : l.length ≤ 100000)
    (ht : ∀ n ∈ l, Trs C k ((x, .int n) :: vis scope ρ) (relabelS scope sc) ifs (p n))
    (he : ∀ n ∈ l, p n = true → Ev C k ((x, .int n) :: vis scope ρ) (relabelS scope sc) elt (.int (f n)))
    (hy : Nm sc y) (hn : N ((y, .il ((l.filter p).map f)) :: ρ))
    (hsw : ∀ env, env.scope = sc → swapsWith (.ListComp elt [⟨.Name x px, iter, ifs, 0⟩] scope pos) (some (.Name y py)) spos.line env = pure true)
    (hs : ∀ env x, foldedSetIterable iter env x = pure x := by intro _ _; rfl) :
    Ex1 C k ρ sc (.Assign [.Name y py] (.ListComp elt [⟨.Name x px, iter, ifs, 0⟩] scope pos) spos) N Tt := fun A env s Q E R hsc F Rd S G1 hN hT => by
  obtain ⟨cl, hclos, hcl⟩ := closure_of (scope := scope) (env := env) fun x hx hf => let ⟨c, _, e, _⟩ := cells_free S (hsc.symm ▸ chk) x hx hf; ⟨c, e⟩
  rw [exec_Assign_Name_used _ _ _ _ (hsw env hsc)]
  refine wpAny_bind (wpAny_standAt (wpAny_bind ?_))
  show wpAny _ A (do let _ ← comprehension (.ListComp elt [⟨.Name x px, iter, ifs, 0⟩] scope pos) scope env _ (newList []) false (eval iter env) (some (PySem.assign (.Name y py) env))) _ _ s
  refine wpAny_bind (wpAny_mono (wpAny_comprehension_free (use := some (PySem.assign (.Name y py) env)) (Q := fun _ s' => Q .next s') rfl (hs env) hclos hkind hnames ?_) (fun _ s' hq => wpAny_pure (wpAny_pure hq)) fun _ _ e => e)
  refine comp_core O T hkind R hsc S G1 chk hcl hi hl hz ht he fun s' D Cd vs S' fD fC hne hC hL hI => ?_
  have G' := G1.step O S'
  show wpAny _ A (PySem.assign (.Name y py) env (.ref D)) _ _ _
  refine wpAny_assign_Name (store_name O hsc hy F (Rd.step S' G1.tb) (S.step S' G1.tb) G' (av := .il ((l.filter p).map f)) ⟨D, vs, rfl, hL, hI⟩ fun s₂ S₂ Rd₂ Se₂ ⟨w, Sw, oww, ⟨ow, how⟩, kw, svy, keep, hw⟩ => ?_)
  obtain ⟨m, hm⟩ := hC
  have G₂ := F.glo O S₂ G'
  have hLC : env.locals ≠ Cd := fun q => by obtain ⟨m', o, _, _, e, _⟩ := Rd.ns; rw [q, fC] at e; cases e
  have hcC : ∀ z c u, env.kindOf z = some .cell ∨ env.kindOf z = some .free → env.cells.lookup z = some c → s.heap.IsCell c u → c ≠ Cd := fun z c u _ _ ic q => by obtain ⟨o, e, _⟩ := ic; rw [q, fC] at e; cases e
  have hCw : Cd ≠ w := by
    rintro rfl
    rcases hw with ⟨_, e⟩ | ⟨ky, e⟩
    · exact hLC e.symm
    · obtain ⟨c, v, lc, ic⟩ := Rd.cells y ky
      rw [e] at lc; cases lc
      obtain ⟨o, e1, _⟩ := ic
      rw [fC] at e1; cases e1
  have hm₂ := Sw.ns G'.tb hCw hm
  refine ⟨m, hm₂, fun h'' sb => ?_⟩
  obtain ⟨o2, es2, ep2, e2, d2, _⟩ := id hm₂
  have n2 := G₂.tb.ne e2 (.inr (by rw [d2]; nofun))
  have S3 : StepX (fun b => b = Cd) s₂ { s₂ with heap := h'' } := StepX.of_but (tk := s₂.toks) (fun b o hb e => sb.extBut b o hb e) (notCode_of e2 (by rw [d2]; nofun)) n2.1 n2.2
  have S₃ := ((up S').trans S₂).grow S3 fun b hb => hb ▸ fC
  have cellC : ∀ z c, env.kindOf z = some .cell → env.cells.lookup z = some c → c ≠ Cd := fun z c hz lz => by
    obtain ⟨c', v, l', i'⟩ := Rd.cells z hz
    rw [lz] at l'; cases l'
    exact hcC z c v (.inl hz) lz i'
  refine hN _ _ hn ⟨S.ok, fun z cv e => ?_⟩ ⟨?_, fun z hz => ?_⟩ S₃
  · rw [List.lookup_cons] at e
    cases hz : z == y with
    | true =>
      rw [hz] at e; cases e
      have := beq_iff_eq.mp hz
      subst this
      refine ⟨.ref D, ?_, D, vs, rfl, S3.list G₂.tb hne (Sw.list G'.tb ?_ hL), hI⟩
      · rcases hw with ⟨kz, _⟩ | ⟨kz, _⟩
        · exact svy.loc S3 G₂.tb hLC kz
        · exact svy.stepX S3 G₂.tb hLC fun c lc => cellC z c kz lc
      · rintro rfl
        obtain ⟨o, e1, c1, n1, d1⟩ := hL
        rcases kw o e1 with ⟨_, _, d⟩ | ⟨_, d⟩ <;> rw [d1] at d <;> cases d
    | false =>
      rw [hz] at e
      obtain ⟨u, su, au⟩ := S.at' z cv e
      have hzy : z ≠ y := by simpa using hz
      have su2 := keep z u hzy (su.step S' G1.tb)
      have au1 := au.step S' G1.tb
      refine ⟨u, ?_, (au1.stepX Sw G'.tb (off_of_kind kw au1)).stepX S3 G₂.tb (off_of_none fC au)⟩
      rcases su2 with ⟨kz, m1, n1, e1⟩ | ⟨kz, c, lc, ic⟩
      · exact .inl ⟨kz, m1, S3.ns G₂.tb hLC n1, e1⟩
      · refine .inr ⟨kz, c, lc, S3.cell G₂.tb ?_ ic⟩
        rcases su with ⟨kz', _⟩ | ⟨_, c', lc', ic'⟩
        · rw [kz'] at kz; rcases kz with kz | kz <;> cases kz
        · rw [lc] at lc'; cases lc'
          exact hcC z c _ kz lc ic'
  · obtain ⟨m1, n1⟩ := Rd₂.ns
    exact ⟨m1, S3.ns G₂.tb hLC n1⟩
  · obtain ⟨c, v, lc, ic⟩ := Rd₂.cells z hz
    exact ⟨c, v, lc, S3.cell G₂.tb (cellC z c hz lc) ic⟩
end
end Mine

/- part 12 -/
namespace Mine
open PySem PySem.W PySem.Spec PySem.Calls PyProof.Rows

def IterAt (h : Heap) (I : Addr) : Prop := ∃ o, h.get? I = some o ∧ (o.cls = .type "list_iterator" ∨ o.cls = .type "range_iterator") ∧ ∃ vs, o.data = .fields vs
theorem IterAt.off {h : Heap} {I : Addr} (i : IterAt h I) {v : Value} {av : AV} (a : At h v av) : Off (fun b => b = I) v := by
  rintro q rfl rfl
  obtain ⟨o, e, c, vs, d⟩ := i
  cases av with
  | non => cases a
  | bool _ => cases a
  | int _ => obtain ⟨_, e⟩ := a; cases e
  | il l =>
    obtain ⟨_, _, e', ⟨o', ho, _, n, hd⟩, _⟩ := a
    cases e'
    rw [e] at ho; cases ho; rw [d] at hd; cases hd
  | rng n =>
    obtain ⟨_, _, _, _, e', hr⟩ := a
    cases e'
    have := e.symm.trans hr
    cases this
    rcases c with c | c <;> simp at c
theorem Sees.iter {ρ : Rho} {env : Env} {s s' : Shared} {I : Addr} (S : Sees ρ env s.heap) (t : Tb s.heap) (i : IterAt s.heap I) (St : StepX (fun b => b = I) s s') : Sees ρ env s'.heap := by
  refine ⟨S.ok, fun y bv e => ?_⟩
  obtain ⟨u, su, au⟩ := S.at' y bv e
  refine ⟨u, ?_, au.stepX St t (i.off au)⟩
  obtain ⟨o, e1, _, vs, d⟩ := i
  rcases su with ⟨k, m, n, e2⟩ | ⟨k, c, l, ic⟩
  · refine .inl ⟨k, m, St.ns t ?_ n, e2⟩
    intro q
    obtain ⟨o', es, ep, e', d', _⟩ := n
    have q' : env.locals = I := q
    rw [q'] at e'
    rw [e1] at e'; cases e'; rw [d] at d'; cases d'
  · refine .inr ⟨k, c, l, St.cell t ?_ ic⟩
    rintro rfl
    obtain ⟨o', e', d'⟩ := ic
    rw [e1] at e'; cases e'; rw [d] at d'; cases d'
theorem Rdy.iter {env : Env} {s s' : Shared} {I : Addr} (r : Rdy env s.heap) (t : Tb s.heap) (i : IterAt s.heap I) (St : StepX (fun b => b = I) s s') : Rdy env s'.heap := by
  refine r.stepX St t fun a o ha e => ?_
  subst ha
  obtain ⟨o', e1, _, vs, d⟩ := i
  rw [e1] at e; cases e
  rw [d]
  exact ⟨nofun, nofun⟩

abbrev SubR (ρ' ρ : Rho) : Prop := ∀ x av, ρ'.lookup x = some av → ρ.lookup x = some av

section
variable {C : Cx} {k : Nat} {ρ : Rho} {sc : Scope}
theorem Ex1.loop {x : Str} {px pos : Pos} {iter : Expr} {body : List Stmt} {av : AV} {l : List Int} {ρI : Nat → Rho} {N : Rho → Prop} {T : AV → Prop} (O : C.Ok) (hx : Nm sc x) (hi : Ev C k ρ sc iter av) (hl : items av = some l) (hz : l.length ≤ 100000)
    (h0 : SubR (ρI 0) ρ) (hb : ∀ i n, l[i]? = some n → Ex C k ((x, .int n) :: ρI i) sc body (fun ρ' => SubR (ρI (i + 1)) ρ') T) (hn : N (ρI l.length))
    (hs : ∀ env x, foldedSetIterable iter env x = pure x := by intro _ _; rfl) : Ex1 C k ρ sc (.For (.Name x px) iter body [] pos) N T := fun A env s Q E R hsc F Rd S G1 hN hT => by
  refine wpAny_For (hs := hs env) (hi A env s _ E R hsc S G1 fun xv s₁ S₁ a₁ => ?_)
  have G₁ := G1.step O S₁
  refine pyIter_src R G₁.tb hl a₁ hz fun I dep St s₂ S₂ fI hoI hdep _ src st₀ => ?_
  have G₂ := G₁.step O S₂
  have fI0 : s.heap.get? I = none := S₁.none_of G1.tb (fun q => q) fI
  have gI : C.g.get? I = none := by
    cases q : C.g.get? I with
    | none => rfl
    | some o => have := G1.keep _ _ q; rw [fI0] at this; cases this
  have glo : ∀ {s a : Shared}, StepX (fun b => b = I) s a → Glo C s.heap → Glo C a.heap := fun St G => G.stepX O St fun b hb => hb ▸ gI
  refine codeAny_forLoop
    (fun j s' => ∃ i, i ≤ l.length ∧ j = l.length + 1 - i ∧ St i s'.heap ∧ StepX (Own env) s s' ∧ Glo C s'.heap ∧ Rdy env s'.heap ∧ Sees (ρI i) env s'.heap) ?_ (l.length + 1)
    ⟨0, Nat.zero_le _, rfl, st₀, up (S₁.trans S₂), G₂, (Rd.step S₁ G1.tb).step S₂ G₁.tb, ((S.step S₁ G1.tb).step S₂ G₁.tb).sub h0⟩
  rintro j s' ⟨i, hi, rfl, st, SB, G', Rd', Se'⟩
  have it := src.obj _ _ st
  by_cases hlt : i < l.length
  · obtain ⟨n, hn'⟩ : ∃ n, l[i]? = some n := ⟨l[i], by simp [hlt]⟩
    refine src.next i s' _ _ n hn' st fun t s₃ S₃ st₃ => ?_
    have SB₃ := SB.grow S₃ (fun b hb => hb ▸ fI0)
    have G₃ := glo S₃ G'
    have Rd₃ := Rd'.iter G'.tb it S₃
    have it₃ := src.obj _ _ st₃
    have ownI : ∀ {h : Heap}, Rdy env h → IterAt h I → ¬ Own env I := fun r ⟨o, e, _, vs, d⟩ ow => by
      obtain ⟨o', e', k'⟩ := r.kind ow
      rw [e] at e'; cases e'
      rcases k' with ⟨_, _, d'⟩ | ⟨_, d'⟩ <;> rw [d] at d' <;> cases d'
    have ownD : ∀ {h : Heap} {i : Nat}, Rdy env h → St i h → ∀ b, Own env b → ¬ dep b := fun r st b ow d => by
      obtain ⟨o, e, vs, n, d⟩ := src.depk _ _ st b d
      obtain ⟨o', e', k'⟩ := r.kind ow
      rw [e] at e'; cases e'
      rcases k' with ⟨_, _, d'⟩ | ⟨_, d'⟩ <;> rw [d] at d' <;> cases d'
    refine wpAny_assign_Name (store_name O hsc hx F Rd₃ (Se'.iter G'.tb it S₃) G₃ (av := .int n) ⟨t, rfl⟩ fun s₄ S₄ Rd₄ Se₄ _ => ?_)
    have G₄ := F.glo O S₄ G₃
    have st₄ := src.step _ _ _ _ S₄ G₃.tb (ownI Rd₃ it₃) (ownD Rd₃ st₃) st₃
    refine hb i n hn' A env s₄ _ _ R hsc F Rd₄ Se₄ G₄ (fun s₅ r hr Se₅ Rd₅ S₅ => ?_) (fun v av s₅ hT5 a S₅ => hT v av s₅ hT5 a ((SB₃.trans S₄).trans S₅))
    exact ⟨l.length + 1 - (i + 1), by omega, i + 1, hlt, rfl, src.step _ _ _ _ S₅ G₄.tb (ownI Rd₄ (src.obj _ _ st₄)) (ownD Rd₄ st₄) st₄, (SB₃.trans S₄).trans S₅, F.glo O S₅ G₄, Rd₅, Se₅.sub hr⟩
  · obtain rfl : i = l.length := Nat.le_antisymm hi (Nat.not_lt.mp hlt)
    refine src.done s' _ _ st fun s₃ S₃ => ?_
    exact wpAny_execs_nil (hN s₃ _ hn (Se'.iter G'.tb it S₃) (Rd'.iter G'.tb it S₃) (SB.grow S₃ (fun b hb => hb ▸ fI0)))

/-- a while, its state in a type of its own -/
theorem Ex1.whil {σ : Type} {test : Expr} {body : List Stmt} {pos : Pos} {ρI : σ → Rho} {inv : σ → Prop} {tb : σ → Bool} {μ : σ → Nat} {N : Rho → Prop} {T : AV → Prop} (O : C.Ok) (a₀ : σ) (h0 : SubR (ρI a₀) ρ) (hi : inv a₀)
    (ht : ∀ a, inv a → Tr C k (ρI a) sc test (tb a)) (hb : ∀ a, inv a → tb a = true → Ex C k (ρI a) sc body (fun ρ' => ∃ a', inv a' ∧ μ a' < μ a ∧ SubR (ρI a') ρ') T) (hn : ∀ a, inv a → tb a = false → N (ρI a)) :
    Ex1 C k ρ sc (.While test body [] pos) N T := fun A env s Q E R hsc F Rd S G1 hN hT => by
  refine wpAny_While (codeAny_whileLoop (fun j s' => ∃ a, inv a ∧ j = μ a ∧ StepX (Own env) s s' ∧ Glo C s'.heap ∧ Rdy env s'.heap ∧ Sees (ρI a) env s'.heap) ?_ (μ a₀) ⟨a₀, hi, rfl, StepX.refl, G1, Rd, S.sub h0⟩)
  rintro j s' ⟨a, ia, rfl, SB, G', Rd', Se'⟩
  refine ht a ia A env s' _ _ R hsc Se' G' fun s₁ S₁ => ?_
  have G₁ := G'.step O S₁
  have SB₁ := SB.trans (up S₁)
  cases e : tb a with
  | false =>
    simp only [Bool.false_eq_true, if_false]
    exact wpAny_execs_nil (hN s₁ _ (hn a ia e) (Se'.step S₁ G'.tb) (Rd'.step S₁ G'.tb) SB₁)
  | true =>
    simp only [if_true]
    refine hb a ia e A env s₁ _ _ R hsc F (Rd'.step S₁ G'.tb) (Se'.step S₁ G'.tb) G₁ (fun s₂ r ⟨a', ia', lt, hr⟩ Se₂ Rd₂ S₂ => ?_) (fun v av s₂ hT2 a2 S₂ => hT v av s₂ hT2 a2 (SB₁.trans S₂))
    exact ⟨μ a', lt, a', ia', rfl, SB₁.trans S₂, F.glo O S₂ G₁, Rd₂, Se₂.sub hr⟩
end
end Mine

/- part 13 -/
namespace Mine
open PySem PySem.W PySem.Spec PySem.Calls PyProof.Rows

theorem bindL_other {kd : Str → Option NameKind} {n : Str} : ∀ {r : List (Str × Value)} {m : Str → Option Value}, n ∉ r.map (·.1) → bindL kd r m n = m n
  | [], _, _ => rfl
  | (a, v) :: r, m, h => by
    have h1 : n ≠ a := fun q => h (by simp [q])
    have h2 : n ∉ r.map (·.1) := fun q => h (by simp only [List.map_cons, List.mem_cons]; exact .inr q)
    unfold bindL
    rw [bindL_other h2]
    split <;> simp [h1]
theorem bindC_other {kd : Str → Option NameKind} {n : Str} : ∀ {r : List (Str × Value)} {m : Str → Option Value}, n ∉ r.map (·.1) → bindC kd r m n = m n
  | [], _, _ => rfl
  | (a, v) :: r, m, h => by
    have h1 : n ≠ a := fun q => h (by simp [q])
    have h2 : n ∉ r.map (·.1) := fun q => h (by simp only [List.map_cons, List.mem_cons]; exact .inr q)
    unfold bindC
    rw [bindC_other h2]
    split <;> simp [h1]
theorem bind_mem {kd : Str → Option NameKind} {n : Str} {v : Value} : ∀ {r : List (Str × Value)} {m cm : Str → Option Value}, (r.map (·.1)).Nodup → (n, v) ∈ r → (kd n = some .local → bindL kd r m n = some v) ∧ (kd n ≠ some .local → bindC kd r cm n = some v)
  | (a, u) :: r, m, cm, nd, h => by
    rw [List.map_cons, List.nodup_cons] at nd
    rcases List.mem_cons.mp h with e | h
    · cases e
      unfold bindL bindC
      rw [bindL_other nd.1, bindC_other nd.1]
      exact ⟨fun hk => by simp [hk], fun hk => by simp [hk]⟩
    · unfold bindL bindC
      exact bind_mem nd.2 h

section
variable {C : Cx} {k : Nat}
/-- a def of the module, called: its contract from its body's -/
theorem CallsTo.fn {a : Addr} {o : Obj} {fd : FuncData} {body : List Stmt} {avs : List AV} {av : AV} {ρ₀ : Rho} {bn : List Str} (O : C.Ok) (ho : C.g.get? a = some o) (hd : o.data = .func fd) (hcd : C.g.CodeRec fd.code fd.qualname) (hbody : fd.body = .stmts body)
    (hcl : fd.closure = []) (hgl : fd.globals = mainGlobals) (hbl : fd.builtins = builtinsNs) (hk : fd.scope.kind = .function) (hco : fd.scope.isCoroutine = false) (hgen : fd.scope.isGenerator = false)
    (hb : ∀ s vs, Glo C s.heap → AtAll s.heap vs avs → ∃ binds, BindsTo s fd ⟨vs, []⟩ binds ∧ binds.map (·.1) = bn ∧ ∀ x bv, ρ₀.lookup x = some bv → ∃ v, (x, v) ∈ binds ∧ At s.heap v bv)
    (hnd : bn.Nodup) (hkd : ∀ x ∈ bn, Nm fd.scope x) (hx : Ex C k ρ₀ fd.scope body (fun _ => av = .non) (fun b => b = av)) : CallsTo C (k + 1) (.ref a) avs av := fun A s vs Q E R G hat h => by
  obtain ⟨binds, hbind, hbn, hval⟩ := hb s vs G hat
  refine wpAny_call (codeAny_call_function (by have := R.depth; show A.depth < 1000; omega) (G.keep _ _ ho) hd hco hgen hbody (hcd.keeps G.keep) (hbind _ _ _ _ ?_))
  rw [hcl]
  refine wpAny_newFunctionEnv_cells hk (fun x hx' => ?_) fun env he s₁ x => ?_
  · rcases hkd x.1 (hbn ▸ List.mem_map_of_mem hx') with e | e
    · exact .inl e
    · exact .inr ⟨e, cellsFrom_some _ _ _ (.inl e)⟩
  · have hsc : env.scope = fd.scope := by rw [he]; rfl
    have hL : env.locals = s.heap.objs.size := by rw [he]; rfl
    have hcells : env.cells = cellsFrom (s.heap.objs.size + 1) fd.scope.names [] := by rw [he]; rfl
    have keep := x.toInCall.keep
    obtain ⟨h₁, tk, rfl⟩ := x.toInCall.same
    have S₁ : Step s { s with heap := h₁, toks := tk } := Step.of keep
    have G₁ := G.step O S₁
    refine ⟨O.lim.keeps G₁.keep, codeAny_func ?_⟩
    have fr : ∀ b, Own env b → s.heap.get? b = none := fun b ow => by
      rcases ow with rfl | ⟨y, ky, ly⟩
      · rw [hL]; exact get_size _
      · have := x.above y b (mem_of_lookup ly)
        rw [hL] at this
        exact Heap.get?_none_of_le (Nat.le_of_lt this)
    have frg : ∀ b, Own env b → C.g.get? b = none := fun b ow => by
        cases q : C.g.get? b with
        | none => rfl
        | some o => have := G.keep _ _ q; rw [fr b ow] at this; cases this
    have F : Frm C env := ⟨frg, fun y z c ky ly lz => name_of_addr x.apart (mem_of_lookup lz) (mem_of_lookup ly)⟩
    have Rd : Rdy env h₁ := ⟨⟨_, x.toInCall.ns⟩, fun y ky => by
      have : (env.cells.lookup y).isSome = true := by
        rw [hcells]
        have ky' : env.scope.names.lookup y = some .cell := ky
        rw [hsc] at ky'
        exact cellsFrom_some _ _ _ (.inl ky')
      obtain ⟨c, lc⟩ := Option.isSome_iff_exists.mp this
      exact ⟨c, _, lc, x.cell y c lc⟩⟩
    have Se : Sees ρ₀ env h₁ := ⟨⟨by rw [hsc]; exact hk, by rw [he]; exact hgl, by rw [he]; exact hbl⟩, fun y bv e => by
      obtain ⟨v, hm, ha⟩ := hval y bv e
      have hm' : y ∈ bn := hbn ▸ List.mem_map_of_mem hm
      have bm := bind_mem (kd := env.kindOf) (m := fun _ => none) (cm := fun _ => none) (by rw [hbn]; exact hnd) hm
      refine ⟨v, ?_, ha.step S₁ G.tb⟩
      rcases hkd y hm' with ky | ky
      · rw [← hsc] at ky
        exact .inl ⟨ky, _, x.toInCall.ns, bm.1 ky⟩
      · rw [← hsc] at ky
        have ky' : env.kindOf y = some .cell := ky
        obtain ⟨c, _, lc, _⟩ := Rd.cells y ky
        refine .inr ⟨.inl ky, c, lc, ?_⟩
        have := x.cell y c lc
        rw [bm.2 (by rw [ky']; nofun)] at this
        exact this⟩
    refine hx (A.deeper env) env { s with heap := h₁, toks := tk } _ _ R.deeper hsc F Rd Se G₁ (fun s' ρ' hav Se' Rd' S' => ?_) (fun v bv s' hav a' S' => ?_)
    · subst hav
      exact h .none s' (S₁.grow S' fr) rfl
    · subst hav
      exact h v s' (S₁.grow S' fr) a'
end
end Mine

/- part 14 -/
namespace Mine
open PySem PySem.W PySem.Spec PySem.Calls PyProof.Rows

abbrev pw := PySem.Challenge.pw_go0001_01
def fnBody (i : Nat) : List Stmt := match pw.main.body[i]? with
  | some (.FunctionDef _ _ b _ _ _ _ _ _ _) => b
  | _ => []
def fnParams (i : Nat) : Arguments := match pw.main.body[i]? with
  | some (.FunctionDef _ p _ _ _ _ _ _ _ _) => p
  | _ => ⟨[], [], none, [], [], none, []⟩
def fnScope (i : Nat) : Scope := match pw.main.body[i]? with
  | some (.FunctionDef _ _ _ _ _ _ s _ _ _) => s
  | _ => default

/-- a def of the module lies at a -/
structure DefAt (C : Cx) (a : Addr) (i : Nat) (dV kV : Value) : Prop where
  at' : ∃ o fd, C.g.get? a = some o ∧ o.data = .func fd ∧ C.g.CodeRec fd.code fd.qualname ∧ fd.body = .stmts (fnBody i) ∧ fd.scope = fnScope i ∧ fd.params = fnParams i ∧ fd.closure = [] ∧ fd.globals = mainGlobals ∧ fd.builtins = builtinsNs ∧
    fd.defaults = dV ∧ fd.kwdefaults = kV

theorem CallsTo.at {C : Cx} {k : Nat} {a : Addr} {i : Nat} {dV kV : Value} {avs : List AV} {av : AV} {ρ₀ : Rho} {bn : List Str} (O : C.Ok) (D : DefAt C a i dV kV) (hk : (fnScope i).kind = .function) (hco : (fnScope i).isCoroutine = false) (hgen : (fnScope i).isGenerator = false)
    (hb : ∀ s vs fd, fd.params = fnParams i → fd.defaults = dV → fd.kwdefaults = kV → Glo C s.heap → AtAll s.heap vs avs → ∃ binds, BindsTo s fd ⟨vs, []⟩ binds ∧ binds.map (·.1) = bn ∧ ∀ x bv, ρ₀.lookup x = some bv → ∃ v, (x, v) ∈ binds ∧ At s.heap v bv)
    (hnd : bn.Nodup) (hkd : ∀ x ∈ bn, Nm (fnScope i) x) (hx : Ex C k ρ₀ (fnScope i) (fnBody i) (fun _ => av = .non) (fun b => b = av)) : CallsTo C (k + 1) (.ref a) avs av := by
  obtain ⟨o, fd, e1, e2, e3, e4, e5, e6, e7, e8, e9, e10, e11⟩ := D.at'
  refine CallsTo.fn (ρ₀ := ρ₀) (bn := bn) (body := fnBody i) O e1 e2 e3 e4 e7 e8 e9 (by rw [e5]; exact hk) (by rw [e5]; exact hco) (by rw [e5]; exact hgen) (fun s vs G h => hb s vs fd e6 e10 e11 G h) hnd (fun x hx => by rw [e5]; exact hkd x hx) ?_
  rw [e5]
  exact hx
theorem Keeps.at {C : Cx} {a : Addr} {i : Nat} {dV kV : Value} (D : DefAt C a i dV kV) : Keeps C (.ref a) := by
  obtain ⟨o, fd, e1, e2, _⟩ := D.at'
  exact Keeps.fn e1 e2

def dflT (t : Tok) : Obj := { cls := .type "tuple", data := .seq #[.int 0 t, .none] }
def dflK (h : Int) (tk : Tok) : Obj := { cls := .type "dict", data := .dict #[⟨h, .str (Str.ofString "key") tk, .none⟩] 1 }
/-- the program's top -/
structure Top9 (C : Cx) : Prop extends C.Ok where
  fInt : DefAt C 21 1 .none .none
  fDig : DefAt C 28 2 .none .none
  fIns : DefAt C 37 4 (.ref 29) (.ref 30)
  fBis : DefAt C 46 5 (.ref 38) (.ref 39)
  d29 : ∃ t, C.g.get? 29 = some (dflT t)
  d30 : ∃ h tk, C.g.get? 30 = some (dflK h tk)
  d38 : ∃ t, C.g.get? 38 = some (dflT t)
  d39 : ∃ h tk, C.g.get? 39 = some (dflK h tk)
  fTab : DefAt C 53 7 .none .none
  fUnd : DefAt C 60 8 .none .none
  fRis : DefAt C 65 9 .none .none
  nInt : C.mg (Str.ofString "_int2digits") = some (.ref 21)
  nDig : C.mg (Str.ofString "_digits2int") = some (.ref 28)
  nIns : C.mg (Str.ofString "insort_left") = some (.ref 37)
  nBis : C.mg (Str.ofString "bisect_left") = some (.ref 46)
  nTab : C.mg (Str.ofString "_law_tables") = some (.ref 53)
  nUnd : C.mg (Str.ofString "_law_under") = some (.ref 60)
  nRis : C.mg (Str.ofString "_law_rises") = some (.ref 65)
  bLen : C.mg (Str.ofString "len") = none ∧ C.mb (Str.ofString "len") = some (.builtin "len")
  bRange : C.mg (Str.ofString "range") = none ∧ C.mb (Str.ofString "range") = some (.type "range")
  bSum : C.mg (Str.ofString "sum") = none ∧ C.mb (Str.ofString "sum") = some (.builtin "sum")
  bAbs : C.mg (Str.ofString "abs") = none ∧ C.mb (Str.ofString "abs") = some (.builtin "abs")
  bInt : C.mg (Str.ofString "int") = none ∧ C.mb (Str.ofString "int") = some (.type "int")
  bSorted : C.mg (Str.ofString "sorted") = none ∧ C.mb (Str.ofString "sorted") = some (.builtin "sorted")

theorem bindArgs_cong (fd : FuncData) (args : Args) : bindArgs fd args = bindArgs { (default : FuncData) with qualname := fd.qualname, params := fd.params, defaults := fd.defaults, kwdefaults := fd.kwdefaults } args := rfl

theorem zip_at {h : Heap} : ∀ {bn : List Str} {vs : List Value} {avs : List AV}, AtAll h vs avs → ∀ x bv, (bn.zip avs).lookup x = some bv → ∃ v, (x, v) ∈ bn.zip vs ∧ At h v bv
  | [], _, _, _, x, bv, e => by simp at e
  | n :: bn, [], [], _, x, bv, e => by simp at e
  | n :: bn, v :: vs, a :: as, ⟨ha, hr⟩, x, bv, e => by
    rw [List.zip_cons_cons, List.lookup_cons] at e
    cases hx : x == n with
    | true =>
      rw [hx] at e; cases e
      rw [beq_iff_eq.mp hx]
      exact ⟨v, .head _, ha⟩
    | false =>
      rw [hx] at e
      obtain ⟨u, hu, au⟩ := zip_at hr x bv e
      exact ⟨u, .tail _ hu, au⟩
  | _ :: _, [], _ :: _, h, _, _, _ => h.elim
  | _ :: _, _ :: _, [], h, _, _, _ => h.elim
theorem atAll_len {h : Heap} : ∀ {vs : List Value} {avs : List AV}, AtAll h vs avs → vs.length = avs.length
  | [], [], _ => rfl
  | _ :: _, _ :: _, ⟨_, r⟩ => by simp [atAll_len r]
  | [], _ :: _, h => h.elim
  | _ :: _, [], h => h.elim
theorem zip_names : ∀ {bn : List Str} {vs : List Value}, bn.length = vs.length → (bn.zip vs).map (·.1) = bn
  | [], [], _ => rfl
  | n :: bn, v :: vs, h => by simp only [List.zip_cons_cons, List.map_cons]; rw [zip_names (by simpa using h)]
/-- a def without defaults, called by its places -/
theorem CallsTo.plain {C : Cx} {k : Nat} {a : Addr} {i : Nat} {avs : List AV} {av : AV} {bn : List Str} (O : C.Ok) (D : DefAt C a i .none .none) (hk : (fnScope i).kind = .function) (hco : (fnScope i).isCoroutine = false) (hgen : (fnScope i).isGenerator = false)
    (hlen : bn.length = avs.length) (hb : ∀ (q : Str) (vs : List Value), vs.length = avs.length → bindArgs { (default : FuncData) with qualname := q, params := fnParams i } ⟨vs, []⟩ = pure (bn.zip vs))
    (hnd : bn.Nodup) (hkd : bn.all (fun x => (fnScope i).names.lookup x == some .local || (fnScope i).names.lookup x == some .cell) = true) (hx : Ex C k (bn.zip avs) (fnScope i) (fnBody i) (fun _ => av = .non) (fun b => b = av)) : CallsTo C (k + 1) (.ref a) avs av := by
  refine CallsTo.at O D hk hco hgen (bn := bn) (fun s vs fd e1 e2 e3 G h => ⟨bn.zip vs, BindsTo.of_eq ?_, zip_names (hlen.trans (atAll_len h).symm), zip_at h⟩) hnd (fun x hx => ?_) hx
  · rw [bindArgs_cong, e1, e2, e3]
    exact hb fd.qualname vs (atAll_len h)
  · have := List.all_eq_true.mp hkd x hx
    simpa using this
theorem len1 {α : Type} {vs : List α} (h : vs.length = 1) : ∃ a, vs = [a] := by
  match vs, h with
  | [a], _ => exact ⟨a, rfl⟩
theorem len2 {α : Type} {vs : List α} (h : vs.length = 2) : ∃ a b, vs = [a, b] := by
  match vs, h with
  | [a, b], _ => exact ⟨a, b, rfl⟩

theorem Tr.and2 {C : Cx} {k : Nat} {ρ : Rho} {sc : Scope} {x y : Expr} {pos : Pos} {b c : Bool} (O : C.Ok) (h : Tr C k ρ sc x b) (h2 : b = true → Tr C k ρ sc y c) : Tr C k ρ sc (.BoolOp .And [x, y] pos) (b && c) :=
  Tr.and_cons O h fun hb => by
    have := Tr.and_cons (c := true) (rest := []) (pos := pos) O (h2 hb) (fun _ => Tr.and_nil)
    rwa [Bool.and_true] at this
theorem Tr.or2 {C : Cx} {k : Nat} {ρ : Rho} {sc : Scope} {x y : Expr} {pos : Pos} {b c : Bool} (O : C.Ok) (h : Tr C k ρ sc x b) (h2 : b = false → Tr C k ρ sc y c) : Tr C k ρ sc (.BoolOp .Or [x, y] pos) (b || c) :=
  Tr.or_cons O h fun hb => by
    have := Tr.or_cons (c := false) (rest := []) (pos := pos) O (h2 hb) (fun _ => Tr.or_nil)
    rwa [Bool.or_false] at this

def under (a b : Int) : Bool := Builtin.bitAnd a b == a
theorem under_calls {C : Cx} (P : Top9 C) {a b : Int} : CallsTo C 1 (.ref 60) [.int a, .int b] (.bool (under a b)) := by
  refine CallsTo.plain (bn := [Str.ofString "one", Str.ofString "other"]) P.toOk P.fUnd rfl rfl rfl rfl ?_ (by decide) rfl ?_
  · intro q vs h; obtain ⟨v, w, rfl⟩ := len2 h; rfl
  · exact Ex.one P.toOk (Ex1.ret (Ev.cmp P.toOk (Ev.bin P.toOk (Ev.name rfl) (Ev.name rfl) BinOk.and) (Ev.name rfl) CmpOk.eq) rfl)

/-- the figures nowhere go from one to nought as a figure goes up -/
def rises (l : List Int) : Bool :=
  decide (((List.range l.length).map Int.ofNat).flatMap (fun a => (((List.range l.length).map Int.ofNat).filter fun b => under a b && decide (l.getD a.toNat 0 > l.getD b.toNat 0)).map fun _ => (1 : Int)) = [])
theorem mem_range_int {n : Nat} {a : Int} (h : a ∈ (List.range n).map Int.ofNat) : 0 ≤ a ∧ a.toNat < n ∧ a = (a.toNat : Int) := by
  obtain ⟨j, hj, rfl⟩ := List.mem_map.mp h
  simp at hj
  exact ⟨by simp, by simpa using hj, by simp⟩
theorem getD_some {l : List Int} {i : Nat} (h : i < l.length) : l[i]? = some (l.getD i 0) := by simp [List.getD_eq_getElem?_getD, h]
theorem rises_calls {C : Cx} (P : Top9 C) {l : List Int} (hz : l.length ≤ 100) : CallsTo C 2 (.ref 65) [.il l] (.bool (rises l)) := by
  refine CallsTo.plain (bn := [Str.ofString "figures"]) P.toOk P.fRis rfl rfl rfl rfl ?_ (by decide) rfl ?_
  · intro q vs h; obtain ⟨v, rfl⟩ := len1 h; rfl
  · refine Ex.cons P.toOk (Ex1.assign P.toOk (.inr rfl) (Ev.call P.toOk (EvV.blt P.toOk rfl P.bLen.1 P.bLen.2) Keeps.builtin (EvL.cons P.toOk (Ev.name rfl) EvL.nil) (CallsTo.len (by omega)) (by omega) ⟨fun _ _ => rfl, trivial⟩) (N := fun r => r = _) rfl (fun env h => rfl)) ?_
    rintro ρ' rfl
    refine Ex.one P.toOk (Ex1.ret (av := .bool (rises l)) ?_ rfl)
    refine Ev.cmp P.toOk (b := .il []) ?_ (Ev.list P.toOk EvL.nil (by simp)) CmpOk.eqL
    refine Ev.comp2 P.toOk (av := .rng l.length) (av2 := .rng l.length) rfl rfl (by decide) (fun _ _ => rfl) (fun _ => rfl) rfl (by decide) rfl ?_ rfl ?_ ?_ (fun a ha => ?_) rfl ⟨_, rfl⟩ (fun a ha b hb => ?_) (fun a ha b hb _ => ?_)
    · exact Ev.call P.toOk (EvV.blt P.toOk rfl P.bRange.1 P.bRange.2) Keeps.type (EvL.cons P.toOk (Ev.name rfl) EvL.nil) CallsTo.range (by omega) ⟨fun _ _ => rfl, trivial⟩
    · simp only [List.length_map, List.length_range]
      have : l.length * l.length ≤ 100 * 100 := Nat.mul_le_mul hz hz
      omega
    · simp only [List.length_map, List.length_range]; omega
    · exact Ev.call P.toOk (EvV.blt P.toOk rfl P.bRange.1 P.bRange.2) Keeps.type (EvL.cons P.toOk (Ev.name rfl) EvL.nil) CallsTo.range (by omega) ⟨fun _ _ => rfl, trivial⟩
    · obtain ⟨a0, a1, a2⟩ := mem_range_int ha
      obtain ⟨b0, b1, b2⟩ := mem_range_int hb
      refine Trs.one ?_
      exact Tr.and2 P.toOk (Tr.of_bool (Ev.call P.toOk (EvV.glob P.toOk rfl P.nUnd) (Keeps.at P.fUnd) (EvL.cons P.toOk (Ev.name rfl) (EvL.cons P.toOk (Ev.name rfl) EvL.nil)) (under_calls P) (by omega) ⟨fun _ _ => rfl, fun _ _ => rfl, trivial⟩) (fun _ _ => rfl)) fun _ =>
        Tr.cmp P.toOk (Ev.item P.toOk (Ev.name rfl) (Ev.name rfl) a0 (getD_some a1) (by omega)) (Ev.item P.toOk (Ev.name rfl) (Ev.name rfl) b0 (getD_some b1) (by omega)) CmpOk.gt
    · exact Ev.int
end Mine

/- part 15 -/
namespace Mine
open PySem PySem.W PySem.Spec PySem.Calls PyProof.Rows

def bis (l : List Int) (x : Int) : Nat → Nat → Nat → Nat
  | 0, lo, _ => lo
  | f + 1, lo, hi => if lo < hi then (if l.getD ((lo + hi) / 2) 0 < x then bis l x f ((lo + hi) / 2 + 1) hi else bis l x f lo ((lo + hi) / 2)) else lo
theorem bis_end {l : List Int} {x : Int} {f lo hi : Nat} (h : ¬ lo < hi) : bis l x f lo hi = lo := by
  cases f with
  | zero => rfl
  | succ f => simp [bis, h]

abbrev bisRho (l : List Int) (x : Int) (a : Nat × Nat × Nat) : Rho := [(Str.ofString "lo", .int a.2.1), (Str.ofString "hi", .int a.2.2), (Str.ofString "a", .il l), (Str.ofString "x", .int x)]
theorem sub_cons {x : Str} {av : AV} {ρ' ρ : Rho} (h : ρ.lookup x = some av) (r : SubR ρ' ρ) : SubR ((x, av) :: ρ') ρ := fun y bv e => by
  rw [List.lookup_cons] at e
  cases hy : y == x with
  | true => rw [hy] at e; cases e; rw [beq_iff_eq.mp hy]; exact h
  | false => rw [hy] at e; exact r y bv e
theorem sub_nil {ρ : Rho} : SubR [] ρ := fun y bv e => by simp at e

theorem bisect_body {C : Cx} (P : Top9 C) {l : List Int} {x : Int} (hz : l.length ≤ 1000) (hi : AV) (hhi : hi = .non) :
    Ex C 2 [(Str.ofString "a", .il l), (Str.ofString "x", .int x), (Str.ofString "lo", .int 0), (Str.ofString "hi", hi), (Str.ofString "key", .non)] (fnScope 5) (fnBody 5) (fun _ => AV.int (bis l x l.length 0 l.length) = .non) (fun b => b = .int (bis l x l.length 0 l.length)) := by
  subst hhi
  have O := P.toOk
  refine Ex.cons O (Ex1.ite (N := fun r => r = _) O (Tr.cmp O (Ev.name rfl) Ev.int CmpOk.lt) (fun h => by simp at h) (fun _ => Ex.nil rfl)) ?_
  rintro r rfl
  refine Ex.cons O (Ex1.ite (N := fun r => r = _) O (Tr.cmp O (Ev.name rfl) Ev.non (CmpOk.isNon (v := .none) rfl)) (fun _ => Ex.one O (Ex1.assign O (.inl rfl) (Ev.call O (EvV.blt O rfl P.bLen.1 P.bLen.2) Keeps.builtin (EvL.cons O (Ev.name rfl) EvL.nil) (CallsTo.len (by omega)) (by omega) ⟨fun _ _ => rfl, trivial⟩) rfl (fun env h => rfl))) (fun h => by cases h)) ?_
  rintro r rfl
  refine Ex.cons O (Ex1.ite (N := fun r => r.lookup (Str.ofString "lo") = some (.int (bis l x l.length 0 l.length))) O (Tr.cmp O (Ev.name rfl) Ev.non (CmpOk.isNon (v := .none) rfl)) (fun _ => Ex.one O ?_) (fun h => by cases h)) ?_
  · refine Ex1.whil (σ := Nat × Nat × Nat) (ρI := bisRho l x) (inv := fun a => bis l x a.1 a.2.1 a.2.2 = bis l x l.length 0 l.length ∧ a.2.2 - a.2.1 ≤ a.1 ∧ a.2.2 ≤ l.length) (tb := fun a => decide ((a.2.1 : Int) < (a.2.2 : Int))) (μ := fun a => a.1) O (l.length, 0, l.length) ?_ ⟨rfl, by simp, by simp⟩ ?_ ?_ ?_
    · exact sub_cons rfl (sub_cons rfl (sub_cons rfl (sub_cons rfl sub_nil)))
    · rintro ⟨f, lo, hi⟩ ⟨e, h1, h2⟩
      exact Tr.cmp O (Ev.name rfl) (Ev.name rfl) CmpOk.lt
    · rintro ⟨f, lo, hi⟩ ⟨e, h1, h2⟩ ht
      simp only [decide_eq_true_eq] at ht h1 h2 e
      have lt : lo < hi := by omega
      obtain ⟨f, rfl⟩ : ∃ g, f = g + 1 := ⟨f - 1, by omega⟩
      have hm : (lo + hi) / 2 < hi := by omega
      have hdiv : ((lo : Int) + (hi : Int)).fdiv 2 = (((lo + hi) / 2 : Nat) : Int) := by
        rw [Int.fdiv_eq_ediv_of_nonneg _ (by omega)]; omega
      refine Ex.cons O (Ex1.assign (N := fun r => r = _) O (.inl rfl) (Ev.bin O (Ev.bin O (Ev.name rfl) (Ev.name rfl) BinOk.add) Ev.int (BinOk.fdiv (by decide) (by decide))) rfl (fun env h => rfl)) ?_
      rintro r rfl
      rw [hdiv]
      refine Ex.one O (Ex1.ite O (Tr.cmp O (Ev.item O (Ev.name rfl) (Ev.name rfl) (by omega) (getD_some (by simp; omega)) (by omega)) (Ev.name rfl) CmpOk.lt) (fun h => ?_) (fun h => ?_))
      · simp only [decide_eq_true_eq, Int.toNat_natCast] at h
        refine Ex.one O (Ex1.assign O (.inl rfl) (Ev.bin O (Ev.name rfl) Ev.int BinOk.add) ⟨(f, (lo + hi) / 2 + 1, hi), ⟨?_, by simp; omega, by simp; omega⟩, by simp, ?_⟩ (fun env h => rfl))
        · simp only [← e, bis, lt, if_true, h]
        · exact sub_cons (by simp) (sub_cons rfl (sub_cons rfl (sub_cons rfl sub_nil)))
      · simp only [decide_eq_false_iff_not, Int.toNat_natCast] at h
        refine Ex.one O (Ex1.assign O (.inl rfl) (Ev.name rfl) ⟨(f, lo, (lo + hi) / 2), ⟨?_, by simp; omega, by simp; omega⟩, by simp, ?_⟩ (fun env h => rfl))
        · simp only [← e, bis, lt, if_true, h, if_false]
        · exact sub_cons rfl (sub_cons rfl (sub_cons rfl (sub_cons rfl sub_nil)))
    · rintro ⟨f, lo, hi⟩ ⟨e, h1, h2⟩ ht
      simp only [decide_eq_false_iff_not] at ht e
      show List.lookup (Str.ofString "lo") (bisRho l x (f, lo, hi)) = _
      rw [← e, bis_end (by omega)]
      rfl
  · intro r hr
    exact Ex.one O (Ex1.ret (Ev.name hr) rfl)

theorem frag2 {h : Heap} {a b : Addr} {o p : Obj} (h1 : h.get? a = some o) (h2 : h.get? b = some p) : Frag.In [(a, o), (b, p)] h := fun c q e => by
  rw [List.lookup_cons] at e
  cases hc : c == a with
  | true => rw [hc] at e; cases e; rw [beq_iff_eq.mp hc]; exact h1
  | false =>
    rw [hc] at e
    rw [List.lookup_cons] at e
    cases hd : c == b with
    | true => rw [hd] at e; cases e; rw [beq_iff_eq.mp hd]; exact h2
    | false => rw [hd] at e; cases e
theorem nms {sc : Scope} {bn : List Str} (h : bn.all (fun x => sc.names.lookup x == some .local || sc.names.lookup x == some .cell) = true) : ∀ x ∈ bn, Nm sc x := fun x hx => by
  have := List.all_eq_true.mp h x hx
  simpa using this
theorem bisect_calls {C : Cx} (P : Top9 C) {l : List Int} {x : Int} (hz : l.length ≤ 1000) : CallsTo C 3 (.ref 46) [.il l, .int x] (.int (bis l x l.length 0 l.length)) := by
  refine CallsTo.at P.toOk P.fBis rfl rfl rfl (bn := [Str.ofString "a", Str.ofString "x", Str.ofString "lo", Str.ofString "hi", Str.ofString "key"]) (fun s vs fd e1 e2 e3 G h => ?_) (by decide) ?_ (bisect_body P hz .non rfl)
  · obtain ⟨v, w, rfl, hv, hw⟩ := atAll2 h
    obtain ⟨t, h38⟩ := P.d38
    obtain ⟨hh, tk, h39⟩ := P.d39
    refine ⟨[(Str.ofString "a", v), (Str.ofString "x", w), (Str.ofString "lo", .int 0 t), (Str.ofString "hi", .none), (Str.ofString "key", .none)], ?_, rfl, ?_⟩
    · refine kp_binds (K := [(38, dflT t), (39, dflK hh tk)]) ?_ fun S => ?_
      · exact frag2 (G.keep _ _ h38) (G.keep _ _ h39)
      · rw [bindArgs_cong, e1, e2, e3]; rfl
    · exact zip_at (bn := [Str.ofString "a", Str.ofString "x", Str.ofString "lo", Str.ofString "hi", Str.ofString "key"]) (h := s.heap) (vs := [v, w, .int 0 t, .none, .none]) (avs := [.il l, .int x, .int 0, .non, .non]) ⟨hv, hw, ⟨t, rfl⟩, rfl, rfl, trivial⟩
  · exact nms rfl
theorem atAllC {h : Heap} {vs : List Value} {a : AV} {as : List AV} (x : AtAll h vs (a :: as)) : ∃ v r, vs = v :: r ∧ At h v a ∧ AtAll h r as := by
  cases vs with
  | nil => exact x.elim
  | cons v r => exact ⟨v, r, rfl, x.1, x.2⟩
theorem bisect_calls4 {C : Cx} (P : Top9 C) {l : List Int} {x : Int} (hz : l.length ≤ 1000) : CallsTo C 3 (.ref 46) [.il l, .int x, .int 0, .non] (.int (bis l x l.length 0 l.length)) := by
  refine CallsTo.at P.toOk P.fBis rfl rfl rfl (bn := [Str.ofString "a", Str.ofString "x", Str.ofString "lo", Str.ofString "hi", Str.ofString "key"]) (fun s vs fd e1 e2 e3 G h => ?_) (by decide) ?_ (bisect_body P hz .non rfl)
  · obtain ⟨v, w, y, z, rfl, hv, hw, hy, hz⟩ : ∃ v w y z, vs = [v, w, y, z] ∧ At s.heap v (.il l) ∧ At s.heap w (.int x) ∧ At s.heap y (.int 0) ∧ At s.heap z .non := by
      obtain ⟨v, r, rfl, hv, h⟩ := atAllC h
      obtain ⟨w, r, rfl, hw, h⟩ := atAllC h
      obtain ⟨y, z, rfl, hy, hz⟩ := atAll2 h
      exact ⟨v, w, y, z, rfl, hv, hw, hy, hz⟩
    obtain ⟨t, h38⟩ := P.d38
    obtain ⟨hh, tk, h39⟩ := P.d39
    refine ⟨[(Str.ofString "a", v), (Str.ofString "x", w), (Str.ofString "lo", y), (Str.ofString "hi", z), (Str.ofString "key", .none)], ?_, rfl, ?_⟩
    · refine kp_binds (K := [(38, dflT t), (39, dflK hh tk)]) ?_ fun S => ?_
      · exact frag2 (G.keep _ _ h38) (G.keep _ _ h39)
      · rw [bindArgs_cong, e1, e2, e3]; rfl
    · exact zip_at (bn := [Str.ofString "a", Str.ofString "x", Str.ofString "lo", Str.ofString "hi", Str.ofString "key"]) (h := s.heap) (vs := [v, w, y, z, .none]) (avs := [.il l, .int x, .int 0, .non, .non]) ⟨hv, hw, hy, hz, rfl, trivial⟩
  · exact nms rfl
end Mine

/- part 16 -/
namespace Mine
open PySem PySem.W PySem.Spec PySem.Calls PyProof.Rows

section
variable {C : Cx} {k : Nat}
/-- a def of the module entered: the state at its body -/
theorem enter2 {a : Addr} {i : Nat} {dV kV : Value} {bn : List Str} {A : Around} {s : Shared} {vs : List Value} {binds : List (Str × Value)} {Q : Value → Shared → Prop} {E : Value → Shared → Prop} (O : C.Ok) (D : DefAt C a i dV kV)
    (hk : (fnScope i).kind = .function) (hco : (fnScope i).isCoroutine = false) (hgen : (fnScope i).isGenerator = false) (R : Room A (k + 1)) (G : Glo C s.heap)
    (hbind : ∀ fd, fd.params = fnParams i → fd.defaults = dV → fd.kwdefaults = kV → BindsTo s fd ⟨vs, []⟩ binds) (hbn : binds.map (·.1) = bn) (hnd : bn.Nodup) (hkd : ∀ x ∈ bn, Nm (fnScope i) x)
    (h : ∀ env s₁ (Qf : Flow → Shared → Prop) (E' : Value → Shared → Prop), env.scope = fnScope i → Room (A.deeper env) k → Frm C env → Rdy env s₁.heap → EnvOk env → (∀ x v, (x, v) ∈ binds → SeesV env s₁.heap x v) → Step s s₁ → (∀ b, Own env b → s.heap.get? b = none) → Glo C s₁.heap → (∀ o fd, C.g.get? a = some o → o.data = .func fd → env.code = fd.code ∧ env.qual = fd.qualname ++ ".<locals>.") →
      (∀ s', Q .none s' → Qf .next s') → (∀ v s', Q v s' → Qf (.ret v) s') → wpAny (model C.prog C.w) (A.deeper env) (execs (fnBody i) env) Qf E' s₁) :
    wpAny (model C.prog C.w) A (call (.ref a) vs) Q E s := by
  obtain ⟨o, fd, ho, hd, hcd, hbody, hsc', hpar, hcl, hgl, hbl, hdf, hkw⟩ := D.at'
  rw [← hsc'] at hk hco hgen hkd
  refine wpAny_call (codeAny_call_function (by have := R.depth; show A.depth < 1000; omega) (G.keep _ _ ho) hd hco hgen hbody (hcd.keeps G.keep) (hbind fd hpar hdf hkw _ _ _ _ ?_))
  rw [hcl]
  refine wpAny_newFunctionEnv_cells hk (fun x hx' => ?_) fun env he s₁ x => ?_
  · rcases hkd x.1 (hbn ▸ List.mem_map_of_mem hx') with e | e
    · exact .inl e
    · exact .inr ⟨e, cellsFrom_some _ _ _ (.inl e)⟩
  · have hsc : env.scope = fd.scope := by rw [he]; rfl
    have hL : env.locals = s.heap.objs.size := by rw [he]; rfl
    have hcells : env.cells = cellsFrom (s.heap.objs.size + 1) fd.scope.names [] := by rw [he]; rfl
    have keep := x.toInCall.keep
    obtain ⟨h₁, tk, rfl⟩ := x.toInCall.same
    have S₁ : Step s { s with heap := h₁, toks := tk } := Step.of keep
    have G₁ := G.step O S₁
    refine ⟨O.lim.keeps G₁.keep, codeAny_func ?_⟩
    have fr : ∀ b, Own env b → s.heap.get? b = none := fun b ow => by
      rcases ow with rfl | ⟨y, ky, ly⟩
      · rw [hL]; exact get_size _
      · have := x.above y b (mem_of_lookup ly)
        rw [hL] at this
        exact Heap.get?_none_of_le (Nat.le_of_lt this)
    have frg : ∀ b, Own env b → C.g.get? b = none := fun b ow => by
        cases q : C.g.get? b with
        | none => rfl
        | some o => have := G.keep _ _ q; rw [fr b ow] at this; cases this
    have F : Frm C env := ⟨frg, fun y z c ky ly lz => name_of_addr x.apart (mem_of_lookup lz) (mem_of_lookup ly)⟩
    have Rd : Rdy env h₁ := ⟨⟨_, x.toInCall.ns⟩, fun y ky => by
      have : (env.cells.lookup y).isSome = true := by
        rw [hcells]
        have ky' : env.scope.names.lookup y = some .cell := ky
        rw [hsc] at ky'
        exact cellsFrom_some _ _ _ (.inl ky')
      obtain ⟨c, lc⟩ := Option.isSome_iff_exists.mp this
      exact ⟨c, _, lc, x.cell y c lc⟩⟩
    refine h env { s with heap := h₁, toks := tk } _ _ (hsc.trans hsc') R.deeper F Rd ⟨by rw [hsc]; exact hk, by rw [he]; exact hgl, by rw [he]; exact hbl⟩ (fun y v hm => ?sv) S₁ fr G₁ (fun o' fd' e1 e2 => ?cd) (fun s' q => q) (fun v s' q => q)
    case cd =>
      rw [ho] at e1; cases e1; rw [hd] at e2; cases e2
      rw [he]; exact ⟨rfl, rfl⟩
    have hm' : y ∈ bn := hbn ▸ List.mem_map_of_mem hm
    have bm := bind_mem (kd := env.kindOf) (m := fun _ => none) (cm := fun _ => none) (by rw [hbn]; exact hnd) hm
    rcases hkd y hm' with ky | ky
    · rw [← hsc] at ky
      exact .inl ⟨ky, _, x.toInCall.ns, bm.1 ky⟩
    · rw [← hsc] at ky
      have ky' : env.kindOf y = some .cell := ky
      obtain ⟨c, _, lc, _⟩ := Rd.cells y ky
      refine .inr ⟨.inl ky, c, lc, ?_⟩
      have := x.cell y c lc
      rw [bm.2 (by rw [ky']; nofun)] at this
      exact this
/-- a def of the module entered: the state at its body -/
theorem enter {a : Addr} {i : Nat} {dV kV : Value} {bn : List Str} {A : Around} {s : Shared} {vs : List Value} {binds : List (Str × Value)} {Q : Value → Shared → Prop} {E : Value → Shared → Prop} (O : C.Ok) (D : DefAt C a i dV kV)
    (hk : (fnScope i).kind = .function) (hco : (fnScope i).isCoroutine = false) (hgen : (fnScope i).isGenerator = false) (R : Room A (k + 1)) (G : Glo C s.heap)
    (hbind : ∀ fd, fd.params = fnParams i → fd.defaults = dV → fd.kwdefaults = kV → BindsTo s fd ⟨vs, []⟩ binds) (hbn : binds.map (·.1) = bn) (hnd : bn.Nodup) (hkd : ∀ x ∈ bn, Nm (fnScope i) x)
    (h : ∀ env s₁ (Qf : Flow → Shared → Prop) (E' : Value → Shared → Prop), env.scope = fnScope i → Room (A.deeper env) k → Frm C env → Rdy env s₁.heap → EnvOk env → (∀ x v, (x, v) ∈ binds → SeesV env s₁.heap x v) → Step s s₁ → (∀ b, Own env b → s.heap.get? b = none) → Glo C s₁.heap →
      (∀ s', Q .none s' → Qf .next s') → (∀ v s', Q v s' → Qf (.ret v) s') → wpAny (model C.prog C.w) (A.deeper env) (execs (fnBody i) env) Qf E' s₁) :
    wpAny (model C.prog C.w) A (call (.ref a) vs) Q E s := 
  enter2 O D hk hco hgen R G hbind hbn hnd hkd fun env s₁ Qf E' h1 h2 h3 h4 h5 h6 h7 h8 h9 _ => h env s₁ Qf E' h1 h2 h3 h4 h5 h6 h7 h8 h9
end

theorem bis_le {l : List Int} {x : Int} : ∀ {f lo hi : Nat}, lo ≤ hi → bis l x f lo hi ≤ hi
  | 0, lo, hi, h => h
  | f + 1, lo, hi, h => by
    unfold bis
    split
    · split
      · exact bis_le (by omega)
      · exact Nat.le_trans (bis_le (by omega)) (by omega)
    · exact h
def ins (l : List Int) (x : Int) : List Int := l.take (bis l x l.length 0 l.length) ++ x :: l.drop (bis l x l.length 0 l.length)
theorem ins_len {l : List Int} {x : Int} : (ins l x).length = l.length + 1 := by
  have := @bis_le l x l.length 0 l.length (by omega)
  simp [ins]; omega
abbrev ListAt (h : Heap) (a : Addr) (l : List Int) : Prop := ∃ (vs : List Value) (n : Nat), IsL h a vs.toArray n ∧ IntsAre vs l
theorem ListAt.at {h : Heap} {a : Addr} {l : List Int} (x : ListAt h a l) : At h (.ref a) (.il l) := let ⟨vs, n, p, q⟩ := x; ⟨a, vs, rfl, p.isList, q⟩
theorem ListAt.stepX {X : Addr → Prop} {s s' : Shared} (S : StepX X s s') (t : Tb s.heap) {a : Addr} {l : List Int} (hX : ¬ X a) (x : ListAt s.heap a l) : ListAt s'.heap a l :=
  let ⟨vs, n, p, q⟩ := x; ⟨vs, n, S.at t hX p (.inl (by nofun)), q⟩

theorem list_insert {C : Cx} {A : Around} {s : Shared} {a : Addr} {l : List Int} {p : Nat} {q x : Int} {u t : Tok} {Q : Value → Shared → Prop} {E : Value → Shared → Prop} (tb : Tb s.heap) (hL : ListAt s.heap a l) (hq : q = (p : Int)) (hp : p ≤ l.length) (hz : l.length ≤ 1000)
    (h : ∀ s', StepX (fun b => b = a) s s' → ListAt s'.heap a (l.take p ++ x :: l.drop p) → Q .none s') : wpAny (model C.prog C.w) A (call (.builtin "list.insert") [.ref a, .int q u, .int x t]) Q E s := by
  obtain ⟨vs, n, z, hi⟩ := hL
  have hlen : vs.length = l.length := ints_len hi
  have hf : Builtin.List.listFitsIndex q = true := fitsIndex_of (by omega) (by omega)
  have hz2 : vs.toArray.size ≤ sizeLine := by rw [List.size_toArray, hlen, sizeLine_eq]; omega
  have hf2 : ¬(!Builtin.List.listFitsIndex q) = true := by rw [hf]; nofun
  have ek : (vs.toArray.extract 0 (if q < 0 then (q + (vs.toArray.size : Int)).toNat else min q.toNat vs.toArray.size)).push (Value.int x t) ++ vs.toArray.extract (if q < 0 then (q + (vs.toArray.size : Int)).toNat else min q.toNat vs.toArray.size) = (vs.take p ++ .int x t :: vs.drop p).toArray := by
    have hk : (if q < 0 then (q + (vs.toArray.size : Int)).toNat else min q.toNat vs.toArray.size) = p := by
      rw [if_neg (by omega), List.size_toArray, hlen]; omega
    rw [hk, kl_ins_eq]
  refine call_meets F.slot_list_insert ⟨_, z, rfl⟩ F.entry_list_insert (F.args_list_insert_3 _ _ _) (PySem.AutoSeq1.list_insert_list_int_val_1 a _ n q u (.int x t) hf2 hz2) ⟨z, h _ ?_ ?_⟩
  · exact StepX.of_but (fun b o hb e => (Heap.get?_update_other _ _ (Ne.symm hb)).trans e) (notCode_of z (by nofun)) (tb.ne z (.inl (by nofun))).1 (tb.ne z (.inl (by nofun))).2
  · have qq := IsL.update z (fun xs => have k := if q < 0 then (q + ((xs.size : Nat) : Int)).toNat else min q.toNat xs.size; (xs.extract 0 k).push (Value.int x t) ++ xs.extract k)
    exact ⟨vs.take p ++ .int x t :: vs.drop p, _, Eq.mp (congrArg (fun i => IsL _ a i _) ek) qq, ints_append (ints_take hi p) (.cons _ _ (ints_drop hi p))⟩

theorem own_ne {env : Env} {h : Heap} {a : Addr} {o : Obj} (r : Rdy env h) (e : h.get? a = some o) (n : ∃ vs m, o.data = .seq vs m) : ¬ Own env a := fun ow => by
  obtain ⟨vs, m, d⟩ := n
  obtain ⟨o', e', k⟩ := r.kind ow
  rw [e] at e'; cases e'
  rcases k with ⟨_, _, q⟩ | ⟨_, q⟩ <;> rw [d] at q <;> cases q
theorem seesV_name {C : Cx} {A : Around} {env : Env} {s : Shared} {x : Str} {pos : Pos} {v : Value} {Q : Value → Shared → Prop} {E : Value → Shared → Prop} (K : EnvOk env) (sv : SeesV env s.heap x v) (h : Q v s)
    (hd : (x == ("__debug__" : Str)) = false := by decide) (hn : (x == ("__classdict__" : Str)) = false := by decide) : wpAny (model C.prog C.w) A (eval (.Name x pos) env) Q E s := by
  refine wpAny_Name ?_ hd
  rcases sv with ⟨hk, m, n, e⟩ | ⟨hk | hk, c, l, i⟩
  · exact wpAny_loadName_local K.kind hk n e h
  · exact wpAny_loadName_cell K.kind hk l i h
  · exact wpAny_loadName_free K.kind hk l i h hn
end Mine

/- part 17 -/
namespace Mine
open PySem PySem.W PySem.Spec PySem.Calls PyProof.Rows

theorem sees_binds {env : Env} {h : Heap} {bn : List Str} {vs : List Value} {avs : List AV} (K : EnvOk env) (sv : ∀ x v, (x, v) ∈ bn.zip vs → SeesV env h x v) (a : AtAll h vs avs) : Sees (bn.zip avs) env h :=
  ⟨K, fun x av e => let ⟨v, hm, ha⟩ := zip_at a x av e; ⟨v, sv x v hm, ha⟩⟩

section
variable {C : Cx} {k : Nat} {ρ : Rho} {sc : Scope} {A : Around} {env : Env} {s : Shared} {E : Value → Shared → Prop}
theorem Ev.run {e : Expr} {av : AV} {Q : Value → Shared → Prop} (R : Room A k) (hsc : env.scope = sc) (S : Sees ρ env s.heap) (G : Glo C s.heap) (h : Ev C k ρ sc e av) (q : ∀ v s', Step s s' → At s'.heap v av → Q v s') : wpAny (model C.prog C.w) A (eval e env) Q E s := h A env s Q E R hsc S G q
theorem Tr.run {e : Expr} {b : Bool} {Q : Bool → Shared → Prop} (R : Room A k) (hsc : env.scope = sc) (S : Sees ρ env s.heap) (G : Glo C s.heap) (h : Tr C k ρ sc e b) (q : ∀ s', Step s s' → Q b s') : wpAny (model C.prog C.w) A (isTrue e env (eval e env)) Q E s := h A env s Q E R hsc S G q
theorem EvL.run {e : Expr} {rest : List Expr} {avs : List AV} {pos : Pos} {f : Value} {Q : Args → Shared → Prop} (R : Room A k) (hsc : env.scope = sc) (S : Sees ρ env s.heap) (G : Glo C s.heap) (hp : Plains (e :: rest)) (h : EvL C k ρ sc (e :: rest) avs) (q : ∀ vs s', Step s s' → AtAll s'.heap vs avs → Q ⟨vs, []⟩ s') :
    wpAny (model C.prog C.w) A (evalArgs f true (backTo pos (starEach (e :: rest) env)) []) Q E s := by
  have := h pos A env s (fun vs s' => Q ⟨vs, []⟩ s') E R hsc S G q
  rw [hp.1] at this ⊢
  exact Calls.evalArgs_plain this
end

theorem insort_calls {C : Cx} (P : Top9 C) {A : Around} {s : Shared} {a : Addr} {l : List Int} {x : Int} {t : Tok} {Q : Value → Shared → Prop} {E : Value → Shared → Prop} (R : Room A 5) (G : Glo C s.heap) (hL : ListAt s.heap a l) (hz : l.length ≤ 1000)
    (h : ∀ s', StepX (fun b => b = a) s s' → ListAt s'.heap a (ins l x) → Q .none s') : wpAny (model C.prog C.w) A (call (.ref 37) [.ref a, .int x t]) Q E s := by
  have O := P.toOk
  obtain ⟨t29, h29⟩ := P.d29
  obtain ⟨hh, tk, h30⟩ := P.d30
  refine enter (k := 4) (bn := [Str.ofString "a", Str.ofString "x", Str.ofString "lo", Str.ofString "hi", Str.ofString "key"]) (binds := [(Str.ofString "a", .ref a), (Str.ofString "x", .int x t), (Str.ofString "lo", .int 0 t29), (Str.ofString "hi", .none), (Str.ofString "key", .none)]) O P.fIns rfl rfl rfl R G (fun fd e1 e2 e3 => ?_) rfl (by decide) (nms rfl) ?_
  · refine kp_binds (K := [(29, dflT t29), (30, dflK hh tk)]) (frag2 (G.keep _ _ h29) (G.keep _ _ h30)) fun S => ?_
    rw [bindArgs_cong, e1, e2, e3]; rfl
  · intro env s₁ Qf E' hsc R1 F Rd K sv S₁ fr G₁ hq _
    have L₁ : ListAt s₁.heap a l := hL.stepX S₁ G.tb (fun q => q)
    have Se : Sees [(Str.ofString "a", .il l), (Str.ofString "x", .int x), (Str.ofString "lo", .int 0), (Str.ofString "hi", .non), (Str.ofString "key", .non)] env s₁.heap :=
      sees_binds (bn := [Str.ofString "a", Str.ofString "x", Str.ofString "lo", Str.ofString "hi", Str.ofString "key"]) (vs := [.ref a, .int x t, .int 0 t29, .none, .none]) (avs := [.il l, .int x, .int 0, .non, .non]) K sv ⟨L₁.at, ⟨t, rfl⟩, ⟨t29, rfl⟩, rfl, rfl, trivial⟩
    have svA := sv (Str.ofString "a") (.ref a) (.head _)
    have svX := sv (Str.ofString "x") (.int x t) (.tail _ (.head _))
    have aOwn : ∀ {b}, Own env b → b ≠ a := fun ow q => by
      obtain ⟨vs, n, z, _⟩ := hL
      have := fr _ ow
      rw [q] at this
      exact absurd (this.symm.trans z) (by nofun)
    refine wpAny_execs_cons (wpAny_If (Tr.run R1 hsc Se G₁ (Tr.cmp O (Ev.name rfl) Ev.non (CmpOk.isNon (v := .none) rfl)) fun s₂ S₂ => ?_))
    have G₂ := G₁.step O S₂
    refine wpAny_execs_cons (wpAny_Assign_Name (hs := rfl) (Ev.run R1 hsc (Se.step S₂ G₁.tb) G₂ (Ev.call O (EvV.glob O rfl P.nBis) (Keeps.at P.fBis) (EvL.cons O (Ev.name rfl) (EvL.cons O (Ev.name rfl) (EvL.cons O (Ev.name rfl) (EvL.cons O (Ev.name rfl) EvL.nil)))) (bisect_calls4 P hz) (by omega) ⟨fun _ _ => rfl, fun _ _ => rfl, fun _ _ => rfl, fun _ _ => rfl, trivial⟩) fun v s₃ S₃ a₃ => ?_))
    have G₃ := G₂.step O S₃
    have S₂₃ := S₂.trans S₃
    refine store_name O hsc (.inl rfl) F (Rd.step S₂₃ G₁.tb) (Se.step S₂₃ G₁.tb) G₃ a₃ fun s₄ S₄ Rd₄ Se₄ ⟨w, Sw, ow, _, kw, svlo, keep, _⟩ => wpAny_execs_nil ?_
    have G₄ := F.glo O S₄ G₃
    have L₄ : ListAt s₄.heap a l := ((L₁.stepX S₂ G₁.tb (fun q => q)).stepX S₃ G₂.tb (fun q => q)).stepX Sw G₃.tb (Ne.symm (aOwn ow))
    have svA4 := keep _ _ (by decide) (svA.step S₂₃ G₁.tb)
    refine wpAny_execs_cons (wpAny_Expr (hi := by unfold interactive; rw [hsc]; rfl) (wpAny_Call_method (T := "list") (id := "list.insert") rfl rfl rfl PySem.F.plainAttrs_list PySem.F.slot_list_insert PySem.F.type_list_insert (seesV_name K svA4 ⟨?_, ?_, ?_⟩)))
    · exact L₄.elim fun vs z => z.elim fun n z => z.1.isList.typeIs
    · intro b e; cases e
      obtain ⟨vs, n, z, _⟩ := L₄
      exact ⟨_, z, rfl⟩
    · refine Calls.callWith_builtin rfl (EvL.run R1 hsc Se₄ G₄ ⟨fun _ _ => rfl, fun _ _ => rfl, trivial⟩ (EvL.cons O (Ev.name rfl) (EvL.cons O (Ev.name rfl) EvL.nil)) fun vs s₅ S₅ a₅ => ?_)
      obtain ⟨u, y, rfl, ⟨tu, rfl⟩, ⟨ty, rfl⟩⟩ := atAll2 a₅
      have G₅ := G₄.step O S₅
      refine list_insert G₅.tb (L₄.stepX S₅ G₄.tb (fun q => q)) rfl (bis_le (Nat.zero_le _)) hz fun s₆ S₆ L₆ => ?_
      refine wpAny_execs_nil (hq _ (h s₆ ?_ L₆))
      have Sa : StepX (fun b => b = a) s s₄ := (up ((S₁.trans S₂₃))).grow S₄ fr
      exact (Sa.trans (up S₅)).trans S₆
end Mine

/- part 18 -/
namespace Mine
open PySem PySem.W PySem.Spec PySem.Calls PyProof.Rows

def tabIn (m : Nat) (less : List Int) (o : List Int) (low : Int) : List Int := less.foldl (fun o high => if Builtin.bitAnd low high == low then ins o (low + high * 2 ^ 2 ^ m) else o) o
def tables : Nat → List Int
  | 0 => [0, 1]
  | m + 1 => (tables m).foldl (tabIn m (tables m)) []
theorem foldl_take {α β : Type} (f : β → α → β) (b : β) {l : List α} {i : Nat} {n : α} (h : l[i]? = some n) : (l.take (i + 1)).foldl f b = f ((l.take i).foldl f b) n := by
  rw [List.take_add_one, h, List.foldl_append]; rfl
theorem tabIn_len {m : Nat} {low : Int} : ∀ {less o : List Int}, (tabIn m less o low).length ≤ o.length + less.length
  | [], o => by simp [tabIn]
  | h :: r, o => by
    have := @tabIn_len m low r (if Builtin.bitAnd low h == low then ins o (low + h * 2 ^ 2 ^ m) else o)
    unfold tabIn at this ⊢
    rw [List.foldl_cons, List.length_cons]
    refine Nat.le_trans this ?_
    split
    · rw [ins_len]; omega
    · omega
theorem tabOut_len {m : Nat} {less : List Int} : ∀ {k o : List Int}, (k.foldl (tabIn m less) o).length ≤ o.length + k.length * less.length
  | [], o => by simp
  | h :: r, o => by
    rw [List.foldl_cons, List.length_cons, Nat.add_mul]
    have := @tabOut_len m less r (tabIn m less o h)
    have := @tabIn_len m h less o
    omega

/-- the two lists of a table's making -/
structure TS (C : Cx) (env : Env) (s0 : Shared) (B D : Addr) (less l : List Int) (ρ : List (Str × Int)) (s : Shared) : Prop where
  ok : EnvOk env
  fr : ∀ b, Own env b → s0.heap.get? b = none
  frD : s0.heap.get? D = none
  g0 : Glo C s0.heap
  st : Step s0 s
  glo : Glo C s.heap
  rdy : Rdy env s.heap
  kl : env.kindOf (Str.ofString "less") = some .local
  ko : env.kindOf (Str.ofString "order") = some .local
  svl : SeesV env s.heap (Str.ofString "less") (.ref B)
  svo : SeesV env s.heap (Str.ofString "order") (.ref D)
  atl : At s.heap (.ref B) (.il less)
  ato : ListAt s.heap D l
  ne : B ≠ D
  nums : ∀ x i, ρ.lookup x = some i → env.kindOf x = some .local ∧ ∃ t, SeesV env s.heap x (.int i t)

section
variable {C : Cx} {k : Nat} {sc : Scope} {A : Around} {env : Env} {s0 s s' : Shared} {B D : Addr} {less l l' : List Int} {ρ : List (Str × Int)} {E : Value → Shared → Prop}
theorem lookup_ints {x : Str} {av : AV} : ∀ {ρ : List (Str × Int)}, (ρ.map fun y => (y.1, AV.int y.2)).lookup x = some av → ∃ i, av = .int i ∧ ρ.lookup x = some i
  | [], h => by simp at h
  | (y, i) :: r, h => by
    rw [List.map_cons, List.lookup_cons] at h
    rw [List.lookup_cons]
    cases hx : x == y with
    | true => rw [hx] at h; cases h; exact ⟨i, rfl, by simp⟩
    | false => rw [hx] at h; obtain ⟨j, e, q⟩ := lookup_ints h; exact ⟨j, e, q⟩
theorem TS.sees (T : TS C env s0 B D less l ρ s) : Sees ((Str.ofString "less", .il less) :: ρ.map fun y => (y.1, AV.int y.2)) env s.heap := by
  refine ⟨T.ok, fun x av e => ?_⟩
  rw [List.lookup_cons] at e
  cases hx : x == Str.ofString "less" with
  | true => rw [hx] at e; cases e; rw [beq_iff_eq.mp hx]; exact ⟨_, T.svl, T.atl⟩
  | false =>
    rw [hx] at e
    obtain ⟨i, rfl, q⟩ := lookup_ints e
    obtain ⟨t, sv⟩ := (T.nums x i q).2
    exact ⟨_, sv, t, rfl⟩
theorem TS.gnone (T : TS C env s0 B D less l ρ s) {b : Addr} (h : s0.heap.get? b = none) : C.g.get? b = none := by
  cases q : C.g.get? b with
  | none => rfl
  | some o => have := T.g0.keep _ _ q; rw [h] at this; cases this
theorem TS.move (O : C.Ok) {X : Addr → Prop} (T : TS C env s0 B D less l ρ s) (S : StepX X s s') (hN : ∀ b, X b → s0.heap.get? b = none) (hO : ∀ b, X b → ¬ Own env b) (hB : ¬ X B) (hD : ListAt s'.heap D l') : TS C env s0 B D less l' ρ s' where
  ok := T.ok
  fr := T.fr
  frD := T.frD
  g0 := T.g0
  st := T.st.grow S hN
  glo := T.glo.stepX O S fun b hb => T.gnone (hN b hb)
  rdy := ⟨let ⟨m, h⟩ := T.rdy.ns; ⟨m, S.ns T.glo.tb (fun q => hO _ q (.inl rfl)) h⟩, fun x hx => let ⟨c, v, a, b⟩ := T.rdy.cells x hx; ⟨c, v, a, S.cell T.glo.tb (fun q => hO _ q (.inr ⟨x, hx, a⟩)) b⟩⟩
  kl := T.kl
  ko := T.ko
  svl := T.svl.loc S T.glo.tb (fun q => hO _ q (.inl rfl)) T.kl
  svo := T.svo.loc S T.glo.tb (fun q => hO _ q (.inl rfl)) T.ko
  atl := T.atl.stepX S T.glo.tb fun a e => by cases e; exact hB
  ato := hD
  ne := T.ne
  nums := fun x i e => let ⟨h1, t, h2⟩ := T.nums x i e; ⟨h1, t, h2.loc S T.glo.tb (fun q => hO _ q (.inl rfl)) h1⟩
theorem TS.step (O : C.Ok) (T : TS C env s0 B D less l ρ s) (S : Step s s') : TS C env s0 B D less l ρ s' := T.move O S (fun _ q => q.elim) (fun _ q => q.elim) (fun q => q) (T.ato.stepX S T.glo.tb fun q => q)
theorem TS.sub {ρ' : List (Str × Int)} (T : TS C env s0 B D less l ρ s) (h : ∀ x i, ρ'.lookup x = some i → ρ.lookup x = some i) : TS C env s0 B D less l ρ' s := { T with nums := fun x i e => T.nums x i (h x i e) }
theorem TS.notOwnD (T : TS C env s0 B D less l ρ s) : ¬ Own env D := let ⟨vs, n, z, _⟩ := T.ato; own_ne T.rdy z ⟨_, _, rfl⟩
theorem TS.notOwnB (T : TS C env s0 B D less l ρ s) : ¬ Own env B := let ⟨a, vs, e, ⟨o, z, _, n, d⟩, _⟩ := T.atl; own_ne T.rdy (by cases e; exact z) ⟨_, _, d⟩
theorem TS.store (O : C.Ok) {x : Str} {n : Int} {t : Tok} {Q : Unit → Shared → Prop} (T : TS C env s0 B D less l ρ s) (F : Frm C env) (hx : env.kindOf x = some .local) (n1 : Str.ofString "less" ≠ x) (n2 : Str.ofString "order" ≠ x)
    (h : ∀ s', StepX (Own env) s s' → TS C env s0 B D less l ((x, n) :: ρ) s' → Q () s') : wpAny (model C.prog C.w) A (storeName env x (.int n t)) Q E s := by
  refine store_name O rfl (.inl hx) F T.rdy T.sees T.glo (av := .int n) ⟨t, rfl⟩ fun s' S' Rd' Se' ⟨w, Sw, ow, _, kw, sv, keep, _⟩ => h s' S' ?_
  have hB : ¬ B = w := fun q => T.notOwnB (q ▸ ow)
  have hD : ¬ D = w := fun q => T.notOwnD (q ▸ ow)
  exact {
    ok := T.ok
    fr := T.fr
    frD := T.frD
    g0 := T.g0
    st := T.st.grow S' T.fr
    glo := F.glo O S' T.glo
    rdy := Rd'
    kl := T.kl
    ko := T.ko
    svl := keep _ _ n1 T.svl
    svo := keep _ _ n2 T.svo
    atl := T.atl.stepX Sw T.glo.tb fun a e => by cases e; exact hB
    ato := T.ato.stepX Sw T.glo.tb hD
    ne := T.ne
    nums := fun y i e => by
      rw [List.lookup_cons] at e
      cases hy : y == x with
      | true => rw [hy] at e; cases e; rw [beq_iff_eq.mp hy]; exact ⟨hx, t, sv⟩
      | false =>
        rw [hy] at e
        obtain ⟨h1, u, h2⟩ := T.nums y i e
        exact ⟨h1, u, keep _ _ (by simpa using hy) h2⟩ }

abbrev OwnD (env : Env) (D : Addr) (b : Addr) : Prop := Own env b ∨ b = D
theorem ts_loop (O : C.Ok) {x : Str} {px p pos : Pos} {body : List Stmt} {f : Nat → List Int} {Q : Flow → Shared → Prop} (R : Room A k) (F : Frm C env) (T : TS C env s0 B D less (f 0) ρ s) (hx : env.kindOf x = some .local) (n1 : Str.ofString "less" ≠ x) (n2 : Str.ofString "order" ≠ x)
    (hb : ∀ i n s (Q : Flow → Shared → Prop) (E : Value → Shared → Prop), less[i]? = some n → TS C env s0 B D less (f i) ((x, n) :: ρ) s → (∀ s', StepX (OwnD env D) s s' → TS C env s0 B D less (f (i + 1)) ρ s' → Q .next s') → wpAny (model C.prog C.w) A (execs body env) Q E s)
    (h : ∀ s', StepX (OwnD env D) s s' → TS C env s0 B D less (f less.length) ρ s' → Q .next s')
    (hs : ∀ env x, foldedSetIterable (.Name (Str.ofString "less") p) env x = pure x := by intro _ _; rfl) : wpAny (model C.prog C.w) A (exec (.For (.Name x px) (.Name (Str.ofString "less") p) body [] pos) env) Q E s := by
  refine wpAny_For (hs := hs env) (seesV_name T.ok T.svl ?_)
  obtain ⟨_, vs, e, hL, hI⟩ := id T.atl
  cases e
  obtain ⟨o, ho, _⟩ := id hL
  have fI : s.heap.get? s.heap.objs.size = none := get_size _
  have i1 : s.heap.objs.size ≠ 16 := fun q => by obtain ⟨ps, z⟩ := T.glo.tb.1.ex; rw [← q, get_size] at z; cases z
  have i2 : s.heap.objs.size ≠ 23 := fun q => by obtain ⟨ps, z⟩ := T.glo.tb.2.ex; rw [← q, get_size] at z; cases z
  have hne : B ≠ s.heap.objs.size := Nat.ne_of_lt (Heap.lt_size ho)
  have hDI : ¬ s.heap.objs.size = D := fun q => by obtain ⟨vs, n, z, _⟩ := T.ato; rw [← q] at z; rw [show IsL s.heap s.heap.objs.size vs.toArray n = (s.heap.get? s.heap.objs.size = _) from rfl, fI] at z; cases z
  have hOI : ∀ b, b = s.heap.objs.size → ¬ Own env b := fun b q ow => by obtain ⟨o, e, _⟩ := T.rdy.kind ow; rw [q, fI] at e; cases e
  have f0 : s0.heap.get? s.heap.objs.size = none := T.st.none_of T.g0.tb (fun q => q) fI
  refine wpAny_pyIter_list hL ?_
  have St0 : Step s { s with heap := s.heap.push { cls := .type "list_iterator", data := .fields #[.ref B, rawInt 0] } } := Step.push
  have T₀ := T.step O St0
  have it0 : (s.heap.push { cls := .type "list_iterator", data := .fields #[.ref B, rawInt 0] }).IsListIter s.heap.objs.size B 0 := ⟨_, Heap.get?_push_size _ rfl, rfl, rfl⟩
  generalize s.heap.objs.size = I at *
  have src := src_list (C := C) (A := A) R.handled hne hI i1 i2
  refine codeAny_forLoop
    (fun j s' => ∃ i, i ≤ less.length ∧ j = less.length + 1 - i ∧ (s'.heap.IsListIter I B i ∧ s'.heap.IsList B vs.toArray) ∧ StepX (OwnD env D) s s' ∧ TS C env s0 B D less (f i) ρ s') ?_ (less.length + 1)
    ⟨0, Nat.zero_le _, rfl, ⟨it0, hL.push _⟩, up St0, T₀⟩
  rintro j s' ⟨i, hi, rfl, st, SB, T'⟩
  have it := src.obj _ _ st
  by_cases hlt : i < less.length
  · obtain ⟨n, hn'⟩ : ∃ n, less[i]? = some n := ⟨less[i], by simp [hlt]⟩
    refine src.next i s' _ _ n hn' st fun t s₃ S₃ st₃ => ?_
    have T₃ := T'.move O S₃ (fun b hb => hb ▸ f0) hOI hne (T'.ato.stepX S₃ T'.glo.tb fun q => hDI q.symm)
    have SB₃ := SB.grow S₃ (fun b hb => hb ▸ fI)
    refine wpAny_assign_Name (T₃.store O F hx n1 n2 fun s₄ S₄ T₄ => ?_)
    have S₄' : StepX (OwnD env D) s₃ s₄ := S₄.mono fun b q => .inl q
    have st₄ := src.step _ _ _ _ S₄' T₃.glo.tb (fun q => q.elim (hOI _ rfl) hDI) (fun b q hb => q.elim (fun ow => T₃.notOwnB (hb ▸ ow)) (fun e => T₃.ne (hb.symm.trans e))) st₃
    refine hb i n s₄ _ _ hn' T₄ fun s₅ S₅ T₅ => ?_
    exact ⟨less.length + 1 - (i + 1), by omega, i + 1, hlt, rfl, src.step _ _ _ _ S₅ T₄.glo.tb (fun q => q.elim (hOI _ rfl) hDI) (fun b q hb => q.elim (fun ow => T₃.notOwnB (hb ▸ ow)) (fun e => T₃.ne (hb.symm.trans e))) st₄, (SB₃.trans S₄').trans S₅, T₅⟩
  · obtain rfl : i = less.length := Nat.le_antisymm hi (Nat.not_lt.mp hlt)
    refine src.done s' _ _ st fun s₃ S₃ => ?_
    exact wpAny_execs_nil (h s₃ (SB.grow S₃ (fun b hb => hb ▸ fI)) (T'.move O S₃ (fun b hb => hb ▸ f0) hOI hne (T'.ato.stepX S₃ T'.glo.tb fun q => hDI q.symm)))
end
end Mine

/- part 19 -/
namespace Mine
open PySem PySem.W PySem.Spec PySem.Calls PyProof.Rows

theorem tables_small : ∀ m, m ≤ 2 → (tables m).length ≤ 6 ∧ ∀ x ∈ tables m, Builtin.Int.intBits x ≤ 20 := by
  intro m hm
  have : m = 0 ∨ m = 1 ∨ m = 2 := by omega
  rcases this with rfl | rfl | rfl <;> decide +kernel

theorem tables_zero {C : Cx} (P : Top9 C) : CallsTo C 6 (.ref 53) [.int 0] (.il (tables 0)) := by
  refine CallsTo.plain (bn := [Str.ofString "many"]) P.toOk P.fTab rfl rfl rfl rfl ?_ (by decide) rfl ?_
  · intro q vs h; obtain ⟨v, rfl⟩ := len1 h; rfl
  · exact Ex.cons P.toOk (Ex1.ite (N := fun _ => False) P.toOk (Tr.cmp P.toOk (Ev.name rfl) Ev.int CmpOk.eq) (fun _ => Ex.one P.toOk (Ex1.ret (Ev.list P.toOk (l := [0, 1]) (EvL.cons P.toOk Ev.int (EvL.cons P.toOk Ev.int EvL.nil)) (by simp)) rfl)) (fun h => by cases h)) (fun _ h => h.elim)

theorem pow_facts {m : Nat} (hm : m ≤ 2) : 0 ≤ ((m + 1 : Nat) : Int) - 1 ∧ (Builtin.Int.intBits 2 : Int) * (((m + 1 : Nat) : Int) - 1) ≤ 2 ^ 27 ∧ 0 ≤ (2 : Int) ^ (((m + 1 : Nat) : Int) - 1).toNat ∧ (Builtin.Int.intBits 2 : Int) * (2 : Int) ^ (((m + 1 : Nat) : Int) - 1).toNat ≤ 2 ^ 27 ∧
    Builtin.Int.intBits ((2 : Int) ^ ((2 : Int) ^ (((m + 1 : Nat) : Int) - 1).toNat).toNat) ≤ 20 ∧ (2 : Int) ^ ((2 : Int) ^ (((m + 1 : Nat) : Int) - 1).toNat).toNat = 2 ^ 2 ^ m := by
  have : m = 0 ∨ m = 1 ∨ m = 2 := by omega
  rcases this with rfl | rfl | rfl <;> decide +kernel
theorem Ev.cast {C : Cx} {k : Nat} {ρ : Rho} {sc : Scope} {e : Expr} {a b : Int} (h : Ev C k ρ sc e (.int a)) (q : a = b) : Ev C k ρ sc e (.int b) := q ▸ h
theorem call_raw {C : Cx} {k : Nat} {sc : Scope} {A : Around} {env : Env} {s : Shared} {x : Str} {np pos : Pos} {e : Expr} {rest : List Expr} {f : Value} {Q : Value → Shared → Prop} {E : Value → Shared → Prop} (O : C.Ok) (hf : EvV C k sc (.Name x np) f) (hk : Keeps C f) (hp : Plains (e :: rest)) (R : Room A k) (hsc : env.scope = sc) (K : EnvOk env) (G : Glo C s.heap)
    (h : ∀ s₁, Step s s₁ → wpAny (model C.prog C.w) A (spliced (backTo pos (starEach (e :: rest) env))) (fun vs s' => Glo C s'.heap ∧ wpAny (model C.prog C.w) A (call f vs) Q E s') E s₁) : wpAny (model C.prog C.w) A (eval (.Call (.Name x np) (e :: rest) [] pos) env) Q E s := by
  show wpAny _ A (do callWith pos (← eval (.Name x np) env) [] (backTo pos (starEach (e :: rest) env)) []) Q E s
  refine wpAny_bind (hf A env s _ E R hsc K G fun s₁ S₁ => ?_)
  refine callWith_of (P := Glo C) (by rw [hp.any]; rfl) (fun hh g => hk hh g) ?_
  have := h s₁ S₁
  rw [hp.1] at this ⊢
  exact Calls.evalArgs_plain this

theorem TS.drop {C : Cx} {env : Env} {s0 s : Shared} {B D : Addr} {less l : List Int} {ρ : List (Str × Int)} {y : Str} {n : Int} (T : TS C env s0 B D less l ((y, n) :: ρ) s) (h : ρ.lookup y = none) : TS C env s0 B D less l ρ s := T.sub fun x i e => by
  rw [List.lookup_cons]
  cases hx : x == y with
  | true => rw [beq_iff_eq.mp hx, h] at e; cases e
  | false => exact e

theorem tables_succ {C : Cx} (P : Top9 C) {m : Nat} (hm : m ≤ 2) (ih : CallsTo C (6 + m) (.ref 53) [.int m] (.il (tables m))) : CallsTo C (6 + m + 1) (.ref 53) [.int (m + 1 : Nat)] (.il (tables (m + 1))) := fun A s vs Q E R G hat h => by
  obtain ⟨v, rfl, t, rfl⟩ := atAll1 hat
  have O := P.toOk
  refine enter (k := 6 + m) (bn := [Str.ofString "many"]) (binds := [(Str.ofString "many", .int (m + 1 : Nat) t)]) O P.fTab rfl rfl rfl R G (fun fd e1 e2 e3 => BindsTo.of_eq (by rw [bindArgs_cong, e1, e2, e3]; rfl)) rfl (by decide) (nms rfl) ?_
  intro env s₁ Qf E' hsc R1 F Rd K sv S₁ fr G₁ _ hq
  have svM := sv (Str.ofString "many") (.int (m + 1 : Nat) t) (.head _)
  have Se : Sees [(Str.ofString "many", .int (m + 1 : Nat))] env s₁.heap := sees_binds (bn := [Str.ofString "many"]) (vs := [.int (m + 1 : Nat) t]) (avs := [.int (m + 1 : Nat)]) K (fun x v hm => by
    rcases List.mem_cons.mp hm with e | e
    · cases e; exact svM
    · cases e) ⟨⟨t, rfl⟩, trivial⟩
  refine wpAny_execs_cons (wpAny_If (Tr.run R1 hsc Se G₁ (Tr.cmp O (Ev.name rfl) Ev.int CmpOk.eq) fun s₂ S₂ => ?_))
  rw [show (((m + 1 : Nat) : Int) == 0) = false from by simp; omega]
  have G₂ := G₁.step O S₂
  have ih' : CallsTo C (6 + m) (.ref 53) [.int (((m + 1 : Nat) : Int) - 1)] (.il (tables m)) := by rw [show ((m + 1 : Nat) : Int) - 1 = (m : Int) from by omega]; exact ih
  refine wpAny_execs_nil (wpAny_execs_cons (Assign_Tuple_swapped (names := [Str.ofString "less", Str.ofString "order"]) (hs := ?hs) (hw := ?hw) (Tuple_ (Calls.spliced_cons (Ev.run R1 hsc (Se.step S₂ G₁.tb) G₂ (av := .il (tables m)) (Ev.call O (EvV.glob O rfl P.nTab) (Keeps.at P.fTab) (EvL.cons O (Ev.bin O (Ev.name rfl) Ev.int BinOk.sub) EvL.nil) ih' (Nat.le_refl _) ⟨fun _ _ => rfl, trivial⟩) fun v s₃ S₃ a₃ => ?_)))))
  case hs => rfl
  case hw => cases env; cases hsc; rfl
  have G₃ := G₂.step O S₃
  have S₁₃ := S₂.trans S₃
  refine Calls.spliced_cons (List_ (Calls.spliced_nil (wpAny_newObj_type (Calls.spliced_nil (wpAny_newObj_type ?_ ?z1)) ?z2)))
  case z1 => show [v, _].toArray.size ≤ sizeLine; rw [sizeLine_eq]; exact Nat.le_of_ble_eq_true rfl
  case z2 => show ([] : List Value).toArray.size ≤ sizeLine; rw [sizeLine_eq]; exact Nat.le_of_ble_eq_true rfl
  have St : Step s₃ { s₃ with heap := s₃.heap.push { cls := .type "list", data := .seq ([] : List Value).toArray } } := Step.push
  have hD : ListAt ({ s₃ with heap := s₃.heap.push { cls := .type "list", data := .seq ([] : List Value).toArray } } : Shared).heap s₃.heap.objs.size [] := ⟨[], 0, IsL.new _ _, .nil⟩
  have fD : s₃.heap.get? s₃.heap.objs.size = none := get_size _
  obtain ⟨B, lv, rfl, hB, hBi⟩ := a₃
  have hBD : B ≠ s₃.heap.objs.size := fun q => by obtain ⟨o, e, _⟩ := hB; rw [q, fD] at e; cases e
  have aB : At ({ s₃ with heap := s₃.heap.push { cls := .type "list", data := .seq ([] : List Value).toArray } } : Shared).heap (.ref B) (.il (tables m)) := ⟨B, lv, rfl, hB.push _, hBi⟩
  have G₄ : Glo C ({ s₃ with heap := s₃.heap.push { cls := .type "list", data := .seq ([] : List Value).toArray } } : Shared).heap := G₃.step O St
  have S₁₄ := S₁₃.trans St
  have fD0 : s.heap.get? s₃.heap.objs.size = none := (S₁.trans S₁₃).none_of G.tb (fun q => q) fD
  generalize ({ s₃ with heap := s₃.heap.push { cls := .type "list", data := .seq ([] : List Value).toArray } } : Shared) = s₄ at *
  generalize s₃.heap.objs.size = D at *
  refine unpackItems_tuple R1.handled (items := #[.ref B, .ref D]) ⟨_, Heap.get?_push_size _ rfl, rfl, _, rfl⟩ fun h' he' => ?_
  have S₅ : Step s₄ { s₄ with heap := s₄.heap.push { cls := .type "tuple", data := .seq [Value.ref B, .ref D].toArray } } := Step.push
  have S₆ : Step { s₄ with heap := s₄.heap.push { cls := .type "tuple", data := .seq [Value.ref B, .ref D].toArray } } { s₄ with heap := h' } := Step.of fun b o e => he' b o (Nat.ne_of_lt (Heap.lt_size e)) e
  have S₄₆ := S₅.trans S₆
  have S₁₆ := S₁₄.trans S₄₆
  show wpAny _ _ (assignInOrder [fun n => bindName env (Str.ofString "order") n, fun n => bindName env (Str.ofString "less") n] [.ref D, .ref B]) _ _ { s₄ with heap := h' }
  have hD₆ : ListAt ({ s₄ with heap := h' } : Shared).heap D [] := hD.stepX S₄₆ G₄.tb fun q => q
  have aB₆ : At ({ s₄ with heap := h' } : Shared).heap (.ref B) (.il (tables m)) := aB.step S₄₆ G₄.tb
  have G₆ := G₁.step O S₁₆
  generalize ({ s₄ with heap := h' } : Shared) = s₆ at *
  refine assignInOrder_cons (bindName_ (store_name O hsc (.inl rfl) F (Rd.step S₁₆ G₁.tb) (Se.step S₁₆ G₁.tb) G₆ (av := .il []) hD₆.at fun s₇ S₇ Rd₇ Se₇ ⟨w, Sw, ow, _, kw, svD, keep, _⟩ => ?_))
  have G₇ := F.glo O S₇ G₆
  have aB₇ := aB₆.stepX Sw G₆.tb (off_of_kind kw aB₆)
  have nD₆ : ¬ Own env D := hD₆.elim fun vs z => z.elim fun n z => own_ne (Rd.step S₁₆ G₁.tb) z.1 ⟨_, _, rfl⟩
  have hD₇ := hD₆.stepX S₇ G₆.tb nD₆
  have svM₇ := keep _ _ (by decide) (svM.step S₁₆ G₁.tb)
  refine assignInOrder_cons (bindName_ (store_name O hsc (.inl rfl) F Rd₇ Se₇ G₇ (av := .il (tables m)) aB₇ fun s₈ S₈ Rd₈ Se₈ ⟨w', Sw', ow', _, kw', svB, keep', _⟩ => ?_))
  have nD₇ : ¬ Own env D := hD₇.elim fun vs z => z.elim fun n z => own_ne Rd₇ z.1 ⟨_, _, rfl⟩
  have T₈ : TS C env s B D (tables m) [] [(Str.ofString "many", ((m + 1 : Nat) : Int))] s₈ := {
    ok := K
    fr := fr
    frD := fD0
    g0 := G
    st := ((S₁.trans S₁₆).grow S₇ fr).grow S₈ fr
    glo := F.glo O S₈ G₇
    rdy := Rd₈
    kl := by unfold Env.kindOf; rw [hsc]; rfl
    ko := by unfold Env.kindOf; rw [hsc]; rfl
    svl := svB
    svo := keep' _ _ (by decide) svD
    atl := aB₇.stepX Sw' G₇.tb (off_of_kind kw' aB₇)
    ato := hD₇.stepX S₈ G₇.tb nD₇
    ne := hBD
    nums := fun x i e => by
      rw [List.lookup_cons] at e
      cases hx : x == Str.ofString "many" with
      | true => rw [hx] at e; cases e; rw [beq_iff_eq.mp hx]; exact ⟨by unfold Env.kindOf; rw [hsc]; rfl, t, keep' _ _ (by decide) svM₇⟩
      | false => rw [hx] at e; cases e }
  refine assignInOrder_nil ?_
  clear Se₈ Se₇ keep keep' svB svD hD₇ hD₆ aB₇ aB₆ aB hD
  have klow : env.kindOf (Str.ofString "low") = some .local := by unfold Env.kindOf; rw [hsc]; rfl
  have khigh : env.kindOf (Str.ofString "high") = some .local := by unfold Env.kindOf; rw [hsc]; rfl
  obtain ⟨hlen, hbits⟩ := tables_small m hm
  refine wpAny_execs_cons (ts_loop O (f := fun i => ((tables m).take i).foldl (tabIn m (tables m)) []) R1 F T₈ klow (by decide) (by decide) ?loop ?done)
  case done =>
    intro s₉ S₉ T₉
    have e : ((tables m).take (tables m).length).foldl (tabIn m (tables m)) [] = tables (m + 1) := by rw [List.take_length]; rfl
    have a₉ := T₉.ato
    rw [e] at a₉
    exact wpAny_execs_cons (wpAny_Return_some (seesV_name K T₉.svo (hq _ _ (h _ _ T₉.st a₉.at))))
  case loop =>
    intro i low s₉ Q' E9 hlow T₉ hQ'
    have hfi : (((tables m).take i).foldl (tabIn m (tables m)) []).length ≤ 36 := by
      have h1 := @tabOut_len m (tables m) ((tables m).take i) []
      have h2 : ((tables m).take i).length ≤ (tables m).length := by simp; omega
      have h3 : ((tables m).take i).length * (tables m).length ≤ 6 * 6 := Nat.mul_le_mul (by omega) hlen
      simp only [List.length_nil] at h1
      omega
    show wpAny _ _ (execs [_] env) _ _ _
    refine wpAny_execs_cons (ts_loop O (f := fun j => tabIn m ((tables m).take j) (((tables m).take i).foldl (tabIn m (tables m)) []) low) R1 F T₉ khigh (by decide) (by decide) ?inner ?done2)
    case done2 =>
      intro s₁₀ S₁₀ T₁₀
      refine wpAny_execs_nil (hQ' _ S₁₀ ?_)
      have e : tabIn m ((tables m).take (tables m).length) (((tables m).take i).foldl (tabIn m (tables m)) []) low = ((tables m).take (i + 1)).foldl (tabIn m (tables m)) [] := by rw [List.take_length, foldl_take _ _ hlow]
      rw [← e]
      exact T₁₀.drop rfl
    case inner =>
      intro j high s₁₀ Q2 E2 hhigh T₁₀ hQ2
      rw [show tabIn m ((tables m).take (j + 1)) (((tables m).take i).foldl (tabIn m (tables m)) []) low = _ from foldl_take _ _ hhigh] at hQ2
      have hfj : (tabIn m ((tables m).take j) (((tables m).take i).foldl (tabIn m (tables m)) []) low).length ≤ 1000 := by
        have h1 := @tabIn_len m low ((tables m).take j) (((tables m).take i).foldl (tabIn m (tables m)) [])
        have h2 : ((tables m).take j).length ≤ (tables m).length := by simp; omega
        omega
      change ∀ s', StepX (OwnD env D) s₁₀ s' → TS C env s B D (tables m) (if Builtin.bitAnd low high == low then ins (tabIn m ((tables m).take j) (((tables m).take i).foldl (tabIn m (tables m)) []) low) (low + high * 2 ^ 2 ^ m) else (tabIn m ((tables m).take j) (((tables m).take i).foldl (tabIn m (tables m)) []) low)) _ s' → Q2 .next s' at hQ2
      generalize tabIn m ((tables m).take j) (((tables m).take i).foldl (tabIn m (tables m)) []) low = o at *
      have hmem : high ∈ tables m := List.mem_of_getElem? hhigh
      obtain ⟨p1, p2, p3, p4, p5, p6⟩ := pow_facts hm
      refine wpAny_execs_cons (wpAny_If (Tr.run R1 hsc T₁₀.sees T₁₀.glo (Tr.cmp O (Ev.bin O (Ev.name rfl) (Ev.name rfl) BinOk.and) (Ev.name rfl) CmpOk.eq) fun s₁₁ S₁₁ => ?_))
      have T₁₁ := T₁₀.step O S₁₁
      cases hb : Builtin.bitAnd low high == low with
      | false =>
        rw [hb] at hQ2
        exact wpAny_execs_nil (wpAny_execs_nil (hQ2 _ (up S₁₁) (T₁₁.drop rfl)))
      | true =>
        rw [hb] at hQ2
        refine wpAny_execs_cons (wpAny_Expr (hi := by unfold interactive; rw [hsc]; rfl) (call_raw O (EvV.glob O rfl P.nIns) (Keeps.at P.fIns) ⟨fun _ _ => rfl, fun _ _ => rfl, trivial⟩ R1 hsc K T₁₁.glo fun s₁₂ S₁₂ => ?_))
        have T₁₂ := T₁₁.step O S₁₂
        refine Calls.spliced_cons (seesV_name K T₁₂.svo (Calls.spliced_cons (Ev.run R1 hsc T₁₂.sees T₁₂.glo (av := .int (low + high * 2 ^ 2 ^ m)) (Ev.bin O (Ev.name rfl) (Ev.bin O (Ev.name rfl) (Ev.cast (Ev.bin O Ev.int (Ev.bin O Ev.int (Ev.bin O (Ev.name rfl) Ev.int BinOk.sub) (BinOk.pow p1 p2)) (BinOk.pow p3 p4)) p6) (BinOk.mul (IntMulOk.of_le (hbits _ hmem) (p6 ▸ p5) (by decide)))) BinOk.add) fun v s₁₃ S₁₃ a₁₃ => Calls.spliced_nil ?_)))
        have T₁₃ := T₁₂.step O S₁₃
        obtain ⟨tv, rfl⟩ := a₁₃
        refine ⟨T₁₃.glo, insort_calls P (R1.mono (by omega)) T₁₃.glo T₁₃.ato hfj fun s₁₄ S₁₄ L₁₄ => ?_⟩
        have T₁₄ := T₁₃.move O S₁₄ (fun b e => e ▸ fD0) (fun b e => e ▸ T₁₃.notOwnD) T₁₃.ne L₁₄
        exact wpAny_execs_nil (wpAny_execs_nil (hQ2 _ ((up ((S₁₁.trans S₁₂).trans S₁₃)).trans (S₁₄.mono fun b e => .inr e)) (T₁₄.drop rfl)))

theorem tables_calls {C : Cx} (P : Top9 C) : ∀ m, m ≤ 3 → CallsTo C (6 + m) (.ref 53) [.int m] (.il (tables m))
  | 0, _ => tables_zero P
  | m + 1, h => tables_succ P (by omega) (tables_calls P m (by omega))
end Mine

/- part 20 -/
namespace Mine
open PySem PySem.W PySem.Spec PySem.Calls PyProof.Rows

/-- a def made in a call lies at a -/
structure InnAt (h : Heap) (a : Addr) (sc : Scope) (ps : Arguments) (body : List Stmt) (cl : List (Str × Addr)) : Prop where
  at' : ∃ o fd, h.get? a = some o ∧ o.data = .func fd ∧ h.CodeRec fd.code fd.qualname ∧ fd.body = .stmts body ∧ fd.scope = sc ∧ fd.params = ps ∧ fd.closure = cl ∧ fd.globals = mainGlobals ∧ fd.builtins = builtinsNs ∧ fd.defaults = .none ∧ fd.kwdefaults = .none
theorem InnAt.stepX {X : Addr → Prop} {s s' : Shared} (S : StepX X s s') (t : Tb s.heap) {a : Addr} {sc : Scope} {ps : Arguments} {body : List Stmt} {cl : List (Str × Addr)} (hX : ¬ X a) (hf : ∀ b, X b → NotCode s.heap b) (x : InnAt s.heap a sc ps body cl) : InnAt s'.heap a sc ps body cl := by
  obtain ⟨o, fd, e1, e2, e3, r⟩ := x.at'
  refine ⟨⟨o, fd, S.at t hX e1 (.inr (by rw [e2]; nofun)), e2, ?_, r⟩⟩
  obtain ⟨c, oc, vs, tk, ec, ho, hd, hv⟩ := e3
  refine ⟨c, oc, vs, tk, ec, S.keep c oc (fun q => hf c q oc vs _ tk ho hd hv) ?_ ?_ ho, hd, hv⟩
  · rintro rfl
    rcases t.1 with e1 | ⟨c', e1, _⟩ <;> rw [ho] at e1 <;> cases e1 <;> cases hd <;> simp [rawInt] at hv
  · rintro rfl
    rcases t.2 with e1 | ⟨c', e1, _⟩ <;> rw [ho] at e1 <;> cases e1 <;> cases hd <;> simp [rawInt] at hv
theorem InnAt.fn {h : Heap} {a : Addr} {sc : Scope} {ps : Arguments} {body : List Stmt} {cl : List (Str × Addr)} (x : InnAt h a sc ps body cl) : FnAt a h := by
  obtain ⟨⟨c, d, dt, sl⟩, fd, e1, e2, _⟩ := x.at'
  simp only at e2
  subst e2
  exact ⟨_, _, _, _, e1⟩

section
variable {C : Cx} {k : Nat}
theorem lookup_rev {binds : List (Str × Value)} {x : Str} {v : Value} (nd : (binds.map (·.1)).Nodup) (hm : (x, v) ∈ binds) : binds.reverse.lookup x = some v := by
  have hk : ∀ (l : List (Str × Value)), (l.map (·.1)).Nodup → (x, v) ∈ l → l.lookup x = some v := by
    intro l
    induction l with
    | nil => intro _ h; cases h
    | cons p r ih =>
      intro nd h
      rw [List.map_cons, List.nodup_cons] at nd
      rw [List.lookup_cons]
      rcases List.mem_cons.mp h with e | h
      · subst e; simp
      · have : (x == p.1) = false := by
          simp only [beq_eq_false_iff_ne, ne_eq]
          rintro rfl
          exact nd.1 (List.mem_map.mpr ⟨_, h, rfl⟩)
        rw [this]
        exact ih nd.2 h
  refine hk _ ?_ (List.mem_reverse.mpr hm)
  rw [List.map_reverse]
  exact List.pairwise_reverse.mpr (List.Pairwise.imp (fun h => Ne.symm h) nd)
/-- a def made in a call, entered -/
theorem enter_in {a : Addr} {sc : Scope} {ps : Arguments} {body : List Stmt} {cl : List (Str × Addr)} {bn : List Str} {A : Around} {s : Shared} {vs : List Value} {binds : List (Str × Value)} {Q : Value → Shared → Prop} {E : Value → Shared → Prop} (O : C.Ok) (D : InnAt s.heap a sc ps body cl)
    (hk : sc.kind = .function) (hco : sc.isCoroutine = false) (hgen : sc.isGenerator = false) (hnc : sc.names.all (fun x => x.2 != .cell) = true) (R : Room A (k + 1)) (G : Glo C s.heap)
    (hbind : ∀ fd, fd.params = ps → fd.defaults = .none → fd.kwdefaults = .none → BindsTo s fd ⟨vs, []⟩ binds) (hbn : binds.map (·.1) = bn) (hnd : bn.Nodup) (hkd : bn.all (fun x => sc.names.lookup x == some .local) = true)
    (h : ∀ env s₁ (Qf : Flow → Shared → Prop) (E' : Value → Shared → Prop), env.scope = sc → env.cells = cl → Room (A.deeper env) k → Frm C env → Rdy env s₁.heap → EnvOk env → (∀ x v, (x, v) ∈ binds → SeesV env s₁.heap x v) → Step s s₁ → (∀ b, Own env b → s.heap.get? b = none) → Glo C s₁.heap →
      (∀ s', Q .none s' → Qf .next s') → (∀ v s', Q v s' → Qf (.ret v) s') → wpAny (model C.prog C.w) (A.deeper env) (execs body env) Qf E' s₁) :
    wpAny (model C.prog C.w) A (call (.ref a) vs) Q E s := by
  obtain ⟨o, fd, ho, hd, hcd, hbody, hsc, hpar, hcl, hgl, hbl, hdf, hkw⟩ := D.at'
  have hnc' : ∀ x ∈ fd.scope.names, x.2 ≠ .cell := fun x hx => by
    rw [hsc] at hx
    simpa using List.all_eq_true.mp hnc x hx
  have hloc : ∀ x ∈ bn, fd.scope.names.lookup x = some .local := fun x hx => by
    rw [hsc]
    simpa using List.all_eq_true.mp hkd x hx
  refine wpAny_call (codeAny_call_def (by have := R.depth; show A.depth < 1000; omega) ho hd (O.lim.keeps G.keep) hcd hbody (hbind fd hpar hdf hkw) hnc' (fun x hx => hloc x.1 (hbn ▸ List.mem_map_of_mem hx)) (fun h₀ hns keep => ?_) (by rw [hsc]; exact hco) (by rw [hsc]; exact hgen) (by rw [hsc]; exact hk))
  have S₁ : Step s { s with heap := h₀, toks := s.toks + binds.length } := Step.of keep
  have G₁ := G.step O S₁
  have hE : (callEnv fd s.heap.objs.size a).scope = sc := hsc
  have nocell : ∀ x, (callEnv fd s.heap.objs.size a).kindOf x ≠ some .cell := fun x q => by
    have q' : fd.scope.names.lookup x = some .cell := q
    exact hnc' _ (mem_of_lookup q') rfl
  have fr : ∀ b, Own (callEnv fd s.heap.objs.size a) b → s.heap.get? b = none := fun b ow => by
    rcases ow with e | ⟨y, ky, _⟩
    · rw [e]; exact get_size _
    · exact absurd ky (nocell y)
  refine h (callEnv fd s.heap.objs.size a) { s with heap := h₀, toks := s.toks + binds.length } _ _ hE hcl R.deeper ⟨fun b ow => ?_, fun x y c kx => absurd kx (nocell x)⟩ ⟨⟨_, hns⟩, fun x kx => absurd kx (nocell x)⟩ ⟨by rw [hE]; exact hk, hgl, hbl⟩ (fun x v hm => ?_) S₁ fr G₁ (fun s' q => q) (fun v s' q => q)
  · cases q : C.g.get? b with
    | none => rfl
    | some o => have := G.keep _ _ q; rw [fr b ow] at this; cases this
  · exact .inl ⟨hloc x (hbn ▸ List.mem_map_of_mem hm), _, hns, lookup_rev (by rw [hbn]; exact hnd) hm⟩

/-- a def is made in a call -/
theorem make_inner {P c : Addr} {line col : Nat} {qual name : Str} {params : Arguments} {body : List Stmt} {scope : Scope} {clos : List (Str × Addr)} {pos : Pos} {firstLine : Nat} {A : Around} {env : Env} {s : Shared} {Q : Value → Shared → Prop} {E : Value → Shared → Prop} (O : C.Ok) (G : Glo C s.heap) (hP : P = 16 ∨ P = 23) (t : TabOk P line col qual s.heap) (hcl : closureFor scope env = pure clos)
    (hge : env.globals = mainGlobals) (hcode : env.code = .ref c) (CH : CodeHd C.g c P) (hb : C.g.BuiltinsAt C.mg P) (hl : pos.line = line) (hc : pos.col = col)
    (ho : ∀ h', (∀ b o, b ≠ P → s.heap.get? b = some o → h'.get? b = some o) → TabOk P line col qual h' → Tb h')
    (h : ∀ s' a, Step s s' → s.heap.get? a = none → InnAt s'.heap a scope params body clos → Q (.ref a) s') :
    wpAny (model C.prog C.w) A (makeFunction name qual params (.stmts body) scope env [] [] [] pos firstLine) Q E s := by
  have hgP : mainGlobals ≠ P := fun q => by
    obtain ⟨o, es, ep, e, hd, _⟩ := O.ng
    rw [q] at e
    rcases hP with rfl | rfl
    · rw [O.g16] at e; cases e
    · rw [O.g23] at e; cases e
  have hbs : s.heap.BuiltinsAt C.mg P := let ⟨bm, ob, b1, b2, b3, b4, b5, r⟩ := hb; ⟨bm, ob, b1, b2, b3, b4, G.keep _ _ b5, r⟩
  have nP : ∀ b, b ≠ 16 → b ≠ 23 → b ≠ P := fun b n1 n2 => by rcases hP with rfl | rfl <;> assumption
  rcases t with hp | ⟨c', hp, hrec0⟩
  · refine makeFunction_K (ps := #[]) hcl hge (O.ng.keeps G.keep) hcode (CH.keeps G.keep) hp trivial rfl hgP hbs fun c' ctv doc h' tk hx hge' hlt hrec htb => ?_
    have kp : ∀ b o, b ≠ P → s.heap.get? b = some o → (h'.push (fnMade name qual params body scope clos doc ((C.mg "__name__").getD .none) c' ctv)).get? b = some o := fun b o n e => Heap.get?_push_of_some _ (hx b o n e)
    have hrec' := hrec.keeps fun b o e => Heap.get?_push_of_some (fnMade name qual params body scope clos doc ((C.mg "__name__").getD .none) c' ctv) e
    have ht := ho _ kp (.inr ⟨c', by rw [← hl, ← hc]; exact Heap.get?_push_of_some _ htb, hrec'⟩)
    refine h _ _ ⟨⟨_, _, rfl⟩, fun b o _ n1 n2 e => kp b o (nP b n1 n2) e, fun _ => ht⟩ (Heap.get?_none_of_le (Nat.le_of_lt (Nat.lt_of_le_of_lt hge' hlt))) ⟨_, _, Heap.get?_push_size _ rfl, rfl, hrec', rfl, rfl, rfl, rfl, rfl, rfl, rfl, rfl⟩
  · refine makeFunction_hit (ps := #[rawInt line, rawInt col, .ref c']) (cv := .ref c') hcl hge (O.ng.keeps G.keep) hcode (CH.keeps G.keep) hp trivial (by simp [codeAmong, rawInt, hl, hc]) hbs fun ctv doc h' tk hk hsz => ?_
    have kp : ∀ b o, s.heap.get? b = some o → (h'.push { cls := .type "function", data := .func (fnX name qual params body scope clos .none .none doc ((C.mg "__name__").getD .none) none (.ref c') ctv) }).get? b = some o := fun b o e => Heap.get?_push_of_some _ (hk b o e)
    refine h _ _ (Step.of kp) (Heap.get?_none_of_le hsz) ⟨_, _, Heap.get?_push_size _ rfl, rfl, hrec0.keeps kp, rfl, rfl, rfl, rfl, rfl, rfl, rfl, rfl⟩
theorem tb16 {s : Shared} (t : Tb s.heap) : ∀ h', (∀ b o, b ≠ 16 → s.heap.get? b = some o → h'.get? b = some o) → TabOk 16 5 4 (Str.ofString "_int2digits.<locals>.inner") h' → Tb h' := fun h' k t' => by
  refine ⟨t', t.2.but (a := 16) k ?_ (by decide)⟩
  intro o vs q tk e d
  obtain ⟨ps, e2⟩ := t.1.ex
  rcases t.1 with e1 | ⟨c', e1, _⟩ <;> rw [e] at e1 <;> cases e1 <;> cases d <;> simp [rawInt]
theorem tb23 {s : Shared} (t : Tb s.heap) : ∀ h', (∀ b o, b ≠ 23 → s.heap.get? b = some o → h'.get? b = some o) → TabOk 23 20 4 (Str.ofString "_digits2int.<locals>.inner") h' → Tb h' := fun h' k t' => by
  refine ⟨t.1.but (a := 23) k ?_ (by decide), t'⟩
  intro o vs q tk e d
  rcases t.2 with e1 | ⟨c', e1, _⟩ <;> rw [e] at e1 <;> cases e1 <;> cases d <;> simp [rawInt]
end
end Mine

/- part 21 -/
namespace Mine
open PySem PySem.W PySem.Spec PySem.Calls PyProof.Rows

def inDef (i j : Nat) : Option (List Stmt × Arguments × Scope) := match (fnBody i)[j]? with
  | some (.FunctionDef _ p b _ _ _ s _ _ _) => some (b, p, s)
  | _ => none
def inBody (i j : Nat) : List Stmt := match inDef i j with | some x => x.1 | _ => []
def inParams (i j : Nat) : Arguments := match inDef i j with | some x => x.2.1 | _ => ⟨[], [], none, [], [], none, []⟩
def inScope (i j : Nat) : Scope := match inDef i j with | some x => x.2.2 | _ => default

theorem mul_small {a b : Int} (h1 : a.natAbs < 2 ^ 60) (h2 : b.natAbs < 2 ^ 60) : IntMulOk a b :=
  IntMulOk.of_le (m := 64) (n := 64) (intBits_le_64 (by omega) (by omega)) (intBits_le_64 (by omega) (by omega)) (by omega)

section
variable {C : Cx} {k : Nat} {ρ : Rho} {sc : Scope} {A : Around} {env : Env} {s : Shared} {E : Value → Shared → Prop}
theorem Ex1.run {st : Stmt} {N : Rho → Prop} {T : AV → Prop} {Q : Flow → Shared → Prop} (R : Room A k) (hsc : env.scope = sc) (F : Frm C env) (Rd : Rdy env s.heap) (S : Sees ρ env s.heap) (G : Glo C s.heap) (h : Ex1 C k ρ sc st N T)
    (hn : ∀ s' ρ', N ρ' → Sees ρ' env s'.heap → Rdy env s'.heap → StepX (Own env) s s' → Q .next s') (ht : ∀ v av s', T av → At s'.heap v av → StepX (Own env) s s' → Q (.ret v) s') : wpAny (model C.prog C.w) A (exec st env) Q E s := h A env s Q E R hsc F Rd S G hn ht
theorem EvL.spl {es : List Expr} {avs : List AV} {pos : Pos} {Q : List Value → Shared → Prop} (R : Room A k) (hsc : env.scope = sc) (S : Sees ρ env s.heap) (G : Glo C s.heap) (h : EvL C k ρ sc es avs) (q : ∀ vs s', Step s s' → AtAll s'.heap vs avs → Q vs s') :
    wpAny (model C.prog C.w) A (spliced (backTo pos (starEach es env))) Q E s := h pos A env s Q E R hsc S G q
theorem call_cell {x : Str} {np pos : Pos} {e : Expr} {rest : List Expr} {a : Addr} {Q : Value → Shared → Prop} (K : EnvOk env) (sv : SeesV env s.heap x (.ref a)) (X : FnAt a s.heap) (hp : Plains (e :: rest))
    (h : wpAny (model C.prog C.w) A (spliced (backTo pos (starEach (e :: rest) env))) (fun vs s₁ => FnAt a s₁.heap ∧ wpAny (model C.prog C.w) A (call (.ref a) vs) Q E s₁) E s)
    (hd : (x == ("__debug__" : Str)) = false := by decide) (hn : (x == ("__classdict__" : Str)) = false := by decide) : wpAny (model C.prog C.w) A (eval (.Call (.Name x np) (e :: rest) [] pos) env) Q E s := by
  show wpAny _ A (do callWith pos (← eval (.Name x np) env) [] (backTo pos (starEach (e :: rest) env)) []) Q E s
  refine wpAny_bind (seesV_name K sv ?_ hd hn)
  exact callWith_F X h (hp.1 _ _) hp.2.any

/-- the sight of plain ints through a list's change -/
theorem SeesV.listX {s' : Shared} {D : Addr} (S : StepX (fun b => b = D) s s') (t : Tb s.heap) (hD : ∃ o vs n, s.heap.get? D = some o ∧ o.data = .seq vs n) {x : Str} {v : Value} (h : SeesV env s.heap x v) : SeesV env s'.heap x v := by
  obtain ⟨o, vs, n, e, d⟩ := hD
  rcases h with ⟨k, m, hns, e2⟩ | ⟨k, c, l, i⟩
  · refine .inl ⟨k, m, S.ns t (fun q => ?_) hns, e2⟩
    obtain ⟨o', es, ep, e', d', _⟩ := hns
    have q' : env.locals = D := q
    rw [q', e] at e'; cases e'; rw [d] at d'; cases d'
  · refine .inr ⟨k, c, l, S.cell t (fun q => ?_) i⟩
    have q' : c = D := q
    obtain ⟨o', e', d'⟩ := i
    rw [q', e] at e'; cases e'; rw [d] at d'; cases d'
theorem At.isSeq {h : Heap} {D : Addr} {l : List Int} (a : At h (.ref D) (.il l)) : ∃ o vs n, h.get? D = some o ∧ o.data = .seq vs n := by
  obtain ⟨_, vs, e, ⟨o, z, _, n, d⟩, _⟩ := a
  cases e
  exact ⟨o, _, n, z, d⟩
theorem Sees.listX {s' : Shared} {D : Addr} {l : List Int} (S : StepX (fun b => b = D) s s') (t : Tb s.heap) (hD : At s.heap (.ref D) (.il l)) (hi : ρ.all (fun y => match y.2 with | .int _ => true | _ => false) = true) (h : Sees ρ env s.heap) : Sees ρ env s'.heap := by
  refine ⟨h.ok, fun x av e => ?_⟩
  obtain ⟨v, sv, a⟩ := h.at' x av e
  have := List.all_eq_true.mp hi _ (mem_of_lookup e)
  refine ⟨v, sv.listX S t hD.isSeq, ?_⟩
  cases av with
  | int i => exact a
  | _ => simp at this
end

/-- the inner def of _int2digits, its cells and its list -/
structure Clo1 (h : Heap) (ca cn ci D Fa : Addr) (cl : List (Str × Addr)) (l : List Int) : Prop where
  la : cl.lookup (Str.ofString "a_digits") = some ca
  ln : cl.lookup (Str.ofString "n") = some cn
  li : cl.lookup (Str.ofString "inner") = some ci
  ia : h.IsCell ca (some (.ref D))
  in_ : ∃ t, h.IsCell cn (some (.int 1 t))
  ii : h.IsCell ci (some (.ref Fa))
  fn : InnAt h Fa (inScope 1 1) (inParams 1 1) (inBody 1 1) cl
  ls : At h (.ref D) (.il l)
theorem Clo1.stepX {ca cn ci D Fa : Addr} {cl : List (Str × Addr)} {l : List Int} {X : Addr → Prop} {s s' : Shared} (S : StepX X s s') (t : Tb s.heap) (x : Clo1 s.heap ca cn ci D Fa cl l) (h1 : ¬ X ca) (h2 : ¬ X cn) (h3 : ¬ X ci) (h4 : ¬ X D) (h5 : ¬ X Fa) (hf : ∀ b, X b → NotCode s.heap b) : Clo1 s'.heap ca cn ci D Fa cl l :=
  ⟨x.la, x.ln, x.li, S.cell t h1 x.ia, let ⟨u, hu⟩ := x.in_; ⟨u, S.cell t h2 hu⟩, S.cell t h3 x.ii, x.fn.stepX S t h5 hf, x.ls.stepX S t fun a e => by cases e; exact h4⟩
theorem Clo1.step {ca cn ci D Fa : Addr} {cl : List (Str × Addr)} {l : List Int} {s s' : Shared} (S : Step s s') (t : Tb s.heap) (x : Clo1 s.heap ca cn ci D Fa cl l) : Clo1 s'.heap ca cn ci D Fa cl l := x.stepX S t id id id id id (fun _ q => q.elim)
theorem Clo1.own {ca cn ci D Fa : Addr} {cl : List (Str × Addr)} {l : List Int} {s s' s0 : Shared} {env : Env} (S : StepX (Own env) s s') (t : Tb s.heap) (Rd : Rdy env s.heap) (x : Clo1 s.heap ca cn ci D Fa cl l) (fr : ∀ b, Own env b → s0.heap.get? b = none) (y : Clo1 s0.heap ca cn ci D Fa cl l) : Clo1 s'.heap ca cn ci D Fa cl l := by
  have no : ∀ {b o}, s0.heap.get? b = some o → ¬ Own env b := fun e q => by rw [fr _ q] at e; cases e
  obtain ⟨o1, e1, _⟩ := y.ia
  obtain ⟨_, o2, e2, _⟩ := y.in_
  obtain ⟨o3, e3, _⟩ := y.ii
  obtain ⟨o4, _, _, e4, _⟩ := y.ls.isSeq
  obtain ⟨o5, _, e5, _⟩ := y.fn.at'
  refine x.stepX S t (no e1) (no e2) (no e3) (no e4) (no e5) fun b q => ?_
  obtain ⟨o, e, kk⟩ := Rd.kind q
  rcases kk with ⟨_, _, d⟩ | ⟨_, d⟩ <;> exact notCode_of e (by rw [d]; nofun)

def i2d : Nat → List Int → Int → Nat → Nat → List Int
  | 0, l, _, _, _ => l
  | f + 1, l, x, L, R => if L + 1 = R then l.set L x else
    i2d f (i2d f l (Builtin.bitXor x (x.fdiv (2 ^ ((L + R) / 2 - L)) * 2 ^ ((L + R) / 2 - L))) L ((L + R) / 2)) (x.fdiv (2 ^ ((L + R) / 2 - L))) ((L + R) / 2) R
def i2dOk : Nat → Int → Nat → Nat → Bool
  | 0, _, _, _ => false
  | f + 1, x, L, R => (L + 1 == R) || (decide (L + 1 < R) && decide ((x.fdiv (2 ^ ((L + R) / 2 - L))).natAbs < 2 ^ 20) && i2dOk f (Builtin.bitXor x (x.fdiv (2 ^ ((L + R) / 2 - L)) * 2 ^ ((L + R) / 2 - L))) L ((L + R) / 2) && i2dOk f (x.fdiv (2 ^ ((L + R) / 2 - L))) ((L + R) / 2) R)
theorem i2d_len : ∀ {f : Nat} {l : List Int} {x : Int} {L R : Nat}, (i2d f l x L R).length = l.length
  | 0, _, _, _, _ => rfl
  | f + 1, l, x, L, R => by
    unfold i2d
    split
    · simp
    · rw [i2d_len, i2d_len]

theorem inner1 {C : Cx} (P : Top9 C) {ca cn ci D Fa : Addr} {cl : List (Str × Addr)} (hgD : C.g.get? D = none) : ∀ (f : Nat) (x : Int) (L R : Nat) (l : List Int), i2dOk f x L R = true → R ≤ l.length → l.length ≤ 1000 → ∀ (A : Around) (s : Shared) (vs : List Value) (Q : Value → Shared → Prop) (E : Value → Shared → Prop), Room A f → Glo C s.heap →
    Clo1 s.heap ca cn ci D Fa cl l → AtAll s.heap vs [.int x, .int L, .int R] → (∀ s', StepX (fun b => b = D) s s' → Clo1 s'.heap ca cn ci D Fa cl (i2d f l x L R) → Q .none s') → wpAny (model C.prog C.w) A (call (.ref Fa) vs) Q E s
  | 0, x, L, R, l, ok, _, _ => by simp [i2dOk] at ok
  | f + 1, x, L, R, l, ok, hR, hz => fun A s vs Q E Rm G Cl hat h => by
    have O := P.toOk
    obtain ⟨vx, vL, vR, rfl, hx, hL, hRv⟩ : ∃ v w y, vs = [v, w, y] ∧ At s.heap v (.int x) ∧ At s.heap w (.int L) ∧ At s.heap y (.int R) := by
      obtain ⟨v, r, rfl, hv, h⟩ := atAllC hat
      obtain ⟨y, z, rfl, hy, hz⟩ := atAll2 h
      exact ⟨v, y, z, rfl, hv, hy, hz⟩
    refine enter_in (k := f) (bn := [Str.ofString "x", Str.ofString "L", Str.ofString "R"]) (binds := [(Str.ofString "x", vx), (Str.ofString "L", vL), (Str.ofString "R", vR)]) O Cl.fn rfl rfl rfl rfl Rm G (fun fd e1 e2 e3 => BindsTo.of_eq (by rw [bindArgs_cong, e1, e2, e3]; rfl)) rfl (by decide) rfl ?_
    intro env s₁ Qf E' hsc hcl R1 F Rd K sv S₁ fr G₁ hqn hqr
    have Cl₁ := Cl.step S₁ G.tb
    have kf : ∀ y, (inScope 1 1).names.lookup y = some .free → env.kindOf y = some .free := fun y e => by unfold Env.kindOf; rw [hsc]; exact e
    have svn : ∃ t, SeesV env s₁.heap (Str.ofString "n") (.int 1 t) := let ⟨t, ht⟩ := Cl₁.in_; ⟨t, .inr ⟨.inr (kf _ rfl), cn, by rw [hcl]; exact Cl₁.ln, ht⟩⟩
    have Se : Sees [(Str.ofString "x", .int x), (Str.ofString "L", .int L), (Str.ofString "R", .int R), (Str.ofString "n", .int 1)] env s₁.heap := by
      obtain ⟨tn, svn⟩ := svn
      refine sees_binds (bn := [Str.ofString "x", Str.ofString "L", Str.ofString "R", Str.ofString "n"]) (vs := [vx, vL, vR, .int 1 tn]) (avs := [.int x, .int L, .int R, .int 1]) K (fun y v hm => ?_) ⟨hx, hL, hRv, ⟨tn, rfl⟩, trivial⟩
      rcases List.mem_cons.mp hm with e | hm
      · cases e; exact sv _ _ (.head _)
      rcases List.mem_cons.mp hm with e | hm
      · cases e; exact sv _ _ (.tail _ (.head _))
      rcases List.mem_cons.mp hm with e | hm
      · cases e; exact sv _ _ (.tail _ (.tail _ (.head _)))
      rcases List.mem_cons.mp hm with e | hm
      · cases e; exact svn
      · cases hm
    refine wpAny_execs_cons (wpAny_If (Tr.run R1 hsc Se G₁ (Tr.cmp O (Ev.bin O (Ev.name rfl) Ev.int BinOk.add) (Ev.name rfl) CmpOk.eq) fun s₂ S₂ => ?_))
    have G₂ := G₁.step O S₂
    have Cl₂ := Cl₁.step S₂ G₁.tb
    have Se₂ := Se.step S₂ G₁.tb
    by_cases hlr : L + 1 = R
    · rw [show ((L : Int) + 1 == (R : Int)) = true from by simp; omega]
      simp only [if_true]
      refine wpAny_execs_cons (wpAny_Assign_Subscript (Ev.run R1 hsc Se₂ G₂ (Ev.name rfl) fun v s₃ S₃ a₃ => ?_))
      have G₃ := G₂.step O S₃
      have Cl₃ := Cl₂.step S₃ G₂.tb
      refine seesV_name K (.inr ⟨.inr (kf _ rfl), ca, by rw [hcl]; exact Cl₃.la, Cl₃.ia⟩) (Ev.run R1 hsc (Se₂.step S₃ G₂.tb) G₃ (Ev.name rfl) fun iv s₄ S₄ a₄ => ?_)
      have G₄ := G₃.step O S₄
      have Cl₄ := Cl₃.step S₄ G₃.tb
      obtain ⟨tx, rfl⟩ := a₃
      obtain ⟨tL, rfl⟩ := a₄
      obtain ⟨_, lv, e, hLs, hI⟩ := Cl₄.ls
      cases e
      have hlen := ints_len hI
      refine wpAny_setItem_list hLs (by omega) (by omega) (by rw [List.size_toArray, hlen]; omega) fun h' hL' sb => ?_
      obtain ⟨o, ho, _, nn, hd⟩ := id hLs
      have nc : NotCode s₄.heap D := notCode_of ho (by rw [hd]; nofun)
      have n16 := G₄.tb.ne ho (.inr (by rw [hd]; nofun))
      have S₅ : StepX (fun b => b = D) s₄ { s₄ with heap := h' } := StepX.of_but (tk := s₄.toks) (fun b o hb e => sb.extBut b o hb e) nc n16.1 n16.2
      refine wpAny_execs_cons (wpAny_Return_none (hqr _ _ (h _ ?_ ?_)))
      · exact (up (((S₁.trans S₂).trans S₃).trans S₄)).trans S₅
      · have ls' : At h' (.ref D) (.il (i2d (f + 1) l x L R)) := by
          refine ⟨D, lv.set L (.int x tx), rfl, ?_, ?_⟩
          · have : lv.toArray.setIfInBounds (Int.toNat (L : Int)) (Value.int x tx) = (lv.set L (.int x tx)).toArray := by simp
            rw [← this]
            exact hL'
          · unfold i2d
            rw [if_pos hlr]
            exact ints_set hI x tx L
        have nD : ∀ {c : Addr} {v : Value}, s₄.heap.IsCell c (some v) → ¬ c = D := fun hc q => by obtain ⟨o', e', d'⟩ := hc; rw [q, ho] at e'; cases e'; rw [hd] at d'; cases d'
        refine ⟨Cl₄.la, Cl₄.ln, Cl₄.li, S₅.cell G₄.tb (nD Cl₄.ia) Cl₄.ia, let ⟨u, hu⟩ := Cl₄.in_; ⟨u, S₅.cell G₄.tb (nD hu) hu⟩, S₅.cell G₄.tb (nD Cl₄.ii) Cl₄.ii, Cl₄.fn.stepX S₅ G₄.tb (fun q => ?_) (fun b q => q ▸ nc), ls'⟩
        obtain ⟨o', fd', e', d', _⟩ := Cl₄.fn.at'
        have q' : Fa = D := q
        rw [q', ho] at e'; cases e'; rw [hd] at d'; cases d'
    · have hb : ((L : Int) + 1 == (R : Int)) = false := by simp; omega
      rw [hb]
      have ok' := ok
      unfold i2dOk at ok'
      simp only [Bool.or_eq_true, beq_iff_eq, hlr, false_or, Bool.and_eq_true, decide_eq_true_eq] at ok'
      obtain ⟨⟨⟨hlt, hup⟩, ok1⟩, ok2⟩ := ok'
      have hm1 : L < (L + R) / 2 := by omega
      have hm2 : (L + R) / 2 < R := by omega
      rw [show i2d (f + 1) l x L R = i2d f (i2d f l (Builtin.bitXor x (x.fdiv (2 ^ ((L + R) / 2 - L)) * 2 ^ ((L + R) / 2 - L))) L ((L + R) / 2)) (x.fdiv (2 ^ ((L + R) / 2 - L))) ((L + R) / 2) R from by rw [i2d, if_neg hlr]] at h
      generalize hM : (L + R) / 2 = M at *
      generalize hSh : M - L = sh at *
      generalize hUp : x.fdiv (2 ^ sh) = u at *
      generalize hLo : Builtin.bitXor x (u * 2 ^ sh) = lo at *
      have Rd₂ := Rd.step S₂ G₁.tb
      have Ow₂ : StepX (Own env) s₁ s₂ := up S₂
      refine wpAny_execs_nil (wpAny_execs_cons (Ex1.run (N := fun r => r = _) (T := fun _ => False) R1 hsc F Rd₂ Se₂ G₂ (Ex1.assign O (.inl rfl) (Ev.cast (b := (M : Int)) (Ev.bin O (Ev.bin O (Ev.name rfl) (Ev.name rfl) BinOk.add) Ev.int (BinOk.shr (by decide))) (by rw [Int.fdiv_eq_ediv_of_nonneg _ (by decide)]; simp; omega)) rfl (fun env h => rfl)) ?_ (fun _ _ _ q => q.elim)))
      rintro s₃ ρ₃ rfl Se₃ Rd₃ S₃
      have G₃ := F.glo O S₃ G₂
      refine wpAny_execs_cons (Ex1.run (N := fun r => r = _) (T := fun _ => False) R1 hsc F Rd₃ Se₃ G₃ (Ex1.assign O (.inl rfl) (Ev.cast (b := (sh : Int)) (Ev.bin O (Ev.bin O (Ev.name rfl) (Ev.name rfl) BinOk.sub) (Ev.name rfl) (BinOk.mul (mul_small (by omega) (by decide)))) (by omega)) rfl (fun env h => rfl)) ?_ (fun _ _ _ q => q.elim))
      rintro s₄ ρ₄ rfl Se₄ Rd₄ S₄
      have G₄ := F.glo O S₄ G₃
      refine wpAny_execs_cons (Ex1.run (N := fun r => r = _) (T := fun _ => False) R1 hsc F Rd₄ Se₄ G₄ (Ex1.assign O (.inl rfl) (Ev.cast (b := u) (Ev.bin O (Ev.name rfl) (Ev.name rfl) (BinOk.shr (by omega))) (by rw [Int.toNat_natCast]; exact hUp)) rfl (fun env h => rfl)) ?_ (fun _ _ _ q => q.elim))
      rintro s₅ ρ₅ rfl Se₅ Rd₅ S₅
      have G₅ := F.glo O S₅ G₄
      refine wpAny_execs_cons (Ex1.run (N := fun r => r = _) (T := fun _ => False) R1 hsc F Rd₅ Se₅ G₅ (Ex1.assign O (.inl rfl) (Ev.cast (b := lo) (Ev.bin O (Ev.name rfl) (Ev.bin O (Ev.name rfl) (Ev.name rfl) (BinOk.shl (by omega) (by omega) (by omega))) BinOk.xor) (by rw [Int.toNat_natCast]; exact hLo)) rfl (fun env h => rfl)) ?_ (fun _ _ _ q => q.elim))
      rintro s₆ ρ₆ rfl Se₆ Rd₆ S₆
      have G₆ := F.glo O S₆ G₅
      have S₂₆ := ((S₃.trans S₄).trans S₅).trans S₆
      have Cl₆ := Cl₂.own S₂₆ G₂.tb Rd₂ fr Cl
      have Al : StepX (fun b => b = D) s s₆ := (up (S₁.trans S₂)).grow S₂₆ fr
      refine wpAny_execs_cons (wpAny_Expr (hi := by unfold interactive; rw [hsc]; rfl) (call_cell K (.inr ⟨.inr (kf _ rfl), ci, by rw [hcl]; exact Cl₆.li, Cl₆.ii⟩) Cl₆.fn.fn ⟨fun _ _ => rfl, fun _ _ => rfl, fun _ _ => rfl, trivial⟩ (EvL.spl R1 hsc Se₆ G₆ (EvL.cons O (Ev.name rfl) (EvL.cons O (Ev.name rfl) (EvL.cons O (Ev.name rfl) EvL.nil))) fun vs s₇ S₇ a₇ => ?_)))
      have G₇ := G₆.step O S₇
      have Cl₇ := Cl₆.step S₇ G₆.tb
      refine ⟨Cl₇.fn.fn, inner1 P hgD f lo L M l ok1 (by omega) hz _ s₇ vs _ _ R1 G₇ Cl₇ a₇ fun s₈ S₈ Cl₈ => ?_⟩
      have gD : ∀ b, b = D → C.g.get? b = none := fun b q => q ▸ hgD
      have G₈ := G₇.stepX O S₈ gD
      have Se₈ := (Se₆.step S₇ G₆.tb).listX S₈ G₇.tb Cl₇.ls rfl
      refine wpAny_execs_cons (wpAny_Expr (hi := by unfold interactive; rw [hsc]; rfl) (call_cell K (.inr ⟨.inr (kf _ rfl), ci, by rw [hcl]; exact Cl₈.li, Cl₈.ii⟩) Cl₈.fn.fn ⟨fun _ _ => rfl, fun _ _ => rfl, fun _ _ => rfl, trivial⟩ (EvL.spl R1 hsc Se₈ G₈ (EvL.cons O (Ev.name rfl) (EvL.cons O (Ev.name rfl) (EvL.cons O (Ev.name rfl) EvL.nil))) fun vs s₉ S₉ a₉ => ?_)))
      have G₉ := G₈.step O S₉
      have Cl₉ := Cl₈.step S₉ G₈.tb
      refine ⟨Cl₉.fn.fn, inner1 P hgD f u M R _ ok2 (by rw [i2d_len]; omega) (by rw [i2d_len]; omega) _ s₉ vs _ _ R1 G₉ Cl₉ a₉ fun s' S' Cl' => ?_⟩
      exact wpAny_execs_nil (hqn _ (h _ ((((Al.trans (up S₇)).trans S₈).trans (up S₉)).trans S') Cl'))
end Mine

/- part 22 -/
namespace Mine
open PySem PySem.W PySem.Spec PySem.Calls PyProof.Rows

/-- the inner def of _digits2int and its cells -/
structure Clo2 (h : Heap) (cd cn ci Fa : Addr) (cl : List (Str × Addr)) (l : List Int) : Prop where
  ld : cl.lookup (Str.ofString "digits") = some cd
  ln : cl.lookup (Str.ofString "n") = some cn
  li : cl.lookup (Str.ofString "inner") = some ci
  id' : ∃ v, h.IsCell cd (some v) ∧ At h v (.il l)
  in_ : ∃ t, h.IsCell cn (some (.int 1 t))
  ii : h.IsCell ci (some (.ref Fa))
  fn : InnAt h Fa (inScope 2 0) (inParams 2 0) (inBody 2 0) cl
theorem Clo2.step {cd cn ci Fa : Addr} {cl : List (Str × Addr)} {l : List Int} {s s' : Shared} (S : Step s s') (t : Tb s.heap) (x : Clo2 s.heap cd cn ci Fa cl l) : Clo2 s'.heap cd cn ci Fa cl l :=
  ⟨x.ld, x.ln, x.li, let ⟨v, hv, ha⟩ := x.id'; ⟨v, S.cell t id hv, ha.step S t⟩, let ⟨u, hu⟩ := x.in_; ⟨u, S.cell t id hu⟩, S.cell t id x.ii, x.fn.stepX S t id (fun _ q => q.elim)⟩
theorem Clo2.own {cd cn ci Fa : Addr} {cl : List (Str × Addr)} {l : List Int} {s s' s0 : Shared} {env : Env} (S : StepX (Own env) s s') (t : Tb s.heap) (Rd : Rdy env s.heap) (x : Clo2 s.heap cd cn ci Fa cl l) (fr : ∀ b, Own env b → s0.heap.get? b = none) (y : Clo2 s0.heap cd cn ci Fa cl l) : Clo2 s'.heap cd cn ci Fa cl l := by
  have no : ∀ {b o}, s0.heap.get? b = some o → ¬ Own env b := fun e q => by rw [fr _ q] at e; cases e
  obtain ⟨_, ⟨o1, e1, _⟩, _⟩ := y.id'
  obtain ⟨_, o2, e2, _⟩ := y.in_
  obtain ⟨o3, e3, _⟩ := y.ii
  obtain ⟨o5, _, e5, _⟩ := y.fn.at'
  have hf : ∀ b, Own env b → NotCode s.heap b := fun b q => by
    obtain ⟨o, e, kk⟩ := Rd.kind q
    rcases kk with ⟨_, _, d⟩ | ⟨_, d⟩ <;> exact notCode_of e (by rw [d]; nofun)
  refine ⟨x.ld, x.ln, x.li, let ⟨v, hv, ha⟩ := x.id'; ⟨v, S.cell t (no e1) hv, ha.stepX S t ?_⟩, let ⟨u, hu⟩ := x.in_; ⟨u, S.cell t (no e2) hu⟩, S.cell t (no e3) x.ii, x.fn.stepX S t (no e5) hf⟩
  intro a ea ow
  subst ea
  obtain ⟨o, _, _, e, d⟩ := ha.isSeq
  obtain ⟨o', e', kk⟩ := Rd.kind ow
  rw [e] at e'; cases e'
  rcases kk with ⟨_, _, d'⟩ | ⟨_, d'⟩ <;> rw [d] at d' <;> cases d'

def d2i : Nat → List Int → Nat → Nat → Int
  | 0, _, _, _ => 0
  | f + 1, l, L, R => if L + 1 = R then l.getD L 0 else d2i f l ((L + R) / 2) R * 2 ^ ((L + R) / 2 - L) + d2i f l L ((L + R) / 2)
def d2iOk : Nat → List Int → Nat → Nat → Bool
  | 0, _, _, _ => false
  | f + 1, l, L, R => (L + 1 == R) || (decide (L + 1 < R) && decide ((d2i f l ((L + R) / 2) R).natAbs < 2 ^ 20) && d2iOk f l ((L + R) / 2) R && d2iOk f l L ((L + R) / 2))

theorem inner2 {C : Cx} (P : Top9 C) {cd cn ci Fa : Addr} {cl : List (Str × Addr)} : ∀ (f : Nat) (L R : Nat) (l : List Int), d2iOk f l L R = true → R ≤ l.length → l.length ≤ 1000 → ∀ (A : Around) (s : Shared) (vs : List Value) (Q : Value → Shared → Prop) (E : Value → Shared → Prop), Room A f → Glo C s.heap →
    Clo2 s.heap cd cn ci Fa cl l → AtAll s.heap vs [.int L, .int R] → (∀ v s', Step s s' → At s'.heap v (.int (d2i f l L R)) → Q v s') → wpAny (model C.prog C.w) A (call (.ref Fa) vs) Q E s
  | 0, L, R, l, ok, _, _ => by simp [d2iOk] at ok
  | f + 1, L, R, l, ok, hR, hz => fun A s vs Q E Rm G Cl hat h => by
    have O := P.toOk
    obtain ⟨vL, vR, rfl, hL, hRv⟩ := atAll2 hat
    refine enter_in (k := f) (bn := [Str.ofString "L", Str.ofString "R"]) (binds := [(Str.ofString "L", vL), (Str.ofString "R", vR)]) O Cl.fn rfl rfl rfl rfl Rm G (fun fd e1 e2 e3 => BindsTo.of_eq (by rw [bindArgs_cong, e1, e2, e3]; rfl)) rfl (by decide) rfl ?_
    intro env s₁ Qf E' hsc hcl R1 F Rd K sv S₁ fr G₁ hqn hqr
    have Cl₁ := Cl.step S₁ G.tb
    have kf : ∀ y, (inScope 2 0).names.lookup y = some .free → env.kindOf y = some .free := fun y e => by unfold Env.kindOf; rw [hsc]; exact e
    have Se : Sees [(Str.ofString "L", .int L), (Str.ofString "R", .int R), (Str.ofString "n", .int 1), (Str.ofString "digits", .il l)] env s₁.heap := by
      obtain ⟨tn, htn⟩ := Cl₁.in_
      obtain ⟨vd, hvd, had⟩ := Cl₁.id'
      have svn : SeesV env s₁.heap (Str.ofString "n") (.int 1 tn) := .inr ⟨.inr (kf _ rfl), cn, by rw [hcl]; exact Cl₁.ln, htn⟩
      have svd : SeesV env s₁.heap (Str.ofString "digits") vd := .inr ⟨.inr (kf _ rfl), cd, by rw [hcl]; exact Cl₁.ld, hvd⟩
      refine sees_binds (bn := [Str.ofString "L", Str.ofString "R", Str.ofString "n", Str.ofString "digits"]) (vs := [vL, vR, .int 1 tn, vd]) (avs := [.int L, .int R, .int 1, .il l]) K (fun y v hm => ?_) ⟨hL, hRv, ⟨tn, rfl⟩, had, trivial⟩
      rcases List.mem_cons.mp hm with e | hm
      · cases e; exact sv _ _ (.head _)
      rcases List.mem_cons.mp hm with e | hm
      · cases e; exact sv _ _ (.tail _ (.head _))
      rcases List.mem_cons.mp hm with e | hm
      · cases e; exact svn
      rcases List.mem_cons.mp hm with e | hm
      · cases e; exact svd
      · cases hm
    refine wpAny_execs_cons (wpAny_If (Tr.run R1 hsc Se G₁ (Tr.cmp O (Ev.bin O (Ev.name rfl) Ev.int BinOk.add) (Ev.name rfl) CmpOk.eq) fun s₂ S₂ => ?_))
    have G₂ := G₁.step O S₂
    have Cl₂ := Cl₁.step S₂ G₁.tb
    have Se₂ := Se.step S₂ G₁.tb
    by_cases hlr : L + 1 = R
    · rw [show ((L : Int) + 1 == (R : Int)) = true from by simp; omega]
      simp only [if_true]
      have e : d2i (f + 1) l L R = l.getD L 0 := by unfold d2i; rw [if_pos hlr]
      rw [e] at h
      refine wpAny_execs_cons (wpAny_Return_some (Ev.run R1 hsc Se₂ G₂ (Ev.item O (Ev.name rfl) (Ev.name rfl) (by omega) (getD_some (by simp; omega)) (by omega)) fun v s₃ S₃ a₃ => hqr _ _ (h _ _ ((S₁.trans S₂).trans S₃) ?_)))
      simpa using a₃
    · have hb : ((L : Int) + 1 == (R : Int)) = false := by simp; omega
      rw [hb]
      have ok' := ok
      unfold d2iOk at ok'
      simp only [Bool.or_eq_true, beq_iff_eq, hlr, false_or, Bool.and_eq_true, decide_eq_true_eq] at ok'
      obtain ⟨⟨⟨hlt, hup⟩, ok1⟩, ok2⟩ := ok'
      have hm1 : L < (L + R) / 2 := by omega
      have hm2 : (L + R) / 2 < R := by omega
      rw [show d2i (f + 1) l L R = d2i f l ((L + R) / 2) R * 2 ^ ((L + R) / 2 - L) + d2i f l L ((L + R) / 2) from by rw [d2i, if_neg hlr]] at h
      generalize hM : (L + R) / 2 = M at *
      generalize hSh : M - L = sh at *
      have Rd₂ := Rd.step S₂ G₁.tb
      refine wpAny_execs_nil (wpAny_execs_cons (Ex1.run (N := fun r => r = _) (T := fun _ => False) R1 hsc F Rd₂ Se₂ G₂ (Ex1.assign O (.inl rfl) (Ev.cast (b := (M : Int)) (Ev.bin O (Ev.bin O (Ev.name rfl) (Ev.name rfl) BinOk.add) Ev.int (BinOk.shr (by decide))) (by rw [Int.fdiv_eq_ediv_of_nonneg _ (by decide)]; simp; omega)) rfl (fun env h => rfl)) ?_ (fun _ _ _ q => q.elim)))
      rintro s₃ ρ₃ rfl Se₃ Rd₃ S₃
      have G₃ := F.glo O S₃ G₂
      refine wpAny_execs_cons (Ex1.run (N := fun r => r = _) (T := fun _ => False) R1 hsc F Rd₃ Se₃ G₃ (Ex1.assign O (.inl rfl) (Ev.cast (b := (sh : Int)) (Ev.bin O (Ev.bin O (Ev.name rfl) (Ev.name rfl) BinOk.sub) (Ev.name rfl) (BinOk.mul (mul_small (by omega) (by decide)))) (by omega)) rfl (fun env h => rfl)) ?_ (fun _ _ _ q => q.elim))
      rintro s₄ ρ₄ rfl Se₄ Rd₄ S₄
      have G₄ := F.glo O S₄ G₃
      have S₂₄ := S₃.trans S₄
      have Cl₄ := Cl₂.own S₂₄ G₂.tb Rd₂ fr Cl
      have Al : Step s s₄ := (S₁.trans S₂).grow S₂₄ fr
      refine wpAny_execs_cons (wpAny_Return_some (wpAny_BinOp (wpAny_BinOp (call_cell K (.inr ⟨.inr (kf _ rfl), ci, by rw [hcl]; exact Cl₄.li, Cl₄.ii⟩) Cl₄.fn.fn ⟨fun _ _ => rfl, fun _ _ => rfl, trivial⟩ (EvL.spl R1 hsc Se₄ G₄ (EvL.cons O (Ev.name rfl) (EvL.cons O (Ev.name rfl) EvL.nil)) fun vs s₅ S₅ a₅ => ?_)))))
      have G₅ := G₄.step O S₅
      have Cl₅ := Cl₄.step S₅ G₄.tb
      refine ⟨Cl₅.fn.fn, inner2 P f M R l ok1 hR hz _ s₅ vs _ _ R1 G₅ Cl₅ a₅ fun v₁ s₆ S₆ a₆ => ?_⟩
      have G₆ := G₅.step O S₆
      have Cl₆ := Cl₅.step S₆ G₅.tb
      have Se₆ := (Se₄.step S₅ G₄.tb).step S₆ G₅.tb
      refine Ev.run R1 hsc Se₆ G₆ (Ev.name rfl) fun vsh s₇ S₇ a₇ => ?_
      have G₇ := G₆.step O S₇
      refine BinOk.shl (by omega) (by omega) (by omega) _ s₇ v₁ vsh _ _ (R1.mono (Nat.zero_le _)) G₇ (a₆.step S₇ G₆.tb) a₇ fun v₂ s₈ S₈ a₈ => ?_
      have G₈ := G₇.step O S₈
      have Cl₈ := (Cl₆.step S₇ G₆.tb).step S₈ G₇.tb
      have Se₈ := (Se₆.step S₇ G₆.tb).step S₈ G₇.tb
      refine call_cell K (.inr ⟨.inr (kf _ rfl), ci, by rw [hcl]; exact Cl₈.li, Cl₈.ii⟩) Cl₈.fn.fn ⟨fun _ _ => rfl, fun _ _ => rfl, trivial⟩ (EvL.spl R1 hsc Se₈ G₈ (EvL.cons O (Ev.name rfl) (EvL.cons O (Ev.name rfl) EvL.nil)) fun vs s₉ S₉ a₉ => ?_)
      have G₉ := G₈.step O S₉
      have Cl₉ := Cl₈.step S₉ G₈.tb
      refine ⟨Cl₉.fn.fn, inner2 P f L M l ok2 (by omega) hz _ s₉ vs _ _ R1 G₉ Cl₉ a₉ fun v₃ s₁₀ S₁₀ a₁₀ => ?_⟩
      have G₁₀ := G₉.step O S₁₀
      refine BinOk.add _ s₁₀ v₂ v₃ _ _ (R1.mono (Nat.zero_le _)) G₁₀ ((a₈.step S₉ G₈.tb).step S₁₀ G₉.tb) a₁₀ fun v₄ s₁₁ S₁₁ a₁₁ => ?_
      refine hqr _ _ (h _ _ (((((((Al.trans S₅).trans S₆).trans S₇).trans S₈).trans S₉).trans S₁₀).trans S₁₁) ?_)
      rw [Int.toNat_natCast] at a₁₁
      exact a₁₁
end Mine

/- part 23 -/
namespace Mine
open PySem PySem.W PySem.Spec PySem.Calls PyProof.Rows

structure Top10 (C : Cx) : Prop extends Top9 C where
  hdI : CodeHd C.g 20 16
  hdD : CodeHd C.g 27 23
  cInt : ∀ o fd, C.g.get? 21 = some o → o.data = .func fd → fd.code = .ref 20 ∧ fd.qualname = Str.ofString "_int2digits"
  cDig : ∀ o fd, C.g.get? 28 = some o → o.data = .func fd → fd.code = .ref 27 ∧ fd.qualname = Str.ofString "_digits2int"
  bm16 : C.g.BuiltinsAt C.mg 16
  bm23 : C.g.BuiltinsAt C.mg 23

section
variable {C : Cx} {k : Nat} {ρ : Rho} {sc : Scope} {A : Around} {env : Env} {s : Shared} {E : Value → Shared → Prop}
theorem rep_fresh {a : List Int} {n : Int} {va vb : Value} {Q : Value → Shared → Prop} (hn : n < 100000) (hz : a.length * n.toNat ≤ 100000) (hlo : -100000 ≤ n) (h1 : At s.heap va (.il a)) (h2 : At s.heap vb (.int n))
    (h : ∀ D s', Step s s' → s.heap.get? D = none → At s'.heap (.ref D) (.il (List.replicate n.toNat a).flatten) → Q (.ref D) s') : wpAny (model C.prog C.w) A (binaryOp .Mult va vb) Q E s := by
  obtain ⟨l, vs, ha, hl, hi⟩ := h1
  obtain ⟨u, hb⟩ := h2
  subst ha hb
  obtain ⟨⟨cls, d, data, sl⟩, ho, hcl, k, hd⟩ := id hl
  simp only at hcl hd
  subst hcl hd
  have hsz' : vs.toArray.size * n.toNat ≤ 100000 := by rw [List.size_toArray, ints_len hi]; exact hz
  refine wpAny_binaryOp_repeat_ref (T := "list") (U := "int") (by decide) ⟨_, ho, rfl⟩ (fun s' => typeIs_int s' n u) noFill_list_mul PySem.F.fills_int_mul PySem.F.slot_int_rmul repeat_list PySem.F.slot_int_index.lookup
    (call_meets PySem.F.slot_int_rmul (typeIs_int s n u) PySem.F.entry_int_rmul (PySem.F.args_int_rmul_2 _ _) (lm_int_rmul_list_any n u l vs.toArray k d sl)
      ⟨ho, rfl, ⟨_, ho, rfl⟩, call_meets PySem.F.slot_list_mul ⟨_, ho, rfl⟩ PySem.F.entry_list_mul (PySem.F.args_list_mul_2 _ _)
        (lm_list_mul_any l vs.toArray k d sl n u (by simp [Builtin.List.listFitsIndex]; omega) (by omega) (by rw [List.size_toArray] at hsz'; simp [Builtin.List.listTooLong, sizeLine]; omega))
        ⟨ho, ?_⟩⟩)
  rw [listMul_foldl_if]
  exact h _ _ Step.push (get_size _) ⟨_, _, rfl, isList_new _ _, ints_rep hi _⟩

theorem store_raw {x : Str} {v : Value} {Q : Unit → Shared → Prop} (hsc : env.scope = sc) (hx : Nm sc x) (F : Frm C env) (Rd : Rdy env s.heap) (S : Sees ρ env s.heap) (G : Glo C s.heap) (hno : ρ.lookup x = none)
    (h : ∀ s', StepX (Own env) s s' → Rdy env s'.heap → Sees ρ env s'.heap → (∃ w, StepX (fun b => b = w) s s' ∧ Own env w ∧ (∃ o, s.heap.get? w = some o) ∧ (∀ o, s.heap.get? w = some o → (∃ es ep, o.data = .dict es ep) ∨ ∃ v, o.data = .cell v) ∧ SeesV env s'.heap x v ∧ (∀ z u, z ≠ x → SeesV env s.heap z u → SeesV env s'.heap z u)) → Q () s') : wpAny (model C.prog C.w) A (storeName env x v) Q E s := by
  subst hsc
  have ready : ∃ w, TReady env x w s.heap := by
    rcases hx with hx | hx
    · exact ⟨env.locals, .inl ⟨hx, rfl, Rd.ns⟩⟩
    · obtain ⟨c, v, l, i⟩ := Rd.cells x hx
      exact ⟨c, .inr ⟨hx, l, v, i⟩⟩
  obtain ⟨w, r⟩ := ready
  have ow : Own env w := r.elim (fun z => .inl z.2.1) fun z => .inr ⟨x, z.1, z.2.1⟩
  have kd : ∀ o, s.heap.get? w = some o → (∃ es ep, o.data = .dict es ep) ∨ ∃ v, o.data = .cell v := fun o e => by
    rcases r with ⟨_, _, m, o', es, ep, e', d, _⟩ | ⟨_, _, v, o', e', d⟩
    · rw [e] at e'; cases e'; exact .inl ⟨_, _, d⟩
    · rw [e] at e'; cases e'; exact .inr ⟨_, d⟩
  refine store_any S.ok.kind G.tb r (fun hc y hy => ?_) fun s' S' r' sv keep => ?_
  · rcases r with ⟨kl, _⟩ | ⟨kc, l, _⟩
    · rw [kl] at hc; cases hc
    · exact F.apart x y w kc l hy
  · refine h s' (S'.mono fun b hb => hb ▸ ow) ⟨?_, fun y hy => ?_⟩ ⟨S.ok, fun y bv e => ?_⟩ ⟨w, S', ow, r.obj, kd, sv, keep⟩
    · rcases r' with ⟨_, e, m, n⟩ | ⟨kc, l, v', ic⟩
      · exact ⟨m, e ▸ n⟩
      · obtain ⟨m, n⟩ := Rd.ns
        refine ⟨m, S'.ns G.tb (fun q => ?_) n⟩
        have q' : env.locals = w := q
        obtain ⟨o, es, ep, e, d, _⟩ := n
        rw [q'] at e
        rcases r with ⟨kl, _⟩ | ⟨_, _, v0, o', e', d'⟩
        · rw [kl] at kc; cases kc
        · rw [e] at e'; cases e'; rw [d] at d'; cases d'
    · obtain ⟨c, v1, l, i⟩ := Rd.cells y hy
      by_cases hc : c = w
      · subst hc
        rcases r' with ⟨kl, e, m, n⟩ | ⟨_, _, v', ic⟩
        · obtain ⟨o, e1, d1⟩ := i
          rcases kd o e1 with ⟨_, _, d⟩ | ⟨_, d⟩
          · rw [d1] at d; cases d
          · rcases r with ⟨_, _, m, o', es, ep, e', d', _⟩ | ⟨kc, _⟩
            · rw [e1] at e'; cases e'; rw [d1] at d'; cases d'
            · rw [kl] at kc; cases kc
        · exact ⟨c, _, l, ic⟩
      · exact ⟨c, v1, l, S'.cell G.tb hc i⟩
    · obtain ⟨u, su, au⟩ := S.at' y bv e
      have hy : y ≠ x := fun q => by rw [q, hno] at e; cases e
      exact ⟨u, keep y u hy su, au.stepX S' G.tb (off_of_kind kd au)⟩

theorem Tr.truth_int {e : Expr} {i : Int} (h : Ev C k ρ sc e (.int i)) (he : ∀ env whole, isTrue e env whole = (do let v ← whole; standAt e.pos; holding [v] (truthy v))) : Tr C k ρ sc e (i != 0) := fun A env s Q E R hsc S G q => by
  rw [he]
  exact wpAny_bind (h A env s _ E R hsc S G fun v s' S' a => wpAny_bind (wpAny_standAt (wpAny_holding (by obtain ⟨t, rfl⟩ := a; exact PySem.P.truthy_int (q s' S')))))
theorem Tr.truth_list {e : Expr} {l : List Int} (h : Ev C k ρ sc e (.il l)) (hz : l.length ≤ 100000) (he : ∀ env whole, isTrue e env whole = (do let v ← whole; standAt e.pos; holding [v] (truthy v))) : Tr C k ρ sc e (!l.isEmpty) := fun A env s Q E R hsc S G q => by
  rw [he]
  refine wpAny_bind (h A env s _ E R hsc S G fun v s' S' a => wpAny_bind (wpAny_standAt (wpAny_holding ?_)))
  obtain ⟨a, vs, rfl, hl, hi⟩ := a
  refine wpAny_truthy_list hl (by rw [List.size_toArray, ints_len hi]; omega) ?_
  have e : (!vs.toArray.isEmpty) = (!l.isEmpty) := by cases hi <;> simp
  rw [e]
  exact q _ (S'.trans Step.toks)
theorem SeesV.cellOf {h : Heap} {x : Str} {v : Value} (kc : env.kindOf x = some .cell) (sv : SeesV env h x v) : ∃ c, env.cells.lookup x = some c ∧ h.IsCell c (some v) := by
  rcases sv with ⟨k, _⟩ | ⟨_, r⟩
  · rw [kc] at k; cases k
  · exact r
theorem clos_in {s : Scope} {h : Heap} (Rd : Rdy env h) (hk : s.names.all (fun x => x.2 != .free || env.kindOf x.1 == some .cell) = true) :
    ∃ cl, closureFor s env = pure cl ∧ ∀ x, cl.lookup x = (if s.names.any (fun y => y.1 == x && y.2 == .free) then env.cells.lookup x else none) :=
  closure_of fun x hx hf => by
    have := List.all_eq_true.mp hk x hx
    simp only [hf, bne_self_eq_false, Bool.false_or, beq_iff_eq] at this
    obtain ⟨c, v, l, _⟩ := Rd.cells _ this
    exact ⟨c, l⟩
end
end Mine

/- part 24 -/
namespace Mine
open PySem PySem.W PySem.Spec PySem.Calls PyProof.Rows

def i2 (x : Int) : List Int := if x = 0 then [] else i2d 5 (List.replicate (Builtin.Int.intBits x) 0) x 0 (Builtin.Int.intBits x)
def i2Ok (x : Int) : Bool := decide (Builtin.Int.intBits x ≤ 100) && (x == 0 || i2dOk 5 x 0 (Builtin.Int.intBits x))

theorem int2digits_calls {C : Cx} (P : Top10 C) {x : Int} (ok : i2Ok x = true) : CallsTo C 6 (.ref 21) [.int x, .int 1] (.il (i2 x)) := fun A s vs Q E R G hat h => by
  have O := P.toOk
  simp only [i2Ok, Bool.and_eq_true, decide_eq_true_eq, Bool.or_eq_true, beq_iff_eq] at ok
  obtain ⟨hbits, hx⟩ := ok
  obtain ⟨va, vn, rfl, ha, hn⟩ := atAll2 hat
  refine enter2 (k := 5) (bn := [Str.ofString "a", Str.ofString "n"]) (binds := [(Str.ofString "a", va), (Str.ofString "n", vn)]) O P.fInt rfl rfl rfl R G (fun fd e1 e2 e3 => BindsTo.of_eq (by rw [bindArgs_cong, e1, e2, e3]; rfl)) rfl (by decide) (nms rfl) ?_
  intro env s₁ Qf E' hsc R1 F Rd K sv S₁ fr G₁ hcode _ hq
  have Se : Sees [(Str.ofString "a", .int x), (Str.ofString "n", .int 1)] env s₁.heap :=
    sees_binds (bn := [Str.ofString "a", Str.ofString "n"]) (vs := [va, vn]) (avs := [.int x, .int 1]) K sv ⟨ha, hn, trivial⟩
  have kc : ∀ y, (fnScope 1).names.lookup y = some .cell → env.kindOf y = some .cell := fun y e => by unfold Env.kindOf; rw [hsc]; exact e
  have hcd : env.code = .ref 20 ∧ env.qual = Str.ofString "_int2digits" ++ ".<locals>." := by
    obtain ⟨o, fd, e1, e2, _⟩ := P.fInt.at'
    obtain ⟨q1, q2⟩ := hcode o fd e1 e2
    obtain ⟨p1, p2⟩ := P.cInt o fd e1 e2
    rw [q1, q2, p1, p2]
    exact ⟨rfl, rfl⟩
  have hqn : qualnameIn env (Str.ofString "inner") (Str.ofString "inner") = Str.ofString "_int2digits.<locals>.inner" := by
    unfold qualnameIn
    rw [kc (Str.ofString "inner") rfl, hcd.2]
    rfl
  have svn := sv (Str.ofString "n") vn (.tail _ (.head _))
  refine wpAny_execs_cons (wpAny_Assign_Name (hs := rfl) (wpAny_BinOp (Ev.run R1 hsc Se G₁ (Ev.list O (l := [0]) (EvL.cons O Ev.int EvL.nil) (by simp)) fun v₂ s₂ S₂ a₂ => ?_)))
  have G₂ := G₁.step O S₂
  refine Ev.run R1 hsc (Se.step S₂ G₁.tb) G₂ (Ev.cast (b := (Builtin.Int.intBits x : Int)) (Ev.bin O (Ev.bin O (Ev.bin O (Ev.bits O (Ev.name rfl) rfl (fun _ => rfl)) (Ev.name rfl) BinOk.add) Ev.int BinOk.sub) (Ev.name rfl) (BinOk.fdiv (by decide) (by decide))) (by rw [Int.fdiv_one]; omega)) fun v₃ s₃ S₃ a₃ => ?_
  have G₃ := G₂.step O S₃
  refine rep_fresh (by omega) (by simp; omega) (by omega) (a₂.step S₃ G₂.tb) a₃ fun D s₄ S₄ fD a₄ => ?_
  have G₄ := G₃.step O S₄
  rw [List.flatten_replicate_singleton, Int.toNat_natCast] at a₄
  generalize hbt : Builtin.Int.intBits x = bt at *
  have S₁₃ := S₂.trans S₃
  have S₁₄ := S₁₃.trans S₄
  have fD0 : s.heap.get? D = none := (S₁.trans S₁₃).none_of G.tb (fun q => q) fD
  have Rd₄ := Rd.step S₁₄ G₁.tb
  have nD : ¬ Own env D := let ⟨o, _, _, e, d⟩ := a₄.isSeq; own_ne Rd₄ e ⟨_, _, d⟩
  refine store_name O hsc (.inr rfl) F Rd₄ (Se.step S₁₄ G₁.tb) G₄ a₄ fun s₅ S₅ Rd₅ Se₅ ⟨w, Sw, ow, _, kw, sva, keep, hw⟩ => ?_
  have G₅ := F.glo O S₅ G₄
  have a₅ := a₄.stepX Sw G₄.tb (off_of_kind kw a₄)
  have svn₅ := keep _ _ (by decide) (svn.step S₁₄ G₁.tb)
  obtain ⟨cl, hcl, hlk⟩ := clos_in (s := inScope 1 1) Rd₅ (by
    have : (inScope 1 1).names.all (fun x => x.2 != .free || (fnScope 1).names.lookup x.1 == some .cell) = true := rfl
    unfold Env.kindOf; rw [hsc]; exact this)
  refine wpAny_execs_cons (nestDef_K rfl rfl rfl ?_)
  rw [show qualnameIn env _ _ = _ from hqn]
  refine make_inner O G₅ (.inl rfl) G₅.tb.1 hcl K.glob hcd.1 P.hdI P.bm16 rfl rfl (tb16 G₅.tb) fun s₆ Fa S₆ fFa I₆ => ?_
  have G₆ := G₅.step O S₆
  refine store_raw hsc (.inr rfl) F (Rd₅.step S₆ G₅.tb) (Se₅.step S₆ G₅.tb) G₆ rfl fun s₇ S₇ Rd₇ Se₇ ⟨w', Sw', ow', _, kw', svi, keep'⟩ => ?_
  have G₇ := F.glo O S₇ G₆
  have sva₇ := keep' _ _ (by decide) (sva.step S₆ G₅.tb)
  have svn₇ := keep' _ _ (by decide) (svn₅.step S₆ G₅.tb)
  have a₆ := a₅.step S₆ G₅.tb
  have a₇ := a₆.stepX Sw' G₆.tb (off_of_kind kw' a₆)
  obtain ⟨ca, la, ia⟩ := sva₇.cellOf (kc _ rfl)
  obtain ⟨cn, ln, in_⟩ := svn₇.cellOf (kc _ rfl)
  obtain ⟨ci, li, ii⟩ := svi.cellOf (kc _ rfl)
  obtain ⟨tn, rfl⟩ := hn
  have I₇ : InnAt s₇.heap Fa (inScope 1 1) (inParams 1 1) (inBody 1 1) cl := by
    refine I₆.stepX Sw' G₆.tb (fun q => ?_) fun b q => ?_
    · obtain ⟨o, fd, e, d, _⟩ := I₆.at'
      rcases kw' o (q ▸ e) with ⟨_, _, d'⟩ | ⟨_, d'⟩ <;> rw [d] at d' <;> cases d'
    · subst q
      intro o vs q tk e d
      rcases kw' o e with ⟨_, _, d'⟩ | ⟨_, d'⟩ <;> rw [d] at d' <;> cases d'
  have Cl₇ : Clo1 s₇.heap ca cn ci D Fa cl (List.replicate bt 0) := ⟨by rw [hlk]; exact la, by rw [hlk]; exact ln, by rw [hlk]; exact li, ia, ⟨tn, in_⟩, ii, I₇, a₇⟩
  have Al : Step s s₇ := (((S₁.trans S₁₄).grow S₅ fr).trans S₆).grow S₇ fr
  refine wpAny_execs_cons (wpAny_If (Tr.run R1 hsc Se₇ G₇ (Tr.truth_int (Ev.name rfl) (fun _ _ => rfl)) fun s₈ S₈ => ?_))
  have G₈ := G₇.step O S₈
  have Cl₈ := Cl₇.step S₈ G₇.tb
  have Se₈ := Se₇.step S₈ G₇.tb
  have fin : ∀ (s₉ : Shared) (l : List Int), Step s s₉ → Clo1 s₉.heap ca cn ci D Fa cl l → l = i2 x → Qf (.ret (.ref D)) s₉ := fun s₉ l St Cl e => hq _ _ (h _ _ St (e ▸ Cl.ls))
  have ret : ∀ (s₉ : Shared) (l : List Int), Step s s₉ → Clo1 s₉.heap ca cn ci D Fa cl l → l = i2 x → ∀ p1 p2, wpAny (model C.prog C.w) (A.deeper env) (execs [.Return (some (.Name (Str.ofString "a_digits") p1)) p2] env) Qf E' s₉ := fun s₉ l St Cl e p1 p2 =>
    wpAny_execs_cons (wpAny_Return_some (seesV_name K (.inr ⟨.inl (kc _ rfl), ca, la, Cl.ia⟩) (fin s₉ l St Cl e)))
  by_cases h0 : x = 0
  · rw [show (x != 0) = false from by simp [h0]]
    have hbt0 : bt = 0 := by rw [← hbt, h0]; rfl
    refine wpAny_execs_nil (ret s₈ _ (Al.trans S₈) Cl₈ ?_ _ _)
    rw [hbt0, i2, if_pos h0]; rfl
  · rw [show (x != 0) = true from by simp [h0]]
    have hx' := hx.resolve_left h0
    refine wpAny_execs_cons (wpAny_Expr (hi := by unfold interactive; rw [hsc]; rfl) (call_cell K (.inr ⟨.inl (kc _ rfl), ci, li, Cl₈.ii⟩) Cl₈.fn.fn ⟨fun _ _ => rfl, fun _ _ => rfl, fun _ _ => rfl, trivial⟩ (EvL.spl R1 hsc Se₈ G₈ (EvL.cons O (Ev.name rfl) (EvL.cons O Ev.int (EvL.cons O (Ev.call O (EvV.blt O rfl P.bLen.1 P.bLen.2) Keeps.builtin (EvL.cons O (Ev.name rfl) EvL.nil) (CallsTo.len (by simp; omega)) (by omega) ⟨fun _ _ => rfl, trivial⟩) EvL.nil))) fun vs s₉ S₉ a₉ => ?_)))
    have G₉ := G₈.step O S₉
    have Cl₉ := Cl₈.step S₉ G₈.tb
    rw [List.length_replicate] at a₉
    have hgD : C.g.get? D = none := by
      cases q : C.g.get? D with
      | none => rfl
      | some o => have := G.keep _ _ q; rw [fD0] at this; cases this
    refine ⟨Cl₉.fn.fn, inner1 P.toTop9 hgD 5 x 0 bt (List.replicate bt 0) hx' (by simp) (by simp; omega) _ s₉ vs _ _ R1 G₉ Cl₉ a₉ fun s' S' Cl' => ?_⟩
    have Al' : Step s s' := ((Al.trans S₈).trans S₉).grow S' fun b q => q ▸ fD0
    refine wpAny_execs_nil (ret s' _ Al' Cl' ?_ _ _)
    rw [i2, if_neg h0, hbt]
end Mine

/- part 25 -/
namespace Mine
open PySem PySem.W PySem.Spec PySem.Calls PyProof.Rows

def d2 (l : List Int) : Int := if l.isEmpty then 0 else d2i 5 l 0 l.length
def d2Ok (l : List Int) : Bool := decide (l.length ≤ 100) && (l.isEmpty || d2iOk 5 l 0 l.length)

theorem digits2int_calls {C : Cx} (P : Top10 C) {l : List Int} (ok : d2Ok l = true) : CallsTo C 6 (.ref 28) [.il l, .int 1] (.int (d2 l)) := fun A s vs Q E R G hat h => by
  have O := P.toOk
  simp only [d2Ok, Bool.and_eq_true, decide_eq_true_eq, Bool.or_eq_true] at ok
  obtain ⟨hlen, hx⟩ := ok
  obtain ⟨va, vn, rfl, ha, hn⟩ := atAll2 hat
  refine enter2 (k := 5) (bn := [Str.ofString "digits", Str.ofString "n"]) (binds := [(Str.ofString "digits", va), (Str.ofString "n", vn)]) O P.fDig rfl rfl rfl R G (fun fd e1 e2 e3 => BindsTo.of_eq (by rw [bindArgs_cong, e1, e2, e3]; rfl)) rfl (by decide) (nms rfl) ?_
  intro env s₁ Qf E' hsc R1 F Rd K sv S₁ fr G₁ hcode _ hq
  have Se : Sees [(Str.ofString "digits", .il l), (Str.ofString "n", .int 1)] env s₁.heap :=
    sees_binds (bn := [Str.ofString "digits", Str.ofString "n"]) (vs := [va, vn]) (avs := [.il l, .int 1]) K sv ⟨ha.step S₁ G.tb, hn, trivial⟩
  have kc : ∀ y, (fnScope 2).names.lookup y = some .cell → env.kindOf y = some .cell := fun y e => by unfold Env.kindOf; rw [hsc]; exact e
  have hcd : env.code = .ref 27 ∧ env.qual = Str.ofString "_digits2int" ++ ".<locals>." := by
    obtain ⟨o, fd, e1, e2, _⟩ := P.fDig.at'
    obtain ⟨q1, q2⟩ := hcode o fd e1 e2
    obtain ⟨p1, p2⟩ := P.cDig o fd e1 e2
    rw [q1, q2, p1, p2]
    exact ⟨rfl, rfl⟩
  have hqn : qualnameIn env (Str.ofString "inner") (Str.ofString "inner") = Str.ofString "_digits2int.<locals>.inner" := by
    unfold qualnameIn
    rw [kc (Str.ofString "inner") rfl, hcd.2]
    rfl
  have svn := sv (Str.ofString "n") vn (.tail _ (.head _))
  have svd := sv (Str.ofString "digits") va (.head _)
  obtain ⟨cl, hcl, hlk⟩ := clos_in (s := inScope 2 0) Rd (by
    have : (inScope 2 0).names.all (fun x => x.2 != .free || (fnScope 2).names.lookup x.1 == some .cell) = true := rfl
    unfold Env.kindOf; rw [hsc]; exact this)
  refine wpAny_execs_cons (nestDef_K rfl rfl rfl ?_)
  rw [show qualnameIn env _ _ = _ from hqn]
  refine make_inner O G₁ (.inr rfl) G₁.tb.2 hcl K.glob hcd.1 P.hdD P.bm23 rfl rfl (tb23 G₁.tb) fun s₆ Fa S₆ fFa I₆ => ?_
  have G₆ := G₁.step O S₆
  refine store_raw hsc (.inr rfl) F (Rd.step S₆ G₁.tb) (Se.step S₆ G₁.tb) G₆ rfl fun s₇ S₇ Rd₇ Se₇ ⟨w', Sw', ow', _, kw', svi, keep'⟩ => ?_
  have G₇ := F.glo O S₇ G₆
  have svd₇ := keep' _ _ (by decide) (svd.step S₆ G₁.tb)
  have svn₇ := keep' _ _ (by decide) (svn.step S₆ G₁.tb)
  have a₆ := (ha.step S₁ G.tb).step S₆ G₁.tb
  have a₇ := a₆.stepX Sw' G₆.tb (off_of_kind kw' a₆)
  obtain ⟨cd, ld, idd⟩ := svd₇.cellOf (kc _ rfl)
  obtain ⟨cn, ln, in_⟩ := svn₇.cellOf (kc _ rfl)
  obtain ⟨ci, li, ii⟩ := svi.cellOf (kc _ rfl)
  obtain ⟨tn, rfl⟩ := hn
  have I₇ : InnAt s₇.heap Fa (inScope 2 0) (inParams 2 0) (inBody 2 0) cl := by
    refine I₆.stepX Sw' G₆.tb (fun q => ?_) fun b q => ?_
    · obtain ⟨o, fd, e, d, _⟩ := I₆.at'
      rcases kw' o (q ▸ e) with ⟨_, _, d'⟩ | ⟨_, d'⟩ <;> rw [d] at d' <;> cases d'
    · subst q
      intro o vs q tk e d
      rcases kw' o e with ⟨_, _, d'⟩ | ⟨_, d'⟩ <;> rw [d] at d' <;> cases d'
  have Cl₇ : Clo2 s₇.heap cd cn ci Fa cl l := ⟨by rw [hlk]; exact ld, by rw [hlk]; exact ln, by rw [hlk]; exact li, ⟨va, idd, a₇⟩, ⟨tn, in_⟩, ii, I₇⟩
  have Al : Step s s₇ := (S₁.trans S₆).grow S₇ fr
  refine wpAny_execs_cons (wpAny_Return_some (wpAny_IfExp (Tr.run R1 hsc Se₇ G₇ (Tr.truth_list (Ev.name rfl) (by omega) (fun _ _ => rfl)) fun s₈ S₈ => ?_)))
  have G₈ := G₇.step O S₈
  have Cl₈ := Cl₇.step S₈ G₇.tb
  have Se₈ := Se₇.step S₈ G₇.tb
  cases hE : l.isEmpty with
  | true =>
    simp only [Bool.not_true, Bool.false_eq_true, if_false]
    refine Ev.run R1 hsc Se₈ G₈ Ev.int fun v s₉ S₉ a₉ => hq _ _ (h _ _ ((Al.trans S₈).trans S₉) ?_)
    rw [d2, hE, if_pos rfl]
    exact a₉
  | false =>
    simp only [Bool.not_false, if_true]
    have hx' := hx.resolve_left (by rw [hE]; nofun)
    refine call_cell K (.inr ⟨.inl (kc _ rfl), ci, li, Cl₈.ii⟩) Cl₈.fn.fn ⟨fun _ _ => rfl, fun _ _ => rfl, trivial⟩ (EvL.spl R1 hsc Se₈ G₈ (EvL.cons O Ev.int (EvL.cons O (Ev.call O (EvV.blt O rfl P.bLen.1 P.bLen.2) Keeps.builtin (EvL.cons O (Ev.name rfl) EvL.nil) (CallsTo.len (by omega)) (by omega) ⟨fun _ _ => rfl, trivial⟩) EvL.nil)) fun vs s₉ S₉ a₉ => ?_)
    have G₉ := G₈.step O S₉
    have Cl₉ := Cl₈.step S₉ G₈.tb
    refine ⟨Cl₉.fn.fn, inner2 P.toTop9 5 0 l.length l hx' (Nat.le_refl _) (by omega) _ s₉ vs _ _ R1 G₉ Cl₉ a₉ fun v s' S' a' => ?_⟩
    refine hq _ _ (h _ _ (((Al.trans S₈).trans S₉).trans S') ?_)
    rw [d2, hE]
    exact a'
end Mine

/- part 26 -/
namespace Mine
open PySem PySem.W PySem.Spec PySem.Calls PyProof.Rows

section
variable {C : Cx} {k : Nat} {ρ : Rho} {sc : Scope}
theorem CmpOk.eqB {a b : Bool} : CmpOk C .Eq (.bool a) (.bool b) (a == b) := fun A s va vb Q E _ _ ha hb h => by
  rw [show va = .bool a from ha, show vb = .bool b from hb]
  exact SeqAt.RcAt.bool_bool a b _ _ _ _ (h s StepX.refl)
theorem Ev.castA {e : Expr} {a b : AV} (h : Ev C k ρ sc e a) (q : a = b) : Ev C k ρ sc e b := q ▸ h
theorem Tr.castB {e : Expr} {a b : Bool} (h : Tr C k ρ sc e a) (q : a = b) : Tr C k ρ sc e b := q ▸ h
theorem Ev.neg {e : Expr} {pos : Pos} {i : Int} (h : Ev C k ρ sc e (.int i)) : Ev C k ρ sc (.UnaryOp .USub e pos) (.int (-i)) := fun A env s Q E R hsc S G q => by
  refine wpAny_UnaryOp (h A env s _ E R hsc S G fun v s₁ S₁ a₁ => ?_)
  obtain ⟨t, rfl⟩ := a₁
  exact PySem.P.neg_int (q _ _ (S₁.trans Step.toks) ⟨_, rfl⟩)
theorem Tr.and3 {x y z : Expr} {pos : Pos} {b c d : Bool} (O : C.Ok) (h : Tr C k ρ sc x b) (h2 : b = true → Tr C k ρ sc y c) (h3 : b = true → c = true → Tr C k ρ sc z d) : Tr C k ρ sc (.BoolOp .And [x, y, z] pos) (b && (c && d)) :=
  Tr.and_cons O h fun hb => Tr.and2 O (h2 hb) (h3 hb)
/-- an if that is not entered -/
theorem Ex1.skip {test : Expr} {body : List Stmt} {pos : Pos} {b : Bool} {N : Rho → Prop} {T : AV → Prop} (O : C.Ok) (ht : Tr C k ρ sc test b) (hb : b = false) (hn : N ρ) : Ex1 C k ρ sc (.If test body [] pos) N T :=
  Ex1.ite O ht (fun h => by rw [hb] at h; cases h) fun _ => Ex.nil hn
end
end Mine

/- part 27 -/
namespace Mine
open PySem PySem.W PySem.Spec PySem.Calls PyProof.Rows

def ri (n : Nat) : List Int := (List.range n).map Int.ofNat
def pad (l : List Int) (n : Nat) : List Int := (l ++ List.replicate n 0).take n
def turnL (g : List Int) (n : Nat) : List Int := (ri n).map fun k => 1 - g.getD ((n : Int) - 1 - k).toNat 0
def below (g : List Int) (n : Nat) (k : Int) : List Int := (ri n).filter fun j => (j != k) && ((g.getD j.toNat 0 == 1) && under j k)
def least (g : List Int) (n : Nat) : List Int := (ri n).filter fun k => (g.getD k.toNat 0 == 1) && decide (below g n k = [])
def told (le : List Int) (n : Nat) : List Int := (ri n).map fun k => if !decide ((le.filter fun j => under j k) = []) then 1 else 0
def others (m : Nat) (one : Int) : List Int := [d2 (turnL (pad (i2 one) (2 ^ m)) (2 ^ m)), Builtin.bitAnd one ((tables m).getD ((tables m).length - 2) 0), Builtin.bitOr one ((tables m).getD 1 0)]
def okOther (m : Nat) (o : Int) : Bool := (bis (tables m) o (tables m).length 0 (tables m).length != (tables m).length) && ((tables m).getD (bis (tables m) o (tables m).length 0 (tables m).length) 0 == o)
def okOne (m : Nat) (one : Int) : Bool :=
  i2Ok one && (decide ((i2 one).length ≤ 100) && (rises (pad (i2 one) (2 ^ m)) && (d2Ok (pad (i2 one) (2 ^ m)) && (d2 (pad (i2 one) (2 ^ m)) == one && (d2Ok (turnL (pad (i2 one) (2 ^ m)) (2 ^ m)) &&
  ((others m one).all (okOther m) && decide (told (least (pad (i2 one) (2 ^ m)) (2 ^ m)) (2 ^ m) = pad (i2 one) (2 ^ m))))))))
def sortedB : List Int → Bool
  | [] => true
  | x :: r => r.all (fun y => decide (x ≤ y)) && sortedB r
def okMany (m : Nat) : Bool := decide ((tables m).length = [2, 3, 6, 20].getD m 0) && (sortedB (tables m) && (tables m).all (okOne m))
def okD (d : Int) : Bool :=
  i2Ok d && (decide ((i2 d).length ≤ 100) && (d2Ok (pad (i2 d) 8) && (d2 (pad (i2 d) 8) == d && ((rises (pad (i2 d) 8) == decide (told (least (pad (i2 d) 8) 8) 8 = pad (i2 d) 8)) && rises (told (least (pad (i2 d) 8) 8) 8)))))
end Mine

/- part 28 -/
namespace Mine
open PySem PySem.W PySem.Spec PySem.Calls PyProof.Rows
theorem okMany0 : okMany 0 = true := by decide +kernel
theorem okMany1 : okMany 1 = true := by decide +kernel
theorem okMany2 : okMany 2 = true := by decide +kernel
theorem okMany3 : okMany 3 = true := by decide +kernel
def okChunk (j : Nat) : Bool := (List.range 16).all fun d => okD ((d + 16 * j : Nat) : Int)
theorem okChunka : okChunk 0 = true := by decide +kernel
theorem okChunkb : okChunk 1 = true := by decide +kernel
theorem okChunkc : okChunk 2 = true := by decide +kernel
theorem okChunkd : okChunk 3 = true := by decide +kernel
theorem okChunke : okChunk 4 = true := by decide +kernel
theorem okChunkf : okChunk 5 = true := by decide +kernel
theorem okChunkg : okChunk 6 = true := by decide +kernel
theorem okChunkh : okChunk 7 = true := by decide +kernel
theorem okChunki : okChunk 8 = true := by decide +kernel
theorem okChunkj : okChunk 9 = true := by decide +kernel
theorem okChunkk : okChunk 10 = true := by decide +kernel
theorem okChunkl : okChunk 11 = true := by decide +kernel
theorem okChunkm : okChunk 12 = true := by decide +kernel
theorem okChunkn : okChunk 13 = true := by decide +kernel
theorem okChunko : okChunk 14 = true := by decide +kernel
theorem okChunkp : okChunk 15 = true := by decide +kernel
theorem okMany_all {m : Nat} (h : m < 4) : okMany m = true := by
  have : m = 0 ∨ m = 1 ∨ m = 2 ∨ m = 3 := by omega
  rcases this with rfl | rfl | rfl | rfl
  · exact okMany0
  · exact okMany1
  · exact okMany2
  · exact okMany3
theorem okD_all {d : Nat} (h : d < 256) : okD (d : Nat) = true := by
  have key : ∀ j, d / 16 = j → okChunk j = true → okD (d : Nat) = true := by
    intro j e q
    have := List.all_eq_true.mp q (d % 16) (by rw [List.mem_range]; omega)
    rwa [show d % 16 + 16 * j = d from by omega] at this
  have : d / 16 < 16 := by omega
  match hj : d / 16, this with
  | 0, _ => exact key 0 hj okChunka
  | 1, _ => exact key 1 hj okChunkb
  | 2, _ => exact key 2 hj okChunkc
  | 3, _ => exact key 3 hj okChunkd
  | 4, _ => exact key 4 hj okChunke
  | 5, _ => exact key 5 hj okChunkf
  | 6, _ => exact key 6 hj okChunkg
  | 7, _ => exact key 7 hj okChunkh
  | 8, _ => exact key 8 hj okChunki
  | 9, _ => exact key 9 hj okChunkj
  | 10, _ => exact key 10 hj okChunkk
  | 11, _ => exact key 11 hj okChunkl
  | 12, _ => exact key 12 hj okChunkm
  | 13, _ => exact key 13 hj okChunkn
  | 14, _ => exact key 14 hj okChunko
  | 15, _ => exact key 15 hj okChunkp
  | n + 16, h => exact absurd h (by omega)
end Mine

/- part 29 -/
namespace Mine
open PySem PySem.W PySem.Spec PySem.Calls PyProof.Rows

def nthS (l : List Stmt) (j : Nat) : Stmt := match l[j]? with
  | some x => x
  | none => .Return none ⟨0, 0, 0, 0⟩
def lawSt (j : Nat) : Stmt := nthS (fnBody 10) j
def loopBody : List Stmt := match lawSt 3 with
  | .For _ _ b _ _ => b
  | _ => []
def loopSt (j : Nat) : Stmt := nthS loopBody j

theorem sz_pos (m : Nat) : 0 < 2 ^ m := Nat.two_pow_pos m
theorem sz_le {m : Nat} (h : m < 4) : 2 ^ m ≤ 8 := by
  have : m = 0 ∨ m = 1 ∨ m = 2 ∨ m = 3 := by omega
  rcases this with rfl | rfl | rfl | rfl <;> decide
theorem ri_len {n : Nat} : (ri n).length = n := by simp [ri]
theorem pad_len {l : List Int} {n : Nat} : (pad l n).length = n := by simp [pad]
theorem sortedB_pw : ∀ {l : List Int}, sortedB l = true → l.Pairwise (· ≤ ·)
  | [], _ => .nil
  | x :: r, h => by
    simp only [sortedB, Bool.and_eq_true, List.all_eq_true, decide_eq_true_eq] at h
    exact .cons h.1 (sortedB_pw h.2)

section
variable {C : Cx} {ns : List Int} {m : Nat}
abbrev rho1 (m : Nat) (ns : List Int) : Rho := [(Str.ofString "many", .int (m : Nat)), (Str.ofString "script", .il ns)]
abbrev rho2 (m : Nat) (ns : List Int) : Rho := (Str.ofString "order", .il (tables m)) :: (Str.ofString "size", .int ((2 ^ m : Nat) : Int)) :: rho1 m ns
abbrev TT (b : AV) : Prop := b = .bool true

theorem law0 (P : Top10 C) (hm : ns.sum.fmod 4 = (m : Nat)) : Ex1 C 9 [(Str.ofString "script", .il ns)] (fnScope 10) (lawSt 0) (fun r => r = rho1 m ns) TT := by
  have O := P.toOk
  exact Ex1.assign O (.inl rfl) (Ev.cast (Ev.bin O (Ev.call O (EvV.blt O rfl P.bSum.1 P.bSum.2) Keeps.builtin (EvL.cons O (Ev.name rfl) EvL.nil) CallsTo.sum (by omega) ⟨fun _ _ => rfl, trivial⟩) Ev.int (BinOk.mod (by decide))) hm) rfl (fun env h => rfl)
theorem law1 (P : Top10 C) (hm : m < 4) : Ex1 C 9 (rho1 m ns) (fnScope 10) (lawSt 1) (fun r => r = rho2 m ns) TT := by
  have O := P.toOk
  refine Ex1.pair O (.inr rfl) (.inl rfl) (EvL.cons O (Ev.cast (b := ((2 ^ m : Nat) : Int)) (Ev.bin O Ev.int (Ev.name rfl) (BinOk.pow (by omega) ?_)) ?_) (EvL.cons O (Ev.call O (EvV.glob O rfl P.nTab) (Keeps.at P.fTab) (EvL.cons O (Ev.name rfl) EvL.nil) (tables_calls P.toTop9 m (by omega)) (by omega) ⟨fun _ _ => rfl, trivial⟩) EvL.nil)) rfl (fun env h => rfl) (fun env h => by cases env; cases h; rfl)
  · rw [show Builtin.Int.intBits 2 = 2 from rfl]; omega
  · rw [Int.toNat_natCast]; simp
theorem law2 (P : Top10 C) (hm : m < 4) (ok : okMany m = true) : Ex1 C 9 (rho2 m ns) (fnScope 10) (lawSt 2) (fun r => r = rho2 m ns) TT := by
  have O := P.toOk
  simp only [okMany, Bool.and_eq_true, decide_eq_true_eq] at ok
  obtain ⟨hl, hs, _⟩ := ok
  have hl20 : (tables m).length ≤ 20 := by
    rw [hl]
    have : m = 0 ∨ m = 1 ∨ m = 2 ∨ m = 3 := by omega
    rcases this with rfl | rfl | rfl | rfl <;> decide
  refine Ex1.skip O (Tr.or2 O (Tr.cmp O (Ev.call O (EvV.blt O rfl P.bLen.1 P.bLen.2) Keeps.builtin (EvL.cons O (Ev.name rfl) EvL.nil) (CallsTo.len (by omega)) (by omega) ⟨fun _ _ => rfl, trivial⟩) (Ev.item O (Ev.list O (l := [2, 3, 6, 20]) (EvL.cons O Ev.int (EvL.cons O Ev.int (EvL.cons O Ev.int (EvL.cons O Ev.int EvL.nil)))) (by simp)) (Ev.name rfl) (by omega) (getD_some (by simp; omega)) (by simp)) CmpOk.ne)
    (fun _ => Tr.cmp O (Ev.name rfl) (Ev.call O (EvV.blt O rfl P.bSorted.1 P.bSorted.2) Keeps.builtin (EvL.cons O (Ev.name rfl) EvL.nil) (CallsTo.sorted (by omega) (sortedB_pw hs)) (by omega) ⟨fun _ _ => rfl, trivial⟩) CmpOk.neL)) ?_ rfl
  rw [hl, Int.toNat_natCast]
  have : m = 0 ∨ m = 1 ∨ m = 2 ∨ m = 3 := by omega
  rcases this with rfl | rfl | rfl | rfl <;> simp
end
end Mine

/- part 30 -/
namespace Mine
open PySem PySem.W PySem.Spec PySem.Calls PyProof.Rows

section
variable {C : Cx} {ns : List Int} {m : Nat} {one : Int}
abbrev rhoL (m : Nat) (ns : List Int) (one : Int) : Rho := (Str.ofString "one", .int one) :: rho2 m ns
abbrev gOf (m : Nat) (one : Int) : List Int := pad (i2 one) (2 ^ m)
abbrev rhoF (m : Nat) (ns : List Int) (one : Int) : Rho := (Str.ofString "figures", .il (gOf m one)) :: rhoL m ns one
abbrev rhoT (m : Nat) (ns : List Int) (one : Int) : Rho := (Str.ofString "turned", .int (d2 (turnL (gOf m one) (2 ^ m)))) :: rhoF m ns one
abbrev rhoK (m : Nat) (ns : List Int) (one : Int) : Rho := (Str.ofString "least", .il (least (gOf m one) (2 ^ m))) :: rhoT m ns one

theorem filter_tt {l : List Int} : l.filter (fun _ => true) = l := List.filter_eq_self.mpr fun _ _ => rfl
theorem pad_cast {l : List Int} {n : Nat} : (l ++ (List.replicate ((n : Int)).toNat [(0 : Int)]).flatten).take ((n : Int)).toNat = pad l n := by
  rw [Int.toNat_natCast, List.flatten_replicate_singleton]; rfl

theorem sz_int {m : Nat} (h : m < 4) : 0 ≤ ((2 ^ m : Nat) : Int) ∧ ((2 ^ m : Nat) : Int) ≤ 8 := ⟨Int.natCast_nonneg _, Int.ofNat_le.mpr (sz_le h)⟩
theorem lp0 (P : Top10 C) (hm : m < 4) (ok : okOne m one = true) : Ex1 C 9 (rhoL m ns one) (fnScope 10) (loopSt 0) (fun r => r = rhoF m ns one) TT := by
  have O := P.toOk
  have h8 := sz_le hm
  obtain ⟨z1, z2⟩ := sz_int hm
  simp only [okOne, Bool.and_eq_true, decide_eq_true_eq] at ok
  refine Ex1.assign O (.inr rfl) (Ev.castA (Ev.upto O (Ev.bin O (Ev.call O (EvV.glob O rfl P.nInt) (Keeps.at P.fInt) (EvL.cons O (Ev.name rfl) (EvL.cons O Ev.int EvL.nil)) (int2digits_calls P ok.1) (by omega) ⟨fun _ _ => rfl, fun _ _ => rfl, trivial⟩) (Ev.bin O (Ev.list O (l := [0]) (EvL.cons O Ev.int EvL.nil) (by simp)) (Ev.name rfl) (BinOk.rep (Int.lt_of_le_of_lt z2 (by decide)) (by rw [Int.toNat_natCast]; exact Nat.le_trans (Nat.le_of_eq (Nat.one_mul _)) (Nat.le_trans h8 (by decide))) (Int.le_trans (by decide) z1))) (BinOk.cat ?_)) (Ev.name rfl) z1 ?_) (congrArg AV.il pad_cast)) rfl (fun env h => rfl)
  · rw [List.flatten_replicate_singleton, List.length_replicate, Int.toNat_natCast]; omega
  · rw [List.flatten_replicate_singleton, List.length_append, List.length_replicate, Int.toNat_natCast]; omega

theorem lp1 (P : Top10 C) (hm : m < 4) (ok : okOne m one = true) : Ex1 C 9 (rhoF m ns one) (fnScope 10) (loopSt 1) (fun r => r = rhoF m ns one) TT := by
  have O := P.toOk
  have h8 := sz_le hm
  simp only [okOne, Bool.and_eq_true, decide_eq_true_eq] at ok
  obtain ⟨_, _, o3, o4, o5, _⟩ := ok
  refine Ex1.skip O (Tr.or2 O (Tr.not (Tr.of_bool (Ev.call O (EvV.glob O rfl P.nRis) (Keeps.at P.fRis) (EvL.cons O (Ev.name rfl) EvL.nil) (rises_calls P.toTop9 (by rw [pad_len]; omega)) (by omega) ⟨fun _ _ => rfl, trivial⟩) (fun _ _ => rfl)))
    (fun _ => Tr.cmp O (Ev.call O (EvV.glob O rfl P.nDig) (Keeps.at P.fDig) (EvL.cons O (Ev.name rfl) (EvL.cons O Ev.int EvL.nil)) (digits2int_calls P o4) (by omega) ⟨fun _ _ => rfl, fun _ _ => rfl, trivial⟩) (Ev.name rfl) CmpOk.ne)) ?_ rfl
  rw [o3, beq_iff_eq.mp o5]
  simp

theorem lp2 (P : Top10 C) (hm : m < 4) (ok : okOne m one = true) : Ex1 C 9 (rhoF m ns one) (fnScope 10) (loopSt 2) (fun r => r = rhoT m ns one) TT := by
  have O := P.toOk
  have h8 := sz_le hm
  simp only [okOne, Bool.and_eq_true, decide_eq_true_eq] at ok
  obtain ⟨_, _, _, _, _, o6, _⟩ := ok
  refine Ex1.assign O (.inl rfl) (Ev.call O (EvV.glob O rfl P.nDig) (Keeps.at P.fDig) (EvL.cons O (Ev.castA (b := .il (turnL (gOf m one) (2 ^ m))) (Ev.comp (p := fun _ => true) (f := fun k => 1 - (gOf m one).getD (((2 ^ m : Nat) : Int) - 1 - k).toNat 0) O (.loc rfl (fun _ _ => rfl) (fun _ => rfl)) rfl (by decide) rfl (av := .rng (2 ^ m)) (Ev.call O (EvV.blt O rfl P.bRange.1 P.bRange.2) Keeps.type (EvL.cons O (Ev.name rfl) EvL.nil) CallsTo.range (by omega) ⟨fun _ _ => rfl, trivial⟩) rfl ?_ (fun _ _ => Trs.nil) (fun k hk _ => ?_)) ?_) (EvL.cons O Ev.int EvL.nil)) (digits2int_calls P o6) (by omega) ⟨fun _ _ => rfl, fun _ _ => rfl, trivial⟩) rfl (fun env h => rfl)
  · simp only [List.length_map, List.length_range]; omega
  · obtain ⟨k0, k1, k2⟩ := mem_range_int hk
    exact Ev.bin O Ev.int (Ev.item O (Ev.name rfl) (Ev.bin O (Ev.bin O (Ev.name rfl) Ev.int BinOk.sub) (Ev.name rfl) BinOk.sub) (by omega) (getD_some (by rw [pad_len]; omega)) (by rw [pad_len]; omega)) BinOk.sub
  · rw [filter_tt]; rfl
end
end Mine

/- part 31 -/
namespace Mine
open PySem PySem.W PySem.Spec PySem.Calls PyProof.Rows

theorem sub_skip {ρ ρ' : Rho} {y : Str} {a : AV} (h : ρ.lookup y = none) (r : SubR ρ ρ') : SubR ρ ((y, a) :: ρ') := fun x av e => by
  rw [List.lookup_cons]
  cases hx : x == y with
  | true => rw [beq_iff_eq.mp hx, h] at e; cases e
  | false => exact r x av e
theorem tab_len {m : Nat} (hm : m < 4) (ok : okMany m = true) : 2 ≤ (tables m).length ∧ (tables m).length ≤ 20 := by
  simp only [okMany, Bool.and_eq_true, decide_eq_true_eq] at ok
  rw [ok.1]
  have : m = 0 ∨ m = 1 ∨ m = 2 ∨ m = 3 := by omega
  rcases this with rfl | rfl | rfl | rfl <;> decide

section
variable {C : Cx} {ns : List Int} {m : Nat} {one : Int}

theorem lp3 (P : Top10 C) (hm : m < 4) (okm : okMany m = true) (ok : okOne m one = true) : Ex1 C 9 (rhoT m ns one) (fnScope 10) (loopSt 3) (fun r => r = rhoT m ns one) TT := by
  have O := P.toOk
  obtain ⟨l2, l20⟩ := tab_len hm okm
  simp only [okOne, Bool.and_eq_true, decide_eq_true_eq] at ok
  obtain ⟨_, _, _, _, _, _, o7, _⟩ := ok
  refine Ex1.loop (av := .il (others m one)) (l := others m one) (ρI := fun _ => rhoT m ns one) O (.inl rfl) (Ev.list O (EvL.cons O (Ev.name rfl) (EvL.cons O (Ev.bin O (Ev.name rfl) (Ev.itemNeg O (Ev.name rfl) (Ev.neg Ev.int) (by decide) (by omega) ?_ (by omega)) BinOk.and) (EvL.cons O (Ev.bin O (Ev.name rfl) (Ev.item O (Ev.name rfl) Ev.int (by decide) (getD_some (Nat.lt_of_lt_of_le (by decide) l2)) (by omega)) BinOk.or) EvL.nil))) (by simp [others])) rfl (by simp [others]) (fun _ _ e => e) (fun i o ho => ?_) rfl
  · rw [show (-2 + ((tables m).length : Int)).toNat = (tables m).length - 2 from by omega]
    exact getD_some (by omega)
  · have hok := List.all_eq_true.mp o7 o (List.mem_of_getElem? ho)
    simp only [okOther, Bool.and_eq_true] at hok
    obtain ⟨k1, k2⟩ := hok
    have hle := @bis_le (tables m) o (tables m).length 0 (tables m).length (by omega)
    have hlt : bis (tables m) o (tables m).length 0 (tables m).length < (tables m).length := by
      have : bis (tables m) o (tables m).length 0 (tables m).length ≠ (tables m).length := by simpa using k1
      omega
    refine Ex.cons O (Ex1.assign (N := fun r => r = _) O (.inl rfl) (Ev.call O (EvV.glob O rfl P.nBis) (Keeps.at P.fBis) (EvL.cons O (Ev.name rfl) (EvL.cons O (Ev.name rfl) EvL.nil)) (bisect_calls P.toTop9 (by omega)) (by omega) ⟨fun _ _ => rfl, fun _ _ => rfl, trivial⟩) rfl (fun env h => rfl)) ?_
    rintro r rfl
    refine Ex.one O (Ex1.skip O (Tr.or2 O (Tr.cmp O (Ev.name rfl) (Ev.call O (EvV.blt O rfl P.bLen.1 P.bLen.2) Keeps.builtin (EvL.cons O (Ev.name rfl) EvL.nil) (CallsTo.len (by omega)) (by omega) ⟨fun _ _ => rfl, trivial⟩) CmpOk.eq)
      (fun _ => Tr.cmp O (Ev.item O (Ev.name rfl) (Ev.name rfl) (by omega) (getD_some (by rw [Int.toNat_natCast]; exact hlt)) (by omega)) (Ev.name rfl) CmpOk.ne)) ?_ (sub_skip rfl (sub_skip rfl fun _ _ e => e)))
    rw [Int.toNat_natCast, beq_iff_eq.mp k2]
    simp
    omega

theorem lp4 (P : Top10 C) (hm : m < 4) : Ex1 C 9 (rhoT m ns one) (fnScope 10) (loopSt 4) (fun r => r = rhoK m ns one) TT := by
  have O := P.toOk
  have h8 := sz_le hm
  obtain ⟨z1, z2⟩ := sz_int hm
  refine Ex1.assign O (.inr rfl) (Ev.castA (b := .il (least (gOf m one) (2 ^ m))) (Ev.comp (p := fun k => ((gOf m one).getD k.toNat 0 == 1) && decide (below (gOf m one) (2 ^ m) k = [])) (f := fun k => k) O (.cel rfl (fun _ _ => rfl) (fun _ => rfl)) rfl (by decide) rfl (av := .rng (2 ^ m)) (Ev.call O (EvV.blt O rfl P.bRange.1 P.bRange.2) Keeps.type (EvL.cons O (Ev.name rfl) EvL.nil) CallsTo.range (by omega) ⟨fun _ _ => rfl, trivial⟩) rfl ?_ (fun k hk => ?_) (fun k hk _ => Ev.name rfl)) ?_) rfl (fun env h => by cases env; cases h; rfl)
  · simp only [List.length_map, List.length_range]; omega
  · obtain ⟨k0, k1, k2⟩ := mem_range_int hk
    refine Trs.one (Tr.and2 O (Tr.cmp O (Ev.item O (Ev.name rfl) (Ev.name rfl) k0 (getD_some (by rw [pad_len]; exact k1)) (by rw [pad_len]; omega)) Ev.int CmpOk.eq) fun _ => Tr.cmp O (Ev.castA (b := .il (below (gOf m one) (2 ^ m) k)) (Ev.comp (p := fun j => (j != k) && (((gOf m one).getD j.toNat 0 == 1) && under j k)) (f := fun j => j) O (.loc rfl (fun _ _ => rfl) (fun _ => rfl)) rfl (by decide) rfl (av := .rng (2 ^ m)) (Ev.call O (EvV.blt O rfl P.bRange.1 P.bRange.2) Keeps.type (EvL.cons O (Ev.name rfl) EvL.nil) CallsTo.range (by omega) ⟨fun _ _ => rfl, trivial⟩) rfl ?_ (fun j hj => ?_) (fun j hj _ => Ev.name rfl)) ?_) (Ev.list O EvL.nil (by simp)) CmpOk.eqL)
    · simp only [List.length_map, List.length_range]; omega
    · obtain ⟨j0, j1, j2⟩ := mem_range_int hj
      exact Trs.one (Tr.and3 O (Tr.cmp O (Ev.name rfl) (Ev.name rfl) CmpOk.ne) (fun _ => Tr.cmp O (Ev.item O (Ev.name rfl) (Ev.name rfl) j0 (getD_some (by rw [pad_len]; exact j1)) (by rw [pad_len]; omega)) Ev.int CmpOk.eq) fun _ _ => Tr.of_bool (Ev.call O (EvV.glob O rfl P.nUnd) (Keeps.at P.fUnd) (EvL.cons O (Ev.name rfl) (EvL.cons O (Ev.name rfl) EvL.nil)) (under_calls P.toTop9) (by omega) ⟨fun _ _ => rfl, fun _ _ => rfl, trivial⟩) (fun _ _ => rfl))
    · rw [List.map_id']; rfl
  · rw [List.map_id']; rfl

theorem lp5 (P : Top10 C) (hm : m < 4) (ok : okOne m one = true) : Ex1 C 9 (rhoK m ns one) (fnScope 10) (loopSt 5) (fun r => r = rhoK m ns one) TT := by
  have O := P.toOk
  have h8 := sz_le hm
  obtain ⟨z1, z2⟩ := sz_int hm
  simp only [okOne, Bool.and_eq_true, decide_eq_true_eq] at ok
  obtain ⟨_, _, _, _, _, _, _, o8⟩ := ok
  have hle : (least (gOf m one) (2 ^ m)).length ≤ 8 := Nat.le_trans (List.length_filter_le _ _) (by rw [ri_len]; exact h8)
  refine Ex1.skip O (Tr.cmp O (Ev.castA (b := .il (told (least (gOf m one) (2 ^ m)) (2 ^ m))) (Ev.comp (p := fun _ => true) (f := fun k => if !decide (((least (gOf m one) (2 ^ m)).filter fun j => under j k) = []) then 1 else 0) O (.cel rfl (fun _ _ => rfl) (fun _ => rfl)) rfl (by decide) rfl (av := .rng (2 ^ m)) (Ev.call O (EvV.blt O rfl P.bRange.1 P.bRange.2) Keeps.type (EvL.cons O (Ev.name rfl) EvL.nil) CallsTo.range (by omega) ⟨fun _ _ => rfl, trivial⟩) rfl ?_ (fun _ _ => Trs.nil) (fun k hk _ => ?_)) ?_) (Ev.name rfl) CmpOk.neL) ?_ rfl
  · simp only [List.length_map, List.length_range]; omega
  · refine Ev.call O (EvV.blt O rfl P.bInt.1 P.bInt.2) Keeps.type (EvL.cons O (Ev.cmp O (Ev.castA (b := .il ((least (gOf m one) (2 ^ m)).filter fun j => under j k)) (Ev.comp (p := fun j => under j k) (f := fun j => j) O (.loc rfl (fun _ _ => rfl) (fun _ => rfl)) rfl (by decide) rfl (Ev.name rfl) rfl (by omega) (fun j hj => ?_) (fun j hj _ => Ev.name rfl)) ?_) (Ev.list O EvL.nil (by simp)) CmpOk.neL) EvL.nil) CallsTo.intB (by omega) ⟨fun _ _ => rfl, trivial⟩
    · exact Trs.one (Tr.of_bool (Ev.call O (EvV.glob O rfl P.nUnd) (Keeps.at P.fUnd) (EvL.cons O (Ev.name rfl) (EvL.cons O (Ev.name rfl) EvL.nil)) (under_calls P.toTop9) (by omega) ⟨fun _ _ => rfl, fun _ _ => rfl, trivial⟩) (fun _ _ => rfl))
    · rw [List.map_id']
  · rw [filter_tt]; rfl
  · rw [o8]; simp
end
end Mine

/- part 32 -/
namespace Mine
open PySem PySem.W PySem.Spec PySem.Calls PyProof.Rows

section
variable {C : Cx} {ns : List Int} {m d : Nat} {one : Int}

theorem loop_body (P : Top10 C) (hm : m < 4) (okm : okMany m = true) (ok : okOne m one = true) : Ex C 9 (rhoL m ns one) (fnScope 10) loopBody (fun ρ' => SubR (rho2 m ns) ρ') TT := by
  have O := P.toOk
  show Ex C 9 (rhoL m ns one) (fnScope 10) [loopSt 0, loopSt 1, loopSt 2, loopSt 3, loopSt 4, loopSt 5] _ _
  refine Ex.cons O (lp0 P hm ok) ?_
  rintro r rfl
  refine Ex.cons O (lp1 P hm ok) ?_
  rintro r rfl
  refine Ex.cons O (lp2 P hm ok) ?_
  rintro r rfl
  refine Ex.cons O (lp3 P hm okm ok) ?_
  rintro r rfl
  refine Ex.cons O (lp4 P hm) ?_
  rintro r rfl
  refine Ex.cons O (lp5 P hm ok) ?_
  rintro r rfl
  exact Ex.nil (sub_skip rfl (sub_skip rfl (sub_skip rfl (sub_skip rfl fun _ _ e => e))))

theorem law3 (P : Top10 C) (hm : m < 4) (okm : okMany m = true) : Ex1 C 9 (rho2 m ns) (fnScope 10) (lawSt 3) (fun r => r = rho2 m ns) TT := by
  have O := P.toOk
  have okm' := okm
  simp only [okMany, Bool.and_eq_true, decide_eq_true_eq] at okm'
  obtain ⟨_, _, hall⟩ := okm'
  exact Ex1.loop (av := .il (tables m)) (l := tables m) (ρI := fun _ => rho2 m ns) O (.inl rfl) (Ev.name rfl) rfl (by have := (tab_len hm okm).2; omega) (fun _ _ e => e) (fun i o ho => loop_body P hm okm (List.all_eq_true.mp hall o (List.mem_of_getElem? ho))) rfl

abbrev gD (d : Nat) : List Int := pad (i2 (d : Nat)) 8
abbrev rhoD (m d : Nat) (ns : List Int) : Rho := (Str.ofString "drawn", .il (gD d)) :: rho2 m ns
abbrev rhoE (m d : Nat) (ns : List Int) : Rho := (Str.ofString "least", .il (least (gD d) 8)) :: rhoD m d ns
abbrev rhoG (m d : Nat) (ns : List Int) : Rho := (Str.ofString "told", .il (told (least (gD d) 8) 8)) :: rhoE m d ns
abbrev HD (ns : List Int) (d : Nat) : Prop := Int.fmod (if (ns ++ [0]).getD 0 0 < 0 then -((ns ++ [0]).getD 0 0) else (ns ++ [0]).getD 0 0) 256 = ((d : Nat) : Int)

theorem law4 (P : Top10 C) (hlen : ns.length ≤ 63) (hd : HD ns d) (ok : okD (d : Nat) = true) : Ex1 C 9 (rho2 m ns) (fnScope 10) (lawSt 4) (fun r => r = rhoD m d ns) TT := by
  have O := P.toOk
  simp only [okD, Bool.and_eq_true, decide_eq_true_eq] at ok
  obtain ⟨o1, o2, _⟩ := ok
  refine Ex1.assign O (.inr rfl) (Ev.castA (b := .il (gD d)) (Ev.upto O (Ev.bin O (Ev.call O (EvV.glob O rfl P.nInt) (Keeps.at P.fInt) (EvL.cons O (Ev.cast (b := (d : Nat)) (Ev.bin O (Ev.call O (EvV.blt O rfl P.bAbs.1 P.bAbs.2) Keeps.builtin (EvL.cons O (Ev.item O (Ev.bin O (Ev.name rfl) (Ev.list O (l := [0]) (EvL.cons O Ev.int EvL.nil) (by simp)) (BinOk.cat (by simp; omega))) Ev.int (by decide) (getD_some (by simp)) (by simp; omega)) EvL.nil) CallsTo.abs (by omega) ⟨fun _ _ => rfl, trivial⟩) Ev.int (BinOk.mod (by decide))) hd) (EvL.cons O Ev.int EvL.nil)) (int2digits_calls P o1) (by omega) ⟨fun _ _ => rfl, fun _ _ => rfl, trivial⟩) (Ev.bin O (Ev.list O (l := [0]) (EvL.cons O Ev.int EvL.nil) (by simp)) Ev.int (BinOk.rep (by decide) (by decide) (by decide))) (BinOk.cat ?_)) Ev.int (by decide) ?_) rfl) rfl (fun env h => rfl)
  · have : (List.replicate (Int.toNat 8) [(0 : Int)]).flatten.length = 8 := rfl
    rw [this]; omega
  · have : (List.replicate (Int.toNat 8) [(0 : Int)]).flatten.length = 8 := rfl
    rw [List.length_append, this]; omega

theorem law5 (P : Top10 C) (hlen : ns.length ≤ 63) (hd : HD ns d) (ok : okD (d : Nat) = true) : Ex1 C 9 (rhoD m d ns) (fnScope 10) (lawSt 5) (fun r => r = rhoD m d ns) TT := by
  have O := P.toOk
  simp only [okD, Bool.and_eq_true, decide_eq_true_eq] at ok
  obtain ⟨o1, o2, o3, o4, _⟩ := ok
  refine Ex1.skip O (Tr.cmp O (Ev.call O (EvV.glob O rfl P.nDig) (Keeps.at P.fDig) (EvL.cons O (Ev.name rfl) (EvL.cons O Ev.int EvL.nil)) (digits2int_calls P o3) (by omega) ⟨fun _ _ => rfl, fun _ _ => rfl, trivial⟩)
    (Ev.cast (b := (d : Nat)) (Ev.bin O (Ev.call O (EvV.blt O rfl P.bAbs.1 P.bAbs.2) Keeps.builtin (EvL.cons O (Ev.item O (Ev.bin O (Ev.name rfl) (Ev.list O (l := [0]) (EvL.cons O Ev.int EvL.nil) (by simp)) (BinOk.cat (by simp; omega))) Ev.int (by decide) (getD_some (by simp)) (by simp; omega)) EvL.nil) CallsTo.abs (by omega) ⟨fun _ _ => rfl, trivial⟩) Ev.int (BinOk.mod (by decide))) hd) CmpOk.ne) ?_ rfl
  rw [beq_iff_eq.mp o4]
  simp

theorem law6 (P : Top10 C) : Ex1 C 9 (rhoD m d ns) (fnScope 10) (lawSt 6) (fun r => r = rhoE m d ns) TT := by
  have O := P.toOk
  refine Ex1.assign O (.inr rfl) (Ev.castA (b := .il (least (gD d) 8)) (Ev.comp (p := fun k => ((gD d).getD k.toNat 0 == 1) && decide (below (gD d) 8 k = [])) (f := fun k => k) O (.cel rfl (fun _ _ => rfl) (fun _ => rfl)) rfl (by decide) rfl (av := .rng 8) (Ev.call O (EvV.blt O rfl P.bRange.1 P.bRange.2) Keeps.type (EvL.cons O Ev.int EvL.nil) (CallsTo.range (n := 8)) (by omega) ⟨fun _ _ => rfl, trivial⟩) rfl ?_ (fun k hk => ?_) (fun k hk _ => Ev.name rfl)) ?_) rfl (fun env h => by cases env; cases h; rfl)
  · simp
  · obtain ⟨k0, k1, k2⟩ := mem_range_int hk
    refine Trs.one (Tr.and2 O (Tr.cmp O (Ev.item O (Ev.name rfl) (Ev.name rfl) k0 (getD_some (by rw [pad_len]; exact k1)) (by rw [pad_len]; omega)) Ev.int CmpOk.eq) fun _ => Tr.cmp O (Ev.castA (b := .il (below (gD d) 8 k)) (Ev.comp (p := fun j => (j != k) && (((gD d).getD j.toNat 0 == 1) && under j k)) (f := fun j => j) O (.loc rfl (fun _ _ => rfl) (fun _ => rfl)) rfl (by decide) rfl (av := .rng 8) (Ev.call O (EvV.blt O rfl P.bRange.1 P.bRange.2) Keeps.type (EvL.cons O Ev.int EvL.nil) (CallsTo.range (n := 8)) (by omega) ⟨fun _ _ => rfl, trivial⟩) rfl ?_ (fun j hj => ?_) (fun j hj _ => Ev.name rfl)) ?_) (Ev.list O EvL.nil (by simp)) CmpOk.eqL)
    · simp
    · obtain ⟨j0, j1, j2⟩ := mem_range_int hj
      exact Trs.one (Tr.and3 O (Tr.cmp O (Ev.name rfl) (Ev.name rfl) CmpOk.ne) (fun _ => Tr.cmp O (Ev.item O (Ev.name rfl) (Ev.name rfl) j0 (getD_some (by rw [pad_len]; exact j1)) (by rw [pad_len]; omega)) Ev.int CmpOk.eq) fun _ _ => Tr.of_bool (Ev.call O (EvV.glob O rfl P.nUnd) (Keeps.at P.fUnd) (EvL.cons O (Ev.name rfl) (EvL.cons O (Ev.name rfl) EvL.nil)) (under_calls P.toTop9) (by omega) ⟨fun _ _ => rfl, fun _ _ => rfl, trivial⟩) (fun _ _ => rfl))
    · rw [List.map_id']; rfl
  · rw [List.map_id']; rfl

theorem law7 (P : Top10 C) : Ex1 C 9 (rhoE m d ns) (fnScope 10) (lawSt 7) (fun r => r = rhoG m d ns) TT := by
  have O := P.toOk
  have hle : (least (gD d) 8).length ≤ 8 := Nat.le_trans (List.length_filter_le _ _) (by rw [ri_len]; omega)
  refine Ex1.assignComp (p := fun _ => true) (f := fun k => if !decide (((least (gD d) 8).filter fun j => under j k) = []) then 1 else 0) O (.cel rfl (fun _ _ => rfl) (fun _ => rfl)) rfl (by decide) rfl (av := .rng 8) (Ev.call O (EvV.blt O rfl P.bRange.1 P.bRange.2) Keeps.type (EvL.cons O Ev.int EvL.nil) (CallsTo.range (n := 8)) (by omega) ⟨fun _ _ => rfl, trivial⟩) rfl ?_ (fun _ _ => Trs.nil) (fun k hk _ => ?_) (.inl rfl) ?_ (fun env h => by cases env; cases h; rfl)
  · simp
  · refine Ev.call O (EvV.blt O rfl P.bInt.1 P.bInt.2) Keeps.type (EvL.cons O (Ev.cmp O (Ev.castA (b := .il ((least (gD d) 8).filter fun j => under j k)) (Ev.comp (p := fun j => under j k) (f := fun j => j) O (.loc rfl (fun _ _ => rfl) (fun _ => rfl)) rfl (by decide) rfl (Ev.name rfl) rfl (by omega) (fun j hj => ?_) (fun j hj _ => Ev.name rfl)) ?_) (Ev.list O EvL.nil (by simp)) CmpOk.neL) EvL.nil) CallsTo.intB (by omega) ⟨fun _ _ => rfl, trivial⟩
    · exact Trs.one (Tr.of_bool (Ev.call O (EvV.glob O rfl P.nUnd) (Keeps.at P.fUnd) (EvL.cons O (Ev.name rfl) (EvL.cons O (Ev.name rfl) EvL.nil)) (under_calls P.toTop9) (by omega) ⟨fun _ _ => rfl, fun _ _ => rfl, trivial⟩) (fun _ _ => rfl))
    · rw [List.map_id']
  · rw [filter_tt]; rfl

theorem law8 (P : Top10 C) (ok : okD (d : Nat) = true) : Ex1 C 9 (rhoG m d ns) (fnScope 10) (lawSt 8) (fun _ => False) TT := by
  have O := P.toOk
  simp only [okD, Bool.and_eq_true, decide_eq_true_eq] at ok
  obtain ⟨_, _, _, _, o5, o6⟩ := ok
  have htl : (told (least (gD d) 8) 8).length ≤ 100 := by simp [told, ri]
  refine Ex1.ret (av := .bool true) (Ev.castA (Ev.and2 O (Ev.cmp O (Ev.call O (EvV.glob O rfl P.nRis) (Keeps.at P.fRis) (EvL.cons O (Ev.name rfl) EvL.nil) (rises_calls P.toTop9 (by rw [pad_len]; omega)) (by omega) ⟨fun _ _ => rfl, trivial⟩) (Ev.cmp O (Ev.name rfl) (Ev.name rfl) CmpOk.eqL) CmpOk.eqB)
    (fun _ => Ev.call O (EvV.glob O rfl P.nRis) (Keeps.at P.fRis) (EvL.cons O (Ev.name rfl) EvL.nil) (rises_calls P.toTop9 htl) (by omega) ⟨fun _ _ => rfl, trivial⟩)) ?_) rfl
  rw [o5, o6]
  rfl

theorem law_body (P : Top10 C) (hlen : ns.length ≤ 63) : Ex C 9 [(Str.ofString "script", .il ns)] (fnScope 10) (fnBody 10) (fun _ => False) TT := by
  have O := P.toOk
  obtain ⟨m, hm, em⟩ : ∃ m : Nat, m < 4 ∧ ns.sum.fmod 4 = (m : Nat) := ⟨(ns.sum.fmod 4).toNat, by have := Int.fmod_nonneg_of_pos ns.sum (show (0 : Int) < 4 by decide); have := Int.fmod_lt_of_pos ns.sum (show (0 : Int) < 4 by decide); omega, by have := Int.fmod_nonneg_of_pos ns.sum (show (0 : Int) < 4 by decide); omega⟩
  obtain ⟨d, hd, ed⟩ : ∃ d : Nat, d < 256 ∧ HD ns d := by
    generalize hq : (if (ns ++ [0]).getD 0 0 < 0 then -((ns ++ [0]).getD 0 0) else (ns ++ [0]).getD 0 0) = q
    have h1 := Int.fmod_nonneg_of_pos q (show (0 : Int) < 256 by decide)
    have h2 := Int.fmod_lt_of_pos q (show (0 : Int) < 256 by decide)
    exact ⟨(q.fmod 256).toNat, by omega, by unfold HD; rw [hq]; omega⟩
  have okm := okMany_all hm
  have okd := okD_all hd
  show Ex C 9 [(Str.ofString "script", .il ns)] (fnScope 10) [lawSt 0, lawSt 1, lawSt 2, lawSt 3, lawSt 4, lawSt 5, lawSt 6, lawSt 7, lawSt 8] _ _
  refine Ex.cons O (law0 P em) ?_
  rintro r rfl
  refine Ex.cons O (law1 P hm) ?_
  rintro r rfl
  refine Ex.cons O (law2 P hm okm) ?_
  rintro r rfl
  refine Ex.cons O (law3 P hm okm) ?_
  rintro r rfl
  refine Ex.cons O (law4 P hlen ed okd) ?_
  rintro r rfl
  refine Ex.cons O (law5 P hlen ed okd) ?_
  rintro r rfl
  refine Ex.cons O (law6 P) ?_
  rintro r rfl
  refine Ex.cons O (law7 P) ?_
  rintro r rfl
  exact Ex.one O (law8 P okd)
end
end Mine

/- the head of the law, by the library -/
open PySem PySem.W PyProof.Rows
set_option maxRecDepth 100000 in
set_option maxHeartbeats 8000000 in
open_top Mine.hd for PySem.Challenge.rw_go0001_01

/- part 33 -/
namespace Mine
open PySem PySem.W PySem.Spec PySem.Calls PyProof.Rows

theorem top10 {w : World} {g : Heap} {mg mb : Str → Option Value} {loose : List Str} {mean : ExcName → Option Value} (X : (hd.heap_39 w.params).In g) (T : Top topProg loose mean mg mb g) (h27 : CodeHd g 27 23) (h20 : CodeHd g 20 16) (g16 : g.get? 16 = none) (g23 : g.get? 23 = none) :
    Top10 ⟨PySem.Challenge.rw_go0001_01.row.prog, w, g, mg, mb⟩ where
  g16 := g16
  g23 := g23
  ng := T.g
  nb := T.b
  lim := T.nolimit
  fInt := ⟨⟨_, _, X 21 _ rfl, rfl, codeRec_of X (by kernel_rfl), rfl, rfl, rfl, rfl, rfl, rfl, rfl, rfl⟩⟩
  fDig := ⟨⟨_, _, X 28 _ rfl, rfl, codeRec_of X (by kernel_rfl), rfl, rfl, rfl, rfl, rfl, rfl, rfl, rfl⟩⟩
  fIns := ⟨⟨_, _, X 37 _ rfl, rfl, codeRec_of X (by kernel_rfl), rfl, rfl, rfl, rfl, rfl, rfl, rfl, rfl⟩⟩
  fBis := ⟨⟨_, _, X 46 _ rfl, rfl, codeRec_of X (by kernel_rfl), rfl, rfl, rfl, rfl, rfl, rfl, rfl, rfl⟩⟩
  fTab := ⟨⟨_, _, X 53 _ rfl, rfl, codeRec_of X (by kernel_rfl), rfl, rfl, rfl, rfl, rfl, rfl, rfl, rfl⟩⟩
  fUnd := ⟨⟨_, _, X 60 _ rfl, rfl, codeRec_of X (by kernel_rfl), rfl, rfl, rfl, rfl, rfl, rfl, rfl, rfl⟩⟩
  fRis := ⟨⟨_, _, X 65 _ rfl, rfl, codeRec_of X (by kernel_rfl), rfl, rfl, rfl, rfl, rfl, rfl, rfl, rfl⟩⟩
  d29 := ⟨_, X 29 _ rfl⟩
  d30 := ⟨_, _, X 30 _ rfl⟩
  d38 := ⟨_, X 38 _ rfl⟩
  d39 := ⟨_, _, X 39 _ rfl⟩
  nInt := mg_of X T.g (by kernel_rfl)
  nDig := mg_of X T.g (by kernel_rfl)
  nIns := mg_of X T.g (by kernel_rfl)
  nBis := mg_of X T.g (by kernel_rfl)
  nTab := mg_of X T.g (by kernel_rfl)
  nUnd := mg_of X T.g (by kernel_rfl)
  nRis := mg_of X T.g (by kernel_rfl)
  bLen := ⟨mg_none_of X T.g (by kernel_rfl), (T.builtins _ (by decide)).trans (by kernel_rfl)⟩
  bRange := ⟨mg_none_of X T.g (by kernel_rfl), (T.builtins _ (by decide)).trans (by kernel_rfl)⟩
  bSum := ⟨mg_none_of X T.g (by kernel_rfl), (T.builtins _ (by decide)).trans (by kernel_rfl)⟩
  bAbs := ⟨mg_none_of X T.g (by kernel_rfl), (T.builtins _ (by decide)).trans (by kernel_rfl)⟩
  bInt := ⟨mg_none_of X T.g (by kernel_rfl), (T.builtins _ (by decide)).trans (by kernel_rfl)⟩
  bSorted := ⟨mg_none_of X T.g (by kernel_rfl), (T.builtins _ (by decide)).trans (by kernel_rfl)⟩
  hdI := h20
  hdD := h27
  cInt := fun o fd e d => by
    have e2 := X 21 _ rfl
    have e' : g.get? 21 = some o := e
    rw [e2] at e'; cases e'; cases d
    exact ⟨rfl, rfl⟩
  cDig := fun o fd e d => by
    have e2 := X 28 _ rfl
    have e' : g.get? 28 = some o := e
    rw [e2] at e'; cases e'; cases d
    exact ⟨rfl, rfl⟩
  bm16 := by
    obtain ⟨bm, ob, b1, b2, b3, b4, b5, b6⟩ := T.bmain
    refine ⟨bm, ob, b1, b2, fun q => ?_, fun q => ?_, b3, b4, b5, b6⟩
    · obtain ⟨o, es, ep, e, hd', _⟩ := T.g
      rw [q, e] at b3; cases b3; rw [hd'] at b6; cases b6
    · rw [q, g16] at b3; cases b3
  bm23 := by
    obtain ⟨bm, ob, b1, b2, b3, b4, b5, b6⟩ := T.bmain
    refine ⟨bm, ob, b1, b2, fun q => ?_, fun q => ?_, b3, b4, b5, b6⟩
    · obtain ⟨o, es, ep, e, hd', _⟩ := T.g
      rw [q, e] at b3; cases b3; rw [hd'] at b6; cases b6
    · rw [q, g23] at b3; cases b3
end Mine

/- part 34 -/
namespace Mine
open PySem PySem.W PySem.Spec PySem.Calls PyProof.Rows

theorem run_law {C : Cx} (P : Top10 C) {fa : Addr} {cd : Value} {L : Addr} {h₁ : Heap} {s : Shared} {tk : Tok} {a : Addr} {vs : List Value} {ns : List Int} {o1 o2 o3 o4 : Obj} {v1 v2 v3 v4 : Option Value} {m : Str → Option Value} {Q : Flow → Shared → Prop} {E : Value → Shared → Prop}
    (F : Fr C.g L h₁ m) (hm : m (Str.ofString "script") = some (.ref a)) (N : News C.g L h₁ [(L + 1 + 1 + 1 + 1, o1), (L + 1 + 1 + 1, o2), (L + 1 + 1, o3), (L + 1, o4), (23, tabObj #[]), (16, tabObj #[])])
    (d1 : o1.data = .cell v1) (d2 : o2.data = .cell v2) (d3 : o3.data = .cell v3) (d4 : o4.data = .cell v4) (hl : C.g.IsList a vs.toArray) (hi : IntsAre vs ns) (hlen : ns.length ≤ 63)
    (hq : ∀ s', (∃ h tk, s' = { s with heap := h, toks := tk }) → Glo C s'.heap → Q (.ret (.bool true)) s') :
    wpAny (model C.prog C.w) (callerA.deeper (envOfC (Str.ofString "law") (fnScope 10) L fa cd)) (execs (fnBody 10) (envOfC (Str.ofString "law") (fnScope 10) L fa cd)) Q E { s with heap := h₁, toks := tk } := by
  have hc : (envOfC (Str.ofString "law") (fnScope 10) L fa cd).cells = [(Str.ofString "drawn", L + 1 + 1 + 1 + 1), (Str.ofString "least", L + 1 + 1 + 1), (Str.ofString "figures", L + 1 + 1), (Str.ofString "size", L + 1)] := rfl
  have hmem : ∀ x b, (envOfC (Str.ofString "law") (fnScope 10) L fa cd).cells.lookup x = some b → (x = Str.ofString "drawn" ∧ b = L + 1 + 1 + 1 + 1) ∨ (x = Str.ofString "least" ∧ b = L + 1 + 1 + 1) ∨ (x = Str.ofString "figures" ∧ b = L + 1 + 1) ∨ (x = Str.ofString "size" ∧ b = L + 1) := fun x b e => by
    have := mem_of_lookup e
    rw [hc] at this
    rcases List.mem_cons.mp this with e | this
    · cases e; exact .inl ⟨rfl, rfl⟩
    rcases List.mem_cons.mp this with e | this
    · cases e; exact .inr (.inl ⟨rfl, rfl⟩)
    rcases List.mem_cons.mp this with e | this
    · cases e; exact .inr (.inr (.inl ⟨rfl, rfl⟩))
    rcases List.mem_cons.mp this with e | this
    · cases e; exact .inr (.inr (.inr ⟨rfl, rfl⟩))
    · cases this
  have n1 := N (L + 1 + 1 + 1 + 1, o1) (.head _)
  have n2 := N (L + 1 + 1 + 1, o2) (.tail _ (.head _))
  have n3 := N (L + 1 + 1, o3) (.tail _ (.tail _ (.head _)))
  have n4 := N (L + 1, o4) (.tail _ (.tail _ (.tail _ (.head _))))
  have n5 := N (23, tabObj #[]) (.tail _ (.tail _ (.tail _ (.tail _ (.head _)))))
  have n6 := N (16, tabObj #[]) (.tail _ (.tail _ (.tail _ (.tail _ (.tail _ (.head _))))))
  have hcell : ∀ x b, (envOfC (Str.ofString "law") (fnScope 10) L fa cd).cells.lookup x = some b → C.g.get? b = none ∧ ∃ v, h₁.IsCell b v := fun x b e => by
    rcases hmem x b e with ⟨_, rfl⟩ | ⟨_, rfl⟩ | ⟨_, rfl⟩ | ⟨_, rfl⟩
    · exact ⟨n1.2.2, _, _, n1.1, d1⟩
    · exact ⟨n2.2.2, _, _, n2.1, d2⟩
    · exact ⟨n3.2.2, _, _, n3.1, d3⟩
    · exact ⟨n4.2.2, _, _, n4.1, d4⟩
  have Fm : Frm C (envOfC (Str.ofString "law") (fnScope 10) L fa cd) := by
    refine ⟨fun b ow => ?_, fun x y c _ lx ly => ?_⟩
    · rcases ow with e | ⟨x, _, lx⟩
      · rw [e]; exact Heap.get?_none_of_le F.above
      · exact (hcell x b lx).1
    · rcases hmem x c lx with ⟨rfl, rfl⟩ | ⟨rfl, rfl⟩ | ⟨rfl, rfl⟩ | ⟨rfl, rfl⟩ <;> rcases hmem y _ ly with ⟨rfl, q⟩ | ⟨rfl, q⟩ | ⟨rfl, q⟩ | ⟨rfl, q⟩ <;> first | rfl | exact absurd q (by omega) | exact absurd q (show ¬ ((_ : Nat) = _) by omega)
  have Rd : Rdy (envOfC (Str.ofString "law") (fnScope 10) L fa cd) h₁ := by
    refine ⟨⟨m, F.ns⟩, fun x kx => ?_⟩
    have hx : (x, NameKind.cell) ∈ (fnScope 10).names := mem_of_lookup kx
    have all : (fnScope 10).names.all (fun p => p.2 != .cell || ((envOfC (Str.ofString "law") (fnScope 10) L fa cd).cells.lookup p.1).isSome) = true := rfl
    have := List.all_eq_true.mp all _ hx
    simp only [bne_self_eq_false, Bool.false_or] at this
    obtain ⟨c, lc⟩ := Option.isSome_iff_exists.mp this
    obtain ⟨_, v, ic⟩ := hcell x c lc
    exact ⟨c, v, lc, ic⟩
  have K : EnvOk (envOfC (Str.ofString "law") (fnScope 10) L fa cd) := ⟨rfl, rfl, rfl⟩
  have hl₁ : h₁.IsList a vs.toArray := let ⟨o, e, r⟩ := hl; ⟨o, F.keep _ _ e, r⟩
  have Se : Sees [(Str.ofString "script", .il ns)] (envOfC (Str.ofString "law") (fnScope 10) L fa cd) h₁ :=
    sees_binds (bn := [Str.ofString "script"]) (vs := [.ref a]) (avs := [.il ns]) K (fun x v hv => by
      rcases List.mem_cons.mp hv with e | e
      · cases e; exact .inl ⟨rfl, m, F.ns, hm⟩
      · cases e) ⟨⟨a, vs, rfl, hl₁, hi⟩, trivial⟩
  have G : Glo C h₁ := ⟨F.keep, .inl n6.1, .inl n5.1⟩
  have R : Room (callerA.deeper (envOfC (Str.ofString "law") (fnScope 10) L fa cd)) 9 := ⟨rfl, by show 1 + claimMargin + 1 + 9 < 1000; decide, by show 4 + 3 + 4 * 9 + 100 < 9900; decide⟩
  refine law_body P hlen _ _ { s with heap := h₁, toks := tk } Q E R rfl Fm Rd Se G (fun _ _ h => h.elim) fun v av s' hT hv S => ?_
  subst hT
  rw [show v = .bool true from hv]
  obtain ⟨h, t, e⟩ := S.same
  exact hq s' ⟨h, t, by rw [e]⟩ (Fm.glo P.toOk S G)
end Mine

set_option maxRecDepth 100000 in
set_option maxHeartbeats 8000000 in
theorem PySem.Challenge.cw_go0001_01_holds : PySem.Challenge.rw_go0001_01.Holds := by
  refine Mine.hd ?_
  k_go0
  rename_i hlong _ _ h₁ tk w3 w2 w1 w0 d3 d2 d1 d0 _ X' T' _ F' cH N' _
  have g16 := (N' (16, tabObj #[]) (by repeat (first | exact List.Mem.head _ | apply List.Mem.tail))).2.2
  have g23 := (N' (23, tabObj #[]) (by repeat (first | exact List.Mem.head _ | apply List.Mem.tail))).2.2
  have P := Mine.top10 X' T' cH codeHd g16 g23
  refine Mine.run_law (C := ⟨_, _, _, _, _⟩) P F' rfl N' d3 d2 d1 d0 lifted (by assumption) (by omega) ?_
  rintro s' ⟨h', t', rfl⟩ G'
  exact ⟨⟨.inl ⟨_, _, [], rfl, fun _ => rfl, .bool true, (by kernel_rfl), fun _ => ⟨.nil, fun _ ha => nomatch ha⟩⟩, G'.keep, rfl, by assumption⟩, G'.tb.2.ex, G'.tb.1.ex, trivial⟩
