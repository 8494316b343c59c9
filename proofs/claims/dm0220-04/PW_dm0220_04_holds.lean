import PyProof.Rows.All
import Wide.All
import OpenK.AllK
import Wide.FinOn
import PySem.Challenge.RW_dm0220_04
open PySem PySem.W PyProof.Rows
set_option Elab.async false
set_option maxRecDepth 100000
namespace Mine

/-- abstract values: obj n is the n-th tracked list; tup, lst are data that nobody writes -/
inductive V where
  | none
  | bool (b : Bool)
  | int (i : Int)
  | str (s : Str)
  | obj (n : Nat)
  | raw (v : Value)
  | tup (vs : List V)
  | lst (vs : List V)
  | rng (a b c : Int)
  | thing (T : String)

mutual
def VRel (F : Addr → Prop) (ρ : List Addr) (h : Heap) : V → Value → Prop
  | .none, x => x = .none
  | .bool b, x => x = .bool b
  | .int i, x => ∃ t, x = .int i t
  | .str u, x => ∃ t, x = .str u t
  | .obj n, x => ∃ a, ρ[n]? = some a ∧ x = .ref a
  | .raw v, x => x = v
  | .tup vs, x => ∃ a items, x = .ref a ∧ F a ∧ h.IsTuple a items ∧ VRels F ρ h vs items.toList
  | .lst vs, x => ∃ a items, x = .ref a ∧ F a ∧ h.IsList a items ∧ VRels F ρ h vs items.toList
  | .rng a b c, x => ∃ r t u v, x = .ref r ∧ F r ∧ IsRange h r a b c t u v
  | .thing T, x => ∃ a o, x = .ref a ∧ F a ∧ h.get? a = some o ∧ o.cls = .type T ∧ ∃ es n tb, o.data = .set es n tb
def VRels (F : Addr → Prop) (ρ : List Addr) (h : Heap) : List V → List Value → Prop
  | [], xs => xs = []
  | v :: vs, xs => ∃ y ys, xs = y :: ys ∧ VRel F ρ h v y ∧ VRels F ρ h vs ys
end

abbrev Loc := List (Str × V)
abbrev Sto := List (List V)

structure Cx where
  prog : Program
  w : World
  p : Program
  loose : List Str
  mean : ExcName → Option Value
  mg : Str → Option Value
  mb : Str → Option Value
  base : Heap
  os : OsState
  top : Top p loose mean mg mb base

mutual
theorem VRel.mono {F F' : Addr → Prop} {ρ ρ' : List Addr} {h h' : Heap} (hF : ∀ a, F a → F' a) (hρ : ∀ (n : Nat) (a : Addr), ρ[n]? = some a → ρ'[n]? = some a)
    (hk : ∀ a o, F a → h.get? a = some o → (∀ es n, o.data ≠ .dict es n) → h'.get? a = some o) : ∀ {v : V} {x : Value}, VRel F ρ h v x → VRel F' ρ' h' v x
  | .none, _, q => q
  | .bool _, _, q => q
  | .int _, _, q => q
  | .str _, _, q => q
  | .obj _, _, q => by
    simp only [VRel] at q ⊢
    obtain ⟨a, h1, h2⟩ := q
    exact ⟨a, hρ _ _ h1, h2⟩
  | .raw _, _, q => q
  | .tup vs, _, q => by
    simp only [VRel] at q ⊢
    obtain ⟨a, items, h1, h2, ⟨o, ho, hc, n, hd⟩, h4⟩ := q
    exact ⟨a, items, h1, hF _ h2, ⟨o, hk _ _ h2 ho (fun es n q => by rw [hd] at q; cases q), hc, n, hd⟩, VRels.mono hF hρ hk h4⟩
  | .lst vs, _, q => by
    simp only [VRel] at q ⊢
    obtain ⟨a, items, h1, h2, ⟨o, ho, hc, n, hd⟩, h4⟩ := q
    exact ⟨a, items, h1, hF _ h2, ⟨o, hk _ _ h2 ho (fun es n q => by rw [hd] at q; cases q), hc, n, hd⟩, VRels.mono hF hρ hk h4⟩
  | .rng _ _ _, _, q => by
    simp only [VRel] at q ⊢
    obtain ⟨r, t, u, v, h1, h2, h3⟩ := q
    exact ⟨r, t, u, v, h1, hF _ h2, hk _ _ h2 h3 (fun es n q => by cases q)⟩
  | .thing _, _, q => by
    simp only [VRel] at q ⊢
    obtain ⟨a, o, h1, h2, h3, h4, h5⟩ := q
    exact ⟨a, o, h1, hF _ h2, hk _ _ h2 h3 (fun es n q => by obtain ⟨es', n', tb, hd⟩ := h5; rw [hd] at q; cases q), h4, h5⟩
theorem VRels.mono {F F' : Addr → Prop} {ρ ρ' : List Addr} {h h' : Heap} (hF : ∀ a, F a → F' a) (hρ : ∀ (n : Nat) (a : Addr), ρ[n]? = some a → ρ'[n]? = some a)
    (hk : ∀ a o, F a → h.get? a = some o → (∀ es n, o.data ≠ .dict es n) → h'.get? a = some o) : ∀ {vs : List V} {xs : List Value}, VRels F ρ h vs xs → VRels F' ρ' h' vs xs
  | [], _, q => q
  | v :: vs, _, q => by
    simp only [VRels] at q ⊢
    obtain ⟨y, ys, h1, h2, h3⟩ := q
    exact ⟨y, ys, h1, VRel.mono hF hρ hk h2, VRels.mono hF hρ hk h3⟩
end

theorem VRels.length {F : Addr → Prop} {ρ : List Addr} {h : Heap} : ∀ {vs : List V} {xs : List Value}, VRels F ρ h vs xs → xs.length = vs.length
  | [], _, q => by simp only [VRels] at q; subst q; rfl
  | _ :: _, _, q => by
    simp only [VRels] at q
    obtain ⟨y, ys, rfl, _, h3⟩ := q
    simp [VRels.length h3]

theorem VRels.get {F : Addr → Prop} {ρ : List Addr} {h : Heap} : ∀ {vs : List V} {xs : List Value}, VRels F ρ h vs xs → ∀ {i : Nat} {v : V}, vs[i]? = some v → ∃ x, xs[i]? = some x ∧ VRel F ρ h v x
  | [], _, _, i, v, e => by simp at e
  | w :: vs, _, q, i, v, e => by
    simp only [VRels] at q
    obtain ⟨y, ys, rfl, h2, h3⟩ := q
    cases i with
    | zero => simp at e; subst e; exact ⟨y, rfl, h2⟩
    | succ i => simpa using VRels.get h3 (i := i) (by simpa using e)

theorem VRels.append {F : Addr → Prop} {ρ : List Addr} {h : Heap} : ∀ {vs : List V} {xs : List Value} {us : List V} {ys : List Value}, VRels F ρ h vs xs → VRels F ρ h us ys → VRels F ρ h (vs ++ us) (xs ++ ys)
  | [], _, _, _, q, r => by simp only [VRels] at q; subst q; simpa using r
  | _ :: _, _, _, _, q, r => by
    simp only [VRels] at q
    obtain ⟨y, ys', rfl, h2, h3⟩ := q
    simp only [List.cons_append, VRels]
    exact ⟨y, _, rfl, h2, VRels.append h3 r⟩

/-- the frame-independent part: the top's heap stays; the tracked lists are as the store tells -/
structure Base (cx : Cx) (ρ : List Addr) (F : Addr → Prop) (sto : Sto) (s : Shared) : Prop where
  stays : ∀ b o, cx.base.get? b = some o → s.heap.get? b = some o
  rnew : ∀ a ∈ ρ, cx.base.get? a = none
  nodup : ρ.Nodup
  len : ρ.length = sto.length
  objs : ∀ (i : Nat) (a : Addr) (vs : List V), ρ[i]? = some a → sto[i]? = some vs → ∃ items, s.heap.PlainList a items ∧ VRels F ρ s.heap vs items.toList
  disj : ∀ a, F a → a ∉ ρ
  live : ∀ a, F a → ∃ o, s.heap.get? a = some o
  gens : s.gens = #[]
  os : s.os = cx.os

def Kept1 (o o' : Obj) : Prop := o' = o ∨ ((∃ es n, o.data = .dict es n) ∧ ∃ sl, o' = { o with slots := sl })

structure Step (Wr : Addr → Prop) (ρ : List Addr) (F : Addr → Prop) (s : Shared) (ρ' : List Addr) (F' : Addr → Prop) (s' : Shared) : Prop where
  pre : ∃ t, ρ' = ρ ++ t
  sub : ∀ a, F a → F' a
  newr : ∀ a ∈ ρ', a ∈ ρ ∨ s.heap.get? a = none
  newF : ∀ a, F' a → F a ∨ s.heap.get? a = none
  kept : ∀ b o, b ∉ ρ → ¬ Wr b → s.heap.get? b = some o → ∃ o', s'.heap.get? b = some o' ∧ Kept1 o o'
  alive : ∀ b o, s.heap.get? b = some o → ∃ o', s'.heap.get? b = some o' ∧ ((∀ vs, o.data ≠ .fields vs) → ∀ vs, o'.data ≠ .fields vs) ∧ ((∃ es n, o.data = .dict es n) → ∃ es n, o'.data = .dict es n)

def NoWr : Addr → Prop := fun _ => False

theorem Kept1.refl (o : Obj) : Kept1 o o := .inl rfl
theorem Kept1.trans {a b c : Obj} (x : Kept1 a b) (y : Kept1 b c) : Kept1 a c := by
  rcases x with rfl | ⟨⟨es, n, hd⟩, sl, rfl⟩
  · exact y
  · rcases y with rfl | ⟨_, sl', rfl⟩
    · exact .inr ⟨⟨es, n, hd⟩, sl, rfl⟩
    · exact .inr ⟨⟨es, n, hd⟩, sl', rfl⟩
theorem Kept1.data {a b : Obj} (x : Kept1 a b) : b.data = a.data := by
  rcases x with rfl | ⟨_, sl, rfl⟩ <;> rfl
theorem Kept1.same {a b : Obj} (x : Kept1 a b) (h : ∀ es n, a.data ≠ .dict es n) : b = a := by
  rcases x with rfl | ⟨⟨es, n, hd⟩, _⟩
  · rfl
  · exact absurd hd (h es n)

theorem Step.refl {Wr : Addr → Prop} {ρ : List Addr} {F : Addr → Prop} {s : Shared} : Step Wr ρ F s ρ F s where
  pre := ⟨[], by simp⟩
  sub := fun _ h => h
  newr := fun _ h => .inl h
  newF := fun _ h => .inl h
  kept := fun _ o _ _ e => ⟨o, e, .refl o⟩
  alive := fun _ o e => ⟨o, e, fun h => h, fun h => h⟩

theorem Step.trans {Wr : Addr → Prop} {ρ ρ₁ ρ₂ : List Addr} {F F₁ F₂ : Addr → Prop} {s s₁ s₂ : Shared} (x : Step Wr ρ F s ρ₁ F₁ s₁) (y : Step Wr ρ₁ F₁ s₁ ρ₂ F₂ s₂) : Step Wr ρ F s ρ₂ F₂ s₂ where
  pre := by obtain ⟨t, rfl⟩ := x.pre; obtain ⟨u, rfl⟩ := y.pre; exact ⟨t ++ u, by simp⟩
  sub := fun a h => y.sub a (x.sub a h)
  newr := fun a h => by
    rcases y.newr a h with h | h
    · exact x.newr a h
    · right
      cases e : s.heap.get? a with
      | none => rfl
      | some o => obtain ⟨o', e', _⟩ := x.alive a o e; rw [h] at e'; cases e'
  newF := fun a h => by
    rcases y.newF a h with h | h
    · exact x.newF a h
    · right
      cases e : s.heap.get? a with
      | none => rfl
      | some o => obtain ⟨o', e', _⟩ := x.alive a o e; rw [h] at e'; cases e'
  kept := fun b o hb hw e => by
    obtain ⟨o₁, e₁, k₁⟩ := x.kept b o hb hw e
    have hb₁ : b ∉ ρ₁ := fun h => by
      rcases x.newr b h with h | h
      · exact hb h
      · rw [h] at e; cases e
    obtain ⟨o₂, e₂, k₂⟩ := y.kept b o₁ hb₁ hw e₁
    exact ⟨o₂, e₂, k₁.trans k₂⟩
  alive := fun b o e => by
    obtain ⟨o₁, e₁, k₁, l₁⟩ := x.alive b o e
    obtain ⟨o₂, e₂, k₂, l₂⟩ := y.alive b o₁ e₁
    exact ⟨o₂, e₂, fun h => k₂ (k₁ h), fun h => l₂ (l₁ h)⟩

theorem Step.weaken {Wr Wr' : Addr → Prop} {ρ ρ' : List Addr} {F F' : Addr → Prop} {s s' : Shared} (x : Step Wr ρ F s ρ' F' s') (h : ∀ b, Wr b → Wr' b) : Step Wr' ρ F s ρ' F' s' where
  pre := x.pre
  sub := x.sub
  newr := x.newr
  newF := x.newF
  kept := fun b o hb hw e => x.kept b o hb (fun q => hw (h b q)) e
  alive := x.alive

theorem Step.getr {Wr : Addr → Prop} {ρ ρ' : List Addr} {F F' : Addr → Prop} {s s' : Shared} (x : Step Wr ρ F s ρ' F' s') : ∀ (n : Nat) (a : Addr), ρ[n]? = some a → ρ'[n]? = some a := by
  obtain ⟨t, rfl⟩ := x.pre
  intro n a h
  rw [List.getElem?_append_left]
  · exact h
  · exact (List.getElem?_eq_some_iff.mp h).1

theorem Step.vrel {cx : Cx} {Wr : Addr → Prop} {ρ ρ' : List Addr} {F F' : Addr → Prop} {s s' : Shared} {sto : Sto} {v : V} {x : Value} (st : Step Wr ρ F s ρ' F' s') (B : Base cx ρ F sto s) (hW : ∀ a, Wr a → ¬ F a)
    (q : VRel F ρ s.heap v x) : VRel F' ρ' s'.heap v x :=
  q.mono st.sub st.getr fun a o ha e hd => by
    obtain ⟨o', e', k⟩ := st.kept a o (B.disj a ha) (fun h => hW a h ha) e
    rw [k.same hd] at e'
    exact e'
theorem Step.vrels {cx : Cx} {Wr : Addr → Prop} {ρ ρ' : List Addr} {F F' : Addr → Prop} {s s' : Shared} {sto : Sto} {v : List V} {x : List Value} (st : Step Wr ρ F s ρ' F' s') (B : Base cx ρ F sto s) (hW : ∀ a, Wr a → ¬ F a)
    (q : VRels F ρ s.heap v x) : VRels F' ρ' s'.heap v x :=
  q.mono st.sub st.getr fun a o ha e hd => by
    obtain ⟨o', e', k⟩ := st.kept a o (B.disj a ha) (fun h => hW a h ha) e
    rw [k.same hd] at e'
    exact e'

def Own (env : Env) (b : Addr) : Prop := b = env.locals ∨ ∃ x, env.cells.lookup x = some b

structure Frame (cx : Cx) (env : Env) (ρ : List Addr) (F : Addr → Prop) (loc : Loc) (s : Shared) : Prop where
  ns : ∃ m, s.heap.Ns env.locals m ∧ ∀ x v, loc.lookup x = some v → env.kindOf x = some .local → ∃ y, m x = some y ∧ VRel F ρ s.heap v y
  cell : ∀ x v, loc.lookup x = some v → env.kindOf x = some .cell → ∃ c y, env.cells.lookup x = some c ∧ s.heap.IsCell c (some y) ∧ VRel F ρ s.heap v y
  cells : ∀ x, env.kindOf x = some .cell → ∃ c o, env.cells.lookup x = some c ∧ s.heap.IsCell c o
  apart : ∀ x y c, env.cells.lookup x = some c → env.cells.lookup y = some c → x = y
  own : ∀ b, Own env b → b ∉ ρ ∧ ¬ F b ∧ cx.base.get? b = none ∧ ∃ o, s.heap.get? b = some o
  lc : ∀ x c, env.cells.lookup x = some c → c ≠ env.locals

/-- what is fixed of a frame -/
structure EnvOK (sc : Scope) (env : Env) (A : Around) : Prop where
  scope : env.scope = sc
  kind : sc.kind = .function
  globals : env.globals = mainGlobals
  builtins : env.builtins = builtinsNs
  top : sc.names.lookup (".0" : Str) = none → env.frame = some env.locals ∧ ∃ outer, A.frames = some (env :: outer)

structure AOK (cx : Cx) (d : Nat) (A : Around) (h : Heap) : Prop where
  handled : A.handled = none
  depth : A.depth + d < recursionLimit
  units : A.units + 16 * d + 16 < cLine
  codes : ∀ outer, A.frames = some outer → ∀ env ∈ outer, ∃ c o vs, env.code = .ref c ∧ cx.base.get? c = some o ∧ o.data = .fields vs
  frames : ∃ outer, A.frames = some outer ∧ h.FunFrames cx.base outer ∧ ∀ env ∈ outer, ∀ L, env.frame = some L → ∃ o es n, h.get? L = some o ∧ o.data = .dict es n

theorem AOK.step {cx : Cx} {d : Nat} {A : Around} {Wr : Addr → Prop} {ρ ρ' : List Addr} {F F' : Addr → Prop} {s s' : Shared} (a : AOK cx d A s.heap) (st : Step Wr ρ F s ρ' F' s') : AOK cx d A s'.heap where
  handled := a.handled
  depth := a.depth
  units := a.units
  codes := a.codes
  frames := by
    obtain ⟨outer, h1, h2, h3⟩ := a.frames
    refine ⟨outer, h1, ?_, fun env he L hL => ?_⟩
    · clear h1 h3
      induction outer with
      | nil => trivial
      | cons env rest ih =>
        obtain ⟨hk, ⟨L, o, hf, hn, ho, hd⟩, hr⟩ := h2
        obtain ⟨o', ho', hd', _⟩ := st.alive L o ho
        exact ⟨hk, ⟨L, o', hf, hn, ho', hd' hd⟩, ih hr⟩
    · obtain ⟨o, es, n, ho, hd⟩ := h3 env he L hL
      obtain ⟨o', ho', _, hd'⟩ := st.alive L o ho
      obtain ⟨es', n', e'⟩ := hd' ⟨es, n, hd⟩
      exact ⟨o', es', n', ho', e'⟩

/-- what an evaluation leaves -/
def PostV (cx : Cx) (ρ : List Addr) (F : Addr → Prop) (s : Shared) (Q : V → Sto → Prop) : Value → Shared → Prop :=
  fun x s' => ∃ v sto' ρ' F', Step NoWr ρ F s ρ' F' s' ∧ VRel F' ρ' s'.heap v x ∧ Base cx ρ' F' sto' s' ∧ Q v sto'
def PostVs (cx : Cx) (ρ : List Addr) (F : Addr → Prop) (s : Shared) (Q : List V → Sto → Prop) : List Value → Shared → Prop :=
  fun x s' => ∃ v sto' ρ' F', Step NoWr ρ F s ρ' F' s' ∧ VRels F' ρ' s'.heap v x ∧ Base cx ρ' F' sto' s' ∧ Q v sto'
def PostB (cx : Cx) (ρ : List Addr) (F : Addr → Prop) (s : Shared) (Q : Bool → Sto → Prop) : Bool → Shared → Prop :=
  fun x s' => ∃ sto' ρ' F', Step NoWr ρ F s ρ' F' s' ∧ Base cx ρ' F' sto' s' ∧ Q x sto'

/-- expressions -/
def WE (cx : Cx) (sc : Scope) (d : Nat) (e : Expr) (loc : Loc) (sto : Sto) (Q : V → Sto → Prop) : Prop :=
  ∀ env A s ρ F, EnvOK sc env A → AOK cx d A s.heap → Base cx ρ F sto s → Frame cx env ρ F loc s →
    wpAny (model cx.prog cx.w) A (eval e env) (PostV cx ρ F s Q) (fun _ _ => False) s

inductive Fl where
  | next | brk | cont
  | ret (v : V)

def FlRel (F : Addr → Prop) (ρ : List Addr) (h : Heap) : Fl → Flow → Prop
  | .next, f => f = .next
  | .brk, f => f = .brk
  | .cont, f => f = .cont
  | .ret v, f => ∃ x, f = .ret x ∧ VRel F ρ h v x

def PostS (cx : Cx) (env : Env) (ρ : List Addr) (F : Addr → Prop) (s : Shared) (Q : Fl → Loc → Sto → Prop) : Flow → Shared → Prop :=
  fun f s' => ∃ fl loc' sto' ρ' F', Step (Own env) ρ F s ρ' F' s' ∧ FlRel F' ρ' s'.heap fl f ∧ Base cx ρ' F' sto' s' ∧ Frame cx env ρ' F' loc' s' ∧ Q fl loc' sto'

def WSs (cx : Cx) (sc : Scope) (d : Nat) (body : List Stmt) (loc : Loc) (sto : Sto) (Q : Fl → Loc → Sto → Prop) : Prop :=
  ∀ env A s ρ F, EnvOK sc env A → AOK cx d A s.heap → Base cx ρ F sto s → Frame cx env ρ F loc s →
    wpAny (model cx.prog cx.w) A (execs body env) (PostS cx env ρ F s Q) (fun _ _ => False) s

def WS (cx : Cx) (sc : Scope) (d : Nat) (st : Stmt) (loc : Loc) (sto : Sto) (Q : Fl → Loc → Sto → Prop) : Prop :=
  ∀ env A s ρ F, EnvOK sc env A → AOK cx d A s.heap → Base cx ρ F sto s → Frame cx env ρ F loc s →
    wpAny (model cx.prog cx.w) A (exec st env) (PostS cx env ρ F s Q) (fun _ _ => False) s

/-- a test -/
def WT (cx : Cx) (sc : Scope) (d : Nat) (e : Expr) (loc : Loc) (sto : Sto) (Q : Bool → Sto → Prop) : Prop :=
  ∀ env A s ρ F, EnvOK sc env A → AOK cx d A s.heap → Base cx ρ F sto s → Frame cx env ρ F loc s →
    wpAny (model cx.prog cx.w) A (isTrue e env (eval e env)) (PostB cx ρ F s Q) (fun _ _ => False) s

/-- several expressions, from the left -/
def WEs (cx : Cx) (sc : Scope) (d : Nat) (es : List Expr) (loc : Loc) (sto : Sto) (Q : List V → Sto → Prop) : Prop :=
  ∀ env A s ρ F pos, EnvOK sc env A → AOK cx d A s.heap → Base cx ρ F sto s → Frame cx env ρ F loc s →
    wpAny (model cx.prog cx.w) A (spliced (backTo pos (starEach es env))) (PostVs cx ρ F s Q) (fun _ _ => False) s

/-- an operation upon two values -/
def Op2 (cx : Cx) (d : Nat) (t : Value → Value → Sem Value) (a b : V) (sto : Sto) (Q : V → Sto → Prop) : Prop :=
  ∀ A s ρ F x y, AOK cx d A s.heap → Base cx ρ F sto s → VRel F ρ s.heap a x → VRel F ρ s.heap b y →
    wpAny (model cx.prog cx.w) A (t x y) (PostV cx ρ F s Q) (fun _ _ => False) s
def Op1 (cx : Cx) (d : Nat) (t : Value → Sem Value) (a : V) (sto : Sto) (Q : V → Sto → Prop) : Prop :=
  ∀ A s ρ F x, AOK cx d A s.heap → Base cx ρ F sto s → VRel F ρ s.heap a x →
    wpAny (model cx.prog cx.w) A (t x) (PostV cx ρ F s Q) (fun _ _ => False) s
def TrV (cx : Cx) (d : Nat) (a : V) (sto : Sto) (Q : Bool → Sto → Prop) : Prop :=
  ∀ A s ρ F x, AOK cx d A s.heap → Base cx ρ F sto s → VRel F ρ s.heap a x →
    wpAny (model cx.prog cx.w) A (truthy x) (PostB cx ρ F s Q) (fun _ _ => False) s

/-- a call of a value -/
def CallV (cx : Cx) (d : Nat) (f : Value) (args : List V) (sto : Sto) (Q : V → Sto → Prop) : Prop :=
  ∀ A s ρ F xs, AOK cx d A s.heap → Base cx ρ F sto s → VRels F ρ s.heap args xs →
    wpAny (model cx.prog cx.w) A (call f xs) (PostV cx ρ F s Q) (fun _ _ => False) s

theorem Frame.noF {cx : Cx} {env : Env} {ρ : List Addr} {F : Addr → Prop} {loc : Loc} {s : Shared} (f : Frame cx env ρ F loc s) : ∀ a, Own env a → ¬ F a := fun a h => (f.own a h).2.1
theorem noWrF {F : Addr → Prop} : ∀ a, NoWr a → ¬ F a := fun _ h => h.elim

theorem Ns.kept {h h' : Heap} {a : Addr} {m : Str → Option Value} (n : h.Ns a m) (k : ∀ o, h.get? a = some o → ∃ o', h'.get? a = some o' ∧ Kept1 o o') : h'.Ns a m := by
  obtain ⟨o, es, ep, ho, hd, r⟩ := n
  obtain ⟨o', ho', k'⟩ := k o ho
  exact ⟨o', es, ep, ho', k'.data.trans hd, r⟩
theorem IsCell.kept {h h' : Heap} {a : Addr} {m : Option Value} (n : h.IsCell a m) (k : ∀ o, h.get? a = some o → ∃ o', h'.get? a = some o' ∧ Kept1 o o') : h'.IsCell a m := by
  obtain ⟨o, ho, hd⟩ := n
  obtain ⟨o', ho', k'⟩ := k o ho
  exact ⟨o', ho', k'.data.trans hd⟩

/-- a frame outlives what does not write it -/
theorem Frame.step {cx : Cx} {env : Env} {ρ ρ' : List Addr} {F F' : Addr → Prop} {loc : Loc} {sto : Sto} {s s' : Shared} (f : Frame cx env ρ F loc s) (B : Base cx ρ F sto s) (st : Step NoWr ρ F s ρ' F' s') : Frame cx env ρ' F' loc s' where
  ns := by
    obtain ⟨m, hn, hm⟩ := f.ns
    refine ⟨m, Ns.kept hn fun o ho => st.kept _ o (f.own _ (.inl rfl)).1 (fun h => h) ho, fun x v h1 h2 => ?_⟩
    obtain ⟨y, e, q⟩ := hm x v h1 h2
    exact ⟨y, e, st.vrel B noWrF q⟩
  cell := fun x v h1 h2 => by
    obtain ⟨c, y, e, hc, q⟩ := f.cell x v h1 h2
    exact ⟨c, y, e, IsCell.kept hc fun o ho => st.kept _ o (f.own _ (.inr ⟨x, e⟩)).1 (fun h => h) ho, st.vrel B noWrF q⟩
  cells := fun x h2 => by
    obtain ⟨c, y, e, hc⟩ := f.cells x h2
    exact ⟨c, y, e, IsCell.kept hc fun o ho => st.kept _ o (f.own _ (.inr ⟨x, e⟩)).1 (fun h => h) ho⟩
  apart := f.apart
  own := fun b hb => by
    obtain ⟨h1, h2, h3, o, ho⟩ := f.own b hb
    refine ⟨fun h => ?_, fun h => ?_, h3, ?_⟩
    · rcases st.newr b h with h | h
      · exact h1 h
      · rw [h] at ho; cases ho
    · rcases st.newF b h with h | h
      · exact h2 h
      · rw [h] at ho; cases ho
    · obtain ⟨o', ho', _⟩ := st.alive b o ho; exact ⟨o', ho'⟩
  lc := f.lc

end Mine

namespace Mine

section
variable {cx : Cx} {sc : Scope} {d : Nat} {loc : Loc} {sto : Sto} {ρ ρ₁ : List Addr} {F F₁ : Addr → Prop} {s s₁ : Shared}

theorem Base.toks (B : Base cx ρ F sto s) (t : Nat) : Base cx ρ F sto { s with toks := t } := ⟨B.stays, B.rnew, B.nodup, B.len, B.objs, B.disj, B.live, B.gens, B.os⟩
theorem Step.toks {Wr : Addr → Prop} (t : Nat) : Step Wr ρ F s ρ F { s with toks := t } :=
  ⟨⟨[], by simp⟩, fun _ h => h, fun _ h => .inl h, fun _ h => .inl h, fun _ o _ _ e => ⟨o, e, .refl o⟩, fun _ o e => ⟨o, e, fun h => h, fun h => h⟩⟩
theorem PostV.imm {Q : V → Sto → Prop} {v : V} {x : Value} (B : Base cx ρ F sto s) (r : VRel F ρ s.heap v x) (q : Q v sto) (t : Nat) : PostV cx ρ F s Q x { s with toks := t } :=
  ⟨v, sto, ρ, F, .toks t, r, B.toks t, q⟩
theorem PostV.imm0 {Q : V → Sto → Prop} {v : V} {x : Value} (B : Base cx ρ F sto s) (r : VRel F ρ s.heap v x) (q : Q v sto) : PostV cx ρ F s Q x s :=
  ⟨v, sto, ρ, F, .refl, r, B, q⟩
theorem PostB.imm0 {Q : Bool → Sto → Prop} {b : Bool} (B : Base cx ρ F sto s) (q : Q b sto) : PostB cx ρ F s Q b s :=
  ⟨sto, ρ, F, .refl, B, q⟩
theorem PostV.after {Q : V → Sto → Prop} {x : Value} {s' : Shared} (st : Step NoWr ρ F s ρ₁ F₁ s₁) (h : PostV cx ρ₁ F₁ s₁ Q x s') : PostV cx ρ F s Q x s' := by
  obtain ⟨v, sto', ρ', F', st', r, B, q⟩ := h
  exact ⟨v, sto', ρ', F', st.trans st', r, B, q⟩
theorem PostB.after {Q : Bool → Sto → Prop} {x : Bool} {s' : Shared} (st : Step NoWr ρ F s ρ₁ F₁ s₁) (h : PostB cx ρ₁ F₁ s₁ Q x s') : PostB cx ρ F s Q x s' := by
  obtain ⟨sto', ρ', F', st', B, q⟩ := h
  exact ⟨sto', ρ', F', st.trans st', B, q⟩
theorem Step.own {env : Env} {ρ' : List Addr} {F' : Addr → Prop} {s' : Shared} (st : Step NoWr ρ F s ρ' F' s') : Step (Own env) ρ F s ρ' F' s' := st.weaken fun _ h => h.elim
theorem PostS.after {env : Env} {Q : Fl → Loc → Sto → Prop} {x : Flow} {s' : Shared} (st : Step (Own env) ρ F s ρ₁ F₁ s₁) (h : PostS cx env ρ₁ F₁ s₁ Q x s') : PostS cx env ρ F s Q x s' := by
  obtain ⟨v, loc', sto', ρ', F', st', r, B, f, q⟩ := h
  exact ⟨v, loc', sto', ρ', F', st.trans st', r, B, f, q⟩
theorem PostV.mono {Q Q' : V → Sto → Prop} {x : Value} (h : PostV cx ρ F s Q x s₁) (q : ∀ v st, Q v st → Q' v st) : PostV cx ρ F s Q' x s₁ := by
  obtain ⟨v, sto', ρ', F', st', r, B, q'⟩ := h
  exact ⟨v, sto', ρ', F', st', r, B, q _ _ q'⟩
end

section
variable {cx : Cx} {sc : Scope} {d : Nat} {loc : Loc} {sto : Sto}

theorem WE.mono {e : Expr} {Q Q' : V → Sto → Prop} (h : WE cx sc d e loc sto Q) (q : ∀ v st, Q v st → Q' v st) : WE cx sc d e loc sto Q' :=
  fun env A s ρ F hE hA B f => wpAny_mono (h env A s ρ F hE hA B f) (fun _ _ p => p.mono q) fun _ _ x => x
theorem WT.mono {e : Expr} {Q Q' : Bool → Sto → Prop} (h : WT cx sc d e loc sto Q) (q : ∀ v st, Q v st → Q' v st) : WT cx sc d e loc sto Q' :=
  fun env A s ρ F hE hA B f => wpAny_mono (h env A s ρ F hE hA B f) (fun _ _ p => by obtain ⟨a, b, c, x, y, z⟩ := p; exact ⟨a, b, c, x, y, q _ _ z⟩) fun _ _ x => x
theorem WSs.mono {e : List Stmt} {Q Q' : Fl → Loc → Sto → Prop} (h : WSs cx sc d e loc sto Q) (q : ∀ v l st, Q v l st → Q' v l st) : WSs cx sc d e loc sto Q' :=
  fun env A s ρ F hE hA B f => wpAny_mono (h env A s ρ F hE hA B f) (fun _ _ p => by obtain ⟨a, b, c, a', b', x, y, z, w, k⟩ := p; exact ⟨a, b, c, a', b', x, y, z, w, q _ _ _ k⟩) fun _ _ x => x
/-! constants -/
theorem we_int {i : Int} {k : Nat} {pos : Pos} {Q : V → Sto → Prop} (q : Q (.int i) sto) : WE cx sc d (.Constant (.int i) k pos) loc sto Q :=
  fun _ _ _ _ _ _ _ B _ => wpAny_Constant_int (.imm B (by simp [VRel]) q _)
theorem we_none {k : Nat} {pos : Pos} {Q : V → Sto → Prop} (q : Q .none sto) : WE cx sc d (.Constant .none k pos) loc sto Q :=
  fun _ _ _ _ _ _ _ B _ => wpAny_Constant_none (.imm0 B (by simp [VRel]) q)
theorem we_str {u : Str} {k : Nat} {pos : Pos} {Q : V → Sto → Prop} (q : Q (.str u) sto) : WE cx sc d (.Constant (.str u) k pos) loc sto Q :=
  fun _ _ _ _ _ _ _ B _ => Calls.Constant_str (.imm B (by simp [VRel]) q _)

/-! names -/
def isVar (sc : Scope) (x : Str) : Bool := match sc.names.lookup x with | some .local => true | some .cell => true | _ => false
theorem load_var {x : Str} {v : V} {env : Env} {A : Around} {s : Shared} {ρ : List Addr} {F : Addr → Prop} {E : Value → Shared → Prop} {Q : Value → Shared → Prop} (hE : EnvOK sc env A) (f : Frame cx env ρ F loc s)
    (hv : loc.lookup x = some v) (hk : isVar sc x = true) (q : ∀ y, VRel F ρ s.heap v y → Q y s) : wpAny (model cx.prog cx.w) A (loadName env x) Q E s := by
  have hkind : env.scope.kind = .function := by rw [hE.scope]; exact hE.kind
  unfold isVar at hk
  split at hk
  · rename_i hl
    have hl' : env.kindOf x = some .local := by unfold Env.kindOf; rw [hE.scope]; exact hl
    obtain ⟨m, hn, hm⟩ := f.ns
    obtain ⟨y, e, r⟩ := hm x v hv hl'
    exact wpAny_loadName_local hkind hl' hn e (q y r)
  · rename_i hl
    have hl' : env.kindOf x = some .cell := by unfold Env.kindOf; rw [hE.scope]; exact hl
    obtain ⟨c, y, e, hc, r⟩ := f.cell x v hv hl'
    exact wpAny_loadName_cell hkind hl' e hc (q y r)
  · cases hk
theorem we_name {x : Str} {v : V} {pos : Pos} {Q : V → Sto → Prop} (hv : loc.lookup x = some v) (q : Q v sto) (hk : isVar sc x = true := by rfl) (hd : (x == ("__debug__" : Str)) = false := by decide) :
    WE cx sc d (.Name x pos) loc sto Q :=
  fun _ _ _ _ _ hE _ B f => wpAny_Name (load_var hE f hv hk fun _ r => .imm0 B r q) hd

/-! operators -/
theorem we_bin {l r : Expr} {op : Operator} {pos : Pos} {Q : V → Sto → Prop}
    (h : WE cx sc d l loc sto fun a sto₁ => WE cx sc d r loc sto₁ fun b sto₂ => Op2 cx d (binaryOp op) a b sto₂ Q) : WE cx sc d (.BinOp l op r pos) loc sto Q := by
  intro env A s ρ F hE hA B f
  refine wpAny_BinOp (wpAny_mono (h env A s ρ F hE hA B f) ?_ fun _ _ x => x)
  rintro x s₁ ⟨a, sto₁, ρ₁, F₁, st₁, r₁, B₁, h₁⟩
  refine wpAny_mono (h₁ env A s₁ ρ₁ F₁ hE (hA.step st₁) B₁ (f.step B st₁)) ?_ fun _ _ x => x
  rintro y s₂ ⟨b, sto₂, ρ₂, F₂, st₂, r₂, B₂, h₂⟩
  exact wpAny_mono (h₂ A s₂ ρ₂ F₂ x y ((hA.step st₁).step st₂) B₂ (st₂.vrel B₁ noWrF r₁) r₂) (fun _ _ p => p.after (st₁.trans st₂)) fun _ _ x => x

theorem we_un {x : Expr} {op : UnaryOp} {pos : Pos} {Q : V → Sto → Prop} (h : WE cx sc d x loc sto fun a sto₁ => Op1 cx d (unaryOp op) a sto₁ Q) : WE cx sc d (.UnaryOp op x pos) loc sto Q := by
  intro env A s ρ F hE hA B f
  refine UnaryOp_ (wpAny_mono (h env A s ρ F hE hA B f) ?_ fun _ _ x => x)
  rintro x s₁ ⟨a, sto₁, ρ₁, F₁, st₁, r₁, B₁, h₁⟩
  exact wpAny_mono (h₁ A s₁ ρ₁ F₁ x (hA.step st₁) B₁ r₁) (fun _ _ p => p.after st₁) fun _ _ x => x

theorem we_cmp {l r : Expr} {op : CmpOp} {pos : Pos} {Q : V → Sto → Prop}
    (h : WE cx sc d l loc sto fun a sto₁ => WE cx sc d r loc sto₁ fun b sto₂ => Op2 cx d (compareOp op) a b sto₂ Q) (hm : behindInMarks op r = false := by with_unfolding_all rfl) :
    WE cx sc d (.Compare l [op] [r] pos) loc sto Q := by
  intro env A s ρ F hE hA B f
  refine wpAny_Compare1 (wpAny_mono (h env A s ρ F hE hA B f) ?_ fun _ _ x => x) hm
  rintro x s₁ ⟨a, sto₁, ρ₁, F₁, st₁, r₁, B₁, h₁⟩
  refine wpAny_mono (h₁ env A s₁ ρ₁ F₁ hE (hA.step st₁) B₁ (f.step B st₁)) ?_ fun _ _ x => x
  rintro y s₂ ⟨b, sto₂, ρ₂, F₂, st₂, r₂, B₂, h₂⟩
  exact wpAny_mono (h₂ A s₂ ρ₂ F₂ x y ((hA.step st₁).step st₂) B₂ (st₂.vrel B₁ noWrF r₁) r₂) (fun _ _ p => p.after (st₁.trans st₂)) fun _ _ x => x

theorem wt_cmp {l r : Expr} {op : CmpOp} {pos : Pos} {Q : Bool → Sto → Prop}
    (h : WE cx sc d l loc sto fun a sto₁ => WE cx sc d r loc sto₁ fun b sto₂ => Op2 cx d (compareOp op) a b sto₂ fun v sto₃ => ∃ c, v = .bool c ∧ Q c sto₃) (hm : behindInMarks op r = false := by with_unfolding_all rfl) :
    WT cx sc d (.Compare l [op] [r] pos) loc sto Q := by
  intro env A s ρ F hE hA B f
  refine wpAny_isTrue_Compare1 (wpAny_mono (h env A s ρ F hE hA B f) ?_ fun _ _ x => x) hm
  rintro x s₁ ⟨a, sto₁, ρ₁, F₁, st₁, r₁, B₁, h₁⟩
  refine wpAny_mono (h₁ env A s₁ ρ₁ F₁ hE (hA.step st₁) B₁ (f.step B st₁)) ?_ fun _ _ x => x
  rintro y s₂ ⟨b, sto₂, ρ₂, F₂, st₂, r₂, B₂, h₂⟩
  refine wpAny_mono (h₂ A s₂ ρ₂ F₂ x y ((hA.step st₁).step st₂) B₂ (st₂.vrel B₁ noWrF r₁) r₂) ?_ fun _ _ x => x
  rintro z s₃ ⟨v, sto₃, ρ₃, F₃, st₃, r₃, B₃, c, rfl, q⟩
  simp only [VRel] at r₃
  subst r₃
  exact wpAny_truthy_bool ⟨sto₃, ρ₃, F₃, (st₁.trans st₂).trans st₃, B₃, q⟩

theorem wt_or_nil {pos : Pos} {Q : Bool → Sto → Prop} (h : Q false sto) : WT cx sc d (.BoolOp .Or [] pos) loc sto Q :=
  fun _ _ _ _ _ _ _ B _ => isTrue_or_nil (.imm0 B h)
theorem wt_or {x : Expr} {rest : List Expr} {pos : Pos} {Q : Bool → Sto → Prop} (h : WT cx sc d x loc sto fun c sto₁ => if c = true then Q true sto₁ else WT cx sc d (.BoolOp .Or rest pos) loc sto₁ Q) :
    WT cx sc d (.BoolOp .Or (x :: rest) pos) loc sto Q := by
  intro env A s ρ F hE hA B f
  refine isTrue_or (wpAny_mono (h env A s ρ F hE hA B f) ?_ fun _ _ x => x)
  rintro c s₁ ⟨sto₁, ρ₁, F₁, st₁, B₁, h₁⟩
  cases c with
  | false =>
    simp only [Bool.false_eq_true, if_false] at h₁ ⊢
    exact wpAny_mono (h₁ env A s₁ ρ₁ F₁ hE (hA.step st₁) B₁ (f.step B st₁)) (fun _ _ p => p.after st₁) fun _ _ x => x
  | true =>
    simp only [if_true] at h₁ ⊢
    exact ⟨sto₁, ρ₁, F₁, st₁, B₁, h₁⟩
theorem we_ifexp {test a b : Expr} {pos : Pos} {Q : V → Sto → Prop} (h : WT cx sc d test loc sto fun c sto₁ => if c = true then WE cx sc d a loc sto₁ Q else WE cx sc d b loc sto₁ Q) :
    WE cx sc d (.IfExp test a b pos) loc sto Q := by
  intro env A s ρ F hE hA B f
  refine IfExp_ (wpAny_mono (h env A s ρ F hE hA B f) ?_ fun _ _ x => x)
  rintro c s₁ ⟨sto₁, ρ₁, F₁, st₁, B₁, h₁⟩
  cases c with
  | true =>
    simp only [if_true] at h₁ ⊢
    exact wpAny_mono (h₁ env A s₁ ρ₁ F₁ hE (hA.step st₁) B₁ (f.step B st₁)) (fun _ _ p => p.after st₁) fun _ _ x => x
  | false =>
    simp only [Bool.false_eq_true, if_false] at h₁ ⊢
    exact wpAny_mono (h₁ env A s₁ ρ₁ F₁ hE (hA.step st₁) B₁ (f.step B st₁)) (fun _ _ p => p.after st₁) fun _ _ x => x
/-! ints -/
section
variable {a b : Int} {Q : V → Sto → Prop}
theorem op2_ints {t : Value → Value → Sem Value} (h : ∀ A s ρ F u w, AOK cx d A s.heap → Base cx ρ F sto s → wpAny (model cx.prog cx.w) A (t (.int a u) (.int b w)) (PostV cx ρ F s Q) (fun _ _ => False) s) :
    Op2 cx d t (.int a) (.int b) sto Q := by
  intro A s ρ F x y hA B r₁ r₂
  simp only [VRel] at r₁ r₂
  obtain ⟨u, rfl⟩ := r₁
  obtain ⟨w, rfl⟩ := r₂
  exact h A s ρ F u w hA B
theorem add_ii (q : Q (.int (a + b)) sto) : Op2 cx d (binaryOp .Add) (.int a) (.int b) sto Q := op2_ints fun _ _ _ _ _ _ _ B => add_int (.imm B (by simp [VRel]) q _)
theorem sub_ii (q : Q (.int (a - b)) sto) : Op2 cx d (binaryOp .Sub) (.int a) (.int b) sto Q := op2_ints fun _ _ _ _ _ _ _ B => sub_int (.imm B (by simp [VRel]) q _)
theorem fdiv_ii (q : b ≠ 0 ∧ Builtin.divisionGoesByPylong a b = false ∧ Q (.int (a.fdiv b)) sto) : Op2 cx d (binaryOp .FloorDiv) (.int a) (.int b) sto Q :=
  op2_ints fun _ _ _ _ _ _ _ B => floordiv_int q.1 (.imm B (by simp [VRel]) q.2.2 _) (.inl q.2.1)
theorem mod_ii (q : b ≠ 0 ∧ Q (.int (a.fmod b)) sto) : Op2 cx d (binaryOp .Mod) (.int a) (.int b) sto Q := op2_ints fun _ _ _ _ _ _ _ B => mod_int' q.1 (.imm B (by simp [VRel]) q.2 _)
theorem pow_ii (q : 0 ≤ b ∧ (Builtin.Int.intBits a : Int) * b ≤ 2 ^ 27 ∧ Q (.int (a ^ b.toNat)) sto) : Op2 cx d (binaryOp .Pow) (.int a) (.int b) sto Q :=
  op2_ints fun _ _ _ _ _ _ _ B => pow_int q.1 q.2.1 (.imm B (by simp [VRel]) q.2.2 _)
theorem lt_ii (q : Q (.bool (decide (a < b))) sto) : Op2 cx d (compareOp .Lt) (.int a) (.int b) sto Q := op2_ints fun _ _ _ _ _ _ _ B => lt_int (.imm0 B (by simp [VRel]) q)
theorem gt_ii (q : Q (.bool (decide (b < a))) sto) : Op2 cx d (compareOp .Gt) (.int a) (.int b) sto Q := op2_ints fun _ _ _ _ _ _ _ B => gt_int (.imm0 B (by simp [VRel]) q)
theorem eq_ii (q : Q (.bool (a == b)) sto) : Op2 cx d (compareOp .Eq) (.int a) (.int b) sto Q := op2_ints fun _ _ _ _ _ _ _ B => eq_int (.imm0 B (by simp [VRel]) q)
theorem neg_i (q : Q (.int (-a)) sto) : Op1 cx d (unaryOp .USub) (.int a) sto Q := by
  intro A s ρ F x hA B r
  simp only [VRel] at r
  obtain ⟨u, rfl⟩ := r
  exact neg_int (.imm B (by simp [VRel]) q _)
end
end
end Mine

namespace Mine

section
variable {cx : Cx} {sc : Scope} {d : Nat} {loc : Loc} {sto : Sto} {ρ : List Addr} {F : Addr → Prop} {s : Shared} {env : Env}

/-- one object that no tracked list and no data is changes -/
theorem Base.sameBut {a : Addr} {h' : Heap} {t : Nat} (B : Base cx ρ F sto s) (hs : Heap.SameBut a s.heap h') (h1 : a ∉ ρ) (h2 : ¬ F a) (h3 : cx.base.get? a = none) : Base cx ρ F sto { s with heap := h', toks := t } where
  stays := fun b o e => by
    have : b ≠ a := fun q => by rw [q, h3] at e; cases e
    exact (hs.2 b this).trans (B.stays b o e)
  rnew := B.rnew
  nodup := B.nodup
  len := B.len
  objs := fun i b vs e1 e2 => by
    obtain ⟨items, ⟨n, ho⟩, q⟩ := B.objs i b vs e1 e2
    have hb : b ≠ a := fun q => h1 (q ▸ List.mem_of_getElem? e1)
    refine ⟨items, ⟨n, (hs.2 b hb).trans ho⟩, q.mono (fun _ x => x) (fun _ _ x => x) fun c o' hc e _ => ?_⟩
    exact (hs.2 c (fun q => h2 (q ▸ hc))).trans e
  disj := B.disj
  live := fun b hb => by
    obtain ⟨o, ho⟩ := B.live b hb
    exact ⟨o, (hs.2 b (fun q => h2 (q ▸ hb))).trans ho⟩
  gens := B.gens
  os := B.os

theorem Step.sameBut {Wr : Addr → Prop} {a : Addr} {h' : Heap} {t : Nat} {o' : Obj} (hs : Heap.SameBut a s.heap h') (hw : Wr a) (ho' : h'.get? a = some o') (hd : ∀ vs, o'.data ≠ .fields vs) (hdi : ∀ o, s.heap.get? a = some o → (∃ es n, o.data = .dict es n) → ∃ es n, o'.data = .dict es n) : Step Wr ρ F s ρ F { s with heap := h', toks := t } where
  pre := ⟨[], by simp⟩
  sub := fun _ h => h
  newr := fun _ h => .inl h
  newF := fun _ h => .inl h
  kept := fun b o _ hb e => ⟨o, (hs.2 b (fun q => hb (q ▸ hw))).trans e, .refl o⟩
  alive := fun b o e => by
    by_cases hb : b = a
    · subst hb; exact ⟨o', ho', fun _ => hd, hdi o e⟩
    · exact ⟨o, (hs.2 b hb).trans e, fun h => h, fun h => h⟩

theorem Ns.dict {h : Heap} {a : Addr} {o : Obj} {m : Str → Option Value} (n : h.Ns a m) (e : h.get? a = some o) : ∃ es n, o.data = .dict es n := by
  obtain ⟨o', es, ep, ho, hd, _⟩ := n
  rw [e] at ho; cases ho
  exact ⟨es, ep, hd⟩
theorem Ns.obj {h : Heap} {a : Addr} {m : Str → Option Value} (n : h.Ns a m) : ∃ o, h.get? a = some o ∧ ∀ vs, o.data ≠ .fields vs := by
  obtain ⟨o, es, ep, ho, hd, _⟩ := n
  exact ⟨o, ho, fun vs q => by rw [hd] at q; cases q⟩
theorem IsCell.obj {h : Heap} {a : Addr} {m : Option Value} (n : h.IsCell a m) : ∃ o, h.get? a = some o ∧ ∀ vs, o.data ≠ .fields vs := by
  obtain ⟨o, ho, hd⟩ := n
  exact ⟨o, ho, fun vs q => by rw [hd] at q; cases q⟩

/-- data seen through a heap that differs in one foreign object -/
theorem VRel.sameBut {a : Addr} {h h' : Heap} {v : V} {y : Value} (r : VRel F ρ h v y) (hs : Heap.SameBut a h h') (h2 : ¬ F a) : VRel F ρ h' v y :=
  r.mono (fun _ x => x) (fun _ _ x => x) fun c _ hc e _ => (hs.2 c (fun q => h2 (q ▸ hc))).trans e

theorem lookup_cons' {x y : Str} {v : V} : List.lookup y ((x, v) :: loc) = if y = x then some v else List.lookup y loc := by
  rw [List.lookup_cons]
  by_cases h : y = x
  · subst h; simp
  · have : (y == x) = false := by simpa using h
    simp [this, h]

theorem Frame.of_ns {m' : Str → Option Value} {h' : Heap} {t : Nat} {loc' : Loc} (f : Frame cx env ρ F loc s) (hn' : h'.Ns env.locals m') (hs : Heap.SameBut env.locals s.heap h')
    (hm : ∀ x v, loc'.lookup x = some v → env.kindOf x = some .local → ∃ y, m' x = some y ∧ VRel F ρ h' v y)
    (hc : ∀ x v, loc'.lookup x = some v → env.kindOf x = some .cell → loc.lookup x = some v) : Frame cx env ρ F loc' { s with heap := h', toks := t } where
  ns := ⟨m', hn', hm⟩
  cell := fun x v h1 h2 => by
    obtain ⟨c, y, e, hcell, r⟩ := f.cell x v (hc x v h1 h2) h2
    exact ⟨c, y, e, hcell.sameBut hs (f.lc x c e), r.sameBut hs (f.own _ (.inl rfl)).2.1⟩
  cells := fun x h2 => by
    obtain ⟨c, o, e, hcell⟩ := f.cells x h2
    exact ⟨c, o, e, hcell.sameBut hs (f.lc x c e)⟩
  apart := f.apart
  own := fun b hb => by
    obtain ⟨h1, h2, h3, o, ho⟩ := f.own b hb
    refine ⟨h1, h2, h3, ?_⟩
    by_cases q : b = env.locals
    · subst q; obtain ⟨o', ho', _⟩ := Ns.obj hn'; exact ⟨o', ho'⟩
    · exact ⟨o, (hs.2 b q).trans ho⟩
  lc := f.lc

theorem store_var {x : Str} {v : V} {y : Value} {A : Around} {E : Value → Shared → Prop} {Q : Unit → Shared → Prop} (hE : EnvOK sc env A) (B : Base cx ρ F sto s) (f : Frame cx env ρ F loc s)
    (r : VRel F ρ s.heap v y) (hk : isVar sc x = true)
    (q : ∀ s', Step (Own env) ρ F s ρ F s' → Base cx ρ F sto s' → Frame cx env ρ F ((x, v) :: loc) s' → Q () s') : wpAny (model cx.prog cx.w) A (storeName env x y) Q E s := by
  have hkind : env.scope.kind = .function := by rw [hE.scope]; exact hE.kind
  unfold isVar at hk
  split at hk
  · rename_i hl
    have hl' : env.kindOf x = some .local := by unfold Env.kindOf; rw [hE.scope]; exact hl
    obtain ⟨m, hn, hm⟩ := f.ns
    obtain ⟨o1, o2, o3, _⟩ := f.own _ (.inl rfl)
    refine wpAny_storeName_local hl' hn (fun h' hn' hs => ?_) (by rw [hkind]; rfl)
    obtain ⟨o', ho', hd'⟩ := Ns.obj hn'
    refine q _ (.sameBut hs (.inl rfl) ho' hd' (fun _ _ _ => Ns.dict hn' ho')) (B.sameBut hs o1 o2 o3) (f.of_ns hn' hs (fun z w h1 h2 => ?_) fun z w h1 h2 => ?_)
    · rw [lookup_cons'] at h1
      by_cases hz : z = x
      · rw [if_pos hz] at h1 ⊢; cases h1; exact ⟨y, rfl, r.sameBut hs o2⟩
      · rw [if_neg hz] at h1 ⊢
        obtain ⟨y', e, r'⟩ := hm z w h1 h2
        exact ⟨y', e, r'.sameBut hs o2⟩
    · rw [lookup_cons'] at h1
      by_cases hz : z = x
      · subst hz; rw [hl'] at h2; cases h2
      · rwa [if_neg hz] at h1
  · rename_i hl
    have hl' : env.kindOf x = some .cell := by unfold Env.kindOf; rw [hE.scope]; exact hl
    obtain ⟨c, oc, hc, hcell⟩ := f.cells x hl'
    obtain ⟨o1, o2, o3, _⟩ := f.own c (.inr ⟨x, hc⟩)
    refine wpAny_storeName_cell hkind hl' hc hcell fun h' hcell' hs => ?_
    obtain ⟨o', ho', hd'⟩ := IsCell.obj hcell'
    have hLc : env.locals ≠ c := fun q => f.lc x c hc q.symm
    refine q _ (.sameBut (t := s.toks) hs (.inr ⟨x, hc⟩) ho' hd' (fun o e h => by
      obtain ⟨o₁, e₁, d₁⟩ := hcell
      rw [e] at e₁; cases e₁
      obtain ⟨es, n, d₂⟩ := h
      rw [d₁] at d₂; cases d₂)) (B.sameBut (t := s.toks) hs o1 o2 o3) ⟨?_, fun z w h1 h2 => ?_, fun z h2 => ?_, f.apart, fun b hb => ?_, f.lc⟩
    · obtain ⟨m, hn, hm⟩ := f.ns
      refine ⟨m, hn.sameBut hs hLc, fun z w h1 h2 => ?_⟩
      rw [lookup_cons'] at h1
      by_cases hz : z = x
      · subst hz; rw [hl'] at h2; cases h2
      · rw [if_neg hz] at h1
        obtain ⟨y', e, r'⟩ := hm z w h1 h2
        exact ⟨y', e, r'.sameBut hs o2⟩
    · rw [lookup_cons'] at h1
      by_cases hz : z = x
      · subst hz; rw [if_pos rfl] at h1; cases h1
        exact ⟨c, y, hc, hcell', r.sameBut hs o2⟩
      · rw [if_neg hz] at h1
        obtain ⟨c', y', e, hcell₂, r'⟩ := f.cell z w h1 h2
        exact ⟨c', y', e, hcell₂.sameBut hs (fun q => hz (f.apart z x c (q ▸ e) hc)), r'.sameBut hs o2⟩
    · by_cases hz : z = x
      · subst hz; exact ⟨c, _, hc, hcell'⟩
      · obtain ⟨c', y', e, hcell₂⟩ := f.cells z h2
        exact ⟨c', y', e, hcell₂.sameBut hs (fun q => hz (f.apart z x c (q ▸ e) hc))⟩
    · obtain ⟨h1, h2, h3, o, ho⟩ := f.own b hb
      refine ⟨h1, h2, h3, ?_⟩
      by_cases q : b = c
      · subst q; exact ⟨o', ho'⟩
      · exact ⟨o, (hs.2 b q).trans ho⟩
  · cases hk

/-- the frame's facts may be forgotten in part -/
theorem Frame.weaken {loc' : Loc} (f : Frame cx env ρ F loc s) (h : ∀ x v, loc'.lookup x = some v → loc.lookup x = some v) : Frame cx env ρ F loc' s where
  ns := by
    obtain ⟨m, hn, hm⟩ := f.ns
    exact ⟨m, hn, fun x v h1 h2 => hm x v (h x v h1) h2⟩
  cell := fun x v h1 h2 => f.cell x v (h x v h1) h2
  cells := f.cells
  apart := f.apart
  own := f.own
  lc := f.lc
end

section
variable {cx : Cx} {sc : Scope} {d : Nat} {loc : Loc} {sto : Sto}

theorem WSs.weaken {loc' : Loc} {body : List Stmt} {Q : Fl → Loc → Sto → Prop} (h : WSs cx sc d body loc' sto Q) (hl : ∀ x v, loc'.lookup x = some v → loc.lookup x = some v) : WSs cx sc d body loc sto Q :=
  fun env A s ρ F hE hA B f => h env A s ρ F hE hA B (f.weaken hl)
theorem WE.weaken {loc' : Loc} {e : Expr} {Q : V → Sto → Prop} (h : WE cx sc d e loc' sto Q) (hl : ∀ x v, loc'.lookup x = some v → loc.lookup x = some v) : WE cx sc d e loc sto Q :=
  fun env A s ρ F hE hA B f => h env A s ρ F hE hA B (f.weaken hl)

theorem ws_nil {Q : Fl → Loc → Sto → Prop} (q : Q .next loc sto) : WSs cx sc d [] loc sto Q :=
  fun _ _ _ ρ F _ _ B f => wpAny_execs_nil ⟨.next, loc, sto, ρ, F, .refl, rfl, B, f, q⟩
theorem ws_cons {st : Stmt} {rest : List Stmt} {Q : Fl → Loc → Sto → Prop}
    (h : WS cx sc d st loc sto fun fl loc₁ sto₁ => match fl with | .next => WSs cx sc d rest loc₁ sto₁ Q | fl => Q fl loc₁ sto₁) : WSs cx sc d (st :: rest) loc sto Q := by
  intro env A s ρ F hE hA B f
  refine wpAny_execs_cons (wpAny_mono (h env A s ρ F hE hA B f) ?_ fun _ _ x => x)
  rintro fl s₁ ⟨v, loc₁, sto₁, ρ₁, F₁, st₁, r₁, B₁, f₁, h₁⟩
  cases v with
  | next =>
    simp only [FlRel] at r₁
    subst r₁
    exact wpAny_mono (h₁ env A s₁ ρ₁ F₁ hE (hA.step st₁) B₁ f₁) (fun _ _ p => p.after st₁) fun _ _ x => x
  | brk => simp only [FlRel] at r₁; subst r₁; exact ⟨.brk, loc₁, sto₁, ρ₁, F₁, st₁, rfl, B₁, f₁, h₁⟩
  | cont => simp only [FlRel] at r₁; subst r₁; exact ⟨.cont, loc₁, sto₁, ρ₁, F₁, st₁, rfl, B₁, f₁, h₁⟩
  | ret v =>
    simp only [FlRel] at r₁
    obtain ⟨x, rfl, r₁⟩ := r₁
    exact ⟨.ret v, loc₁, sto₁, ρ₁, F₁, st₁, ⟨x, rfl, r₁⟩, B₁, f₁, h₁⟩

theorem ws_return {e : Expr} {pos : Pos} {Q : Fl → Loc → Sto → Prop} (h : WE cx sc d e loc sto fun v sto₁ => Q (.ret v) loc sto₁) : WS cx sc d (.Return (some e) pos) loc sto Q := by
  intro env A s ρ F hE hA B f
  refine wpAny_Return_some (wpAny_mono (h env A s ρ F hE hA B f) ?_ fun _ _ x => x)
  rintro x s₁ ⟨v, sto₁, ρ₁, F₁, st₁, r₁, B₁, h₁⟩
  exact ⟨.ret v, loc, sto₁, ρ₁, F₁, st₁.own, ⟨x, rfl, r₁⟩, B₁, f.step B st₁, h₁⟩
/-- no comprehension at the right -/
def noComp : Expr → Bool
  | .ListComp .. => false
  | .SetComp .. => false
  | .DictComp .. => false
  | _ => true
theorem swaps_false {e : Expr} {t : Option Expr} {n : Nat} {env : Env} (h : noComp e = true) : swapsWith e t n env = pure false := by
  cases e <;> first | rfl | cases h

theorem ws_assign {x : Str} {e : Expr} {p pos : Pos} {Q : Fl → Loc → Sto → Prop} (h : WE cx sc d e loc sto fun v sto₁ => Q .next ((x, v) :: loc) sto₁) (hk : isVar sc x = true := by rfl)
    (hn : noComp e = true := by rfl) : WS cx sc d (.Assign [.Name x p] e pos) loc sto Q := by
  intro env A s ρ F hE hA B f
  refine wpAny_Assign_Name (wpAny_mono (h env A s ρ F hE hA B f) ?_ fun _ _ x => x) (swaps_false hn)
  rintro y s₁ ⟨v, sto₁, ρ₁, F₁, st₁, r₁, B₁, h₁⟩
  exact store_var hE B₁ (f.step B st₁) r₁ hk fun s₂ st₂ B₂ f₂ => ⟨.next, _, sto₁, ρ₁, F₁, st₁.own.trans st₂, rfl, B₂, f₂, h₁⟩

theorem ws_aug {x : Str} {v : V} {op : Operator} {e : Expr} {p pos : Pos} {Q : Fl → Loc → Sto → Prop} (hv : loc.lookup x = some v)
    (h : WE cx sc d e loc sto fun b sto₁ => Op2 cx d (inplaceOp op) v b sto₁ fun r sto₂ => Q .next ((x, r) :: loc) sto₂) (hk : isVar sc x = true := by rfl) :
    WS cx sc d (.AugAssign (.Name x p) op e pos) loc sto Q := by
  intro env A s ρ F hE hA B f
  refine wpAny_AugAssign_Name (load_var hE f hv hk fun y r => wpAny_mono (h env A s ρ F hE hA B f) ?_ fun _ _ x => x)
  rintro z s₁ ⟨b, sto₁, ρ₁, F₁, st₁, r₁, B₁, h₁⟩
  refine wpAny_mono (h₁ A s₁ ρ₁ F₁ y z (hA.step st₁) B₁ (st₁.vrel B noWrF r) r₁) ?_ fun _ _ x => x
  rintro z' s₂ ⟨b', sto₂, ρ₂, F₂, st₂, r₂, B₂, h₂⟩
  exact store_var hE B₂ ((f.step B st₁).step B₁ st₂) r₂ hk fun s₃ st₃ B₃ f₃ => ⟨.next, _, sto₂, ρ₂, F₂, (st₁.trans st₂).own.trans st₃, rfl, B₃, f₃, h₂⟩
end
end Mine

namespace Mine

structure IterOK (cx : Cx) (A : Around) (s : Shared) (ρ : List Addr) (F : Addr → Prop) (I : Addr) (fp wr : List Addr) (xs : List V) (P : Nat → Value → Prop) (St : Nat → Heap → Prop) : Prop where
  walk : Walks cx.prog cx.w A I fp wr xs.length P St
  fresh : ∀ b ∈ wr, s.heap.get? b = none
  prot : ∀ b ∈ fp, b ∈ wr ∨ F b
  nd : ∀ i h, St i h → ∀ b ∈ fp, ∀ o, h.get? b = some o → ∀ es n, o.data ≠ .dict es n
  fld : ∀ i h, St i h → ∀ b ∈ wr, ∃ o vs, h.get? b = some o ∧ o.data = .fields vs
  rel : ∀ i y, i < xs.length → P i y → ∃ v, xs[i]? = some v ∧ VRel F ρ s.heap v y

/-- going through a gives xs -/
def ItV (cx : Cx) (a : V) (sto : Sto) (xs : List V) : Prop :=
  ∀ A s ρ F x, A.handled = none → Base cx ρ F sto s → VRel F ρ s.heap a x →
    wpAny (model cx.prog cx.w) A (pyIter x) (fun it s₀ => ∃ I fp wr P St h₀ tk, it = .ref I ∧ s₀ = { s with heap := h₀, toks := tk } ∧ (∀ b o, s.heap.get? b = some o → h₀.get? b = some o) ∧
      IterOK cx A s ρ F I fp wr xs P St ∧ St 0 h₀) (fun _ _ => False) s

def LoopS (cx : Cx) (sc : Scope) (d : Nat) (x : Str) (body : List Stmt) : List V → Loc → Sto → (Fl → Loc → Sto → Prop) → Prop
  | [], loc, sto, Q => Q .next loc sto
  | v :: vs, loc, sto, Q => WSs cx sc d body ((x, v) :: loc) sto fun fl loc' sto' => match fl with
      | .next => LoopS cx sc d x body vs loc' sto' Q
      | .cont => LoopS cx sc d x body vs loc' sto' Q
      | .brk => Q .next loc' sto'
      | .ret r => Q (.ret r) loc' sto'

def WhileS (cx : Cx) (sc : Scope) (d : Nat) (test : Expr) (body : List Stmt) : Nat → Loc → Sto → (Fl → Loc → Sto → Prop) → Prop
  | 0, _, _, _ => False
  | n + 1, loc, sto, Q => WT cx sc d test loc sto fun c sto₁ => if c = true then WSs cx sc d body loc sto₁ (fun fl loc' sto' => match fl with
      | .next => WhileS cx sc d test body n loc' sto' Q
      | .cont => WhileS cx sc d test body n loc' sto' Q
      | .brk => Q .next loc' sto'
      | .ret r => Q (.ret r) loc' sto') else Q .next loc sto₁

section
variable {cx : Cx} {sc : Scope} {d : Nat} {loc : Loc} {sto : Sto} {ρ ρ₁ : List Addr} {F F₁ : Addr → Prop} {s s₁ : Shared} {env : Env}

/-- new objects alone are changed -/
theorem Step.later {Wr : Addr → Prop} {wr : List Addr} {h' : Heap} {t : Nat} (st : Step Wr ρ F s ρ₁ F₁ s₁) (hk : ∀ b o, b ∉ wr → s₁.heap.get? b = some o → h'.get? b = some o)
    (hw : ∀ b ∈ wr, s.heap.get? b = none) : Step Wr ρ F s ρ₁ F₁ { s₁ with heap := h', toks := t } where
  pre := st.pre
  sub := st.sub
  newr := st.newr
  newF := st.newF
  kept := fun b o h1 h2 e => by
    obtain ⟨o', e', k⟩ := st.kept b o h1 h2 e
    exact ⟨o', hk b o' (fun h => by rw [hw b h] at e; cases e) e', k⟩
  alive := fun b o e => by
    obtain ⟨o', e', k⟩ := st.alive b o e
    exact ⟨o', hk b o' (fun h => by rw [hw b h] at e; cases e) e', k⟩
theorem Base.later {wr : List Addr} {h' : Heap} {t : Nat} (B : Base cx ρ F sto s) (hk : ∀ b o, b ∉ wr → s.heap.get? b = some o → h'.get? b = some o)
    (hw : ∀ b ∈ wr, b ∉ ρ ∧ ¬ F b ∧ cx.base.get? b = none) : Base cx ρ F sto { s with heap := h', toks := t } where
  stays := fun b o e => hk b o (fun h => by rw [(hw b h).2.2] at e; cases e) (B.stays b o e)
  rnew := B.rnew
  nodup := B.nodup
  len := B.len
  objs := fun i a vs e1 e2 => by
    obtain ⟨items, ⟨n, ho⟩, q⟩ := B.objs i a vs e1 e2
    refine ⟨items, ⟨n, hk a _ (fun h => (hw a h).1 (List.mem_of_getElem? e1)) ho⟩, q.mono (fun _ x => x) (fun _ _ x => x) fun c o' hc e _ => hk c o' (fun h => (hw c h).2.1 hc) e⟩
  disj := B.disj
  live := fun b hb => by
    obtain ⟨o, ho⟩ := B.live b hb
    exact ⟨o, hk b o (fun h => (hw b h).2.1 hb) ho⟩
  gens := B.gens
  os := B.os
theorem Frame.later {wr : List Addr} {h' : Heap} {t : Nat} (f : Frame cx env ρ F loc s) (hk : ∀ b o, b ∉ wr → s.heap.get? b = some o → h'.get? b = some o)
    (hw : ∀ b ∈ wr, ¬ Own env b ∧ ¬ F b) : Frame cx env ρ F loc { s with heap := h', toks := t } where
  ns := by
    obtain ⟨m, hn, hm⟩ := f.ns
    refine ⟨m, Ns.kept hn fun o ho => ⟨o, hk _ o (fun h => (hw _ h).1 (.inl rfl)) ho, .refl o⟩, fun x v h1 h2 => ?_⟩
    obtain ⟨y, e, r⟩ := hm x v h1 h2
    exact ⟨y, e, r.mono (fun _ x => x) (fun _ _ x => x) fun c o' hc e _ => hk c o' (fun h => (hw c h).2 hc) e⟩
  cell := fun x v h1 h2 => by
    obtain ⟨c, y, e, hc, r⟩ := f.cell x v h1 h2
    exact ⟨c, y, e, IsCell.kept hc fun o ho => ⟨o, hk _ o (fun h => (hw _ h).1 (.inr ⟨x, e⟩)) ho, .refl o⟩, r.mono (fun _ x => x) (fun _ _ x => x) fun c o' hc e _ => hk c o' (fun h => (hw c h).2 hc) e⟩
  cells := fun x h2 => by
    obtain ⟨c, o, e, hc⟩ := f.cells x h2
    exact ⟨c, o, e, IsCell.kept hc fun o ho => ⟨o, hk _ o (fun h => (hw _ h).1 (.inr ⟨x, e⟩)) ho, .refl o⟩⟩
  apart := f.apart
  own := fun b hb => by
    obtain ⟨h1, h2, h3, o, ho⟩ := f.own b hb
    exact ⟨h1, h2, h3, o, hk b o (fun h => (hw b h).1 hb) ho⟩
  lc := f.lc
end

section
variable {cx : Cx} {sc : Scope} {d : Nat} {loc : Loc} {sto : Sto}

def noSet : Expr → Bool
  | .Set .. => false
  | _ => true
theorem notSet_folds {e : Expr} (h : noSet e = true) (env : Env) (x : Value) : foldedSetIterable e env x = pure x := by
  cases e <;> first | rfl | cases h

theorem ws_for {x : Str} {iter : Expr} {body : List Stmt} {p pos : Pos} {Q : Fl → Loc → Sto → Prop}
    (h : WE cx sc d iter loc sto fun a sto₁ => ∃ xs, ItV cx a sto₁ xs ∧ LoopS cx sc d x body xs loc sto₁ Q) (hk : isVar sc x = true := by rfl)
    (hs : noSet iter = true := by rfl) : WS cx sc d (.For (.Name x p) iter body [] pos) loc sto Q := by
  intro env A s ρ F hE hA B f
  refine wpAny_For (wpAny_mono (h env A s ρ F hE hA B f) ?_ fun _ _ x => x) (notSet_folds hs env)
  rintro a s₁ ⟨v, sto₁, ρ₁, F₁, st₁, r₁, B₁, xs, hit, hloop⟩
  refine wpAny_mono (hit A s₁ ρ₁ F₁ a hA.handled B₁ r₁) ?_ fun _ _ x => x
  rintro it s₂ ⟨I, fp, wr, P, St, h₀, tk, rfl, rfl, hkeep, ok, hst⟩
  have f₁ := f.step B st₁
  -- what stands after i turns
  let Inv : Nat → Shared → Prop := fun k s' => ∃ i ρ' F' loc' sto', k = xs.length - i ∧ i ≤ xs.length ∧ Step (Own env) ρ₁ F₁ s₁ ρ' F' s' ∧ Base cx ρ' F' sto' s' ∧ Frame cx env ρ' F' loc' s' ∧
    St i s'.heap ∧ (∀ b ∈ wr, b ∉ ρ' ∧ ¬ F' b) ∧ LoopS cx sc d x body (xs.drop i) loc' sto' Q
  have wrBase : ∀ b ∈ wr, cx.base.get? b = none := fun b hb => by
    cases e : cx.base.get? b with
    | none => rfl
    | some o => have := B₁.stays b o e; rw [ok.fresh b hb] at this; cases this
  have wrOwn : ∀ b ∈ wr, ¬ Own env b := fun b hb ho => by
    obtain ⟨_, _, _, o, e⟩ := f₁.own b ho
    rw [ok.fresh b hb] at e; cases e
  have wrρ : ∀ b ∈ wr, b ∉ ρ₁ := fun b hb hm => by
    obtain ⟨i, hi⟩ := List.getElem?_of_mem hm
    have hlt : i < ρ₁.length := (List.getElem?_eq_some_iff.mp hi).1
    obtain ⟨items, ⟨n, ho⟩, _⟩ := B₁.objs i b (sto₁[i]'(B₁.len ▸ hlt)) hi (List.getElem?_eq_getElem _)
    rw [ok.fresh b hb] at ho; cases ho
  have wrF : ∀ b ∈ wr, ¬ F₁ b := fun b hb hF => by
    obtain ⟨o, ho⟩ := B₁.live b hF
    rw [ok.fresh b hb] at ho; cases ho
  have start : Inv xs.length { s₁ with heap := h₀, toks := tk } := by
    refine ⟨0, ρ₁, F₁, loc, sto₁, rfl, Nat.zero_le _, Step.later (wr := []) Step.refl (fun b o _ e => hkeep b o e) (fun _ h => nomatch h), B₁.later (wr := []) (fun b o _ e => hkeep b o e) (fun _ h => nomatch h),
      f₁.later (wr := []) (fun b o _ e => hkeep b o e) (fun _ h => nomatch h), hst, fun b hb => ⟨wrρ b hb, wrF b hb⟩, hloop⟩
  refine codeAny_forLoop_any Inv ?_ xs.length start
  rintro k s' ⟨i, ρ', F', loc', sto', rfl, hi, st', B', f', hst', hwr, hl⟩
  have hall : ∀ b ∈ wr, b ∉ ρ' ∧ ¬ F' b ∧ cx.base.get? b = none := fun b hb => ⟨(hwr b hb).1, (hwr b hb).2, wrBase b hb⟩
  by_cases hlt : i < xs.length
  · refine ok.walk.item i s' _ _ hlt hst' fun y h' tk' hP hst₂ hk₂ => ?_
    obtain ⟨v', hv', rv⟩ := ok.rel i y hlt hP
    have hgi : xs[i] = v' := by rw [List.getElem?_eq_getElem hlt] at hv'; exact Option.some.inj hv'
    rw [List.drop_eq_getElem_cons hlt, hgi] at hl
    unfold LoopS at hl
    have st₂ : Step (Own env) ρ₁ F₁ s₁ ρ' F' { s' with heap := h', toks := tk' } := st'.later hk₂ ok.fresh
    have B₂ := B'.later (t := tk') hk₂ hall
    have f₂ := f'.later (t := tk') hk₂ fun b hb => ⟨wrOwn b hb, (hwr b hb).2⟩
    refine wpAny_pure (a := ()) ?_
    refine wpAny_assign_Name (store_var hE B₂ f₂ (st₂.vrel B₁ f₁.noF rv) hk fun s₃ st₃ B₃ f₃ => ?_)
    have hA₃ := ((hA.step st₁).step st₂).step st₃
    refine wpAny_mono (hl env A s₃ ρ' F' hE hA₃ B₃ f₃) ?_ fun _ _ x => x.elim
    rintro g s₄ ⟨fl, loc₄, sto₄, ρ₄, F₄, st₄, r₄, B₄, f₄, q₄⟩
    have st₅ : Step (Own env) ρ₁ F₁ s₁ ρ₄ F₄ s₄ := (st₂.trans st₃).trans st₄
    -- the iterator is as it was
    have keepfp : ∀ b ∈ fp, ∀ o, h'.get? b = some o → s₄.heap.get? b = some o := fun b hb o e => by
      have hb' : b ∉ ρ' ∧ ¬ Own env b := by
        rcases ok.prot b hb with h | h
        · exact ⟨(hwr b h).1, wrOwn b h⟩
        · exact ⟨B'.disj b (st'.sub b h), fun ho => (f'.own b ho).2.1 (st'.sub b h)⟩
      obtain ⟨o', e', k'⟩ := (st₃.trans st₄).kept b o hb'.1 hb'.2 e
      rw [k'.same (ok.nd _ _ hst₂ b hb o e)] at e'
      exact e'
    have hst₄ : St (i + 1) s₄.heap := ok.walk.frame _ _ _ hst₂ keepfp
    have hwr₄ : ∀ b ∈ wr, b ∉ ρ₄ ∧ ¬ F₄ b := fun b hb => by
      obtain ⟨o, vs, e, _⟩ := ok.fld _ _ hst₂ b hb
      have st₃₄ := st₃.trans st₄
      refine ⟨fun h => ?_, fun h => ?_⟩
      · rcases st₃₄.newr b h with h | h
        · exact (hwr b hb).1 h
        · have h : h'.get? b = none := h
          rw [h] at e; cases e
      · rcases st₃₄.newF b h with h | h
        · exact (hwr b hb).2 h
        · have h : h'.get? b = none := h
          rw [h] at e; cases e
    cases fl with
    | next =>
      simp only [FlRel] at r₄; subst r₄
      exact ⟨xs.length - (i + 1), by omega, i + 1, ρ₄, F₄, loc₄, sto₄, rfl, hlt, st₅, B₄, f₄, hst₄, hwr₄, q₄⟩
    | cont =>
      simp only [FlRel] at r₄; subst r₄
      exact ⟨xs.length - (i + 1), by omega, i + 1, ρ₄, F₄, loc₄, sto₄, rfl, hlt, st₅, B₄, f₄, hst₄, hwr₄, q₄⟩
    | brk =>
      simp only [FlRel] at r₄; subst r₄
      exact ⟨.next, loc₄, sto₄, ρ₄, F₄, st₁.own.trans st₅, rfl, B₄, f₄, q₄⟩
    | ret r =>
      simp only [FlRel] at r₄
      obtain ⟨z, rfl, rz⟩ := r₄
      exact ⟨.ret r, loc₄, sto₄, ρ₄, F₄, st₁.own.trans st₅, ⟨z, rfl, rz⟩, B₄, f₄, q₄⟩
  · obtain rfl : i = xs.length := by omega
    refine ok.walk.done s' _ _ hst' fun h' tk' hk₂ => ?_
    rw [List.drop_length] at hl
    exact wpAny_execs_nil ⟨.next, loc', sto', ρ', F', st₁.own.trans (st'.later hk₂ ok.fresh), rfl, B'.later hk₂ hall, f'.later hk₂ fun b hb => ⟨wrOwn b hb, (hwr b hb).2⟩, hl⟩

theorem ws_while {test : Expr} {body : List Stmt} {pos : Pos} {Q : Fl → Loc → Sto → Prop} (n : Nat) (h : WhileS cx sc d test body n loc sto Q) : WS cx sc d (.While test body [] pos) loc sto Q := by
  intro env A s ρ F hE hA B f
  refine wpAny_While ?_
  let Inv : Nat → Shared → Prop := fun k s' => ∃ ρ' F' loc' sto', Step (Own env) ρ F s ρ' F' s' ∧ Base cx ρ' F' sto' s' ∧ Frame cx env ρ' F' loc' s' ∧ WhileS cx sc d test body k loc' sto' Q
  refine codeAny_whileLoop Inv ?_ n ⟨ρ, F, loc, sto, .refl, B, f, h⟩
  rintro k s' ⟨ρ', F', loc', sto', st', B', f', hw⟩
  cases k with
  | zero => exact hw.elim
  | succ k =>
    unfold WhileS at hw
    refine wpAny_mono (hw env A s' ρ' F' hE (hA.step st') B' f') ?_ fun _ _ x => x.elim
    rintro c s₁ ⟨sto₁, ρ₁, F₁, st₁, B₁, h₁⟩
    cases c with
    | true =>
      simp only [if_true] at h₁ ⊢
      refine wpAny_mono (h₁ env A s₁ ρ₁ F₁ hE ((hA.step st').step st₁) B₁ (f'.step B' st₁)) ?_ fun _ _ x => x.elim
      rintro g s₄ ⟨fl, loc₄, sto₄, ρ₄, F₄, st₄, r₄, B₄, f₄, q₄⟩
      have st₅ : Step (Own env) ρ F s ρ₄ F₄ s₄ := (st'.trans st₁.own).trans st₄
      cases fl with
      | next => simp only [FlRel] at r₄; subst r₄; exact ⟨k, Nat.lt_succ_self k, ρ₄, F₄, loc₄, sto₄, st₅, B₄, f₄, q₄⟩
      | cont => simp only [FlRel] at r₄; subst r₄; exact ⟨k, Nat.lt_succ_self k, ρ₄, F₄, loc₄, sto₄, st₅, B₄, f₄, q₄⟩
      | brk => simp only [FlRel] at r₄; subst r₄; exact ⟨.next, loc₄, sto₄, ρ₄, F₄, st₅, rfl, B₄, f₄, q₄⟩
      | ret r =>
        simp only [FlRel] at r₄
        obtain ⟨z, rfl, rz⟩ := r₄
        exact ⟨.ret r, loc₄, sto₄, ρ₄, F₄, st₅, ⟨z, rfl, rz⟩, B₄, f₄, q₄⟩
    | false =>
      simp only [Bool.false_eq_true, if_false] at h₁ ⊢
      exact wpAny_execs_nil ⟨.next, loc', sto₁, ρ₁, F₁, st'.trans st₁.own, rfl, B₁, f'.step B' st₁, h₁⟩
end
end Mine

namespace Mine

mutual
def below (k : Nat) : V → Bool
  | .obj n => decide (n < k)
  | .tup vs => belows k vs
  | .lst vs => belows k vs
  | _ => true
def belows (k : Nat) : List V → Bool
  | [] => true
  | v :: vs => below k v && belows k vs
end

mutual
theorem VRel.restrict {F F' : Addr → Prop} {ρ t : List Addr} {h : Heap} (hF : ∀ a, F a → F' a) : ∀ {v : V} {x : Value}, below ρ.length v = true → VRel F (ρ ++ t) h v x → VRel F' ρ h v x
  | .none, _, _, q => q
  | .bool _, _, _, q => q
  | .int _, _, _, q => q
  | .str _, _, _, q => q
  | .obj n, _, b, q => by
    simp only [VRel, below, decide_eq_true_eq] at b q ⊢
    obtain ⟨a, h1, h2⟩ := q
    rw [List.getElem?_append_left b] at h1
    exact ⟨a, h1, h2⟩
  | .raw _, _, _, q => q
  | .tup vs, _, b, q => by
    simp only [VRel, below] at b q ⊢
    obtain ⟨a, items, h1, h2, h3, h4⟩ := q
    exact ⟨a, items, h1, hF _ h2, h3, VRels.restrict hF b h4⟩
  | .lst vs, _, b, q => by
    simp only [VRel, below] at b q ⊢
    obtain ⟨a, items, h1, h2, h3, h4⟩ := q
    exact ⟨a, items, h1, hF _ h2, h3, VRels.restrict hF b h4⟩
  | .rng _ _ _, _, _, q => by
    simp only [VRel] at q ⊢
    obtain ⟨r, t, u, v, h1, h2, h3⟩ := q
    exact ⟨r, t, u, v, h1, hF _ h2, h3⟩
  | .thing _, _, _, q => by
    simp only [VRel] at q ⊢
    obtain ⟨a, o, h1, h2, h3, h4, h5⟩ := q
    exact ⟨a, o, h1, hF _ h2, h3, h4, h5⟩
theorem VRels.restrict {F F' : Addr → Prop} {ρ t : List Addr} {h : Heap} (hF : ∀ a, F a → F' a) : ∀ {v : List V} {x : List Value}, belows ρ.length v = true → VRels F (ρ ++ t) h v x → VRels F' ρ h v x
  | [], _, _, q => q
  | v :: vs, _, b, q => by
    simp only [VRels, belows, Bool.and_eq_true] at b q ⊢
    obtain ⟨y, ys, h1, h2, h3⟩ := q
    exact ⟨y, ys, h1, VRel.restrict hF b.1 h2, VRels.restrict hF b.2 h3⟩
end

/-- a value handed back: a new list is data from now on -/
inductive Froz (k : Nat) (sto : Sto) : V → V → Prop where
  | same {v : V} : below k v = true → Froz k sto v v
  | list {n : Nat} {vs : List V} : k ≤ n → sto[n]? = some vs → belows k vs = true → Froz k sto (.obj n) (.lst vs)

def retOf : Fl → V
  | .ret v => v
  | _ => .none

def retVal : Flow → Value
  | .ret v => v
  | _ => .none

def Ret (k : Nat) (Q : V → Sto → Prop) : Fl → Loc → Sto → Prop :=
  fun fl _ sto' => ∃ v, Froz k sto' (retOf fl) v ∧ (∀ o ∈ sto'.take k, belows k o = true) ∧ Q v (sto'.take k)

/-- a def of the text -/
structure FnIs (cx : Cx) (f : Str) (params : Arguments) (body : List Stmt) (scope : Scope) : Prop where
  at' : ∃ a o pm code doc, cx.mg f = some (.ref a) ∧ cx.base.get? a = some o ∧ o.data = .func (Calls.docDef f params body scope pm code doc) ∧ cx.base.CodeRec code f

theorem fnIs {cx : Cx} {i : Nat} {r : DefRec} (h : (recsOf cx.p)[i]? = some r) : FnIs cx r.name r.params r.body r.scope :=
  ⟨cx.top.fn r (List.mem_of_getElem? h)⟩

def CallF (cx : Cx) (d : Nat) (f : Str) (args : List V) (sto : Sto) (Q : V → Sto → Prop) : Prop :=
  ∃ a o fd, cx.mg f = some (.ref a) ∧ cx.base.get? a = some o ∧ o.data = .func fd ∧ CallV cx d (.ref a) args sto Q

theorem bindL_skip {kind : Str → Option NameKind} {x : Str} : ∀ {names : List Str} {xs : List Value} {m : Str → Option Value}, x ∉ names → bindL kind (names.zip xs) m x = m x
  | [], _, _, _ => rfl
  | _ :: _, [], _, _ => rfl
  | n :: names, y :: xs, m, h => by
    simp only [List.zip_cons_cons, bindL]
    rw [bindL_skip (fun q => h (List.mem_cons_of_mem _ q))]
    have : x ≠ n := fun q => h (q ▸ List.mem_cons_self)
    split
    · exact if_neg this
    · rfl
theorem bindC_skip {kind : Str → Option NameKind} {x : Str} : ∀ {names : List Str} {xs : List Value} {m : Str → Option Value}, x ∉ names → bindC kind (names.zip xs) m x = m x
  | [], _, _, _ => rfl
  | _ :: _, [], _, _ => rfl
  | n :: names, y :: xs, m, h => by
    simp only [List.zip_cons_cons, bindC]
    rw [bindC_skip (fun q => h (List.mem_cons_of_mem _ q))]
    have : x ≠ n := fun q => h (q ▸ List.mem_cons_self)
    split
    · rfl
    · exact if_neg this

theorem bindL_get {F : Addr → Prop} {ρ : List Addr} {h : Heap} {kind : Str → Option NameKind} {x : Str} {v : V} (hk : kind x = some .local) : ∀ {names : List Str} {args : List V} {xs : List Value} {m : Str → Option Value},
    names.Nodup → VRels F ρ h args xs → (names.zip args).lookup x = some v → ∃ y, bindL kind (names.zip xs) m x = some y ∧ VRel F ρ h v y
  | [], _, _, _, _, _, e => by simp at e
  | _ :: _, [], _, _, _, _, e => by simp at e
  | n :: names, w :: args, xs, m, nd, r, e => by
    simp only [VRels] at r
    obtain ⟨y, ys, rfl, r1, r2⟩ := r
    obtain ⟨n1, n2⟩ := List.nodup_cons.mp nd
    simp only [List.zip_cons_cons] at e ⊢
    rw [lookup_cons'] at e
    by_cases hx : x = n
    · subst hx
      rw [if_pos rfl] at e; cases e
      refine ⟨y, ?_, r1⟩
      simp only [bindL]
      rw [bindL_skip n1, if_pos hk]; simp
    · rw [if_neg hx] at e
      simp only [bindL]
      exact bindL_get hk n2 r2 e
theorem bindC_get {F : Addr → Prop} {ρ : List Addr} {h : Heap} {kind : Str → Option NameKind} {x : Str} {v : V} (hk : kind x = some .cell) : ∀ {names : List Str} {args : List V} {xs : List Value} {m : Str → Option Value},
    names.Nodup → VRels F ρ h args xs → (names.zip args).lookup x = some v → ∃ y, bindC kind (names.zip xs) m x = some y ∧ VRel F ρ h v y
  | [], _, _, _, _, _, e => by simp at e
  | _ :: _, [], _, _, _, _, e => by simp at e
  | n :: names, w :: args, xs, m, nd, r, e => by
    simp only [VRels] at r
    obtain ⟨y, ys, rfl, r1, r2⟩ := r
    obtain ⟨n1, n2⟩ := List.nodup_cons.mp nd
    simp only [List.zip_cons_cons] at e ⊢
    rw [lookup_cons'] at e
    by_cases hx : x = n
    · subst hx
      rw [if_pos rfl] at e; cases e
      refine ⟨y, ?_, r1⟩
      simp only [bindC]
      rw [bindC_skip n1, if_neg (by rw [hk]; simp)]; simp
    · rw [if_neg hx] at e
      simp only [bindC]
      exact bindC_get hk n2 r2 e

theorem lookup_isSome_of_mem {x : Str} : ∀ {l : List (Str × Addr)}, x ∈ l.map (·.1) → (l.lookup x).isSome = true
  | (k, w) :: r, h => by
    rw [List.lookup_cons]
    cases hb : x == k with
    | true => rfl
    | false =>
      rcases List.mem_cons.mp h with e | h
      · have : x = k := e
        subst this; simp at hb
      · exact lookup_isSome_of_mem h
theorem cellsFrom_mem {x : Str} : ∀ {names : List (Str × NameKind)} {n : Nat} {acc : List (Str × Addr)}, (x ∈ acc.map (·.1) ∨ (x, NameKind.cell) ∈ names) → x ∈ (cellsFrom n names acc).map (·.1)
  | [], _, _, h => by
    rcases h with h | h
    · exact h
    · cases h
  | (y, k) :: r, n, acc, h => by
    unfold cellsFrom
    split
    · refine cellsFrom_mem ?_
      rcases h with h | h
      · exact .inl (List.mem_cons_of_mem _ h)
      · rcases List.mem_cons.mp h with e | h
        · cases e; exact .inl List.mem_cons_self
        · exact .inr h
    · rename_i hk
      refine cellsFrom_mem ?_
      rcases h with h | h
      · exact .inl h
      · rcases List.mem_cons.mp h with e | h
        · cases e; exact absurd rfl hk
        · exact .inr h

theorem Base.lt {cx : Cx} {ρ : List Addr} {F : Addr → Prop} {sto : Sto} {s : Shared} (B : Base cx ρ F sto s) {a : Addr} (h : a ∈ ρ) : ∃ o, s.heap.get? a = some o := by
  obtain ⟨i, hi⟩ := List.getElem?_of_mem h
  have hlt : i < ρ.length := (List.getElem?_eq_some_iff.mp hi).1
  obtain ⟨items, ⟨n, ho⟩, _⟩ := B.objs i a (sto[i]'(B.len ▸ hlt)) hi (List.getElem?_eq_getElem _)
  exact ⟨_, ho⟩

section
variable {cx : Cx} {d : Nat} {sto : Sto}

/-- what stands when a def is entered -/
theorem enter_def {scope : Scope} {args : List V} {names : List Str} {A : Around} {s s₁ : Shared} {ρ : List Addr} {F : Addr → Prop} {xs : List Value} {env : Env} (hA : AOK cx (d + 1) A s.heap) (B : Base cx ρ F sto s) (r : VRels F ρ s.heap args xs)
    (hL : env.locals = s.heap.objs.size) (hsc : env.scope = scope) (hfr : env.frame = some s.heap.objs.size) (hgl : env.globals = mainGlobals) (hbl : env.builtins = builtinsNs) (hcs : env.cells = cellsFrom (s.heap.objs.size + 1) scope.names [])
    (hin : InCallC s env.locals (bindL env.kindOf (names.zip xs) fun _ => none) env.cells (bindC env.kindOf (names.zip xs) fun _ => none) s₁) (hn : names.Nodup) (hk : scope.kind = .function) (hcode : ∃ c o vs, env.code = .ref c ∧ cx.base.get? c = some o ∧ o.data = .fields vs) :
    EnvOK scope env (A.deeper env) ∧ AOK cx d (A.deeper env) s₁.heap ∧ Step NoWr ρ F s ρ F s₁ ∧ Base cx ρ F sto s₁ ∧ Frame cx env ρ F (names.zip args) s₁ ∧ ∀ b, Own env b → s.heap.get? b = none := by
  obtain ⟨h₁, tk, hs₁⟩ := hin.toInCall.same
  have keep := hin.toInCall.keep
  have hE : EnvOK scope env (A.deeper env) := ⟨hsc, hk, hgl, hbl, fun _ => ⟨by rw [hfr, hL], by
    obtain ⟨outer, ho, _⟩ := hA.frames
    exact ⟨outer, by show A.frames.map (env :: ·) = _; rw [ho]; rfl⟩⟩⟩
  have kind : ∀ x, env.kindOf x = scope.names.lookup x := fun x => by unfold Env.kindOf; rw [hsc]
  have nolook : ∀ b, s.heap.objs.size ≤ b → s.heap.get? b = none := fun b hb => by
    cases e : s.heap.get? b with
    | none => rfl
    | some o => exact absurd (Heap.lt_size e) (Nat.not_lt.mpr hb)
  have ownNew : ∀ b, Own env b → s.heap.get? b = none := fun b hb => by
    rcases hb with rfl | ⟨x, hx⟩
    · rw [hL]; exact nolook _ (Nat.le_refl _)
    · have := hin.above x b (mem_of_lookup hx)
      rw [hL] at this
      exact nolook _ (Nat.le_of_lt this)
  have st₁ : Step NoWr ρ F s ρ F s₁ := by
    rw [hs₁]
    exact Step.later (wr := []) Step.refl (fun b o _ e => by have := keep b o e; rw [hs₁] at this; exact this) (fun _ h => nomatch h)
  have B₁ : Base cx ρ F sto s₁ := by
    rw [hs₁]
    exact B.later (wr := []) (fun b o _ e => by have := keep b o e; rw [hs₁] at this; exact this) (fun _ h => nomatch h)
  have r₁ := st₁.vrels B noWrF r
  have f₁ : Frame cx env ρ F (names.zip args) s₁ := by
    refine ⟨⟨_, hin.toInCall.ns, fun x v h1 h2 => bindL_get h2 hn r₁ h1⟩, fun x v h1 h2 => ?_, fun x h2 => ?_, fun x y c h1 h2 => name_of_addr hin.apart (mem_of_lookup h1) (mem_of_lookup h2), fun b hb => ?_, fun x c hx => ?_⟩
    · obtain ⟨y, e, r'⟩ := bindC_get (m := fun _ => none) (kind := env.kindOf) h2 hn r₁ h1
      have hmem : (x, NameKind.cell) ∈ scope.names := by rw [kind] at h2; exact mem_of_lookup h2
      have := lookup_isSome_of_mem (cellsFrom_mem (n := s.heap.objs.size + 1) (acc := []) (.inr hmem))
      rw [← hcs] at this
      obtain ⟨c, hc⟩ := Option.isSome_iff_exists.mp this
      have hcell := hin.cell x c hc
      rw [e] at hcell
      exact ⟨c, y, hc, hcell, r'⟩
    · have hmem : (x, NameKind.cell) ∈ scope.names := by rw [kind] at h2; exact mem_of_lookup h2
      have := lookup_isSome_of_mem (cellsFrom_mem (n := s.heap.objs.size + 1) (acc := []) (.inr hmem))
      rw [← hcs] at this
      obtain ⟨c, hc⟩ := Option.isSome_iff_exists.mp this
      exact ⟨c, _, hc, hin.cell x c hc⟩
    · have hnew := ownNew b hb
      refine ⟨fun hm => ?_, fun hF => ?_, ?_, ?_⟩
      · obtain ⟨o', ho'⟩ := B.lt hm; rw [hnew] at ho'; cases ho'
      · obtain ⟨o', ho'⟩ := B.live b hF; rw [hnew] at ho'; cases ho'
      · cases e : cx.base.get? b with
        | none => rfl
        | some o' => have := B.stays b o' e; rw [hnew] at this; cases this
      · rcases hb with rfl | ⟨x, hx⟩
        · obtain ⟨o', ho', _⟩ := Ns.obj hin.toInCall.ns; exact ⟨o', ho'⟩
        · obtain ⟨o', ho', _⟩ := IsCell.obj (hin.cell x b hx); exact ⟨o', ho'⟩
    · exact Nat.ne_of_gt (hin.above x c (mem_of_lookup hx))
  have hA₁ : AOK cx d (A.deeper env) s₁.heap := by
    obtain ⟨hh, hd, hu, hcs', outer, ho, hff, hdd⟩ := hA.step st₁
    obtain ⟨oL, hoL, hdL⟩ := Ns.obj hin.toInCall.ns
    refine ⟨hh, by show A.depth + 1 + d < _; omega, by show A.units + 3 + 16 * d + 16 < _; omega, fun outer' ho' env' he => ?_, env :: outer, by show A.frames.map (env :: ·) = _; rw [ho]; rfl, ⟨?_, ⟨env.locals, oL, by rw [hfr, hL], ?_, hoL, hdL⟩, hff⟩, fun env' he L' hL' => ?_⟩
    · have ho' : A.frames.map (env :: ·) = some outer' := ho'
      rw [ho] at ho'; cases ho'
      rcases List.mem_cons.mp he with rfl | he
      · exact hcode
      · exact hcs' outer ho env' he
    · rw [hsc, hk]; decide
    · have hnew := ownNew env.locals (.inl rfl)
      cases e : cx.base.get? env.locals with
      | none => rfl
      | some o' => have := B.stays _ o' e; rw [hnew] at this; cases this
    · rcases List.mem_cons.mp he with rfl | he
      · rw [hfr, ← hL] at hL'; cases hL'
        obtain ⟨es, n, e⟩ := Ns.dict hin.toInCall.ns hoL
        exact ⟨oL, es, n, hoL, e⟩
      · exact hdd env' he L' hL'
  exact ⟨hE, hA₁, st₁, B₁, f₁, ownNew⟩

theorem callF_def {f : Str} {params : Arguments} {body : List Stmt} {scope : Scope} {args : List V} {names : List Str} {Q : V → Sto → Prop} (hf : FnIs cx f params body scope)
    (h : WSs cx scope d body (names.zip args) sto (Ret sto.length Q))
    (hb : ∀ pm cd doc xs, xs.length = args.length → bindArgs (Calls.docDef f params body scope pm cd doc) ⟨xs, []⟩ = pure (names.zip xs))
    (hn : names.Nodup := by decide) (hv : (names.all fun x => isVar scope x) = true := by rfl) (hco : scope.isCoroutine = false := by rfl) (hgen : scope.isGenerator = false := by rfl) (hk : scope.kind = .function := by rfl) :
    CallF cx (d + 1) f args sto Q := by
  obtain ⟨a, o, pm, code, doc, e1, e2, e3, e4⟩ := hf.at'
  refine ⟨a, o, _, e1, e2, e3, ?_⟩
  intro A s ρ F xs hA B r
  have hlen := r.length
  refine wpAny_call (codeAny_call_cells (binds := names.zip xs) (body := body) (by have := hA.depth; omega) (B.stays _ _ e2) e3 (cx.top.nolimit.keeps B.stays) (e4.keeps B.stays) rfl (hb pm code doc xs hlen) rfl ?_ ?_ hco hgen hk)
  · intro x hx
    have hx1 : x.1 ∈ names := (List.of_mem_zip (show (x.1, x.2) ∈ names.zip xs from hx)).1
    have hv1 := List.all_eq_true.mp hv x.1 hx1
    unfold isVar at hv1
    split at hv1
    · rename_i hl; exact .inl hl
    · rename_i hl
      exact .inr ⟨hl, lookup_isSome_of_mem (cellsFrom_mem (.inr (mem_of_lookup hl)))⟩
    · cases hv1
  intro s₁ hin
  have hL : (callEnvC (Calls.docDef f params body scope pm code doc) s.heap.objs.size a).locals = s.heap.objs.size := rfl
  have hsc : (callEnvC (Calls.docDef f params body scope pm code doc) s.heap.objs.size a).scope = scope := rfl
  have hfr : (callEnvC (Calls.docDef f params body scope pm code doc) s.heap.objs.size a).frame = some s.heap.objs.size := rfl
  have hgl : (callEnvC (Calls.docDef f params body scope pm code doc) s.heap.objs.size a).globals = mainGlobals := rfl
  have hbl : (callEnvC (Calls.docDef f params body scope pm code doc) s.heap.objs.size a).builtins = builtinsNs := rfl
  have hcs : (callEnvC (Calls.docDef f params body scope pm code doc) s.heap.objs.size a).cells = cellsFrom (s.heap.objs.size + 1) scope.names [] := rfl
  have hco' : (callEnvC (Calls.docDef f params body scope pm code doc) s.heap.objs.size a).code = code := rfl
  generalize callEnvC (Calls.docDef f params body scope pm code doc) s.heap.objs.size a = env at *
  obtain ⟨hE, hA₁, st₁, B₁, f₁, ownNew⟩ := enter_def hA B r hL hsc hfr hgl hbl hcs hin hn hk (by obtain ⟨c, o, vs, t, q1, q2, q3, _⟩ := e4; exact ⟨c, o, vs, hco'.trans q1, q2, q3⟩)
  refine wpAny_mono (h env (A.deeper env) s₁ ρ F hE hA₁ B₁ f₁) ?_ fun _ _ x => x.elim
  rintro g s₂ ⟨fl, loc₂, sto₂, ρ₂, F₂, st₂, r₂, B₂, f₂, v, hv2, hbel, q⟩
  obtain ⟨t, rfl⟩ := st₂.pre
  have nd := B₂.nodup
  have hlenρ : ρ.length = sto.length := B.len
  have tnew : ∀ a ∈ t, a ∉ ρ := fun a ha hb => (List.nodup_append.mp nd).2.2 a hb a ha rfl
  have st₃ : Step (Own env) ρ F s (ρ ++ t) F₂ s₂ := st₁.own.trans st₂
  -- the new lists are data from now on
  have st₄ : Step NoWr ρ F s ρ (fun a => F₂ a ∨ a ∈ t) s₂ := by
    refine ⟨⟨[], by simp⟩, fun a h => .inl (st₃.sub a h), fun a h => .inl h, fun a h => ?_, fun b o hb _ e => ?_, st₃.alive⟩
    · rcases h with h | h
      · exact st₃.newF a h
      · rcases st₃.newr a (List.mem_append_right _ h) with h' | h'
        · exact absurd h' (tnew a h)
        · exact .inr h'
    · exact st₃.kept b o hb (fun ho => by rw [ownNew b ho] at e; cases e) e
  have B₃ : Base cx ρ (fun a => F₂ a ∨ a ∈ t) (sto₂.take sto.length) s₂ := by
    have hl2 : ρ.length + t.length = sto₂.length := by have := B₂.len; rw [List.length_append] at this; exact this
    refine ⟨B₂.stays, fun a h => B₂.rnew a (List.mem_append_left _ h), (List.nodup_append.mp nd).1, by rw [List.length_take]; omega, fun i b vs h1 h2 => ?_, fun b h => ?_, fun b h => ?_, B₂.gens, B₂.os⟩
    · have hi : i < ρ.length := (List.getElem?_eq_some_iff.mp h1).1
      have h2' : sto₂[i]? = some vs := by rw [List.getElem?_take] at h2; split at h2 <;> first | exact h2 | cases h2
      obtain ⟨items, hl, hr⟩ := B₂.objs i b vs (by rw [List.getElem?_append_left hi]; exact h1) h2'
      refine ⟨items, hl, VRels.restrict (fun a h => .inl h) ?_ hr⟩
      rw [hlenρ]
      exact hbel vs (List.mem_of_getElem? h2)
    · rcases h with h | h
      · exact fun hm => B₂.disj b h (List.mem_append_left _ hm)
      · exact tnew b h
    · rcases h with h | h
      · exact B₂.live b h
      · exact B₂.lt (List.mem_append_right _ h)
  have rel : VRel F₂ (ρ ++ t) s₂.heap (retOf fl) (retVal g) := by
    cases fl with
    | next => simp only [FlRel] at r₂; subst r₂; simp [retOf, retVal, VRel]
    | brk => simp only [FlRel] at r₂; subst r₂; simp [retOf, retVal, VRel]
    | cont => simp only [FlRel] at r₂; subst r₂; simp [retOf, retVal, VRel]
    | ret w => simp only [FlRel] at r₂; obtain ⟨x, rfl, rx⟩ := r₂; exact rx
  show PostV cx ρ F s Q (retVal g) s₂
  refine ⟨v, _, ρ, _, st₄, ?_, B₃, q⟩
  generalize retOf fl = u at hv2 rel
  cases hv2 with
  | same hbv => rw [← hlenρ] at hbv; exact VRel.restrict (fun a h => .inl h) hbv rel
  | list hkn hget hbv =>
    rename_i n vs
    simp only [VRel] at rel ⊢
    obtain ⟨b, hb1, hb2⟩ := rel
    obtain ⟨items, hl0, hr⟩ := B₂.objs n b vs hb1 hget
    have hl := hl0.isList
    rw [List.getElem?_append_right (by omega)] at hb1
    rw [← hlenρ] at hbv
    exact ⟨b, items, hb2, .inr (List.mem_of_getElem? hb1), hl, VRels.restrict (fun a h => .inl h) hbv hr⟩
end
end Mine

namespace Mine

section
variable {cx : Cx} {sc : Scope} {d : Nat} {loc : Loc} {sto : Sto} {ρ : List Addr} {F : Addr → Prop} {s : Shared}

theorem keepsStep {Wr : Addr → Prop} {h' : Heap} {t : Nat} (hk : ∀ b o, s.heap.get? b = some o → h'.get? b = some o) : Step Wr ρ F s ρ F { s with heap := h', toks := t } :=
  Step.later (wr := []) Step.refl (fun b o _ e => hk b o e) (fun _ h => nomatch h)
theorem Base.keeps {h' : Heap} {t : Nat} (B : Base cx ρ F sto s) (hk : ∀ b o, s.heap.get? b = some o → h'.get? b = some o) : Base cx ρ F sto { s with heap := h', toks := t } :=
  B.later (wr := []) (fun b o _ e => hk b o e) (fun _ h => nomatch h)
theorem VRel.keeps {h h' : Heap} {v : V} {x : Value} (r : VRel F ρ h v x) (hk : ∀ b o, h.get? b = some o → h'.get? b = some o) : VRel F ρ h' v x := r.mono (fun _ x => x) (fun _ _ x => x) fun a o _ e _ => hk a o e
theorem VRels.keeps {h h' : Heap} {v : List V} {x : List Value} (r : VRels F ρ h v x) (hk : ∀ b o, h.get? b = some o → h'.get? b = some o) : VRels F ρ h' v x := r.mono (fun _ x => x) (fun _ _ x => x) fun a o _ e _ => hk a o e
end

/-! several expressions -/
def noStar : Expr → Bool
  | .Starred .. => false
  | _ => true
theorem starEach_cons {e : Expr} {es : List Expr} {env : Env} (h : noStar e = true) : starEach (e :: es) env = (false, eval e env) :: starEach es env := by
  cases e <;> first | rfl | cases h
def noStars : List Expr → Bool
  | [] => true
  | e :: es => noStar e && noStars es
theorem plain_trees {pos : Pos} {env : Env} : ∀ {es : List Expr}, noStars es = true → (backTo pos (starEach es env)).any (·.1) = false
  | [], _ => rfl
  | e :: es, h => by
    simp only [noStars, Bool.and_eq_true] at h
    rw [starEach_cons h.1]
    show (false || (backTo pos (starEach es env)).any (·.1)) = false
    rw [plain_trees h.2]; rfl

section
variable {cx : Cx} {sc : Scope} {d : Nat} {loc : Loc} {sto : Sto}

theorem wes_nil {Q : List V → Sto → Prop} (q : Q [] sto) : WEs cx sc d [] loc sto Q :=
  fun _ _ _ ρ F _ _ _ B _ => Calls.spliced_nil ⟨[], sto, ρ, F, .refl, by simp [VRels], B, q⟩
theorem wes_cons {e : Expr} {es : List Expr} {Q : List V → Sto → Prop} (h : WE cx sc d e loc sto fun v sto₁ => WEs cx sc d es loc sto₁ fun vs sto₂ => Q (v :: vs) sto₂) (hs : noStar e = true := by rfl) :
    WEs cx sc d (e :: es) loc sto Q := by
  intro env A s ρ F pos hE hA B f
  refine args_cons (wpAny_mono (h env A s ρ F hE hA B f) ?_ fun _ _ x => x) (starEach_cons hs)
  rintro x s₁ ⟨v, sto₁, ρ₁, F₁, st₁, r₁, B₁, h₁⟩
  refine wpAny_mono (h₁ env A s₁ ρ₁ F₁ pos hE (hA.step st₁) B₁ (f.step B st₁)) ?_ fun _ _ x => x
  rintro xs s₂ ⟨vs, sto₂, ρ₂, F₂, st₂, r₂, B₂, h₂⟩
  exact ⟨v :: vs, sto₂, ρ₂, F₂, st₁.trans st₂, by simp only [VRels]; exact ⟨x, xs, rfl, st₂.vrel B₁ noWrF r₁, r₂⟩, B₂, h₂⟩

/-! calls -/
def isGlob (sc : Scope) (x : Str) : Bool := match sc.names.lookup x with | some .globalImplicit => true | _ => false
theorem isGlob_kind {x : Str} {env : Env} (hE : EnvOK sc env A) (h : isGlob sc x = true) : env.kindOf x = some .globalImplicit := by
  unfold Env.kindOf
  rw [hE.scope]
  unfold isGlob at h
  split at h
  · assumption
  · cases h
theorem we_call {f : Str} {p pos : Pos} {e : Expr} {es : List Expr} {Q : V → Sto → Prop} (h : WEs cx sc d (e :: es) loc sto fun vs sto₁ => CallF cx d f vs sto₁ Q)
    (hg : isGlob sc f = true := by rfl) (hd : (f == ("__debug__" : Str)) = false := by decide) (hs : noStars (e :: es) = true := by rfl)
    (hne : (∃ a o fd, cx.mg f = some (.ref a) ∧ cx.base.get? a = some o ∧ o.data = .func fd)) :
    WE cx sc d (.Call (.Name f p) (e :: es) [] pos) loc sto Q := by
  intro env A s ρ F hE hA B fr
  have hkind : env.scope.kind = .function := by rw [hE.scope]; exact hE.kind
  obtain ⟨a, o, fd, e1, e2, e3⟩ := hne
  refine wpAny_Call_NameR (Calls.Name_function_global hkind (isGlob_kind hE hg) (Calls.loadGlobal_global (mg := cx.mg) (by rw [hE.globals]; exact cx.top.g.keeps B.stays) e1 ?_) hd)
  have hs' := hs
  simp only [noStars, Bool.and_eq_true] at hs'
  refine callWith_def e3 (wpAny_mono (h env A s ρ F pos hE hA B fr) ?_ fun _ _ x => x) (starEach_cons hs'.1)
  rintro xs s₁ ⟨vs, sto₁, ρ₁, F₁, st₁, r₁, B₁, a', o', fd', e1', e2', e3', h₁⟩
  rw [e1] at e1'; cases e1'
  refine ⟨B₁.stays _ _ e2, wpAny_mono (h₁ A s₁ ρ₁ F₁ xs (hA.step st₁) B₁ r₁) (fun _ _ p => p.after st₁) fun _ _ x => x⟩

/-- a name of the built-ins -/
def BI (cx : Cx) (x : Str) (v : Value) : Prop := cx.mg x = none ∧ cx.mb x = some v
theorem load_bi {x : Str} {v : Value} {env : Env} {A : Around} {s : Shared} {ρ : List Addr} {F : Addr → Prop} {p : Pos} {E : Value → Shared → Prop} {Q : Value → Shared → Prop} (hb : BI cx x v) (hE : EnvOK sc env A) (B : Base cx ρ F sto s)
    (hg : isGlob sc x = true) (hd : (x == ("__debug__" : Str)) = false) (q : Q v s) : wpAny (model cx.prog cx.w) A (eval (.Name x p) env) Q E s := by
  have hkind : env.scope.kind = .function := by rw [hE.scope]; exact hE.kind
  exact Calls.Name_function_global hkind (isGlob_kind hE hg) (Calls.loadGlobal_builtin (mg := cx.mg) (mb := cx.mb) (by rw [hE.globals]; exact cx.top.g.keeps B.stays) hb.1 (by rw [hE.builtins]; exact cx.top.b.keeps B.stays) hb.2 q) hd
theorem we_bname {x : Str} {v : Value} {p : Pos} {Q : V → Sto → Prop} (hb : BI cx x v) (q : Q (.raw v) sto) (hg : isGlob sc x = true := by rfl) (hd : (x == ("__debug__" : Str)) = false := by decide) : WE cx sc d (.Name x p) loc sto Q :=
  fun _ _ _ _ _ hE _ B _ => load_bi hb hE B hg hd (.imm0 B (by simp [VRel]) q)
theorem we_bcall {x : Str} {id : String} {p pos : Pos} {e : Expr} {es : List Expr} {Q : V → Sto → Prop} (hb : BI cx x (.builtin id)) (h : WEs cx sc d (e :: es) loc sto fun vs sto₁ => CallV cx d (.builtin id) vs sto₁ Q)
    (hg : isGlob sc x = true := by rfl) (hd : (x == ("__debug__" : Str)) = false := by decide) (hs : noStars (e :: es) = true := by rfl) : WE cx sc d (.Call (.Name x p) (e :: es) [] pos) loc sto Q := by
  intro env A s ρ F hE hA B fr
  refine wpAny_Call_NameR (load_bi hb hE B hg hd ?_)
  have hs' := hs
  simp only [noStars, Bool.and_eq_true] at hs'
  refine PyProof.Rows.callWith_builtin1 (wpAny_mono (h env A s ρ F pos hE hA B fr) ?_ fun _ _ x => x) (starEach_cons hs'.1) (plain_trees hs'.2)
  rintro xs s₁ ⟨vs, sto₁, ρ₁, F₁, st₁, r₁, B₁, h₁⟩
  exact wpAny_mono (h₁ A s₁ ρ₁ F₁ xs (hA.step st₁) B₁ r₁) (fun _ _ p => p.after st₁) fun _ _ x => x
theorem we_tcall {x : Str} {T : String} {p pos : Pos} {e : Expr} {es : List Expr} {Q : V → Sto → Prop} (hb : BI cx x (.type T)) (h : WEs cx sc d (e :: es) loc sto fun vs sto₁ => CallV cx d (.type T) vs sto₁ Q)
    (hg : isGlob sc x = true := by rfl) (hd : (x == ("__debug__" : Str)) = false := by decide) (hs : noStars (e :: es) = true := by rfl) : WE cx sc d (.Call (.Name x p) (e :: es) [] pos) loc sto Q := by
  intro env A s ρ F hE hA B fr
  refine wpAny_Call_NameR (load_bi hb hE B hg hd ?_)
  have hs' := hs
  simp only [noStars, Bool.and_eq_true] at hs'
  refine PyProof.Rows.callWith_type1 (wpAny_mono (h env A s ρ F pos hE hA B fr) ?_ fun _ _ x => x) (starEach_cons hs'.1) (plain_trees hs'.2)
  rintro xs s₁ ⟨vs, sto₁, ρ₁, F₁, st₁, r₁, B₁, h₁⟩
  exact wpAny_mono (h₁ A s₁ ρ₁ F₁ xs (hA.step st₁) B₁ r₁) (fun _ _ p => p.after st₁) fun _ _ x => x
end

/-! new lists -/
def PostN (cx : Cx) (ρ : List Addr) (F : Addr → Prop) (s : Shared) (Q : List V → Sto → Prop) : Value → Shared → Prop :=
  fun x s' => ∃ vs sto' ρ' F' a items, x = .ref a ∧ Step NoWr ρ F s ρ' F' s' ∧ s'.heap.PlainList a items ∧ VRels F' ρ' s'.heap vs items.toList ∧ a ∉ ρ' ∧ ¬ F' a ∧ cx.base.get? a = none ∧ s.heap.get? a = none ∧
    Base cx ρ' F' sto' s' ∧ Q vs sto'
/-- an expression that makes a new list -/
def WEN (cx : Cx) (sc : Scope) (d : Nat) (e : Expr) (loc : Loc) (sto : Sto) (Q : List V → Sto → Prop) : Prop :=
  ∀ env A s ρ F, EnvOK sc env A → AOK cx d A s.heap → Base cx ρ F sto s → Frame cx env ρ F loc s →
    wpAny (model cx.prog cx.w) A (eval e env) (PostN cx ρ F s Q) (fun _ _ => False) s

section
variable {cx : Cx} {sc : Scope} {d : Nat} {loc : Loc} {sto : Sto} {ρ : List Addr} {F : Addr → Prop} {s : Shared}

theorem PostN.after {ρ₁ : List Addr} {F₁ : Addr → Prop} {s₁ s' : Shared} {Q : List V → Sto → Prop} {x : Value} (st : Step NoWr ρ F s ρ₁ F₁ s₁) (h : PostN cx ρ₁ F₁ s₁ Q x s') : PostN cx ρ F s Q x s' := by
  obtain ⟨vs, sto', ρ', F', a, items, e, st', hl, r, h1, h2, h3, h4, B, q⟩ := h
  refine ⟨vs, sto', ρ', F', a, items, e, st.trans st', hl, r, h1, h2, h3, ?_, B, q⟩
  cases e : s.heap.get? a with
  | none => rfl
  | some o => obtain ⟨o', e', _⟩ := st.alive a o e; rw [h4] at e'; cases e'

/-- data from now on -/
theorem newData {ρ' : List Addr} {F' : Addr → Prop} {s' : Shared} {sto' : Sto} {vs : List V} {a : Addr} {items : Array Value} (st' : Step NoWr ρ F s ρ' F' s') (hl : s'.heap.IsList a items) (r : VRels F' ρ' s'.heap vs items.toList)
    (h1 : a ∉ ρ') (h4 : s.heap.get? a = none) (B : Base cx ρ' F' sto' s') :
    Step NoWr ρ F s ρ' (fun b => F' b ∨ b = a) s' ∧ VRel (fun b => F' b ∨ b = a) ρ' s'.heap (.lst vs) (.ref a) ∧ Base cx ρ' (fun b => F' b ∨ b = a) sto' s' := by
  obtain ⟨o, ho, hr⟩ := id hl
  have sub : ∀ b, F' b → F' b ∨ b = a := fun b h => .inl h
  refine ⟨⟨st'.pre, fun b h => .inl (st'.sub b h), st'.newr, fun b h => ?_, st'.kept, st'.alive⟩, ?_, ?_⟩
  · rcases h with h | rfl
    · exact st'.newF b h
    · exact .inr h4
  · simp only [VRel]
    exact ⟨a, items, rfl, .inr rfl, hl, r.mono sub (fun _ _ x => x) fun _ _ _ e _ => e⟩
  · refine ⟨B.stays, B.rnew, B.nodup, B.len, fun i b us e1 e2 => ?_, fun b h => ?_, fun b h => ?_, B.gens, B.os⟩
    · obtain ⟨its, hi, hr'⟩ := B.objs i b us e1 e2
      exact ⟨its, hi, hr'.mono sub (fun _ _ x => x) fun _ _ _ e _ => e⟩
    · rcases h with h | rfl
      · exact B.disj b h
      · exact h1
    · rcases h with h | rfl
      · exact B.live b h
      · exact ⟨o, ho⟩
theorem PostN.data {s' : Shared} {Q : V → Sto → Prop} {x : Value} (h : PostN cx ρ F s (fun vs st => Q (.lst vs) st) x s') : PostV cx ρ F s Q x s' := by
  obtain ⟨vs, sto', ρ', F', a, items, rfl, st', hl, r, h1, h2, h3, h4, B, q⟩ := h
  obtain ⟨x1, x2, x3⟩ := newData st' hl.isList r h1 h4 B
  exact ⟨.lst vs, sto', ρ', _, x1, x2, x3, q⟩
theorem WEN.data {e : Expr} {Q : V → Sto → Prop} (h : WEN cx sc d e loc sto fun vs st => Q (.lst vs) st) : WE cx sc d e loc sto Q :=
  fun env A s ρ F hE hA B f => wpAny_mono (h env A s ρ F hE hA B f) (fun _ _ p => p.data) fun _ _ x => x
/-- a new list becomes a tracked one by its name -/
theorem track {a : Addr} {vs : List V} {items : Array Value} (B : Base cx ρ F sto s) (hl : s.heap.PlainList a items) (r : VRels F ρ s.heap vs items.toList) (h1 : a ∉ ρ) (h2 : ¬ F a) (h3 : cx.base.get? a = none) :
    Base cx (ρ ++ [a]) F (sto ++ [vs]) s where
  stays := B.stays
  rnew := fun b h => by
    rcases List.mem_append.mp h with h | h
    · exact B.rnew b h
    · rw [List.mem_singleton.mp h]; exact h3
  nodup := List.nodup_append.mpr ⟨B.nodup, by simp, fun x hx y hy => by rw [List.mem_singleton.mp hy]; exact fun e => h1 (e ▸ hx)⟩
  len := by simp [B.len]
  objs := fun i b us e1 e2 => by
    have mono : ∀ {us : List V} {xs : List Value}, VRels F ρ s.heap us xs → VRels F (ρ ++ [a]) s.heap us xs := fun q => q.mono (fun _ x => x) (fun n c e => by
      rw [List.getElem?_append_left (List.getElem?_eq_some_iff.mp e).1]; exact e) fun _ _ _ e _ => e
    by_cases hi : i < ρ.length
    · rw [List.getElem?_append_left hi] at e1
      rw [List.getElem?_append_left (B.len ▸ hi)] at e2
      obtain ⟨its, x, y⟩ := B.objs i b us e1 e2
      exact ⟨its, x, mono y⟩
    · have hi' : i = ρ.length := by
        have := (List.getElem?_eq_some_iff.mp e1).1
        simp at this; omega
      subst hi'
      simp at e1
      rw [B.len] at e2
      simp at e2
      subst e1 e2
      exact ⟨items, hl, mono r⟩
  disj := fun b h hm => by
    rcases List.mem_append.mp hm with hm | hm
    · exact B.disj b h hm
    · rw [List.mem_singleton.mp hm] at h; exact h2 h
  live := B.live
  gens := B.gens
  os := B.os

theorem ws_assign_new {x : Str} {e : Expr} {p pos : Pos} {Q : Fl → Loc → Sto → Prop} (h : WEN cx sc d e loc sto fun vs sto₁ => Q .next ((x, .obj sto₁.length) :: loc) (sto₁ ++ [vs])) (hk : isVar sc x = true := by rfl)
    (hn : noComp e = true := by rfl) : WS cx sc d (.Assign [.Name x p] e pos) loc sto Q := by
  intro env A s ρ F hE hA B f
  refine wpAny_Assign_Name (wpAny_mono (h env A s ρ F hE hA B f) ?_ fun _ _ x => x) (swaps_false hn)
  rintro y s₁ ⟨vs, sto₁, ρ₁, F₁, a, items, rfl, st₁, hl, r, h1, h2, h3, h4, B₁, h₁⟩
  have f₁ := f.step B st₁
  have B₂ := track B₁ hl r h1 h2 h3
  have st₂ : Step (Own env) ρ F s (ρ₁ ++ [a]) F₁ s₁ := by
    refine ⟨?_, st₁.sub, fun b hb => ?_, st₁.newF, fun b o h1 h2 e => st₁.kept b o h1 (fun h => h) e, st₁.alive⟩
    · obtain ⟨t, rfl⟩ := st₁.pre; exact ⟨t ++ [a], by simp⟩
    · rcases List.mem_append.mp hb with hb | hb
      · exact st₁.newr b hb
      · rw [List.mem_singleton.mp hb]; exact .inr h4
  have f₂ : Frame cx env (ρ₁ ++ [a]) F₁ loc s₁ := by
    have mono : ∀ {v : V} {z : Value}, VRel F₁ ρ₁ s₁.heap v z → VRel F₁ (ρ₁ ++ [a]) s₁.heap v z := fun q => q.mono (fun _ x => x) (fun n c e => by
      rw [List.getElem?_append_left (List.getElem?_eq_some_iff.mp e).1]; exact e) fun _ _ _ e _ => e
    refine ⟨?_, fun x v q1 q2 => ?_, f₁.cells, f₁.apart, fun b hb => ?_, f₁.lc⟩
    · obtain ⟨m, hn, hm⟩ := f₁.ns
      exact ⟨m, hn, fun x v q1 q2 => let ⟨y, e, q⟩ := hm x v q1 q2; ⟨y, e, mono q⟩⟩
    · obtain ⟨c, y, e, hc, q⟩ := f₁.cell x v q1 q2
      exact ⟨c, y, e, hc, mono q⟩
    · obtain ⟨o1, o2, o3, o, ho⟩ := f₁.own b hb
      refine ⟨fun hm => ?_, o2, o3, o, ho⟩
      rcases List.mem_append.mp hm with hm | hm
      · exact o1 hm
      · obtain ⟨_, _, _, o', ho'⟩ := f.own b hb
        rw [List.mem_singleton.mp hm, h4] at ho'; cases ho'
  refine store_var hE B₂ f₂ (v := .obj sto₁.length) ?_ hk fun s₃ st₃ B₃ f₃ => ⟨.next, _, _, _, F₁, st₂.trans st₃, rfl, B₃, f₃, h₁⟩
  simp only [VRel]
  exact ⟨a, by rw [← B₁.len]; simp, rfl⟩

theorem PostN.new {vs : List V} {xs : List Value} {Q : List V → Sto → Prop} (B : Base cx ρ F sto s) (r : VRels F ρ s.heap vs xs) (q : Q vs sto) :
    PostN cx ρ F s Q (.ref s.heap.objs.size) { s with heap := s.heap.push { cls := .type "list", data := .seq xs.toArray } } := by
  have hk : ∀ b o, s.heap.get? b = some o → (s.heap.push { cls := .type "list", data := .seq xs.toArray }).get? b = some o := fun b o e => Heap.get?_push_of_some _ e
  have nolook : s.heap.get? s.heap.objs.size = none := by
    cases e : s.heap.get? s.heap.objs.size with
    | none => rfl
    | some o => exact absurd (Heap.lt_size e) (Nat.lt_irrefl _)
  refine ⟨vs, sto, ρ, F, s.heap.objs.size, xs.toArray, rfl, keepsStep (t := s.toks) hk, ⟨_, Heap.get?_push_size _ rfl⟩, by simpa using r.keeps hk, fun hm => ?_, fun hF => ?_, ?_, nolook, B.keeps (t := s.toks) hk, q⟩
  · obtain ⟨o, ho⟩ := B.lt hm; rw [nolook] at ho; cases ho
  · obtain ⟨o, ho⟩ := B.live _ hF; rw [nolook] at ho; cases ho
  · cases e : cx.base.get? s.heap.objs.size with
    | none => rfl
    | some o => have := B.stays _ o e; rw [nolook] at this; cases this

theorem PostV.newTup {vs : List V} {xs : List Value} {Q : V → Sto → Prop} (B : Base cx ρ F sto s) (r : VRels F ρ s.heap vs xs) (q : Q (.tup vs) sto) :
    PostV cx ρ F s Q (.ref s.heap.objs.size) { s with heap := s.heap.push { cls := .type "tuple", data := .seq xs.toArray } } := by
  have hk : ∀ b o, s.heap.get? b = some o → (s.heap.push { cls := .type "tuple", data := .seq xs.toArray }).get? b = some o := fun b o e => Heap.get?_push_of_some _ e
  have nolook : s.heap.get? s.heap.objs.size = none := by
    cases e : s.heap.get? s.heap.objs.size with
    | none => rfl
    | some o => exact absurd (Heap.lt_size e) (Nat.lt_irrefl _)
  have hnew : (s.heap.push { cls := .type "tuple", data := .seq xs.toArray }).IsTuple s.heap.objs.size xs.toArray := ⟨_, Heap.get?_push_size _ rfl, rfl, _, rfl⟩
  have B' := B.keeps (t := s.toks) hk
  have sub : ∀ b, F b → F b ∨ b = s.heap.objs.size := fun b h => .inl h
  have st' : Step NoWr ρ F s ρ F { s with heap := s.heap.push { cls := .type "tuple", data := .seq xs.toArray } } := keepsStep (t := s.toks) hk
  refine ⟨.tup vs, sto, ρ, fun b => F b ∨ b = s.heap.objs.size, ⟨st'.pre, sub, st'.newr, fun b h => ?_, st'.kept, st'.alive⟩, ?_, ?_, q⟩
  · rcases h with h | rfl
    · exact .inl h
    · exact .inr nolook
  · simp only [VRel]
    exact ⟨_, xs.toArray, rfl, .inr rfl, hnew, by simpa using (r.keeps hk).mono sub (fun _ _ x => x) fun _ _ _ e _ => e⟩
  · refine ⟨B'.stays, B'.rnew, B'.nodup, B'.len, fun i b us e1 e2 => ?_, fun b h => ?_, fun b h => ?_, B'.gens, B'.os⟩
    · obtain ⟨its, hi, hr'⟩ := B'.objs i b us e1 e2
      exact ⟨its, hi, hr'.mono sub (fun _ _ x => x) fun _ _ _ e _ => e⟩
    · rcases h with h | rfl
      · exact B.disj b h
      · exact fun hm => by obtain ⟨o, ho⟩ := B.lt hm; rw [nolook] at ho; cases ho
    · rcases h with h | rfl
      · exact B'.live b h
      · obtain ⟨o, ho, _⟩ := hnew; exact ⟨o, ho⟩
end

section
variable {cx : Cx} {sc : Scope} {d : Nat} {loc : Loc} {sto : Sto}
theorem wen_list {es : List Expr} {pos : Pos} {Q : List V → Sto → Prop} (h : WEs cx sc d es loc sto fun vs sto₁ => vs.length ≤ sizeLine ∧ Q vs sto₁) : WEN cx sc d (.List es pos) loc sto Q := by
  intro env A s ρ F hE hA B f
  refine List_ (wpAny_mono (h env A s ρ F pos hE hA B f) ?_ fun _ _ x => x)
  rintro xs s₁ ⟨vs, sto₁, ρ₁, F₁, st₁, r₁, B₁, hl, h₁⟩
  exact wpAny_newList (PostN.after st₁ (.new B₁ r₁ h₁)) (by rw [r₁.length]; exact hl)
theorem we_tuple {es : List Expr} {k : Nat} {pos : Pos} {Q : V → Sto → Prop} (h : WEs cx sc d es loc sto fun vs sto₁ => vs.length ≤ sizeLine ∧ Q (.tup vs) sto₁) : WE cx sc d (.Tuple es k pos) loc sto Q := by
  intro env A s ρ F hE hA B f
  refine Tuple_ (wpAny_mono (h env A s ρ F pos hE hA B f) ?_ fun _ _ x => x)
  rintro xs s₁ ⟨vs, sto₁, ρ₁, F₁, st₁, r₁, B₁, hl, h₁⟩
  exact wpAny_newTuple (PostV.after st₁ (.newTup B₁ r₁ h₁)) (by rw [r₁.length]; exact hl)

/-! items -/
def GetV (cx : Cx) (d : Nat) (a b : V) (sto : Sto) (Q : V → Sto → Prop) : Prop :=
  ∀ A s ρ F x y, AOK cx d A s.heap → Base cx ρ F sto s → VRel F ρ s.heap a x → VRel F ρ s.heap b y →
    (∃ T id, s.TypeIs x T ∧ typeLookup (.type T) "__getitem__" = pure (some (.builtin id))) ∧ wpAny (model cx.prog cx.w) A (getItem x y) (PostV cx ρ F s Q) (fun _ _ => False) s
def noSlice : Expr → Bool
  | .Slice .. => false
  | _ => true
theorem we_sub {value index : Expr} {pos : Pos} {Q : V → Sto → Prop} (h : WE cx sc d value loc sto fun a sto₁ => WE cx sc d index loc sto₁ fun b sto₂ => GetV cx d a b sto₂ Q) (hs : noSlice index = true := by rfl) :
    WE cx sc d (.Subscript value index pos) loc sto Q := by
  intro env A s ρ F hE hA B f
  refine Subscript_ (wpAny_mono (h env A s ρ F hE hA B f) ?_ fun _ _ x => x)
  rintro x s₁ ⟨a, sto₁, ρ₁, F₁, st₁, r₁, B₁, h₁⟩
  refine wpAny_mono (h₁ env A s₁ ρ₁ F₁ hE (hA.step st₁) B₁ (f.step B st₁)) ?_ fun _ _ x => x
  rintro y s₂ ⟨b, sto₂, ρ₂, F₂, st₂, r₂, B₂, h₂⟩
  obtain ⟨⟨T, id, hT, hl⟩, hg⟩ := h₂ A s₂ ρ₂ F₂ x y ((hA.step st₁).step st₂) B₂ (st₂.vrel B₁ noWrF r₁) r₂
  exact tail_any hT hl (wpAny_mono hg (fun _ _ p => p.after (st₁.trans st₂)) fun _ _ x => x) (by cases index <;> first | rfl | cases hs)

theorem getItem_list_any {l : Addr} {items : Array Value} {k : Int} {t : Tok} {x : Value} {j : Nat} {A : Around} {s : Shared} {E : Value → Shared → Prop} {Q : Value → Shared → Prop} (hl : s.heap.IsList l items)
    (hlo : -(2 ^ 63) ≤ k) (hhi : k < 2 ^ 63) (hj : seqIndex? k items.size = some j) (hx : items[j]? = some x) (h : Q x s) : wpAny (model cx.prog cx.w) A (getItem (.ref l) (.int k t)) Q E s := by
  by_cases h0 : 0 ≤ k
  · have : j = k.toNat := by
      unfold seqIndex? at hj
      simp only [Int.not_lt.mpr h0, if_false] at hj
      split at hj
      · cases hj; rfl
      · cases hj
    subst this
    exact wpAny_getItem_list hl h0 hhi hx h
  · have h0 : k < 0 := by omega
    have hr : -(items.size : Int) ≤ k ∧ j = (k + items.size).toNat := by
      unfold seqIndex? at hj
      simp only [h0, if_true] at hj
      split at hj
      · rename_i hc
        simp only [Bool.and_eq_true, decide_eq_true_eq] at hc
        cases hj
        exact ⟨by omega, rfl⟩
      · cases hj
    obtain ⟨h1, rfl⟩ := hr
    exact wpAny_getItem_list_neg hl h0 h1 hlo hx h

/-- Python's place of an index -/
theorem get_lst {vs : List V} {k : Int} {j : Nat} {v : V} {Q : V → Sto → Prop} (hb : -(2 ^ 63) ≤ k ∧ k < 2 ^ 63) (hj : seqIndex? k vs.length = some j) (hv : vs[j]? = some v) (q : Q v sto) : GetV cx d (.lst vs) (.int k) sto Q := by
  intro A s ρ F x y hA B r₁ r₂
  simp only [VRel] at r₁ r₂
  obtain ⟨a, items, rfl, ha, hl, r⟩ := r₁
  obtain ⟨t, rfl⟩ := r₂
  refine ⟨⟨"list", _, hl.typeIs, list_getitem_lookup⟩, ?_⟩
  obtain ⟨x, hx, rx⟩ := r.get hv
  have hlen : items.size = vs.length := by rw [← r.length]; simp
  exact getItem_list_any hl hb.1 hb.2 (by rw [hlen]; exact hj) (by simpa using hx) (.imm0 B rx q)
theorem get_tup {vs : List V} {k : Int} {j : Nat} {v : V} {Q : V → Sto → Prop} (hb : -(2 ^ 63) ≤ k ∧ k < 2 ^ 63) (hj : seqIndex? k vs.length = some j) (hv : vs[j]? = some v) (q : Q v sto) : GetV cx d (.tup vs) (.int k) sto Q := by
  intro A s ρ F x y hA B r₁ r₂
  simp only [VRel] at r₁ r₂
  obtain ⟨a, items, rfl, ha, hl, r⟩ := r₁
  obtain ⟨t, rfl⟩ := r₂
  have hl' : IsTup s.heap a items := hl
  refine ⟨⟨"tuple", _, hl'.typeIs, slot_tuple_getitem.lookup⟩, ?_⟩
  obtain ⟨x, hx, rx⟩ := r.get hv
  have hlen : items.size = vs.length := by rw [← r.length]; simp
  exact PyProof.Rows.getItem_tuple hl' hb.1 hb.2 (by rw [hlen]; exact hj) (by simpa using hx) (.imm0 B rx q)

theorem idx_nn {k : Int} {n : Nat} (h0 : 0 ≤ k) (h : k < n) : seqIndex? k n = some k.toNat := seqIndex_of h0 h
end
end Mine

namespace Mine

section
variable {cx : Cx} {sc : Scope} {d : Nat} {loc : Loc} {sto : Sto} {ρ : List Addr} {F : Addr → Prop} {s : Shared}

theorem noneAt (s : Shared) : s.heap.get? s.heap.objs.size = none := by
  cases e : s.heap.get? s.heap.objs.size with
  | none => rfl
  | some o => exact absurd (Heap.lt_size e) (Nat.lt_irrefl _)

/-- a new object that nobody writes -/
theorem PostV.newFr {o : Obj} {v : V} {t : Nat} {Q : V → Sto → Prop} (B : Base cx ρ F sto s) (hfree : o.isFreed = false) (hv : VRel (fun b => F b ∨ b = s.heap.objs.size) ρ (s.heap.push o) v (.ref s.heap.objs.size)) (q : Q v sto) :
    PostV cx ρ F s Q (.ref s.heap.objs.size) { s with heap := s.heap.push o, toks := t } := by
  have hk : ∀ b o', s.heap.get? b = some o' → (s.heap.push o).get? b = some o' := fun b o' e => Heap.get?_push_of_some _ e
  have nolook := noneAt s
  have B' := B.keeps (t := t) hk
  have sub : ∀ b, F b → F b ∨ b = s.heap.objs.size := fun b h => .inl h
  have st' : Step NoWr ρ F s ρ F { s with heap := s.heap.push o, toks := t } := keepsStep hk
  refine ⟨v, sto, ρ, fun b => F b ∨ b = s.heap.objs.size, ⟨st'.pre, sub, st'.newr, fun b h => ?_, st'.kept, st'.alive⟩, hv, ?_, q⟩
  · rcases h with h | rfl
    · exact .inl h
    · exact .inr nolook
  · refine ⟨B'.stays, B'.rnew, B'.nodup, B'.len, fun i b us e1 e2 => ?_, fun b h => ?_, fun b h => ?_, B'.gens, B'.os⟩
    · obtain ⟨its, hi, hr'⟩ := B'.objs i b us e1 e2
      exact ⟨its, hi, hr'.mono sub (fun _ _ x => x) fun _ _ _ e _ => e⟩
    · rcases h with h | rfl
      · exact B.disj b h
      · exact fun hm => by obtain ⟨o, ho⟩ := B.lt hm; rw [nolook] at ho; cases ho
    · rcases h with h | rfl
      · exact B'.live b h
      · exact ⟨o, Heap.get?_push_size _ hfree⟩

/-! going through -/
theorem it_tup {vs : List V} : ItV cx (.tup vs) sto vs := by
  intro A s ρ F x hA B r
  simp only [VRel] at r
  obtain ⟨a, items, rfl, hF, hl, r⟩ := r
  refine wpAny_pyIter_tuple hl ?_
  have hne : a ≠ s.heap.objs.size := fun e => by obtain ⟨o, ho⟩ := B.live a hF; rw [e, noneAt s] at ho; cases ho
  have hlen : items.size = vs.length := by rw [← r.length]; simp
  refine ⟨s.heap.objs.size, [s.heap.objs.size, a], [s.heap.objs.size], fun i v => items[i]? = some v, fun i h => h.IsTupleIter s.heap.objs.size a i ∧ h.IsTuple a items, _, s.toks, rfl, rfl, fun b o e => Heap.get?_push_of_some _ e, ?_, ?_⟩
  · refine ⟨hlen ▸ Walks.tuple hA _ _ hne items, fun b hb => ?_, fun b hb => ?_, fun i h st b hb o e => ?_, fun i h st b hb => ?_, fun i y hi hy => ?_⟩
    · rw [List.mem_singleton.mp hb]; exact noneAt s
    · rcases List.mem_cons.mp hb with rfl | hb
      · exact .inl (by simp)
      · rw [List.mem_singleton.mp hb]; exact .inr hF
    · intro es n q
      rcases List.mem_cons.mp hb with rfl | hb
      · obtain ⟨o', ho', _, hd⟩ := st.1
        rw [e] at ho'; cases ho'; rw [hd] at q; cases q
      · rw [List.mem_singleton.mp hb] at e
        obtain ⟨o', ho', _, n', hd⟩ := st.2
        rw [e] at ho'; cases ho'; rw [hd] at q; cases q
    · rw [List.mem_singleton.mp hb]
      obtain ⟨o', ho', _, hd⟩ := st.1
      exact ⟨o', _, ho', hd⟩
    · obtain ⟨x, hx, rx⟩ := r.get (List.getElem?_eq_getElem hi)
      rw [Array.getElem?_toList, hy] at hx; cases hx
      exact ⟨_, List.getElem?_eq_getElem hi, rx⟩
  · exact ⟨⟨_, Heap.get?_push_size _ rfl, rfl, rfl⟩, hl.push _⟩

/-- a range's numbers -/
def rngV (a b c : Int) : List V := (List.range (Builtin.Range.rangeSize a b c).toNat).map fun (i : Nat) => V.int (a + (i : Int) * c)
theorem it_rng {a b c : Int} (hs : Builtin.Range.small a b c = true) (h0 : 0 ≤ Builtin.Range.rangeSize a b c) : ItV cx (.rng a b c) sto (rngV a b c) := by
  intro A s ρ F x hA B r
  simp only [VRel] at r
  obtain ⟨rr, t, u, v, rfl, hF, hr⟩ := r
  refine wpAny_pyIter_range hr hs ?_
  have hlen : (rngV a b c).length = (Builtin.Range.rangeSize a b c).toNat := by simp [rngV]
  refine ⟨s.heap.objs.size, [s.heap.objs.size], [s.heap.objs.size], _, _, _, s.toks, rfl, rfl, fun b o e => Heap.get?_push_of_some _ e, ⟨hlen ▸ Walks.range hA _ a c (Builtin.Range.rangeSize a b c).toNat, fun b hb => ?_, fun b hb => .inl hb, fun i h st b hb o e => ?_, fun i h st b hb => ?_, fun i y hi hy => ?_⟩, ?_⟩
  · rw [List.mem_singleton.mp hb]; exact noneAt s
  · intro es n q
    rw [List.mem_singleton.mp hb] at e
    have st' : h.get? s.heap.objs.size = some _ := st
    rw [e] at st'; cases st'; cases q
  · rw [List.mem_singleton.mp hb]
    exact ⟨_, _, st, rfl⟩
  · obtain ⟨t, rfl⟩ := hy
    rw [hlen] at hi
    refine ⟨.int (a + (i : Int) * c), ?_, by simp [VRel]⟩
    simp [rngV, hi]
  · have e1 : (a + ((0 : Nat) : Int) * c) = a := by simp
    have e2 : (((rngV a b c).length : Int) - ((0 : Nat) : Int)) = Builtin.Range.rangeSize a b c := by rw [hlen]; omega
    show IsRangeIter _ _ _ _ _
    rw [e1, e2]
    exact Heap.get?_push_size _ rfl
end
end Mine

namespace Mine

/-- v is a list that holds vs -/
inductive LV (sto : Sto) : V → List V → Prop where
  | lst (vs : List V) : LV sto (.lst vs) vs
  | obj {n : Nat} {vs : List V} : sto[n]? = some vs → LV sto (.obj n) vs

section
variable {cx : Cx} {sc : Scope} {d : Nat} {loc : Loc} {sto : Sto} {ρ : List Addr} {F : Addr → Prop} {s : Shared}

theorem LV.is {v : V} {vs : List V} {x : Value} (l : LV sto v vs) (B : Base cx ρ F sto s) (r : VRel F ρ s.heap v x) : ∃ a items, x = .ref a ∧ s.heap.IsList a items ∧ VRels F ρ s.heap vs items.toList := by
  cases l with
  | lst => simp only [VRel] at r; obtain ⟨a, items, h1, _, h2, h3⟩ := r; exact ⟨a, items, h1, h2, h3⟩
  | obj hn => simp only [VRel] at r; obtain ⟨a, h1, rfl⟩ := r; obtain ⟨items, h2, h3⟩ := B.objs _ a vs h1 hn; exact ⟨a, items, rfl, h2.isList, h3⟩

def Op2N (cx : Cx) (d : Nat) (t : Value → Value → Sem Value) (a b : V) (sto : Sto) (Q : List V → Sto → Prop) : Prop :=
  ∀ A s ρ F x y, AOK cx d A s.heap → Base cx ρ F sto s → VRel F ρ s.heap a x → VRel F ρ s.heap b y →
    wpAny (model cx.prog cx.w) A (t x y) (PostN cx ρ F s Q) (fun _ _ => False) s
def CallN (cx : Cx) (d : Nat) (f : Value) (args : List V) (sto : Sto) (Q : List V → Sto → Prop) : Prop :=
  ∀ A s ρ F xs, AOK cx d A s.heap → Base cx ρ F sto s → VRels F ρ s.heap args xs →
    wpAny (model cx.prog cx.w) A (call f xs) (PostN cx ρ F s Q) (fun _ _ => False) s

theorem wen_bin {l r : Expr} {op : Operator} {pos : Pos} {Q : List V → Sto → Prop}
    (h : WE cx sc d l loc sto fun a sto₁ => WE cx sc d r loc sto₁ fun b sto₂ => Op2N cx d (binaryOp op) a b sto₂ Q) : WEN cx sc d (.BinOp l op r pos) loc sto Q := by
  intro env A s ρ F hE hA B f
  refine wpAny_BinOp (wpAny_mono (h env A s ρ F hE hA B f) ?_ fun _ _ x => x)
  rintro x s₁ ⟨a, sto₁, ρ₁, F₁, st₁, r₁, B₁, h₁⟩
  refine wpAny_mono (h₁ env A s₁ ρ₁ F₁ hE (hA.step st₁) B₁ (f.step B st₁)) ?_ fun _ _ x => x
  rintro y s₂ ⟨b, sto₂, ρ₂, F₂, st₂, r₂, B₂, h₂⟩
  exact wpAny_mono (h₂ A s₂ ρ₂ F₂ x y ((hA.step st₁).step st₂) B₂ (st₂.vrel B₁ noWrF r₁) r₂) (fun _ _ p => PostN.after (st₁.trans st₂) p) fun _ _ x => x
theorem VRels.one {v : V} {xs : List Value} {h : Heap} (r : VRels F ρ h [v] xs) : ∃ x, xs = [x] ∧ VRel F ρ h v x := by
  simp only [VRels] at r
  obtain ⟨x, ys, rfl, r1, rfl⟩ := r
  exact ⟨x, rfl, r1⟩
theorem VRels.two {v w : V} {xs : List Value} {h : Heap} (r : VRels F ρ h [v, w] xs) : ∃ x y, xs = [x, y] ∧ VRel F ρ h v x ∧ VRel F ρ h w y := by
  simp only [VRels] at r
  obtain ⟨x, ys, rfl, r1, y, zs, rfl, r2, rfl⟩ := r
  exact ⟨x, y, rfl, r1, r2⟩
/-! range -/
theorem call_range1 {n : Int} {Q : V → Sto → Prop} (q : Q (.rng 0 n 1) sto) : CallV cx d (.type "range") [.int n] sto Q := by
  intro A s ρ F xs hA B r
  obtain ⟨x, rfl, r1⟩ := r.one
  simp only [VRel] at r1
  obtain ⟨t, rfl⟩ := r1
  exact call_range_1 (.newFr B rfl (by simp only [VRel]; exact ⟨_, _, _, _, rfl, .inr rfl, Heap.get?_push_size _ rfl⟩) q)
/-! len, abs, type, sum -/
theorem call_len {v : V} {vs : List V} {Q : V → Sto → Prop} (l : LV sto v vs) (q : (vs.length : Int) < 2 ^ 63 ∧ Q (.int vs.length) sto) : CallV cx d (.builtin "len") [v] sto Q := by
  intro A s ρ F xs hA B r
  obtain ⟨x, rfl, r1⟩ := r.one
  obtain ⟨a, items, rfl, hl, r2⟩ := l.is B r1
  have hlen : items.size = vs.length := by rw [← r2.length]; simp
  exact len_list hl (by rw [hlen]; exact q.1) (by rw [hlen]; exact .imm B (by simp [VRel]) q.2 _)
theorem call_abs {a : Int} {Q : V → Sto → Prop} (q : Q (.int (a.natAbs : Int)) sto) : CallV cx d (.builtin "abs") [.int a] sto Q := by
  intro A s ρ F xs hA B r
  obtain ⟨x, rfl, r1⟩ := r.one
  simp only [VRel] at r1
  obtain ⟨t, rfl⟩ := r1
  refine call_abs_int fun u tk => ?_
  rw [ite_abs']
  exact .imm B (by simp [VRel]) q _

def typeName : V → Option String
  | .int _ => some "int"
  | .bool _ => some "bool"
  | .str _ => some "str"
  | .none => some "NoneType"
  | .lst _ => some "list"
  | .obj _ => some "list"
  | .tup _ => some "tuple"
  | .rng _ _ _ => some "range"
  | _ => none
theorem call_type {v : V} {T : String} {Q : V → Sto → Prop} (hT : typeName v = some T) (q : Q (.raw (.type T)) sto) : CallV cx d (.type "type") [v] sto Q := by
  intro A s ρ F xs hA B r
  obtain ⟨x, rfl, r1⟩ := r.one
  have key : s.TypeIs x T ∧ (Value.type T == Value.type "builtin_function_or_method") = false := by
    cases v with
    | int i => cases hT; simp only [VRel] at r1; obtain ⟨t, rfl⟩ := r1; exact ⟨rfl, by decide⟩
    | bool b => cases hT; simp only [VRel] at r1; subst r1; exact ⟨rfl, by decide⟩
    | str u => cases hT; simp only [VRel] at r1; obtain ⟨t, rfl⟩ := r1; exact ⟨rfl, by decide⟩
    | none => cases hT; simp only [VRel] at r1; subst r1; exact ⟨rfl, by decide⟩
    | lst vs => cases hT; simp only [VRel] at r1; obtain ⟨a, items, rfl, _, hl, _⟩ := r1; exact ⟨hl.typeIs, by decide⟩
    | obj n =>
      cases hT
      simp only [VRel] at r1
      obtain ⟨a, h1, rfl⟩ := r1
      have hn : n < sto.length := by rw [← B.len]; exact (List.getElem?_eq_some_iff.mp h1).1
      obtain ⟨items, hl0, _⟩ := B.objs n a _ h1 (List.getElem?_eq_getElem hn)
      have hl := hl0.isList
      exact ⟨hl.typeIs, by decide⟩
    | tup vs => cases hT; simp only [VRel] at r1; obtain ⟨a, items, rfl, _, hl, _⟩ := r1; exact ⟨IsTup.typeIs hl, by decide⟩
    | rng a b c => cases hT; simp only [VRel] at r1; obtain ⟨r, t, u, v, rfl, _, h⟩ := r1; exact ⟨⟨_, h, rfl⟩, by decide⟩
    | raw v => cases hT
    | thing T => cases hT
  exact call_type_of key.1 key.2 (.imm0 B (by simp [VRel]) q)

theorem isnot_raw {a b : Value} {Q : V → Sto → Prop} (hp : plainIs a b = true) (q : Q (.bool (!(a == b))) sto) : Op2 cx d (compareOp .IsNot) (.raw a) (.raw b) sto Q := by
  intro A s ρ F x y hA B r₁ r₂
  simp only [VRel] at r₁ r₂
  subst r₁ r₂
  exact wpAny_isNot_plain hp (.imm0 B (by simp [VRel]) q)

theorem preSum_sum : ∀ (ns : List Int) (k : Nat), k ≤ ns.length → preSum (fun i => ns[i]?.getD 0) k = (ns.take k).sum
  | ns, 0, _ => by simp [preSum]
  | ns, k + 1, h => by
    have hk : k < ns.length := by omega
    rw [preSum, preSum_sum ns k (by omega), List.take_succ_eq_append_getElem hk, List.sum_append]
    simp [hk]
theorem call_sum {v : V} {ns : List Int} {Q : V → Sto → Prop} (l : LV sto v (ns.map V.int)) (q : Q (.int ns.sum) sto) : CallV cx d (.builtin "sum") [v] sto Q := by
  intro A s ρ F xs hA B r
  obtain ⟨x, rfl, r1⟩ := r.one
  obtain ⟨a, items, rfl, hl, r2⟩ := l.is B r1
  refine call_sum_walkG (wpAny_pyIter_list hl ?_)
  have hlen : items.size = ns.length := by have := r2.length; simpa using this
  have hne : a ≠ s.heap.objs.size := fun e => by obtain ⟨o, ho, _⟩ := hl; rw [e, noneAt s] at ho; cases ho
  refine ⟨s.heap.objs.size, [s.heap.objs.size, a], [s.heap.objs.size], items.size, fun i v => items[i]? = some v, fun i h => h.IsListIter s.heap.objs.size a i ∧ h.IsList a items, fun i => ns[i]?.getD 0, rfl,
    Walks.list (A := A.in1) hA.handled _ _ hne items, ⟨⟨_, Heap.get?_push_size _ rfl, rfl, rfl⟩, hl.push _⟩, fun b hb => ?_, fun i v hv => ?_, fun h' tk t' hk => ?_⟩
  · rcases List.mem_cons.mp hb with rfl | hb
    · simp [Heap.size_push]
    · rw [List.mem_singleton.mp hb]
      obtain ⟨o, ho, _⟩ := hl
      have := Heap.lt_size ho
      rw [Heap.size_push]
      exact Nat.lt_succ_of_lt this
  · have hi : i < ns.length := by
      have := (Array.getElem?_eq_some_iff.mp hv).1
      omega
    have hg : (ns.map V.int)[i]? = some (V.int ns[i]) := by simp [hi]
    obtain ⟨x, hx, rx⟩ := r2.get hg
    rw [Array.getElem?_toList, hv] at hx; cases hx
    simp only [VRel] at rx
    obtain ⟨t, rfl⟩ := rx
    exact ⟨t, by simp [hi]⟩
  · rw [hlen, preSum_sum ns ns.length (Nat.le_refl _), List.take_length]
    have hk' : ∀ b o, s.heap.get? b = some o → h'.get? b = some o := fun b o e => by
      refine hk b o (fun hm => ?_) (Heap.get?_push_of_some _ e)
      rw [List.mem_singleton.mp hm, noneAt s] at e; cases e
    exact ⟨.int ns.sum, sto, ρ, F, keepsStep hk', by simp [VRel], B.keeps hk', q⟩

/-! lists put together -/
theorem add_ll {v w : V} {vs ws : List V} {Q : List V → Sto → Prop} (l : LV sto v vs) (m : LV sto w ws) (q : vs.length + ws.length ≤ sizeLine ∧ Q (vs ++ ws) sto) : Op2N cx d (binaryOp .Add) v w sto Q := by
  intro A s ρ F x y hA B r₁ r₂
  obtain ⟨a, items, rfl, hl, r3⟩ := l.is B r₁
  obtain ⟨b, items2, rfl, hl2, r4⟩ := m.is B r₂
  obtain ⟨⟨cls, dd, data, sl⟩, ho, hc, n, hd⟩ := id hl
  obtain ⟨⟨cls2, dd2, data2, sl2⟩, ho2, hc2, n2, hd2⟩ := id hl2
  simp only at hc hd hc2 hd2
  subst hc hd hc2 hd2
  have hlen : items.size = vs.length := by rw [← r3.length]; simp
  have hlen2 : items2.size = ws.length := by rw [← r4.length]; simp
  refine concat_meets ⟨_, ho, rfl⟩ ⟨_, ho2, rfl⟩ noFill_list_add seq_list_add PySem.F.slot_list_add PySem.F.entry_list_add (PySem.F.args_list_add_2 _ _) (list_addW a b items items2 n n2 dd dd2 sl sl2 (by omega)) ⟨ho, ho2, ?_⟩
  have e : items ++ items2 = (items.toList ++ items2.toList).toArray := by simp
  rw [e]
  exact PostN.new B (r3.append r4) q.2

/-! slices -/
def pickV (vs : List V) (lo hi st : Option Int) : List V :=
  (sliceRange (sliceBounds lo hi st vs.length).1 (sliceBounds lo hi st vs.length).2.1 (sliceBounds lo hi st vs.length).2.2).filterMap (vs[·]?)
theorem VRels.places {h : Heap} {vs : List V} {xs : List Value} (r : VRels F ρ h vs xs) : ∀ js : List Nat, VRels F ρ h (js.filterMap (vs[·]?)) (js.filterMap (xs[·]?))
  | [] => by simp [VRels]
  | j :: js => by
    have ih := VRels.places r js
    cases hn : vs[j]? with
    | some v =>
      obtain ⟨x, hx, rx⟩ := r.get hn
      simp only [List.filterMap_cons, hn, hx, VRels]
      exact ⟨x, _, rfl, rx, ih⟩
    | none =>
      have hx : xs[j]? = none := by
        rw [List.getElem?_eq_none_iff] at hn ⊢
        rw [r.length]; exact hn
      simp only [List.filterMap_cons, hn, hx]
      exact ih
theorem VRels.pick {h : Heap} {vs : List V} {items : Array Value} (r : VRels F ρ h vs items.toList) (lo hi st : Option Int) : VRels F ρ h (pickV vs lo hi st) (slicePick items lo hi st).toList := by
  have hlen : items.size = vs.length := by rw [← r.length]; simp
  have e : (slicePick items lo hi st).toList = (sliceRange (sliceBounds lo hi st vs.length).1 (sliceBounds lo hi st vs.length).2.1 (sliceBounds lo hi st vs.length).2.2).filterMap (items.toList[·]?) := by
    simp [slicePick, hlen]
  rw [e]
  exact r.places _

def WEo (cx : Cx) (sc : Scope) (d : Nat) (oe : Option Expr) (loc : Loc) (sto : Sto) (Q : Option Int → Sto → Prop) : Prop :=
  ∀ env A s ρ F, EnvOK sc env A → AOK cx d A s.heap → Base cx ρ F sto s → Frame cx env ρ F loc s →
    wpAny (model cx.prog cx.w) A (valueOrNone (evalOpt oe env)) (fun x s' => ∃ k sto' ρ' F', Step NoWr ρ F s ρ' F' s' ∧ IsPart x k ∧ Base cx ρ' F' sto' s' ∧ Q k sto') (fun _ _ => False) s
theorem weo_none {Q : Option Int → Sto → Prop} (q : Q none sto) : WEo cx sc d none loc sto Q :=
  fun _ _ _ ρ F _ _ B _ => wpAny_pure ⟨none, sto, ρ, F, .refl, .none, B, q⟩
theorem weo_some {e : Expr} {Q : Option Int → Sto → Prop} (h : WE cx sc d e loc sto fun v sto₁ => ∃ k, v = .int k ∧ Q (some k) sto₁) : WEo cx sc d (some e) loc sto Q := by
  intro env A s ρ F hE hA B f
  show wpAny _ A (eval e env) _ _ s
  refine wpAny_mono (h env A s ρ F hE hA B f) ?_ fun _ _ x => x
  rintro x s₁ ⟨v, sto₁, ρ₁, F₁, st₁, r₁, B₁, k, rfl, q⟩
  simp only [VRel] at r₁
  obtain ⟨t, rfl⟩ := r₁
  exact ⟨some k, sto₁, ρ₁, F₁, st₁, .int k t, B₁, q⟩

theorem wen_slice {value : Expr} {lo hi st : Option Expr} {p pos : Pos} {Q : List V → Sto → Prop}
    (h : WE cx sc d value loc sto fun v sto₁ => WEo cx sc d lo loc sto₁ fun a sto₂ => WEo cx sc d hi loc sto₂ fun b sto₃ => WEo cx sc d st loc sto₃ fun c sto₄ =>
      ∃ vs, LV sto₄ v vs ∧ c ≠ some 0 ∧ vs.length ≤ sizeLine ∧ Q (pickV vs a b c) sto₄) : WEN cx sc d (.Subscript value (.Slice lo hi st p) pos) loc sto Q := by
  intro env A s ρ F hE hA B f
  refine Subscript_ (wpAny_mono (h env A s ρ F hE hA B f) ?_ fun _ _ x => x)
  rintro x s₁ ⟨v, sto₁, ρ₁, F₁, st₁, r₁, B₁, h₁⟩
  have hA₁ := hA.step st₁
  have f₁ := f.step B st₁
  show wpAny _ A (do
    let l ← valueOrNone (evalOpt lo env)
    let u ← holding [l] (valueOrNone (evalOpt hi env))
    let s ← holding [l, u] (valueOrNone (evalOpt st env))
    newFields "slice" [l, u, s]) _ _ s₁
  refine wpAny_bind (wpAny_mono (h₁ env A s₁ ρ₁ F₁ hE hA₁ B₁ f₁) ?_ fun _ _ x => x)
  rintro vl s₂ ⟨a, sto₂, ρ₂, F₂, st₂, pl, B₂, h₂⟩
  have hA₂ := hA₁.step st₂
  have f₂ := f₁.step B₁ st₂
  refine wpAny_bind (wpAny_holding (wpAny_mono (h₂ env A s₂ ρ₂ F₂ hE hA₂ B₂ f₂) ?_ fun _ _ x => x))
  rintro vu s₃ ⟨b, sto₃, ρ₃, F₃, st₃, pu, B₃, h₃⟩
  have hA₃ := hA₂.step st₃
  have f₃ := f₂.step B₂ st₃
  refine wpAny_bind (wpAny_holding (wpAny_mono (h₃ env A s₃ ρ₃ F₃ hE hA₃ B₃ f₃) ?_ fun _ _ x => x))
  rintro vk s₄ ⟨c, sto₄, ρ₄, F₄, st₄, pk, B₄, vs, lv, hc, hsz, q⟩
  have st₁₄ := (st₂.trans st₃).trans st₄
  have r₄ := st₁₄.vrel B₁ noWrF r₁
  obtain ⟨l, items, rfl, hl, rl⟩ := lv.is B₄ r₄
  refine wpAny_newObj_type ?_
  have hlen : items.size = vs.length := by rw [← rl.length]; simp
  have hk : ∀ b o, s₄.heap.get? b = some o → (s₄.heap.push { cls := .type "slice", data := .fields #[vl, vu, vk] }).get? b = some o := fun b o e => Heap.get?_push_of_some _ e
  have st₅ : Step NoWr ρ F s ρ₄ F₄ { s₄ with heap := s₄.heap.push { cls := .type "slice", data := .fields #[vl, vu, vk] } } := (st₁.trans st₁₄).trans (keepsStep (t := s₄.toks) hk)
  have B₅ := B₄.keeps (t := s₄.toks) hk
  refine tail_any (ops := if st.isNone then [.ref s₄.heap.objs.size, .ref l] else [.ref l, .ref s₄.heap.objs.size]) (Heap.IsList.typeIs (s := { s₄ with heap := s₄.heap.push { cls := .type "slice", data := .fields #[vl, vu, vk] } }) (hl.push _)) list_getitem_lookup
    (wpAny_getItem_list_slice (hl.push _) (Heap.IsSliceOf.new ..) pl pu pk hc ?_ (by omega)) (by cases st <;> rfl)
  have key := PostN.new (Q := Q) (xs := (slicePick items a b c).toList) B₅ ((rl.keeps hk).pick a b c) q
  rw [Array.toArray_toList] at key
  exact PostN.after st₅ key
end
end Mine

namespace Mine

/-! the parts of the given program, by their place in its body -/
def parAt (p : Program) (i : Nat) : Arguments := match p.main.body[i]? with | some (.FunctionDef _ a _ _ _ _ _ _ _ _) => a | _ => ⟨[], [], none, [], [], none, []⟩
def bodyAt (p : Program) (i : Nat) : List Stmt := match p.main.body[i]? with | some (.FunctionDef _ _ b _ _ _ _ _ _ _) => b | _ => []
def scopeAt (p : Program) (i : Nat) : Scope := match p.main.body[i]? with | some (.FunctionDef _ _ _ _ _ _ s _ _ _) => s | _ => p.main.scope
def posAt (p : Program) (i : Nat) : Pos := match p.main.body[i]? with | some (.FunctionDef _ _ _ _ _ _ _ _ _ q) => q | _ => default

theorem VRels.ints {F : Addr → Prop} {ρ : List Addr} {h : Heap} : ∀ {vs : List Value} {ns : List Int}, IntsAre vs ns → VRels F ρ h (ns.map V.int) vs
  | _, _, .nil => by simp [VRels]
  | _, _, .cons n t r => by
    simp only [List.map_cons, VRels]
    exact ⟨_, _, rfl, by simp [VRel], VRels.ints r⟩

def mkCx (prog : Program) (w : World) {p : Program} {loose : List Str} {mean : ExcName → Option Value} {mg mb : Str → Option Value} {s₁ : Shared} (T : Top p loose mean mg mb s₁.heap) : Cx :=
  { prog, w, p, loose, mean, mg, mb, base := s₁.heap, os := s₁.os, top := T }

theorem law_top {prog : Program} {w : World} {p : Program} {loose : List Str} {mean : ExcName → Option Value} {mg mb : Str → Option Value} {s₁ : Shared} {f : Str} {fa a : Addr} {vs : List Value} {ns : List Int}
    (T : Top p loose mean mg mb s₁.heap) (hg : s₁.gens = #[]) (hL : s₁.heap.IsList a vs.toArray) (hI : IntsAre vs ns) (hmg : mg f = some (.ref fa))
    (h : CallF (mkCx prog w T) 40 f [.lst (ns.map V.int)] [] fun v _ => v = .bool true) :
    wpAny (model prog w) callerA (call (.ref fa) [.ref a]) (fun v s' => v = .bool true ∧ (∀ b o, s₁.heap.get? b = some o → s'.heap.get? b = some o) ∧ s'.os = s₁.os ∧ s'.gens = #[]) (fun _ _ => False) s₁ := by
  obtain ⟨fa', o, fd, e1, _, _, hc⟩ := h
  have e1 : mg f = some (.ref fa') := e1
  rw [hmg] at e1; cases e1
  have hA : AOK (mkCx prog w T) 40 callerA s₁.heap := ⟨rfl, by decide +kernel, by decide +kernel, fun outer ho env he => (by cases ho; cases he), [], rfl, trivial, fun _ h => nomatch h⟩
  have B : Base (mkCx prog w T) [] (fun b => b = a) [] s₁ := by
    refine ⟨fun b o e => e, fun _ h => (nomatch h), List.nodup_nil, rfl, fun i b us e1 _ => by simp at e1, fun _ _ h => (nomatch h), fun b hb => ?_, hg, rfl⟩
    subst hb
    obtain ⟨o, ho, _⟩ := hL
    exact ⟨o, ho⟩
  refine wpAny_mono (hc callerA s₁ [] _ [.ref a] hA B ?_) ?_ fun _ _ x => x
  · simp only [VRels, VRel]
    exact ⟨_, _, rfl, ⟨a, vs.toArray, rfl, rfl, hL, by simpa using VRels.ints hI⟩, rfl⟩
  · rintro x s' ⟨v, sto', ρ', F', st, r, B', rfl⟩
    simp only [VRel] at r
    exact ⟨r, B'.stays, B'.os, B'.gens⟩

theorem goodW_true {c : ClaimW} {cl : Str → Option Addr} {mean : ExcName → Option Value} {args : List WData} {s₁ s' : Shared} {v : Value}
    (hv : v = .bool true ∧ (∀ b o, s₁.heap.get? b = some o → s'.heap.get? b = some o) ∧ s'.os = s₁.os ∧ s'.gens = #[])
    (hn : ∀ cls, c.raises args cls = false) (hp : c.post args (.bool true) args = true) : GoodW c cl mean args s₁ (.ok (.ret v)) s' := by
  obtain ⟨rfl, h1, h2, h3⟩ := hv
  exact ⟨.inl ⟨_, .bool true, [], rfl, hn, .bool true, hp, fun _ => ⟨.nil, fun _ h => nomatch h⟩⟩, h1, h2, h3⟩
end Mine

namespace Mine
section
variable {cx : Cx} {sc : Scope} {d : Nat} {loc : Loc} {sto : Sto} {rest : List Stmt} {Q : Fl → Loc → Sto → Prop}

/-- behind a statement -/
def Then (cx : Cx) (sc : Scope) (d : Nat) (rest : List Stmt) (Q : Fl → Loc → Sto → Prop) : Fl → Loc → Sto → Prop :=
  fun fl loc sto => match fl with | .next => WSs cx sc d rest loc sto Q | fl => Q fl loc sto
theorem Then.next (h : WSs cx sc d rest loc sto Q) : Then cx sc d rest Q .next loc sto := h
theorem Then.ret {v : V} (h : Q (.ret v) loc sto) : Then cx sc d rest Q (.ret v) loc sto := h
theorem ss_cons {st : Stmt} (h : WS cx sc d st loc sto (Then cx sc d rest Q)) : WSs cx sc d (st :: rest) loc sto Q := ws_cons h

theorem s_assign {x : Str} {e : Expr} {p pos : Pos} (h : WE cx sc d e loc sto fun v sto₁ => WSs cx sc d rest ((x, v) :: loc) sto₁ Q) (hk : isVar sc x = true := by rfl)
    (hn : noComp e = true := by rfl) : WSs cx sc d (.Assign [.Name x p] e pos :: rest) loc sto Q := ss_cons (ws_assign h hk hn)
theorem s_assign_new {x : Str} {e : Expr} {p pos : Pos} (h : WEN cx sc d e loc sto fun vs sto₁ => WSs cx sc d rest ((x, .obj sto₁.length) :: loc) (sto₁ ++ [vs]) Q) (hk : isVar sc x = true := by rfl)
    (hn : noComp e = true := by rfl) : WSs cx sc d (.Assign [.Name x p] e pos :: rest) loc sto Q := ss_cons (ws_assign_new h hk hn)
theorem s_aug {x : Str} {v : V} {op : Operator} {e : Expr} {p pos : Pos} (hv : loc.lookup x = some v)
    (h : WE cx sc d e loc sto fun b sto₁ => Op2 cx d (inplaceOp op) v b sto₁ fun r sto₂ => WSs cx sc d rest ((x, r) :: loc) sto₂ Q) (hk : isVar sc x = true := by rfl) :
    WSs cx sc d (.AugAssign (.Name x p) op e pos :: rest) loc sto Q := ss_cons (ws_aug hv h hk)
theorem s_return {e : Expr} {pos : Pos} (h : WE cx sc d e loc sto fun v sto₁ => Q (.ret v) loc sto₁) : WSs cx sc d (.Return (some e) pos :: rest) loc sto Q := ss_cons (ws_return h)
theorem execs_append {a b : List Stmt} {env : Env} : execs (a ++ b) env = (do match ← execs a env with | .next => execs b env | f => pure f) := by
  induction a with
  | nil => rfl
  | cons st rest ih =>
    rw [List.cons_append, execs_cons, execs_cons, ih]
    simp only [bind_assoc]
    congr 1
    funext f
    cases f <;> first | rfl | simp
theorem wpAny_If_seq {M : Model} {A : Around} {E : Value → Shared → Prop} {s : Shared} {env : Env} {test : Expr} {body orelse rest : List Stmt} {pos : Pos} {Q : Flow → Shared → Prop}
    (h : wpAny M A (isTrue test env (eval test env)) (fun b s₂ => if b then wpAny M A (execs (body ++ rest) env) Q E s₂ else wpAny M A (execs (orelse ++ rest) env) Q E s₂) E s) :
    wpAny M A (execs (.If test body orelse pos :: rest) env) Q E s := fun Γ p hΓ => by
  rw [execs_cons, exec_If]
  simp only [Sem.wp_bind', Sem.wp_cmd_standAt]
  refine Sem.wp_mono M Γ _ (fun b p₂ s₂ h₂ => ?_) (fun _ _ _ h' => h') _ _ (h Γ _ hΓ)
  cases b with
  | true =>
    have h3 := h₂ Γ p₂ hΓ
    rw [execs_append, Sem.wp_bind'] at h3
    exact h3
  | false =>
    have h3 := h₂ Γ p₂ hΓ
    rw [execs_append, Sem.wp_bind'] at h3
    exact h3
theorem s_if {test : Expr} {body orelse : List Stmt} {pos : Pos} (h : WT cx sc d test loc sto fun c sto₁ => if c = true then WSs cx sc d (body ++ rest) loc sto₁ Q else WSs cx sc d (orelse ++ rest) loc sto₁ Q) :
    WSs cx sc d (.If test body orelse pos :: rest) loc sto Q := by
  intro env A s ρ F hE hA B f
  refine wpAny_If_seq (wpAny_mono (h env A s ρ F hE hA B f) ?_ fun _ _ x => x)
  rintro c s₁ ⟨sto₁, ρ₁, F₁, st₁, B₁, h₁⟩
  cases c with
  | true =>
    simp only [if_true] at h₁ ⊢
    exact wpAny_mono (h₁ env A s₁ ρ₁ F₁ hE (hA.step st₁) B₁ (f.step B st₁)) (fun _ _ p => p.after st₁.own) fun _ _ x => x
  | false =>
    simp only [Bool.false_eq_true, if_false] at h₁ ⊢
    exact wpAny_mono (h₁ env A s₁ ρ₁ F₁ hE (hA.step st₁) B₁ (f.step B st₁)) (fun _ _ p => p.after st₁.own) fun _ _ x => x
theorem s_for {x : Str} {iter : Expr} {body : List Stmt} {p pos : Pos}
    (h : WE cx sc d iter loc sto fun a sto₁ => ∃ xs, ItV cx a sto₁ xs ∧ LoopS cx sc d x body xs loc sto₁ (Then cx sc d rest Q)) (hk : isVar sc x = true := by rfl)
    (hs : noSet iter = true := by rfl) : WSs cx sc d (.For (.Name x p) iter body [] pos :: rest) loc sto Q := ss_cons (ws_for h hk hs)
theorem s_while {test : Expr} {body : List Stmt} {pos : Pos} (n : Nat) (h : WhileS cx sc d test body n loc sto (Then cx sc d rest Q)) : WSs cx sc d (.While test body [] pos :: rest) loc sto Q := ss_cons (ws_while n h)

theorem app_nil (h : WSs cx sc d rest loc sto Q) : WSs cx sc d ([] ++ rest) loc sto Q := h
theorem app_cons {st : Stmt} {a : List Stmt} (h : WSs cx sc d (st :: (a ++ rest)) loc sto Q) : WSs cx sc d ((st :: a) ++ rest) loc sto Q := h
def forBody (ss : List Stmt) (i : Nat) : List Stmt := match ss[i]? with | some (.For _ _ b _ _) => b | some (.While _ b _ _) => b | _ => []
def whileTest (ss : List Stmt) (i : Nat) : Expr := match ss[i]? with | some (.While t _ _ _) => t | _ => .Constant .none 0 default

theorem LoopS.cons {x : Str} {body : List Stmt} {v : V} {vs : List V} (h : WSs cx sc d body ((x, v) :: loc) sto fun fl loc' sto' => match fl with
      | .next => LoopS cx sc d x body vs loc' sto' Q
      | .cont => LoopS cx sc d x body vs loc' sto' Q
      | .brk => Q .next loc' sto'
      | .ret r => Q (.ret r) loc' sto') : LoopS cx sc d x body (v :: vs) loc sto Q := h

/-- what is known by the one is known by the other -/
def Sub (loc' loc : Loc) : Prop := ∀ x v, loc'.lookup x = some v → loc.lookup x = some v
theorem Sub.nil {loc : Loc} : Sub [] loc := fun x v h => by simp at h
theorem Sub.cons {k : Str} {u : V} {l loc : Loc} (h1 : loc.lookup k = some u) (h2 : Sub l loc) : Sub ((k, u) :: l) loc := fun x v h => by
  rw [lookup_cons'] at h
  by_cases hx : x = k
  · rw [if_pos hx] at h; cases h; rw [hx]; exact h1
  · rw [if_neg hx] at h; exact h2 x v h
theorem Sub.under {k : Str} {u : V} {a b : Loc} (x : Sub a b) : Sub ((k, u) :: a) ((k, u) :: b) := fun y v h => by
  rw [lookup_cons'] at h ⊢
  by_cases hx : y = k
  · rw [if_pos hx] at h ⊢; exact h
  · rw [if_neg hx] at h ⊢; exact x y v h
def Mono (Q : Fl → Loc → Sto → Prop) : Prop := ∀ loc loc' sto, Sub loc' loc → Q .next loc' sto → Q .next loc sto
theorem WT.weaken {loc' : Loc} {e : Expr} {Q : Bool → Sto → Prop} (h : WT cx sc d e loc' sto Q) (hl : Sub loc' loc) : WT cx sc d e loc sto Q :=
  fun env A s ρ F hE hA B f => h env A s ρ F hE hA B (f.weaken hl)
theorem WSs.sub {loc' : Loc} {body : List Stmt} (h : WSs cx sc d body loc' sto Q) (hl : Sub loc' loc) : WSs cx sc d body loc sto Q := WSs.weaken h hl

theorem FnIs.ne {f : Str} {params : Arguments} {body : List Stmt} {scope : Scope} (h : FnIs cx f params body scope) : ∃ a o fd, cx.mg f = some (.ref a) ∧ cx.base.get? a = some o ∧ o.data = .func fd := by
  obtain ⟨a, o, _, _, _, e1, e2, e3, _⟩ := h.at'
  exact ⟨a, o, _, e1, e2, e3⟩

theorem if_dec {p : Prop} [Decidable p] {A B : Prop} (h1 : p → A) (h2 : ¬ p → B) : if decide p = true then A else B := by
  by_cases h : p
  · simp [h, h1 h]
  · simp [h, h2 h]
theorem if_eq {a b : Int} {A B : Prop} (h1 : a = b → A) (h2 : a ≠ b → B) : if (a == b) = true then A else B := by
  by_cases h : a = b
  · simp [h, h1 h]
  · simp [h, h2 h]
theorem if_tt {A B : Prop} (h : A) : if true = true then A else B := h
theorem if_ff {A B : Prop} (h : B) : if false = true then A else B := h
/-- the callers' lists speak of the callers' lists alone -/
def StoOK (sto : Sto) : Prop := ∀ o ∈ sto, belows sto.length o = true
theorem ret_same0 {t : Sto} {v : V} {Q : V → Sto → Prop} (hb : below 0 v = true) (q : Q v []) : Ret 0 Q (.ret v) loc t := ⟨v, .same hb, by simp, by simpa using q⟩
end
end Mine

namespace Mine
section
variable {cx : Cx} {sc : Scope} {d : Nat} {loc : Loc} {sto : Sto} {rest : List Stmt} {Q : Fl → Loc → Sto → Prop}

/-- what a turn must leave -/
def Turn (I : Loc → Sto → Prop) (Q : Fl → Loc → Sto → Prop) : Fl → Loc → Sto → Prop := fun fl loc' sto' => match fl with
  | .next => I loc' sto'
  | .cont => I loc' sto'
  | .brk => Q .next loc' sto'
  | .ret r => Q (.ret r) loc' sto'

theorem Turn.next {I : Loc → Sto → Prop} (h : I loc sto) : Turn I Q .next loc sto := h
theorem LoopS.at {x : Str} {body : List Stmt} (xs : List V) (I : Nat → Loc → Sto → Prop)
    (hstep : ∀ i v loc sto, xs[i]? = some v → I i loc sto → WSs cx sc d body ((x, v) :: loc) sto (Turn (I (i + 1)) Q))
    (hend : ∀ loc sto, I xs.length loc sto → Q .next loc sto) (h0 : I 0 loc sto) : LoopS cx sc d x body xs loc sto Q := by
  have key : ∀ (k : Nat) (ys : List V), ys = xs.drop k → k ≤ xs.length → ∀ loc sto, I k loc sto → LoopS cx sc d x body ys loc sto Q := by
    intro k ys
    induction ys generalizing k with
    | nil =>
      intro e hk loc sto h
      have : k = xs.length := by
        have := congrArg List.length e
        simp at this; omega
      subst this
      exact hend _ _ h
    | cons y ys ih =>
      intro e hk loc sto h
      have hk' : k < xs.length := by
        have := congrArg List.length e
        simp at this; omega
      rw [List.drop_eq_getElem_cons hk'] at e
      obtain ⟨rfl, e2⟩ := List.cons.inj e
      refine LoopS.cons ?_
      refine (hstep k xs[k] loc sto (List.getElem?_eq_getElem hk') h).mono fun fl l st q => ?_
      cases fl with
      | next => exact ih (k + 1) e2 hk' _ _ q
      | cont => exact ih (k + 1) e2 hk' _ _ q
      | brk => exact q
      | ret r => exact q
  exact key 0 xs (by simp) (Nat.zero_le _) loc sto h0

theorem rngV_get {a b : Int} {i : Nat} {v : V} (h : (rngV a b 1)[i]? = some v) : v = .int (a + i) ∧ (a + i < b) := by
  unfold rngV at h
  rw [List.getElem?_map] at h
  obtain ⟨j, hj, rfl⟩ := Option.map_eq_some_iff.mp h
  have hlt := (List.getElem?_eq_some_iff.mp hj).1
  simp only [List.length_range] at hlt
  rw [List.getElem?_range hlt] at hj
  cases hj
  rw [rangeSize_one] at hlt
  split at hlt
  · exact ⟨by simp, by omega⟩
  · simp at hlt
theorem rngV_length {a b : Int} : (rngV a b 1).length = (b - a).toNat := by
  unfold rngV
  rw [List.length_map, List.length_range, rangeSize_one]
  split <;> omega
theorem it_rng1 {a b : Int} (ha : -(2 ^ 62) ≤ a ∧ a < 2 ^ 62) (hb : -(2 ^ 62) ≤ b ∧ b < 2 ^ 62) : ItV cx (.rng a b 1) sto (rngV a b 1) :=
  it_rng (small_one ha.1 ha.2 hb.1 hb.2) (by rw [rangeSize_one]; split <;> omega)

/-! what a slice picks -/
theorem pickV_ints (ns : List Int) (lo hi st : Option Int) : ∃ ms : List Int, pickV (ns.map V.int) lo hi st = ms.map V.int := by
  refine ⟨(sliceRange (sliceBounds lo hi st (ns.map V.int).length).1 (sliceBounds lo hi st (ns.map V.int).length).2.1 (sliceBounds lo hi st (ns.map V.int).length).2.2).filterMap (ns[·]?), ?_⟩
  unfold pickV
  generalize sliceRange _ _ _ = js
  induction js with
  | nil => rfl
  | cons j js ih =>
    simp only [List.filterMap_cons, List.getElem?_map]
    cases ns[j]? with
    | none => simpa using ih
    | some n => simpa using ih
theorem range_take {vs : List V} : ∀ k, k ≤ vs.length → (List.range k).filterMap (vs[·]?) = vs.take k
  | 0, _ => by simp
  | k + 1, h => by
    have hk : k < vs.length := by omega
    rw [List.range_succ, List.filterMap_append, range_take k (by omega), List.take_succ_eq_append_getElem hk]
    simp [hk]
theorem pickV_run {vs : List V} {lo hi : Option Int} {a k : Nat} (h1 : (sliceBounds lo hi none vs.length) = ((a : Int), ((a + k : Nat) : Int), 1)) (h2 : a + k ≤ vs.length) : pickV vs lo hi none = (vs.drop a).take k := by
  unfold pickV
  rw [h1]
  have e : sliceRange (a : Int) ((a + k : Nat) : Int) 1 = (List.range k).map (a + ·) := by
    rw [sliceRange_one]; congr 2; omega
  simp only
  rw [e, List.filterMap_map]
  have : ((vs[·]?) ∘ fun x => a + x) = ((vs.drop a)[·]?) := by
    funext j; simp [List.getElem?_drop]
  rw [this]
  exact range_take k (by simp; omega)
end
end Mine

namespace Mine

/-! comprehensions -/
def relabelS (scope sc : Scope) : Scope :=
  { scope with names := scope.names.map fun (n, k) => if (k == .free && sc.kind == .function && sc.names.lookup n == some .cell) then (n, .cell) else (n, k) }
theorem relabel_eq {scope sc : Scope} {env : Env} (hE : EnvOK sc env A) : relabel scope env = relabelS scope sc := by
  unfold relabel relabelS Env.kindOf
  rw [hE.scope]

/-- the scope of a comprehension whose one variable is x -/
def compOK (scope sc : Scope) (x : Str) : Bool :=
  scope.kind == .function && scope.names.lookup (".0" : Str) == some .local && scope.names.lookup x == some .local &&
    scope.names.all (fun p => p.2 != .cell && (p.2 != .local || (p.1 == (".0" : Str) || p.1 == x) && scope.names.lookup p.1 == some .local) && (p.2 != .free || sc.names.lookup p.1 == some .cell))

def TestS (cx : Cx) (sc : Scope) (d : Nat) : List Expr → Loc → Sto → (Bool → Sto → Prop) → Prop
  | [], _, sto, Q => Q true sto
  | [c], loc, sto, Q => WT cx sc d c loc sto Q
  | _, _, _, _ => False
def CompS (cx : Cx) (sc : Scope) (d : Nat) (x : Str) (ifs : List Expr) (elt : Expr) (loc : Loc) : List V → List V → Sto → (List V → Sto → Prop) → Prop
  | [], acc, sto, Q => Q acc sto
  | v :: vs, acc, sto, Q => TestS cx sc d ifs ((x, v) :: loc) sto fun b sto₁ => if b = true then WE cx sc d elt ((x, v) :: loc) sto₁ fun w sto₂ => CompS cx sc d x ifs elt loc vs (acc ++ [w]) sto₂ Q
      else CompS cx sc d x ifs elt loc vs acc sto₁ Q

def closeGo (cells : List (Str × Addr)) : List (Str × NameKind) → List (Str × Addr) → List (Str × Addr)
  | [], acc => acc
  | (n, k) :: r, acc => if k == .free then closeGo cells r ((n, (cells.lookup n).getD 0) :: acc) else closeGo cells r acc
theorem closeGo_run {env : Env} (f : Str × NameKind → List (Str × Addr) → Sem (ForInStep (List (Str × Addr))))
    (hf : ∀ n k cs, f (n, k) cs = if k == .free then (do let c ← cellOf env n; pure (.yield ((n, c) :: cs))) else pure (.yield cs)) : ∀ (names : List (Str × NameKind)) (acc : List (Str × Addr)),
    (∀ n, (n, NameKind.free) ∈ names → ∃ c, env.cells.lookup n = some c) → forIn names acc f = pure (closeGo env.cells names acc)
  | [], acc, _ => rfl
  | (n, k) :: r, acc, h => by
    rw [List.forIn_cons, hf]
    unfold closeGo
    split
    · rename_i hk
      have hk' : k = .free := by simpa using hk
      obtain ⟨c, hc⟩ := h n (by rw [hk']; exact List.mem_cons_self)
      unfold cellOf
      rw [hc]
      exact closeGo_run f hf r _ fun m hm => h m (List.mem_cons_of_mem _ hm)
    · exact closeGo_run f hf r _ fun m hm => h m (List.mem_cons_of_mem _ hm)
theorem closureFor_eq {scope : Scope} {env : Env} (h : ∀ n, (n, NameKind.free) ∈ scope.names → ∃ c, env.cells.lookup n = some c) : closureFor scope env = pure (closeGo env.cells scope.names []) := by
  simp only [closureFor]
  rw [closeGo_run (env := env) _ (fun n k cs => by cases hk : k == NameKind.free <;> simp) _ _ h]
  rfl
theorem closeGo_mem {cells : List (Str × Addr)} : ∀ {names : List (Str × NameKind)} {acc : List (Str × Addr)} {n : Str} {c : Addr}, (∀ n, (n, NameKind.free) ∈ names → ∃ c, cells.lookup n = some c) →
    (∀ n c, (n, c) ∈ acc → cells.lookup n = some c) → (n, c) ∈ closeGo cells names acc → cells.lookup n = some c
  | [], _, _, _, _, ha, h => ha _ _ h
  | (m, k) :: r, acc, n, c, hn, ha, h => by
    unfold closeGo at h
    split at h
    · rename_i hk
      have hk' : k = .free := by simpa using hk
      obtain ⟨c', hc'⟩ := hn m (by rw [hk']; exact List.mem_cons_self)
      refine closeGo_mem (fun n' h' => hn n' (List.mem_cons_of_mem _ h')) (fun n' c'' h' => ?_) h
      rcases List.mem_cons.mp h' with e | h'
      · cases e; rw [hc']; rfl
      · exact ha _ _ h'
    · exact closeGo_mem (fun n' h' => hn n' (List.mem_cons_of_mem _ h')) ha h
theorem closeGo_keys {cells : List (Str × Addr)} {x : Str} : ∀ {names : List (Str × NameKind)} {acc : List (Str × Addr)}, (x ∈ acc.map (·.1) ∨ (x, NameKind.free) ∈ names) → x ∈ (closeGo cells names acc).map (·.1)
  | [], _, h => by
    rcases h with h | h
    · exact h
    · cases h
  | (y, k) :: r, acc, h => by
    unfold closeGo
    split
    · refine closeGo_keys ?_
      rcases h with h | h
      · exact .inl (List.mem_cons_of_mem _ h)
      · rcases List.mem_cons.mp h with e | h
        · cases e; exact .inl List.mem_cons_self
        · exact .inr h
    · rename_i hk
      refine closeGo_keys ?_
      rcases h with h | h
      · exact .inl h
      · rcases List.mem_cons.mp h with e | h
        · cases e; exact absurd rfl hk
        · exact .inr h

theorem relabel_lookup {sc : Scope} {y : Str} {k : NameKind} : ∀ {names : List (Str × NameKind)},
    (names.map fun (n, k) => if (k == NameKind.free && sc.kind == .function && sc.names.lookup n == some .cell) then (n, NameKind.cell) else (n, k)).lookup y = some k →
      ∃ k₀, names.lookup y = some k₀ ∧ k = (if (k₀ == NameKind.free && sc.kind == .function && sc.names.lookup y == some .cell) then NameKind.cell else k₀)
  | [], h => by simp at h
  | (n, k0) :: r, h => by
    rw [List.map_cons] at h
    dsimp only at h
    by_cases hc : (k0 == NameKind.free && sc.kind == .function && sc.names.lookup n == some .cell) = true
    · rw [if_pos hc, List.lookup_cons] at h
      rw [List.lookup_cons]
      cases hy : y == n with
      | true =>
        have hyn : y = n := by simpa using hy
        subst hyn
        rw [hy] at h; cases h
        exact ⟨k0, rfl, by rw [if_pos hc]⟩
      | false => rw [hy] at h; exact relabel_lookup h
    · rw [if_neg hc, List.lookup_cons] at h
      rw [List.lookup_cons]
      cases hy : y == n with
      | true =>
        have hyn : y = n := by simpa using hy
        subst hyn
        rw [hy] at h; cases h
        exact ⟨k, rfl, by rw [if_neg hc]⟩
      | false => rw [hy] at h; exact relabel_lookup h

section
variable {cx : Cx} {sc scope : Scope} {d : Nat} {loc : Loc} {sto : Sto} {ρ : List Addr} {F : Addr → Prop} {s : Shared} {env : Env} {x : Str}

/-- the frame of a comprehension -/
theorem inner_frame {C : Addr} {m : Str → Option Value} {v : V} {y : Value} (hE : EnvOK sc env A) (hok : compOK scope sc x = true) (h0 : loc.lookup (".0" : Str) = none) (fo : Frame cx env ρ F loc s) (hn : s.heap.Ns C m) (hm : m x = some y) (r : VRel F ρ s.heap v y)
    (c1 : C ∉ ρ) (c2 : ¬ F C) (c3 : cx.base.get? C = none) (c4 : ∀ z c, env.cells.lookup z = some c → c ≠ C) (hfree : ∀ n, (n, NameKind.free) ∈ scope.names → ∃ c, env.cells.lookup n = some c) :
    Frame cx (compEnvC scope (closeGo env.cells scope.names []) C env) ρ F ((x, v) :: loc) s := by
  simp only [compOK, Bool.and_eq_true, List.all_eq_true] at hok
  have look : ∀ z c, (closeGo env.cells scope.names []).lookup z = some c → env.cells.lookup z = some c := fun z c h => closeGo_mem hfree (fun _ _ h => by cases h) (mem_of_lookup h)
  have kinds : ∀ z k, (compEnvC scope (closeGo env.cells scope.names []) C env).kindOf z = some k → ∃ k₀, scope.names.lookup z = some k₀ ∧ k = (if (k₀ == NameKind.free && sc.kind == .function && sc.names.lookup z == some .cell) then NameKind.cell else k₀) := fun z k h => by
    have h : (relabel scope env).names.lookup z = some k := h
    rw [relabel_eq hE] at h
    exact relabel_lookup h
  have cellFree : ∀ z, (compEnvC scope (closeGo env.cells scope.names []) C env).kindOf z = some .cell → (z, NameKind.free) ∈ scope.names ∧ env.kindOf z = some .cell := fun z h => by
    obtain ⟨k₀, e1, e2⟩ := kinds z _ h
    have hmem := mem_of_lookup e1
    have hk := hok.2 _ hmem
    split at e2
    · rename_i hc
      simp only [Bool.and_eq_true, beq_iff_eq] at hc
      rw [hc.1.1] at hmem
      refine ⟨hmem, ?_⟩
      unfold Env.kindOf; rw [hE.scope]; exact hc.2
    · subst e2
      simp at hk
  refine ⟨⟨m, hn, fun z w h1 h2 => ?_⟩, fun z w h1 h2 => ?_, fun z h2 => ?_, fun z z' c h1 h2 => fo.apart z z' c (look _ _ h1) (look _ _ h2), fun b hb => ?_, fun z c h1 => c4 z c (look _ _ h1)⟩
  · -- a variable of its own: x alone
    obtain ⟨k₀, e1, e2⟩ := kinds z _ h2
    have hmem := mem_of_lookup e1
    have hk := hok.2 _ hmem
    have hk₀ : k₀ = .local := by
      split at e2
      · cases e2
      · exact e2.symm
    subst hk₀
    simp at hk
    rw [lookup_cons'] at h1
    rcases hk.1 with hz | hz
    · by_cases hzx : z = x
      · rw [if_pos hzx] at h1; cases h1; rw [hzx]; exact ⟨y, hm, r⟩
      · rw [if_neg hzx, hz, h0] at h1; cases h1
    · rw [if_pos hz] at h1; cases h1; rw [hz]; exact ⟨y, hm, r⟩
  · obtain ⟨hmem, hko⟩ := cellFree z h2
    have hzx : z ≠ x := fun e => by
      obtain ⟨k₀, e1, e2⟩ := kinds z _ h2
      rw [e] at e1
      have := hok.1.2
      simp only [beq_iff_eq] at this
      rw [this] at e1; cases e1
      simp at e2
    rw [lookup_cons', if_neg hzx] at h1
    obtain ⟨c, y', e, hc, r'⟩ := fo.cell z w h1 hko
    have hs := lookup_isSome_of_mem (closeGo_keys (cells := env.cells) (acc := []) (.inr hmem))
    obtain ⟨c', hc'⟩ := Option.isSome_iff_exists.mp hs
    have := look z c' hc'
    rw [e] at this; cases this
    exact ⟨c, y', hc', hc, r'⟩
  · obtain ⟨hmem, hko⟩ := cellFree z h2
    obtain ⟨c, o, e, hc⟩ := fo.cells z hko
    have hs := lookup_isSome_of_mem (closeGo_keys (cells := env.cells) (acc := []) (.inr hmem))
    obtain ⟨c', hc'⟩ := Option.isSome_iff_exists.mp hs
    have := look z c' hc'
    rw [e] at this; cases this
    exact ⟨c, o, hc', hc⟩
  · rcases hb with hb | ⟨z, hz⟩
    · have hb : b = C := hb
      subst hb
      obtain ⟨o, ho, _⟩ := Ns.obj hn
      exact ⟨c1, c2, c3, o, ho⟩
    · exact fo.own b (.inr ⟨z, look z b hz⟩)

theorem comp_env {A : Around} (hE : EnvOK sc env A) {C : Addr} {cl : List (Str × Addr)} (hk : scope.kind = .function) (h0 : scope.names.lookup (".0" : Str) = some .local) : EnvOK (relabelS scope sc) (compEnvC scope cl C env) A :=
  ⟨relabel_eq hE, hk, hE.globals, hE.builtins, fun h => by
    have : (relabelS scope sc).names.lookup (".0" : Str) = some .local := by
      rw [← relabel_eq hE]; exact lookup_relabel_local h0
    rw [this] at h; cases h⟩

theorem tests_run {A : Around} {ifs : List Expr} {Q : Bool → Sto → Prop} (h : TestS cx sc d ifs loc sto Q) (hE : EnvOK sc env A) (hA : AOK cx d A s.heap) (B : Base cx ρ F sto s) (f : Frame cx env ρ F loc s) :
    wpAny (model cx.prog cx.w) A (forIn ifs true fun c r => if r = true then do let ok ← isTrue c env (eval c env); pure (ForInStep.yield ok) else pure (ForInStep.yield r)) (PostB cx ρ F s Q) (fun _ _ => False) s := by
  match ifs, h with
  | [], h => exact wpAny_tests_nil ⟨sto, ρ, F, .refl, B, h⟩
  | [c], h => exact wpAny_tests_one (h env A s ρ F hE hA B f)
end

section
variable {cx : Cx} {sc scope : Scope} {d : Nat} {loc : Loc} {sto : Sto} {ρ : List Addr} {F : Addr → Prop} {s : Shared} {env : Env} {x : Str}

theorem comp_run {A : Around} {elt iter : Expr} {ifs : List Expr} {px pos pos' : Pos} {use : Option (Value → Sem Unit)} {Q : List V → Sto → Prop} {QQ : Value → Shared → Prop}
    (hok : compOK scope sc x = true) (h0 : loc.lookup (".0" : Str) = none) (hs : noSet iter = true)
    (h : WE cx sc d iter loc sto fun a sto₁ => ∃ xs, xs.length ≤ sizeLine ∧ ItV cx a sto₁ xs ∧ CompS cx (relabelS scope sc) d x ifs elt loc xs [] sto₁ Q)
    (hE : EnvOK sc env A) (hA : AOK cx d A s.heap) (B : Base cx ρ F sto s) (f : Frame cx env ρ F loc s)
    (hend : ∀ D C ρ' F' sto' vs items s' fl, Step NoWr ρ F s ρ' F' s' → Base cx ρ' F' sto' s' → s'.heap.PlainList D items → VRels F' ρ' s'.heap vs items.toList → D ∉ ρ' → ¬ F' D → cx.base.get? D = none → s.heap.get? D = none →
      (∃ m, s'.heap.Ns C m) → s.heap.get? C = none → C ∉ ρ' → ¬ F' C → cx.base.get? C = none → C ≠ D → Q vs sto' → compPost (model cx.prog cx.w) A (fun _ _ => False) use QQ (.ref D) C (.ok fl) s') :
    wpAny (model cx.prog cx.w) A (comprehension (.ListComp elt [⟨.Name x px, iter, ifs, 0⟩] scope pos) scope env pos' (newList []) false (eval iter env) use) QQ (fun _ _ => False) s := by
  have hok' := hok
  simp only [compOK, Bool.and_eq_true, List.all_eq_true] at hok'
  obtain ⟨⟨⟨hk1, hk0⟩, hk2⟩, hk3⟩ := hok'
  have hdot : scope.names.lookup (".0" : Str) = some .local := by simpa using hk0
  have hkind : scope.kind = .function := by simpa using hk1
  have hxl : scope.names.lookup x = some .local := by simpa using hk2
  have hfree : ∀ n, (n, NameKind.free) ∈ scope.names → ∃ c, env.cells.lookup n = some c := fun n hn => by
    have := hk3 _ hn
    simp at this
    obtain ⟨c, _, e, _⟩ := f.cells n (by unfold Env.kindOf; rw [hE.scope]; exact this)
    exact ⟨c, e⟩
  have hcellk : ∀ y ∈ scope.names, y.2 ≠ .cell := fun y hy => by
    have := hk3 y hy
    simp only [Bool.and_eq_true, bne_iff_ne, ne_eq] at this
    exact this.1.1
  refine wpAny_comprehension_free (g := ⟨.Name x px, iter, ifs, 0⟩) (gs := []) rfl (notSet_folds hs env) (closureFor_eq hfree) hkind (fun y hy hl => ?_) (wpAny_mono (h env A s ρ F hE hA B f) ?_ fun _ _ x => x)
  · have := hk3 y hy
    simp only [Bool.and_eq_true, bne_iff_ne, ne_eq, Bool.or_eq_true, beq_iff_eq, hl] at this
    rcases this.1.2 with e | e
    · exact absurd trivial e
    · exact e.2
  rintro a s₁ ⟨v₁, sto₁, ρ₁, F₁, st₁, r₁, B₁, xs, hsz, hit, hcomp⟩
  refine wpAny_mono (hit A s₁ ρ₁ F₁ a hA.handled B₁ r₁) ?_ fun _ _ x => x
  rintro it s₂ ⟨I, fp, wr, P, St, h₀, tk, rfl, rfl, hkeep, ok, hst⟩
  have f₁ := f.step B st₁
  have hA₁ := hA.step st₁
  refine wpAny_newObj_type (wpAny_newFunctionEnv hcellk (by intro y hy; simp at hy) (fun h₁ hns₁ hsb₁ => ?_) hkind)
  dsimp only at hns₁ hsb₁ ⊢
  generalize hH2 : h₀.push { cls := .type "list", dict := none, data := .seq ([] : List Value).toArray } = H2 at hns₁ hsb₁ ⊢
  -- the new places
  have lt₁ : ∀ b o, s₁.heap.get? b = some o → b < h₀.objs.size := fun b o e => Heap.lt_size (hkeep b o e)
  have hC : H2.objs.size = h₀.objs.size + 1 := by rw [← hH2, Heap.size_push]
  have nolook : ∀ b, h₀.objs.size ≤ b → s₁.heap.get? b = none := fun b hb => by
    cases e : s₁.heap.get? b with
    | none => rfl
    | some o => exact absurd (lt₁ b o e) (Nat.not_lt.mpr hb)
  have D1 : s₁.heap.get? h₀.objs.size = none := nolook _ (Nat.le_refl _)
  have C1 : s₁.heap.get? H2.objs.size = none := nolook _ (by omega)
  have hCD : H2.objs.size ≠ h₀.objs.size := by omega
  have old : ∀ b o, h₀.get? b = some o → h₁.get? b = some o := fun b o e => hsb₁.extBut b o (by have := Heap.lt_size e; rw [hC]; exact Nat.ne_of_lt (Nat.lt_succ_of_lt this)) (Heap.get?_push_of_some _ (hH2 ▸ Heap.get?_push_of_some _ e))
  have oldest : ∀ b o, s₁.heap.get? b = some o → h₁.get? b = some o := fun b o e => old b o (hkeep b o e)
  have hD1 : h₁.PlainList h₀.objs.size #[] := ⟨_, hsb₁.extBut _ _ (Ne.symm hCD) (Heap.get?_push_of_some _ (hH2 ▸ Heap.get?_push_size _ rfl))⟩
  have ltD : ∀ b o, h₀.get? b = some o → b ≠ h₀.objs.size ∧ b ≠ H2.objs.size := fun b o e => by have := Heap.lt_size e; exact ⟨Nat.ne_of_lt this, by rw [hC]; exact Nat.ne_of_lt (Nat.lt_succ_of_lt this)⟩
  clear hC lt₁ nolook
  generalize h₀.objs.size = D at *
  generalize H2.objs.size = C at *
  -- what is new to s₁ is none of the known
  have newρ : ∀ b, s₁.heap.get? b = none → b ∉ ρ₁ ∧ ¬ F₁ b ∧ cx.base.get? b = none ∧ ¬ Own env b := fun b hb => by
    refine ⟨fun hm => ?_, fun hF => ?_, ?_, fun ho => ?_⟩
    · obtain ⟨o, ho⟩ := B₁.lt hm; rw [hb] at ho; cases ho
    · obtain ⟨o, ho⟩ := B₁.live b hF; rw [hb] at ho; cases ho
    · cases e : cx.base.get? b with
      | none => rfl
      | some o => have := B₁.stays b o e; rw [hb] at this; cases this
    · obtain ⟨_, _, _, o, e⟩ := f₁.own b ho; rw [hb] at e; cases e
  have hDfp : D ∉ fp := fun hm => by
    rcases ok.prot D hm with hw | hF
    · obtain ⟨o, vs, e, _⟩ := ok.fld 0 _ hst D hw
      exact (ltD D o e).1 rfl
    · exact (newρ D D1).2.1 hF
  have hCfp : C ∉ fp := fun hm => by
    rcases ok.prot C hm with hw | hF
    · obtain ⟨o, vs, e, _⟩ := ok.fld 0 _ hst C hw
      exact (ltD C o e).2 rfl
    · exact (newρ C C1).2.1 hF
  have hwfp : ∀ b ∈ wr, b ∈ fp := ok.walk.sub
  have hCw : C ∉ wr := fun h => hCfp (hwfp _ h)
  have hDw : D ∉ wr := fun h => hDfp (hwfp _ h)
  have hst₁ : St 0 h₁ := ok.walk.frame _ _ _ hst fun b _ o e => old b o e
  have hCells : ∀ z c, env.cells.lookup z = some c → c ≠ C := fun z c hz e => (newρ C C1).2.2.2 (.inr ⟨z, e ▸ hz⟩)
  -- what stands before turn i
  let Inv : Nat → Shared → Prop := fun k s' => ∃ i ρ' F' sto' acc items, k = xs.length + 1 - i ∧ i ≤ xs.length ∧ Step NoWr ρ₁ F₁ s₁ ρ' F' s' ∧ Base cx ρ' F' sto' s' ∧ (∃ m, s'.heap.Ns C m) ∧ St i s'.heap ∧
    s'.heap.PlainList D items ∧ VRels F' ρ' s'.heap acc items.toList ∧ acc.length ≤ i ∧ (∀ b, b = C ∨ b = D ∨ b ∈ wr → b ∉ ρ' ∧ ¬ F' b) ∧ CompS cx (relabelS scope sc) d x ifs elt loc (xs.drop i) acc sto' Q
  have fresh1 : ∀ b, b = C ∨ b = D ∨ b ∈ wr → s₁.heap.get? b = none := fun b hb => by
    rcases hb with rfl | rfl | hb
    · exact C1
    · exact D1
    · exact ok.fresh b hb
  have start : Inv (xs.length + 1) { s₁ with heap := h₁, toks := tk + ([] : List (Str × Value)).length } := by
    refine ⟨0, ρ₁, F₁, sto₁, [], #[], rfl, Nat.zero_le _, keepsStep oldest, B₁.keeps oldest, ⟨_, hns₁⟩, hst₁, hD1, by simp [VRels], Nat.le_refl _, fun b hb => ⟨(newρ b (fresh1 b hb)).1, (newρ b (fresh1 b hb)).2.1⟩, hcomp⟩
  have loop : ∀ s', Inv (xs.length + 1) s' → codeAny (model cx.prog cx.w) A (.compLoop (.ListComp elt [⟨.Name x px, iter, ifs, 0⟩] scope pos) 0 (.ref I) (.ref D) (compEnvC scope (closeGo env.cells scope.names []) C env))
      (compPost (model cx.prog cx.w) A (fun _ _ => False) use QQ (.ref D) C) s' := by
    intro s' hs'
    refine codeAny_compLoop_tests Inv ?_ (xs.length + 1) hs'
    rintro k s' ⟨i, ρ', F', sto', acc, items, rfl, hi, st', B', ⟨m', hn'⟩, hst', hl', hr', hacc, hwr, hc⟩
    have hall : ∀ b ∈ wr, b ∉ ρ' ∧ ¬ F' b ∧ cx.base.get? b = none := fun b hb => ⟨(hwr b (.inr (.inr hb))).1, (hwr b (.inr (.inr hb))).2, (newρ b (ok.fresh b hb)).2.2.1⟩
    by_cases hlt : i < xs.length
    · refine ok.walk.item i s' _ _ hlt hst' fun y h' tk' hP hst₂ hk₂ => ?_
      obtain ⟨v', hv', rv⟩ := ok.rel i y hlt hP
      have hgi : xs[i] = v' := by rw [List.getElem?_eq_getElem hlt] at hv'; exact Option.some.inj hv'
      rw [List.drop_eq_getElem_cons hlt, hgi] at hc
      unfold CompS at hc
      have st₂ : Step NoWr ρ₁ F₁ s₁ ρ' F' { s' with heap := h', toks := tk' } := st'.later hk₂ ok.fresh
      have B₂ := B'.later (t := tk') hk₂ hall
      have hn₂ : h'.Ns C m' := Ns.kept hn' fun o ho => ⟨o, hk₂ _ o hCw ho, .refl o⟩
      have hl₂ : h'.PlainList D items := by obtain ⟨n, ho⟩ := hl'; exact ⟨n, hk₂ _ _ hDw ho⟩
      have hr₂ : VRels F' ρ' h' acc items.toList := hr'.mono (fun _ x => x) (fun _ _ x => x) fun c o hc e _ => hk₂ c o (fun hm => (hall c hm).2.1 hc) e
      -- the variable
      have hxk : (compEnvC scope (closeGo env.cells scope.names []) C env).kindOf x = some .local := lookup_relabel_local hxl
      refine wpAny_assign_Name (wpAny_storeName_local hxk hn₂ (fun h₃ hn₃ hs₃ => ?_) (by show (scope.kind == .class || (scope.kind == .module && _)) = false; rw [hkind]; rfl))
      have hCnew := newρ C C1
      have hs₃ : Heap.SameBut C h' h₃ := hs₃
      have hn₃ : h₃.Ns C (fun z => if z = x then some y else m' z) := hn₃
      obtain ⟨o₃, ho₃, hd₃⟩ := Ns.obj hn₃
      have st₃ : Step NoWr ρ₁ F₁ s₁ ρ' F' { s' with heap := h₃, toks := tk' + 1 } := Step.later (wr := [C]) (s₁ := { s' with heap := h', toks := tk' }) (t := tk' + 1) st₂ (fun b o hb e => (hs₃.2 b (fun q => hb (List.mem_singleton.mpr q))).trans e) (fun b hb => by rw [List.mem_singleton.mp hb]; exact C1)
      have B₃ := B₂.sameBut (t := tk' + 1) hs₃ (hwr C (.inl rfl)).1 (hwr C (.inl rfl)).2 hCnew.2.2.1
      have hl₃ : h₃.PlainList D items := by obtain ⟨n, ho⟩ := hl₂; exact ⟨n, (hs₃.2 D (Ne.symm hCD)).trans ho⟩
      have hr₃ : VRels F' ρ' h₃ acc items.toList := hr₂.mono (fun _ x => x) (fun _ _ x => x) fun c o hc e _ => (hs₃.2 c (fun q => (hwr C (.inl rfl)).2 (q ▸ hc))).trans e
      have hst₃ : St (i + 1) h₃ := ok.walk.frame _ _ _ hst₂ fun b hb o e => (hs₃.2 b (fun q => hCfp (q ▸ hb))).trans e
      have fo₃ := f₁.step B₁ st₃
      have rv₃ := st₃.vrel B₁ noWrF rv
      have fi₃ := inner_frame (v := v') (y := y) hE hok h0 fo₃ hn₃ (by simp) rv₃ (hwr C (.inl rfl)).1 (hwr C (.inl rfl)).2 hCnew.2.2.1 hCells hfree
      have hE' := comp_env (scope := scope) (C := C) (cl := closeGo env.cells scope.names []) hE hkind hdot
      -- what an evaluation leaves of the loop's own
      have after : ∀ {ρ₄ F₄ s₄}, Step NoWr ρ' F' { s' with heap := h₃, toks := tk' + 1 } ρ₄ F₄ s₄ → (∃ m, s₄.heap.Ns C m) ∧ St (i + 1) s₄.heap ∧ s₄.heap.PlainList D items ∧ (∀ b, b = C ∨ b = D ∨ b ∈ wr → b ∉ ρ₄ ∧ ¬ F₄ b) := by
        intro ρ₄ F₄ s₄ st₄
        refine ⟨⟨_, Ns.kept hn₃ fun o ho => st₄.kept C o (hwr C (.inl rfl)).1 (fun h => h) ho⟩, ok.walk.frame _ _ _ hst₃ fun b hb o e => ?_, ?_, fun b hb => ?_⟩
        · have hb' : b ∉ ρ' := by
            rcases ok.prot b hb with h | h
            · exact (hwr b (.inr (.inr h))).1
            · exact B'.disj b (st'.sub b h)
          obtain ⟨o', e', k'⟩ := st₄.kept b o hb' (fun h => h) e
          rw [k'.same (ok.nd _ _ hst₃ b hb o e)] at e'
          exact e'
        · obtain ⟨n, ho⟩ := hl₃
          obtain ⟨o', e', k'⟩ := st₄.kept D _ (hwr D (.inr (.inl rfl))).1 (fun h => h) ho
          rw [k'.same (fun es n' q => by cases q)] at e'
          exact ⟨n, e'⟩
        · have hex : ∃ o, h₃.get? b = some o := by
            rcases hb with rfl | rfl | hb
            · exact ⟨o₃, ho₃⟩
            · obtain ⟨n, ho⟩ := hl₃; exact ⟨_, ho⟩
            · obtain ⟨o, _, e, _⟩ := ok.fld _ _ hst₃ b hb; exact ⟨o, e⟩
          obtain ⟨o, ho⟩ := hex
          refine ⟨fun h => ?_, fun h => ?_⟩
          · rcases st₄.newr b h with h | h
            · exact (hwr b hb).1 h
            · have h : h₃.get? b = none := h
              rw [h] at ho; cases ho
          · rcases st₄.newF b h with h | h
            · exact (hwr b hb).2 h
            · have h : h₃.get? b = none := h
              rw [h] at ho; cases ho
      refine wpAny_mono (tests_run hc hE' (hA₁.step st₃) B₃ fi₃) ?_ fun _ _ x => x.elim
      rintro b s₄ ⟨sto₄, ρ₄, F₄, st₄, B₄, h₄⟩
      obtain ⟨hn₄, hst₄, hl₄, hwr₄⟩ := after st₄
      have hr₄ := st₄.vrels B₃ noWrF hr₃
      cases b with
      | false =>
        simp only [Bool.false_eq_true, if_false] at h₄ ⊢
        exact ⟨xs.length + 1 - (i + 1), by omega, i + 1, ρ₄, F₄, sto₄, acc, items, rfl, hlt, st₃.trans st₄, B₄, hn₄, hst₄, hl₄, hr₄, by omega, hwr₄, h₄⟩
      | true =>
        simp only [if_true] at h₄ ⊢
        refine wpAny_mono (h₄ _ A s₄ ρ₄ F₄ hE' ((hA₁.step st₃).step st₄) B₄ (fi₃.step B₃ st₄)) ?_ fun _ _ x => x.elim
        rintro y' s₅ ⟨w, sto₅, ρ₅, F₅, st₅, r₅, B₅, h₅⟩
        obtain ⟨⟨m₅, hn₅⟩, hst₅, hl₅, hwr₅⟩ := after (st₄.trans st₅)
        have hr₅ := st₅.vrels B₄ noWrF hr₄
        have hsize : items.size ≤ sizeLine := by
          have : items.size = acc.length := by rw [← hr₅.length]; simp
          omega
        refine wpAny_list_append_plain hl₅ (fun h₆ hl₆ hs₆ => ?_) hsize
        have hDn := hwr₅ D (.inr (.inl rfl))
        have st₆ : Step NoWr ρ₁ F₁ s₁ ρ₅ F₅ { s₅ with heap := h₆ } := Step.later (wr := [D]) (t := s₅.toks) ((st₃.trans st₄).trans st₅) (fun b o hb e => (hs₆.2 b (fun q => hb (List.mem_singleton.mpr q))).trans e) (fun b hb => by rw [List.mem_singleton.mp hb]; exact D1)
        have B₆ : Base cx ρ₅ F₅ sto₅ { s₅ with heap := h₆ } := B₅.sameBut (t := s₅.toks) hs₆ hDn.1 hDn.2 (newρ D D1).2.2.1
        have vs₆ : ∀ {u z}, VRel F₅ ρ₅ s₅.heap u z → VRel F₅ ρ₅ h₆ u z := fun q => q.sameBut hs₆ hDn.2
        have hr₆ : VRels F₅ ρ₅ h₆ (acc ++ [w]) (items.push y').toList := by
          rw [Array.toList_push]
          refine VRels.append (hr₅.mono (fun _ x => x) (fun _ _ x => x) fun c o hc e _ => (hs₆.2 c (fun q => hDn.2 (q ▸ hc))).trans e) ?_
          simp only [VRels]
          exact ⟨y', [], rfl, vs₆ r₅, rfl⟩
        refine ⟨xs.length + 1 - (i + 1), by omega, i + 1, ρ₅, F₅, sto₅, acc ++ [w], items.push y', rfl, hlt, st₆, B₆, ⟨m₅, hn₅.sameBut hs₆ hCD⟩, ok.walk.frame _ _ _ hst₅ fun b hb o e => (hs₆.2 b (fun q => hDfp (q ▸ hb))).trans e, hl₆, hr₆, by simp; omega, hwr₅, h₅⟩
    · obtain rfl : i = xs.length := by omega
      refine ok.walk.done s' _ _ hst' fun h' tk' hk₂ => ?_
      rw [List.drop_length] at hc
      have st₂ : Step NoWr ρ₁ F₁ s₁ ρ' F' { s' with heap := h', toks := tk' } := st'.later hk₂ ok.fresh
      have B₂ := B'.later (t := tk') hk₂ hall
      have hn₂ : h'.Ns C m' := Ns.kept hn' fun o ho => ⟨o, hk₂ _ o hCw ho, .refl o⟩
      have hl₂ : h'.PlainList D items := by obtain ⟨n, ho⟩ := hl'; exact ⟨n, hk₂ _ _ hDw ho⟩
      have hr₂ : VRels F' ρ' h' acc items.toList := hr'.mono (fun _ x => x) (fun _ _ x => x) fun c o hc e _ => hk₂ c o (fun hm => (hall c hm).2.1 hc) e
      have back : ∀ b, s₁.heap.get? b = none → s.heap.get? b = none := fun b hb => by
        cases e : s.heap.get? b with
        | none => rfl
        | some o => obtain ⟨o', e', _⟩ := st₁.alive b o e; rw [hb] at e'; cases e'
      exact hend D C ρ' F' sto' acc items _ _ (st₁.trans st₂) B₂ hl₂ hr₂ (hwr D (.inr (.inl rfl))).1 (hwr D (.inr (.inl rfl))).2 (newρ D D1).2.2.1 (back D D1) ⟨m', hn₂⟩ (back C C1) (hwr C (.inl rfl)).1 (hwr C (.inl rfl)).2 (newρ C C1).2.2.1 hCD hc
  exact codeAny_compStart_list (loop _ start) (ok.walk.self 0 _ _ _ hst₁ (loop _ start))
end
end Mine

namespace Mine
section
variable {cx : Cx} {sc scope : Scope} {d : Nat} {loc : Loc} {sto : Sto} {ρ : List Addr} {F : Addr → Prop} {s : Shared} {env : Env} {x : Str}

/-- the end of a comprehension lets its own frame go -/
theorem Step.other {Wr : Addr → Prop} {ρ₁ : List Addr} {F₁ : Addr → Prop} {s₁ : Shared} {C : Addr} {h' : Heap} (st : Step Wr ρ F s ρ₁ F₁ s₁) (hs : Heap.SameBut C s₁.heap h') (hC : s.heap.get? C = none) : Step Wr ρ F s ρ₁ F₁ { s₁ with heap := h' } :=
  Step.later (wr := [C]) (t := s₁.toks) st (fun b o hb e => (hs.2 b (fun q => hb (List.mem_singleton.mpr q))).trans e) (fun b hb => by rw [List.mem_singleton.mp hb]; exact hC)
theorem Frame.other {C : Addr} {h' : Heap} (f : Frame cx env ρ F loc s) (hs : Heap.SameBut C s.heap h') (h1 : ¬ Own env C) (h2 : ¬ F C) : Frame cx env ρ F loc { s with heap := h' } :=
  f.later (wr := [C]) (t := s.toks) (fun b o hb e => (hs.2 b (fun q => hb (List.mem_singleton.mpr q))).trans e) (fun b hb => by rw [List.mem_singleton.mp hb]; exact ⟨h1, h2⟩)

theorem wen_comp {elt iter : Expr} {ifs : List Expr} {px pos : Pos} {Q : List V → Sto → Prop}
    (h : WE cx sc d iter loc sto fun a sto₁ => ∃ xs, xs.length ≤ sizeLine ∧ ItV cx a sto₁ xs ∧ CompS cx (relabelS scope sc) d x ifs elt loc xs [] sto₁ Q)
    (hok : compOK scope sc x = true := by rfl) (h0 : loc.lookup (".0" : Str) = none := by rfl) (hs : noSet iter = true := by rfl) :
    WEN cx sc d (.ListComp elt [⟨.Name x px, iter, ifs, 0⟩] scope pos) loc sto Q := by
  intro env A s ρ F hE hA B f
  rw [eval_ListComp]
  refine comp_run hok h0 hs h hE hA B f ?_
  rintro D C ρ' F' sto' vs items s' fl st' B' hl hr d1 d2 d3 d4 ⟨m, hn⟩ c1 c2 c3 c4 hCD q
  refine ⟨m, hn, fun h' hs' => ?_⟩
  refine ⟨vs, sto', ρ', F', D, items, rfl, st'.other hs' c1, ?_, ?_, d1, d2, d3, d4, B'.sameBut (t := s'.toks) hs' c2 c3 c4, q⟩
  · obtain ⟨n, ho⟩ := hl; exact ⟨n, (hs'.2 D (Ne.symm hCD)).trans ho⟩
  · exact hr.mono (fun _ x => x) (fun _ _ x => x) fun c o hc e _ => (hs'.2 c (fun q => c3 (q ▸ hc))).trans e

/-- storing, when a frame of a comprehension is still to be let go -/
theorem store_then {y : Str} {v : V} {z : Value} {A : Around} {C : Addr} {m : Str → Option Value} {ρ' : List Addr} {F' : Addr → Prop} {s' : Shared} {sto' : Sto} {Q : Fl → Loc → Sto → Prop} (hE : EnvOK sc env A) (st' : Step (Own env) ρ F s ρ' F' s')
    (B' : Base cx ρ' F' sto' s') (f' : Frame cx env ρ' F' loc s') (r : VRel F' ρ' s'.heap v z) (hk : isVar sc y = true) (hn : s'.heap.Ns C m) (c1 : s.heap.get? C = none) (c2 : C ∉ ρ') (c3 : ¬ F' C) (c4 : cx.base.get? C = none) (c5 : ¬ Own env C)
    (q : Q .next ((y, v) :: loc) sto') :
    wpAny (model cx.prog cx.w) A (assign (.Name y p) env z) (fun _ s'' => ∃ m, s''.heap.Ns C m ∧ ∀ h', Heap.SameBut C s''.heap h' → PostS cx env ρ F s Q .next { s'' with heap := h' }) (fun _ _ => False) s' := by
  refine wpAny_assign_Name (store_var hE B' f' r hk fun s₃ st₃ B₃ f₃ => ?_)
  refine ⟨m, Ns.kept hn fun o ho => st₃.kept C o c2 c5 ho, fun h' hs' => ?_⟩
  exact ⟨.next, _, sto', ρ', F', (st'.trans st₃).other hs' c1, rfl, B₃.sameBut (t := s₃.toks) hs' c2 c3 c4, f₃.other hs' c5 c3, q⟩

theorem swaps_comp {elt : Expr} {gens : List Comprehension} {pos : Pos} {y : Str} {p : Pos} {n : Nat} : ∃ b, swapsWith (.ListComp elt gens scope pos) (some (.Name y p)) n env = pure b := ⟨_, rfl⟩

theorem ws_assign_comp {y : Str} {elt iter : Expr} {ifs : List Expr} {px pos p spos : Pos} {Q : Fl → Loc → Sto → Prop}
    (h : WE cx sc d iter loc sto fun a sto₁ => ∃ xs, xs.length ≤ sizeLine ∧ ItV cx a sto₁ xs ∧ CompS cx (relabelS scope sc) d x ifs elt loc xs [] sto₁ fun vs sto₂ => Q .next ((y, .lst vs) :: loc) sto₂)
    (hk : isVar sc y = true := by rfl) (hok : compOK scope sc x = true := by rfl) (h0 : loc.lookup (".0" : Str) = none := by rfl) (hs : noSet iter = true := by rfl) :
    WS cx sc d (.Assign [.Name y p] (.ListComp elt [⟨.Name x px, iter, ifs, 0⟩] scope pos) spos) loc sto Q := by
  intro env A s ρ F hE hA B f
  obtain ⟨b, hb⟩ := swaps_comp (env := env) (elt := elt) (gens := [⟨.Name x px, iter, ifs, 0⟩]) (scope := scope) (pos := pos) (y := y) (p := p) (n := spos.line)
  cases b with
  | false =>
    have hw : WE cx sc d (.ListComp elt [⟨.Name x px, iter, ifs, 0⟩] scope pos) loc sto fun v sto₂ => Q .next ((y, v) :: loc) sto₂ := WEN.data (wen_comp h hok h0 hs)
    refine wpAny_Assign_Name (wpAny_mono (hw env A s ρ F hE hA B f) ?_ fun _ _ x => x) hb
    rintro z s₁ ⟨v, sto₁, ρ₁, F₁, st₁, r₁, B₁, h₁⟩
    exact store_var hE B₁ (f.step B st₁) r₁ hk fun s₂ st₂ B₂ f₂ => ⟨.next, _, sto₁, ρ₁, F₁, st₁.own.trans st₂, rfl, B₂, f₂, h₁⟩
  | true =>
    rw [exec_Assign_Name_used _ _ _ _ hb]
    refine wpAny_bind (wpAny_standAt (wpAny_bind ?_))
    show wpAny _ A (do let _ ← comprehension (.ListComp elt [⟨.Name x px, iter, ifs, 0⟩] scope pos) scope env _ (newList []) false (eval iter env) (some (assign (.Name y p) env))) _ _ s
    refine wpAny_bind (comp_run (QQ := fun _ s' => wpAny (model cx.prog cx.w) A (pure () : Sem Unit) (fun _ s₁ => wpAny (model cx.prog cx.w) A (pure Flow.next : Sem Flow) (PostS cx env ρ F s Q) (fun _ _ => False) s₁) (fun _ _ => False) s') hok h0 hs h hE hA B f ?_)
    rintro D C ρ' F' sto' vs items s' fl st' B' hl hr d1 d2 d3 d4 ⟨m, hn⟩ c1 c2 c3 c4 hCD q
    have c5 : ¬ Own env C := fun ho => by obtain ⟨_, _, _, o, e⟩ := f.own C ho; rw [c1] at e; cases e
    obtain ⟨st₂, r₂, B₂⟩ := newData st' hl.isList hr d1 d4 B'
    refine wpAny_mono (store_then (Q := Q) hE st₂.own B₂ (f.step B st₂) r₂ hk hn c1 c2 (fun h => h.elim c3 hCD) c4 c5 q) ?_ fun _ _ x => x
    rintro _ s'' ⟨m'', hn'', h''⟩
    exact ⟨m'', hn'', fun h' hs' => wpAny_pure (wpAny_pure (h'' h' hs'))⟩
end

section
variable {cx : Cx} {sc scope : Scope} {d : Nat} {loc : Loc} {sto : Sto} {rest : List Stmt} {Q : Fl → Loc → Sto → Prop} {x y : Str} {elt iter : Expr} {ifs : List Expr} {px pos p spos : Pos}
theorem s_comp (h : WE cx sc d iter loc sto fun a sto₁ => ∃ xs, xs.length ≤ sizeLine ∧ ItV cx a sto₁ xs ∧ CompS cx (relabelS scope sc) d x ifs elt loc xs [] sto₁ fun vs sto₂ => WSs cx sc d rest ((y, .lst vs) :: loc) sto₂ Q)
    (hk : isVar sc y = true := by rfl) (hok : compOK scope sc x = true := by rfl) (h0 : loc.lookup (".0" : Str) = none := by rfl) (hs : noSet iter = true := by rfl) :
    WSs cx sc d (.Assign [.Name y p] (.ListComp elt [⟨.Name x px, iter, ifs, 0⟩] scope pos) spos :: rest) loc sto Q := ss_cons (ws_assign_comp h hk hok h0 hs)
theorem TestS.mono {ifs : List Expr} {Q Q' : Bool → Sto → Prop} (h : TestS cx sc d ifs loc sto Q) (q : ∀ b st, Q b st → Q' b st) : TestS cx sc d ifs loc sto Q' := by
  match ifs, h with
  | [], h => exact q _ _ h
  | [c], h => exact WT.mono h q

/-- a comprehension by what holds before turn i -/
theorem CompS.at {Q : List V → Sto → Prop} (xs : List V) (I : Nat → List V → Sto → Prop)
    (hstep : ∀ i v acc sto, xs[i]? = some v → I i acc sto → TestS cx sc d ifs ((x, v) :: loc) sto fun b sto₁ => if b = true then WE cx sc d elt ((x, v) :: loc) sto₁ fun w sto₂ => I (i + 1) (acc ++ [w]) sto₂ else I (i + 1) acc sto₁)
    (hend : ∀ acc sto, I xs.length acc sto → Q acc sto) (h0 : I 0 [] sto) : CompS cx sc d x ifs elt loc xs [] sto Q := by
  have key : ∀ (k : Nat) (ys : List V), ys = xs.drop k → k ≤ xs.length → ∀ acc sto, I k acc sto → CompS cx sc d x ifs elt loc ys acc sto Q := by
    intro k ys
    induction ys generalizing k with
    | nil =>
      intro e hk acc sto h
      have : k = xs.length := by
        have := congrArg List.length e
        simp at this; omega
      subst this
      exact hend _ _ h
    | cons y ys ih =>
      intro e hk acc sto h
      have hk' : k < xs.length := by
        have := congrArg List.length e
        simp at this; omega
      rw [List.drop_eq_getElem_cons hk'] at e
      obtain ⟨rfl, e2⟩ := List.cons.inj e
      unfold CompS
      refine (hstep k xs[k] acc sto (List.getElem?_eq_getElem hk') h).mono fun b st q => ?_
      cases b with
      | true => simp only [if_true] at q ⊢; exact q.mono fun w st₂ q₂ => ih (k + 1) e2 hk' _ _ q₂
      | false => simp only [Bool.false_eq_true, if_false] at q ⊢; exact ih (k + 1) e2 hk' _ _ q
  exact key 0 xs (by simp) (Nat.zero_le _) [] sto h0
/-- over range(a, b), no test: the elements one by one -/
theorem CompS.up {Q : List V → Sto → Prop} {a b : Int} (I : Nat → List V → Sto → Prop)
    (hstep : ∀ (i : Nat) acc sto, a + i < b → I i acc sto → WE cx sc d elt ((x, .int (a + i)) :: loc) sto fun w sto₂ => I (i + 1) (acc ++ [w]) sto₂)
    (hend : ∀ acc sto, I (b - a).toNat acc sto → Q acc sto) (h0 : I 0 [] sto) : CompS cx sc d x [] elt loc (rngV a b 1) [] sto Q := by
  refine CompS.at _ I (fun i v acc sto hv h => ?_) (fun acc sto h => hend acc sto (by rwa [rngV_length] at h)) h0
  obtain ⟨rfl, hlt⟩ := rngV_get hv
  exact hstep i acc sto hlt h
end
end Mine

namespace Mine

/-! exceptions that a def raises and its caller's own try takes -/
def SeenBy (cx : Cx) (B : Heap) (s : Shared) : Prop :=
  (∀ b o, s.heap.get? b = some o → B.get? b = some o ∨ ∃ es n, o.data = .dict es n) ∧ ∀ b o, cx.base.get? b = some o → B.get? b = some o
def Raised (cx : Cx) (A : Around) (s : Shared) (cls : String) (e : Value) (s' : Shared) : Prop :=
  ∃ ea a0 B outer, e = .ref ea ∧ A.frames = some outer ∧ Heap.FlyingW B outer ea (.type cls) a0 s'.heap ∧ SeenBy cx B s ∧ s.heap.UpToSlots s'.heap ∧ s'.gens = s.gens ∧ s'.os = s.os

section
variable {cx : Cx} {sc : Scope} {d : Nat} {loc : Loc} {sto : Sto} {ρ : List Addr} {F : Addr → Prop} {s s' : Shared} {env : Env}

theorem seen_kept {B h' : Heap} (g : SeenBy cx B s) (hB : B.StaysIn h') (hu : s.heap.UpToSlots h') {b : Addr} {o : Obj} (e : s.heap.get? b = some o) : ∃ o', h'.get? b = some o' ∧ Kept1 o o' := by
  rcases g.1 b o e with q | ⟨es, n, q⟩
  · exact ⟨o, hB b o q, .refl o⟩
  · obtain ⟨sl, e'⟩ := hu b o e (fun vs q' => by rw [q] at q'; cases q')
    exact ⟨_, e', .inr ⟨⟨es, n, q⟩, sl, rfl⟩⟩
theorem seen_back {B : Heap} (b : Base cx ρ F sto s) (g : SeenBy cx B s) (hB : B.StaysIn s'.heap) (hu : s.heap.UpToSlots s'.heap) (h1 : s'.gens = s.gens) (h2 : s'.os = s.os) : Step NoWr ρ F s ρ F s' ∧ Base cx ρ F sto s' := by
  have exact' : ∀ a o, s.heap.get? a = some o → (∀ es n, o.data ≠ .dict es n) → s'.heap.get? a = some o := fun a o e hd => by
    obtain ⟨o', e', k⟩ := seen_kept g hB hu e
    rw [k.same hd] at e'; exact e'
  refine ⟨⟨⟨[], by simp⟩, fun _ h => h, fun _ h => .inl h, fun _ h => .inl h, fun c o _ _ e => seen_kept g hB hu e, fun c o e => ?_⟩,
    ⟨fun c o e => hB c o (g.2 c o e), b.rnew, b.nodup, b.len, fun i a vs e1 e2 => ?_, b.disj, fun a ha => ?_, h1.trans b.gens, h2.trans b.os⟩⟩
  · obtain ⟨o', e', k⟩ := seen_kept g hB hu e
    exact ⟨o', e', fun h vs q => h vs (k.data ▸ q), fun h => by rw [k.data]; exact h⟩
  · obtain ⟨items, ⟨n, ho⟩, r⟩ := b.objs i a vs e1 e2
    exact ⟨items, ⟨n, exact' a _ ho (fun es n q => by cases q)⟩, r.mono (fun _ x => x) (fun _ _ x => x) fun c o _ e hd => exact' c o e hd⟩
  · obtain ⟨o, ho⟩ := b.live a ha
    obtain ⟨o', e', _⟩ := seen_kept g hB hu ho
    exact ⟨o', e'⟩
end

/-- an operation that raises -/
def Op2X (cx : Cx) (d : Nat) (t : Value → Value → Sem Value) (a b : V) (sto : Sto) (cls : String) : Prop :=
  ∀ A s ρ F x y, AOK cx d A s.heap → Base cx ρ F sto s → VRel F ρ s.heap a x → VRel F ρ s.heap b y →
    wpAny (model cx.prog cx.w) A (t x y) (fun _ _ => False) (fun e s' => ∃ ea h' tk, e = .ref ea ∧ s' = { s with heap := h', toks := tk } ∧ Heap.NewExc s.heap h' ea cls) s
def NX (cx : Cx) (sc : Scope) (d : Nat) (body : List Stmt) (loc : Loc) (sto : Sto) (cls : String) : Prop :=
  ∀ env A s ρ F, EnvOK sc env A → AOK cx d A s.heap → Base cx ρ F sto s → Frame cx env ρ F loc s →
    wpAny (model cx.prog cx.w) A (execs body env) (fun _ _ => False) (fun e s' => ∃ ea h' tk, e = .ref ea ∧ s' = { s with heap := h', toks := tk } ∧ Heap.NewExc s.heap h' ea cls) s
def CallX (cx : Cx) (d : Nat) (f : Str) (args : List V) (sto : Sto) (cls : String) : Prop :=
  ∃ a o fd, cx.mg f = some (.ref a) ∧ cx.base.get? a = some o ∧ o.data = .func fd ∧ ∀ A s ρ F xs, AOK cx d A s.heap → Base cx ρ F sto s → VRels F ρ s.heap args xs →
    wpAny (model cx.prog cx.w) A (call (.ref a) xs) (fun _ _ => False) (Raised cx A s cls) s
def XE (cx : Cx) (sc : Scope) (d : Nat) (e : Expr) (loc : Loc) (sto : Sto) (cls : String) (Q : Sto → Prop) : Prop :=
  ∀ env A s ρ F, EnvOK sc env A → AOK cx d A s.heap → Base cx ρ F sto s → Frame cx env ρ F loc s →
    wpAny (model cx.prog cx.w) A (eval e env) (fun _ _ => False) (fun e s' => ∃ sto₁ ρ₁ F₁ s₁, Step NoWr ρ F s ρ₁ F₁ s₁ ∧ Base cx ρ₁ F₁ sto₁ s₁ ∧ Raised cx A s₁ cls e s' ∧ Q sto₁) s

section
variable {cx : Cx} {sc : Scope} {d : Nat} {loc : Loc} {sto : Sto}

/-- «a op= b» raises -/
theorem nx_aug {x y : Str} {v w : V} {op : Operator} {p q pos : Pos} {rest : List Stmt} {cls : String} (hv : loc.lookup x = some v) (hw : loc.lookup y = some w) (h : Op2X cx d (inplaceOp op) v w sto cls)
    (hk : isVar sc x = true := by rfl) (hk' : isVar sc y = true := by rfl) (hd : (y == ("__debug__" : Str)) = false := by decide) : NX cx sc d (.AugAssign (.Name x p) op (.Name y q) pos :: rest) loc sto cls := by
  intro env A s ρ F hE hA B f
  refine wpAny_execs_cons (wpAny_AugAssign_Name (load_var hE f hv hk fun z r => wpAny_Name (load_var hE f hw hk' fun z' r' => ?_) hd))
  exact wpAny_mono (h A s ρ F z z' hA B r r') (fun _ _ x => x.elim) fun _ _ x => x

theorem callX_def {f : Str} {params : Arguments} {body : List Stmt} {scope : Scope} {args : List V} {names : List Str} {cls : String} (hf : FnIs cx f params body scope)
    (h : NX cx scope d body (names.zip args) sto cls)
    (hb : ∀ pm cd doc xs, xs.length = args.length → bindArgs (Calls.docDef f params body scope pm cd doc) ⟨xs, []⟩ = pure (names.zip xs))
    (hn : names.Nodup := by decide) (hv : (names.all fun x => isVar scope x) = true := by rfl) (hco : scope.isCoroutine = false := by rfl) (hgen : scope.isGenerator = false := by rfl) (hk : scope.kind = .function := by rfl) :
    CallX cx (d + 1) f args sto cls := by
  obtain ⟨a, o, pm, code, doc, e1, e2, e3, e4⟩ := hf.at'
  refine ⟨a, o, _, e1, e2, e3, ?_⟩
  intro A s ρ F xs hA B r
  have hlen := r.length
  refine wpAny_call (codeAny_call_cells (binds := names.zip xs) (body := body) (by have := hA.depth; omega) (B.stays _ _ e2) e3 (cx.top.nolimit.keeps B.stays) (e4.keeps B.stays) rfl (hb pm code doc xs hlen) rfl ?_ ?_ hco hgen hk)
  · intro x hx
    have hx1 : x.1 ∈ names := (List.of_mem_zip (show (x.1, x.2) ∈ names.zip xs from hx)).1
    have hv1 := List.all_eq_true.mp hv x.1 hx1
    unfold isVar at hv1
    split at hv1
    · rename_i hl; exact .inl hl
    · rename_i hl
      exact .inr ⟨hl, lookup_isSome_of_mem (cellsFrom_mem (.inr (mem_of_lookup hl)))⟩
    · cases hv1
  intro s₁ hin
  have hL : (callEnvC (Calls.docDef f params body scope pm code doc) s.heap.objs.size a).locals = s.heap.objs.size := rfl
  have hsc : (callEnvC (Calls.docDef f params body scope pm code doc) s.heap.objs.size a).scope = scope := rfl
  have hfr : (callEnvC (Calls.docDef f params body scope pm code doc) s.heap.objs.size a).frame = some s.heap.objs.size := rfl
  have hgl : (callEnvC (Calls.docDef f params body scope pm code doc) s.heap.objs.size a).globals = mainGlobals := rfl
  have hbl : (callEnvC (Calls.docDef f params body scope pm code doc) s.heap.objs.size a).builtins = builtinsNs := rfl
  have hcs : (callEnvC (Calls.docDef f params body scope pm code doc) s.heap.objs.size a).cells = cellsFrom (s.heap.objs.size + 1) scope.names [] := rfl
  have hco' : (callEnvC (Calls.docDef f params body scope pm code doc) s.heap.objs.size a).code = code := rfl
  generalize callEnvC (Calls.docDef f params body scope pm code doc) s.heap.objs.size a = env at *
  obtain ⟨hE, hA₁, st₁, B₁, f₁, ownNew⟩ := enter_def hA B r hL hsc hfr hgl hbl hcs hin hn hk (by obtain ⟨c, o, vs, t, q1, q2, q3, _⟩ := e4; exact ⟨c, o, vs, hco'.trans q1, q2, q3⟩)
  obtain ⟨h₁, tk₁, hs₁⟩ := hin.toInCall.same
  have keep := hin.toInCall.keep
  refine wpAny_mono (h env (A.deeper env) s₁ ρ F hE hA₁ B₁ f₁) (fun _ _ x => x.elim) ?_
  rintro e s₂ ⟨ea, h₂, tk₂, rfl, rfl, hx⟩
  obtain ⟨outer, ho, hff, hdd⟩ := hA.frames
  have hfrs : (A.deeper env).frames = some (env :: outer) := by show A.frames.map (env :: ·) = _; rw [ho]; rfl
  obtain ⟨outer', ho', hff', hdd'⟩ := hA₁.frames
  rw [hfrs] at ho'; cases ho'
  -- all but the frames
  have hin' : ∀ en ∈ (env :: outer), ∀ b, en.frame = some b → b ∈ (env :: outer).filterMap (·.frame) := fun en he b hb => List.mem_filterMap.mpr ⟨en, he, hb⟩
  generalize hBd : hideAll s₁.heap ((env :: outer).filterMap (·.frame)) = Bh
  have hBs : Bh.StaysIn s₁.heap := fun b o q => by rw [← hBd] at q; exact of_hideAll _ q
  have hFB : s₁.heap.FunFrames Bh (env :: outer) := by rw [← hBd]; exact funFrames_hide hff' hin'
  obtain ⟨ob, tp, he, hcls, hd⟩ := hx.there
  have hen : Bh.get? ea = none := by
    cases q : Bh.get? ea with
    | none => rfl
    | some o' => have := hBs _ _ q; rw [hx.new] at this; cases this
  refine wpAny_leaving_firstW (base := Bh) (a0 := tp) hfrs (hFB.of_keeps fun b o hb _ => ⟨o, hx.keeps b o hb, rfl⟩) (by rw [hfr]) he (fun b o hb => hx.keeps b o (hBs b o hb)) hen hd rfl rfl fun h' hLW => ?_
  obtain ⟨k1, ⟨_, _, k2⟩, k3, k4⟩ := hLW
  refine ⟨ea, tp, Bh, outer, rfl, ho, ⟨k1, hen, k2, by rw [← hcls]; exact k3⟩, ⟨fun b o e => ?_, fun b o e => ?_⟩, ?_, by rw [hs₁], by rw [hs₁]⟩
  · by_cases hm : b ∈ (env :: outer).filterMap (·.frame)
    · obtain ⟨en, he', hf'⟩ := List.mem_filterMap.mp hm
      rcases List.mem_cons.mp he' with rfl | he'
      · exfalso
        rw [hfr] at hf'; cases hf'
        have := ownNew en.locals (.inl rfl)
        rw [hL, e] at this; cases this
      · obtain ⟨o', es, n, e', d'⟩ := hdd en he' b hf'
        rw [e] at e'; cases e'
        exact .inr ⟨es, n, d'⟩
    · exact .inl (by rw [← hBd]; exact hideAll_get _ (keep b o e) hm)
  · rw [← hBd]
    refine hideAll_get _ (B₁.stays b o e) fun hm => ?_
    rw [(hff'.mem hm).1] at e; cases e
  · refine Heap.UpToSlots.trans (Heap.UpToSlots.of_keeps fun b o e => ?_) k4
    exact hx.keeps b o (keep b o e)

theorem xe_call {f : Str} {p pos : Pos} {e : Expr} {es : List Expr} {cls : String} {Q : Sto → Prop} (h : WEs cx sc d (e :: es) loc sto fun vs sto₁ => CallX cx d f vs sto₁ cls ∧ Q sto₁)
    (hne : (∃ a o fd, cx.mg f = some (.ref a) ∧ cx.base.get? a = some o ∧ o.data = .func fd)) (hg : isGlob sc f = true := by rfl) (hd : (f == ("__debug__" : Str)) = false := by decide) (hs : noStars (e :: es) = true := by rfl) :
    XE cx sc d (.Call (.Name f p) (e :: es) [] pos) loc sto cls Q := by
  intro env A s ρ F hE hA B fr
  have hkind : env.scope.kind = .function := by rw [hE.scope]; exact hE.kind
  obtain ⟨a, o, fd, e1, e2, e3⟩ := hne
  refine wpAny_Call_NameR (Calls.Name_function_global hkind (isGlob_kind hE hg) (Calls.loadGlobal_global (mg := cx.mg) (by rw [hE.globals]; exact cx.top.g.keeps B.stays) e1 ?_) hd)
  have hs' := hs
  simp only [noStars, Bool.and_eq_true] at hs'
  refine callWith_def e3 (wpAny_mono (h env A s ρ F pos hE hA B fr) ?_ fun _ _ x => x.elim) (starEach_cons hs'.1)
  rintro xs s₁ ⟨vs, sto₁, ρ₁, F₁, st₁, r₁, B₁, ⟨a', o', fd', e1', e2', e3', h₁⟩, q⟩
  rw [e1] at e1'; cases e1'
  exact ⟨B₁.stays _ _ e2, wpAny_mono (h₁ A s₁ ρ₁ F₁ xs (hA.step st₁) B₁ r₁) (fun _ _ x => x) fun e' s' hr => ⟨sto₁, ρ₁, F₁, s₁, st₁, B₁, hr, q⟩⟩

/-! the clauses -/
def Hand (cx : Cx) (sc : Scope) (hs : List ExceptHandler) (cls : String) (loc : Loc) (sto : Sto) (Q : Fl → Loc → Sto → Prop) : Prop :=
  ∀ env A s ρ F ea a0 B outer s', EnvOK sc env A → A.frames = some (env :: outer) → env.frame = some env.locals → Base cx ρ F sto s → Frame cx env ρ F loc s → SeenBy cx B s → Heap.FlyingW B (env :: outer) ea (.type cls) a0 s'.heap →
    s.heap.UpToSlots s'.heap → s'.gens = s.gens → s'.os = s.os → wpAny (model cx.prog cx.w) A (handleBy (.ref ea) env hs) (PostS cx env ρ F s Q) (fun _ _ => False) s'

def constFl : List Stmt → Option Fl
  | [.Pass _] => some .next
  | [.Return (some (.Constant (.bool b) _ _)) _] => some (.ret (.bool b))
  | [.Return (some (.Constant (.str u) _ _)) _] => some (.ret (.str u))
  | _ => none

theorem load_bi' {x : Str} {v : Value} {env : Env} {A : Around} {s : Shared} {A' : Around} {p : Pos} {E : Value → Shared → Prop} {Q : Value → Shared → Prop} (hb : BI cx x v) (hE : EnvOK sc env A') (hst : ∀ b o, cx.base.get? b = some o → s.heap.get? b = some o)
    (hg : isGlob sc x = true) (hd : (x == ("__debug__" : Str)) = false) (q : Q v s) : wpAny (model cx.prog cx.w) A (eval (.Name x p) env) Q E s := by
  have hkind : env.scope.kind = .function := by rw [hE.scope]; exact hE.kind
  exact Calls.Name_function_global hkind (isGlob_kind hE hg) (Calls.loadGlobal_builtin (mg := cx.mg) (mb := cx.mb) (by rw [hE.globals]; exact cx.top.g.keeps hst) hb.1 (by rw [hE.builtins]; exact cx.top.b.keeps hst) hb.2 q) hd

theorem const_run {body : List Stmt} {fl : Fl} {env : Env} {A : Around} {s : Shared} {E : Value → Shared → Prop} {Q : Flow → Shared → Prop} (h : constFl body = some fl) (q : ∀ F ρ f t, FlRel F ρ s.heap fl f → Q f { s with toks := t }) :
    wpAny (model cx.prog cx.w) A (execs body env) Q E s := by
  unfold constFl at h
  split at h
  · cases h
    exact wpAny_execs_cons (wpAny_Pass (wpAny_execs_nil (q NoWr [] _ s.toks rfl)))
  · cases h
    exact wpAny_execs_cons (wpAny_Return_some (wpAny_Constant_bool (q NoWr [] _ s.toks ⟨_, rfl, by simp [VRel]⟩)))
  · cases h
    exact wpAny_execs_cons (wpAny_Return_some (Calls.Constant_str (q NoWr [] _ _ ⟨_, rfl, by simp [VRel]⟩)))
  · cases h

theorem constFl_rel {body : List Stmt} {fl : Fl} {F F' : Addr → Prop} {ρ ρ' : List Addr} {h h' : Heap} {f : Flow} (hc : constFl body = some fl) (r : FlRel F ρ h fl f) : FlRel F' ρ' h' fl f := by
  unfold constFl at hc
  split at hc <;> first | cases hc | skip
  · exact r
  · simp only [FlRel, VRel] at r ⊢; exact r
  · simp only [FlRel, VRel] at r ⊢; exact r

theorem hand_hit {x : Str} {T cls : String} {body : List Stmt} {fl : Fl} {np pos : Pos} {rest : List ExceptHandler} {Q : Fl → Loc → Sto → Prop} (hb : BI cx x (.type T)) (hc : constFl body = some fl) (q : Q fl loc sto)
    (hexc : isSubtype (.type T) (.type "BaseException") = pure true) (hnt : isSubtype (.type ((Manifest.find? T).elim "type" fun y => y.metatype)) (.type "tuple") = pure false) (hsub : isSubtype (.type cls) (.type T) = pure true)
    (hg : isGlob sc x = true := by rfl) (hd : (x == ("__debug__" : Str)) = false := by decide) : Hand cx sc (.ExceptHandler (some (.Name x np)) none body pos :: rest) cls loc sto Q := by
  intro env A s ρ F ea a0 B outer s' hE hfr hf b fr g hfl hu h1 h2
  obtain ⟨b₀, suite, rfl⟩ : ∃ b₀ suite, body = b₀ :: suite := by
    cases body with
    | nil => cases hc
    | cons b₀ suite => exact ⟨b₀, suite, rfl⟩
  obtain ⟨ob, hob, hobc⟩ := hfl.there
  refine wpAny_handleBy_builtin (X := cls) (T := T) (b := true) hexc hnt hsub (load_bi' hb hE (fun c o e => hfl.1 c o (g.2 c o e)) hg hd ⟨rfl, ⟨ob, hob, hobc⟩, ?_⟩)
  refine lands_againW hfl fun h₆ hfl₆ hu₆ => ?_
  refine const_run hc fun F' ρ' f t r => ?_
  obtain ⟨st, b'⟩ := seen_back (s' := { s' with heap := h₆, toks := t }) b g hfl₆.1 (hu.trans hu₆) h1 h2
  exact ⟨fl, loc, sto, ρ, F, st.own, constFl_rel hc r, b', fr.step b st, q⟩
theorem hand_miss {x : Str} {T cls : String} {b₀ : Stmt} {suite : List Stmt} {np pos : Pos} {rest : List ExceptHandler} {Q : Fl → Loc → Sto → Prop} (hb : BI cx x (.type T)) (h : Hand cx sc rest cls loc sto Q)
    (hexc : isSubtype (.type T) (.type "BaseException") = pure true) (hnt : isSubtype (.type ((Manifest.find? T).elim "type" fun y => y.metatype)) (.type "tuple") = pure false) (hsub : isSubtype (.type cls) (.type T) = pure false)
    (hg : isGlob sc x = true := by rfl) (hd : (x == ("__debug__" : Str)) = false := by decide) : Hand cx sc (.ExceptHandler (some (.Name x np)) none (b₀ :: suite) pos :: rest) cls loc sto Q := by
  intro env A s ρ F ea a0 B outer s' hE hfr hf b fr g hfl hu h1 h2
  obtain ⟨ob, hob, hobc⟩ := hfl.there
  exact wpAny_handleBy_builtin (X := cls) (T := T) (b := false) hexc hnt hsub (load_bi' hb hE (fun c o e => hfl.1 c o (g.2 c o e)) hg hd ⟨rfl, ⟨ob, hob, hobc⟩, h env A s ρ F ea a0 B outer s' hE hfr hf b fr g hfl hu h1 h2⟩)

theorem ws_try {call : Expr} {more : List Stmt} {h₀ : ExceptHandler} {hs : List ExceptHandler} {cls : String} {p pos : Pos} {Q : Fl → Loc → Sto → Prop} (h : XE cx sc d call loc sto cls fun sto₁ => Hand cx sc (h₀ :: hs) cls loc sto₁ Q)
    (hn : noComp call = true := by rfl) (hdot : sc.names.lookup (".0" : Str) = none := by rfl) : WS cx sc d (.Try (.Expr call p :: more) (h₀ :: hs) [] [] pos) loc sto Q := by
  intro env A s ρ F hE hA B f
  obtain ⟨hf, outer, hfr⟩ := hE.top hdot
  have hi : interactive env = false := by
    unfold interactive; rw [hE.scope, hE.kind]; rfl
  refine wpAny_Try_except (wpAny_execs_cons (wpAny_Expr (wpAny_mono (h env A s ρ F hE hA B f) (fun _ _ x => x.elim) ?_) hi (swaps_false hn)))
  rintro e s' ⟨sto₁, ρ₁, F₁, s₁, st₁, B₁, ⟨ea, a0, Bh, outer', rfl, ho', hfl, g, hu, h1, h2⟩, hh⟩
  rw [hfr] at ho'; cases ho'
  refine wpAny_looks_onW hfr hf hfl fun h₄ hheld hu₄ => ?_
  refine wpAny_landsW hheld fun h₅ hfl₅ hu₅ => ?_
  exact wpAny_mono (hh env A s₁ ρ₁ F₁ ea a0 Bh outer { s' with heap := h₅ } hE hfr hf B₁ (f.step B st₁) g hfl₅ ((hu.trans hu₄).trans hu₅) h1 h2) (fun _ _ p => p.after st₁.own) fun _ _ x => x
theorem s_try {call : Expr} {more rest : List Stmt} {h₀ : ExceptHandler} {hs : List ExceptHandler} {cls : String} {p pos : Pos} {Q : Fl → Loc → Sto → Prop} (h : XE cx sc d call loc sto cls fun sto₁ => Hand cx sc (h₀ :: hs) cls loc sto₁ (Then cx sc d rest Q))
    (hn : noComp call = true := by rfl) (hdot : sc.names.lookup (".0" : Str) = none := by rfl) : WSs cx sc d (.Try (.Expr call p :: more) (h₀ :: hs) [] [] pos :: rest) loc sto Q := ss_cons (ws_try h hn hdot)
end
end Mine

namespace Mine

/-! writing tracked lists -/
section
variable {cx : Cx} {sc : Scope} {d : Nat} {loc : Loc} {sto : Sto} {ρ : List Addr} {F : Addr → Prop} {s : Shared} {env : Env}

theorem Base.write {n : Nat} {a : Addr} {h' : Heap} {items : Array Value} {vs : List V} (B : Base cx ρ F sto s) (hn : ρ[n]? = some a) (hs : Heap.SameBut a s.heap h') (hl : h'.PlainList a items) (r : VRels F ρ s.heap vs items.toList) (t : Nat) :
    Base cx ρ F (sto.set n vs) { s with heap := h', toks := t } := by
  have ha : a ∈ ρ := List.mem_of_getElem? hn
  have hF : ¬ F a := fun h => B.disj a h ha
  have mono : ∀ {us xs}, VRels F ρ s.heap us xs → VRels F ρ h' us xs := fun q => q.mono (fun _ x => x) (fun _ _ x => x) fun c o hc e _ => (hs.2 c (fun q => hF (q ▸ hc))).trans e
  refine ⟨fun b o e => ?_, B.rnew, B.nodup, by rw [List.length_set]; exact B.len, fun i b us e1 e2 => ?_, B.disj, fun b hb => ?_, B.gens, B.os⟩
  · have : b ≠ a := fun q => by rw [q, B.rnew a ha] at e; cases e
    exact (hs.2 b this).trans (B.stays b o e)
  · by_cases hi : i = n
    · subst hi
      rw [hn] at e1; cases e1
      have hlt : i < sto.length := by rw [← B.len]; exact (List.getElem?_eq_some_iff.mp hn).1
      rw [List.getElem?_set_self hlt] at e2; cases e2
      exact ⟨items, hl, mono r⟩
    · rw [List.getElem?_set_ne (fun q => hi q.symm)] at e2
      obtain ⟨its, ⟨k, ho⟩, q⟩ := B.objs i b us e1 e2
      have hb : b ≠ a := fun q => hi (by
        subst q
        obtain ⟨h1, h2⟩ := List.getElem?_eq_some_iff.mp e1
        obtain ⟨h3, h4⟩ := List.getElem?_eq_some_iff.mp hn
        rcases Nat.lt_trichotomy i n with q | q | q
        · exact absurd (h2.trans h4.symm) (List.pairwise_iff_getElem.mp B.nodup i n h1 h3 q)
        · exact q
        · exact absurd (h4.trans h2.symm) (List.pairwise_iff_getElem.mp B.nodup n i h3 h1 q))
      exact ⟨its, ⟨k, (hs.2 b hb).trans ho⟩, mono q⟩
  · obtain ⟨o, ho⟩ := B.live b hb
    exact ⟨o, (hs.2 b (fun q => hF (q ▸ hb))).trans ho⟩
theorem Step.write {Wr : Addr → Prop} {n : Nat} {a : Addr} {h' : Heap} {items its : Array Value} (hn : ρ[n]? = some a) (hs : Heap.SameBut a s.heap h') (h0 : s.heap.PlainList a its) (hl : h'.PlainList a items) (t : Nat) :
    Step Wr ρ F s ρ F { s with heap := h', toks := t } := by
  have ha : a ∈ ρ := List.mem_of_getElem? hn
  refine ⟨⟨[], by simp⟩, fun _ h => h, fun _ h => .inl h, fun _ h => .inl h, fun b o hb _ e => ⟨o, (hs.2 b (fun q => hb (q ▸ ha))).trans e, .refl o⟩, fun b o e => ?_⟩
  by_cases hb : b = a
  · subst hb
    obtain ⟨k, ho⟩ := hl
    refine ⟨_, ho, fun _ vs q => (by cases q), fun h => ?_⟩
    obtain ⟨k', ho'⟩ := h0
    rw [e] at ho'; cases ho'
    obtain ⟨es, m, q⟩ := h
    cases q
  · exact ⟨o, (hs.2 b hb).trans e, fun h => h, fun h => h⟩
theorem PostV.write {n : Nat} {a : Addr} {h' : Heap} {items its : Array Value} {vs : List V} {v : V} {x : Value} {Q : V → Sto → Prop} (B : Base cx ρ F sto s) (hn : ρ[n]? = some a) (hs : Heap.SameBut a s.heap h') (h0 : s.heap.PlainList a its) (hl : h'.PlainList a items)
    (r : VRels F ρ s.heap vs items.toList) (rv : VRel F ρ s.heap v x) (q : Q v (sto.set n vs)) (t : Nat) : PostV cx ρ F s Q x { s with heap := h', toks := t } :=
  ⟨v, sto.set n vs, ρ, F, .write hn hs h0 hl t, rv.sameBut hs (fun h => B.disj a h (List.mem_of_getElem? hn)), B.write hn hs hl r t, q⟩

theorem call_append {n : Nat} {vs : List V} {v : V} {Q : V → Sto → Prop} (hn : sto[n]? = some vs) (q : vs.length ≤ sizeLine ∧ Q .none (sto.set n (vs ++ [v]))) : CallV cx d (.builtin "list.append") [.obj n, v] sto Q := by
  intro A s ρ F xs hA B r
  obtain ⟨x, y, rfl, r1, r2⟩ := r.two
  simp only [VRel] at r1
  obtain ⟨a, ha, rfl⟩ := r1
  obtain ⟨items, hl, r3⟩ := B.objs n a vs ha hn
  have hlen : items.size = vs.length := by rw [← r3.length]; simp
  refine wpAny_list_append_plain hl (fun h' hl' hs => ?_) (by omega)
  refine PostV.write (t := s.toks) B ha hs hl hl' (vs := vs ++ [v]) ?_ (by simp [VRel]) q.2
  rw [Array.toList_push]
  exact r3.append (by simp only [VRels]; exact ⟨y, [], rfl, r2, rfl⟩)

/-- a method of a tracked list -/
theorem we_lmeth {x name : Str} {id : String} {px apos pos : Pos} {e : Expr} {es : List Expr} {n : Nat} {Q : V → Sto → Prop} (hx : loc.lookup x = some (.obj n)) (slot : Slot "list" name id) (hty : typeOf (.builtin id) = pure (.type "method_descriptor"))
    (h : WEs cx sc d (e :: es) loc sto fun vs sto₁ => CallV cx d (.builtin id) (.obj n :: vs) sto₁ Q)
    (hk : isVar sc x = true := by rfl) (hd : (x == ("__debug__" : Str)) = false := by decide) (hline : (apos.endLine == pos.line) = true := by rfl) (hs : noStars (e :: es) = true := by rfl) (hfew : es.length < 20 := by decide) :
    WE cx sc d (.Call (.Attribute (.Name x px) name apos) (e :: es) [] pos) loc sto Q := by
  intro env A s ρ F hE hA B f
  have hpl : ∀ (es : List Expr), noStars es = true → ((backTo pos (starEach es env)).all fun x => !x.1) = true := by
    intro es
    induction es with
    | nil => intro _; rfl
    | cons e es ih =>
      intro h
      simp only [noStars, Bool.and_eq_true] at h
      rw [starEach_cons h.1]
      show (true && (backTo pos (starEach es env)).all fun x => !x.1) = true
      rw [ih h.2]; rfl
  refine wpAny_Call_method (T := "list") (id := id) rfl ?_ hline PySem.F.plainAttrs_list slot hty ?_
  · rw [hpl _ hs]
    show decide ((e :: es).length + 0 + 0 < 30) = true
    simp; omega
  refine wpAny_Name (load_var hE f hx hk fun y r => ?_) hd
  simp only [VRel] at r
  obtain ⟨a, ha, rfl⟩ := r
  have hlt : n < sto.length := by rw [← B.len]; exact (List.getElem?_eq_some_iff.mp ha).1
  obtain ⟨items, hl, _⟩ := B.objs n a _ ha (List.getElem?_eq_getElem hlt)
  refine ⟨hl.isList.typeIs, fun b hb => ?_, ?_⟩
  · cases hb
    obtain ⟨c, ho⟩ := hl
    exact ⟨_, ho, rfl⟩
  have hs' := hs
  simp only [noStars, Bool.and_eq_true] at hs'
  have hh := h env A s ρ F pos hE hA B f
  have hp := plain_trees (pos := pos) (env := env) hs
  rw [starEach_cons hs'.1] at hh hp ⊢
  refine Calls.callWith_builtin hp (Calls.evalArgs_plain (x := eval e env) (rest := backTo pos (starEach es env)) (wpAny_mono hh ?_ fun _ _ x => x))
  rintro xs s₁ ⟨vs, sto₁, ρ₁, F₁, st₁, r₁, B₁, h₁⟩
  refine wpAny_mono (h₁ A s₁ ρ₁ F₁ (.ref a :: xs) (hA.step st₁) B₁ ?_) (fun _ _ p => p.after st₁) fun _ _ x => x
  simp only [VRels, VRel]
  exact ⟨_, _, rfl, ⟨a, st₁.getr _ _ ha, rfl⟩, r₁⟩

theorem we_append {x : Str} {px apos pos : Pos} {e : Expr} {n : Nat} {Q : V → Sto → Prop} (hx : loc.lookup x = some (.obj n)) (h : WE cx sc d e loc sto fun v sto₁ => ∃ vs, sto₁[n]? = some vs ∧ vs.length ≤ sizeLine ∧ Q .none (sto₁.set n (vs ++ [v])))
    (hk : isVar sc x = true := by rfl) (hd : (x == ("__debug__" : Str)) = false := by decide) (hline : (apos.endLine == pos.line) = true := by rfl) (hs : noStar e = true := by rfl) :
    WE cx sc d (.Call (.Attribute (.Name x px) "append" apos) [e] [] pos) loc sto Q :=
  we_lmeth hx slot_list_append type_list_append (wes_cons (h.mono fun v st q => wes_nil (by obtain ⟨vs, h1, h2, h3⟩ := q; exact call_append h1 ⟨h2, h3⟩)) hs) hk hd hline (by simp [noStars, hs])
theorem ws_expr {e : Expr} {pos : Pos} {Q : Fl → Loc → Sto → Prop} (h : WE cx sc d e loc sto fun _ sto₁ => Q .next loc sto₁) (hn : noComp e = true := by rfl) : WS cx sc d (.Expr e pos) loc sto Q := by
  intro env A s ρ F hE hA B f
  have hi : interactive env = false := by
    unfold interactive; rw [hE.scope, hE.kind]; rfl
  refine wpAny_Expr_any (wpAny_mono (h env A s ρ F hE hA B f) ?_ fun _ _ x => x) hi (swaps_false hn)
  rintro y s₁ ⟨v, sto₁, ρ₁, F₁, st₁, r₁, B₁, h₁⟩
  exact ⟨.next, loc, sto₁, ρ₁, F₁, st₁.own, rfl, B₁, f.step B st₁, h₁⟩
theorem s_expr {e : Expr} {pos : Pos} {rest : List Stmt} {Q : Fl → Loc → Sto → Prop} (h : WE cx sc d e loc sto fun _ sto₁ => WSs cx sc d rest loc sto₁ Q) (hn : noComp e = true := by rfl) : WSs cx sc d (.Expr e pos :: rest) loc sto Q := ss_cons (ws_expr h hn)

end

/-! operations that raise -/
section
variable {cx : Cx} {sc : Scope} {d : Nat} {loc : Loc} {sto : Sto}
theorem sub_refl_V : isSubtype (.type "ValueError") (.type "ValueError") = pure true := by rw [isSubtype_type]; kernel_rfl
theorem sub_refl_T : isSubtype (.type "TypeError") (.type "TypeError") = pure true := by rw [isSubtype_type]; kernel_rfl
theorem hand_V {body : List Stmt} {fl : Fl} {np pos : Pos} {rest : List ExceptHandler} {Q : Fl → Loc → Sto → Prop} (hb : BI cx "ValueError" (.type "ValueError")) (hc : constFl body = some fl) (q : Q fl loc sto) (hg : isGlob sc "ValueError" = true := by rfl) :
    Hand cx sc (.ExceptHandler (some (.Name "ValueError" np)) none body pos :: rest) "ValueError" loc sto Q := hand_hit hb hc q PySem.F.isExc_ValueError PySem.F.notTuple_ValueError sub_refl_V hg
theorem hand_T {body : List Stmt} {fl : Fl} {np pos : Pos} {rest : List ExceptHandler} {Q : Fl → Loc → Sto → Prop} (hb : BI cx "TypeError" (.type "TypeError")) (hc : constFl body = some fl) (q : Q fl loc sto) (hg : isGlob sc "TypeError" = true := by rfl) :
    Hand cx sc (.ExceptHandler (some (.Name "TypeError" np)) none body pos :: rest) "TypeError" loc sto Q := hand_hit hb hc q PySem.F.isExc_TypeError PySem.F.notTuple_TypeError sub_refl_T hg
end
end Mine

namespace Mine
section
variable {cx : Cx} {sc : Scope} {d : Nat} {loc : Loc} {sto : Sto} {rest : List Stmt} {Q : Fl → Loc → Sto → Prop}

end
end Mine

namespace Mine
section
variable {cx : Cx} {sc : Scope} {d : Nat} {loc : Loc} {sto : Sto} {ρ : List Addr} {F : Addr → Prop} {s : Shared} {env : Env}

/-! a list a number of times -/
/-! writing an item -/
/-! equal things -/
inductive Same (sto : Sto) : Nat → V → V → Prop where
  | int (n : Nat) (i : Int) : Same sto n (.int i) (.int i)
  | list {n : Nat} {v w : V} {vs ws : List V} : LV sto v vs → LV sto w ws → vs.length = ws.length → (∀ (j : Nat) (x y : V), vs[j]? = some x → ws[j]? = some y → Same sto n x y) → Same sto (n + 1) v w
  | tup {n : Nat} {vs ws : List V} : vs.length = ws.length → (∀ (j : Nat) (x y : V), vs[j]? = some x → ws[j]? = some y → Same sto n x y) → Same sto (n + 1) (.tup vs) (.tup ws)
/-! truth values as numbers -/
def bi (b : Bool) : Int := if b = true then 1 else 0
/-! factors of some length -/
end
end Mine

namespace Mine
/-- a row of n numbers told by a function -/
def rowV (n : Nat) (f : Nat → Int) : List V := (List.range n).map fun t => V.int (f t)
def at0 (l : List Int) (t : Nat) : Int := l[t]?.getD 0
section
variable {cx : Cx} {sc : Scope} {d : Nat} {loc : Loc} {sto : Sto}
/-- sum(xs[e::n]) of ints is an int -/
theorem we_sumfrom {xs : Str} {lo : Expr} {px p0 ps pos pf : Pos} {st : Int} {stp : Pos} {ns : List Int} {Q : V → Sto → Prop} (hb : BI cx "sum" (.builtin "sum")) (hx : loc.lookup xs = some (.lst (ns.map V.int))) (hl : ns.length ≤ 63) (hst : st ≠ 0)
    (h : WE cx sc d lo loc sto fun v st => ∃ i, v = .int i ∧ ∀ n, Q (.int n) st) (h1 : isVar sc xs = true := by rfl) (h3 : isGlob sc "sum" = true := by rfl) (h4 : (xs == ("__debug__" : Str)) = false := by decide) :
    WE cx sc d (.Call (.Name "sum" pf) [.Subscript (.Name xs px) (.Slice (some lo) none (some (.Constant (.int st) 0 stp)) p0) ps] [] pos) loc sto Q := by
  refine we_bcall hb ?_ h3 (by decide) rfl
  refine wes_cons ?_ rfl
  refine WEN.data (wen_slice ?_)
  refine we_name hx ?_ h1 h4
  refine weo_some (h.mono fun v sto₁ hv => ?_)
  obtain ⟨i, rfl, q⟩ := hv
  refine ⟨i, rfl, ?_⟩
  refine weo_none ?_
  refine weo_some (we_int ?_)
  refine ⟨_, rfl, ?_⟩
  refine ⟨_, .lst _, by simpa using hst, by simp [sizeLine]; omega, ?_⟩
  obtain ⟨ms, hms⟩ := pickV_ints ns (some i) none (some st)
  rw [hms]
  refine wes_nil ?_
  exact call_sum (.lst _) (q _)
end
end Mine

namespace Mine
section
variable {cx : Cx} {sc : Scope} {d : Nat} {loc : Loc} {sto : Sto} {ρ : List Addr} {F : Addr → Prop} {s : Shared} {env : Env}
end
end Mine

namespace Mine
def upto (a : Int) (n : Nat) : List Int := (List.range n).map fun i : Nat => a + (i : Int)
section
variable {cx : Cx} {sc : Scope} {d : Nat} {loc : Loc} {sto : Sto} {ifs : List Expr} {elt : Expr} {x : Str}
end
end Mine

namespace Mine
section
variable {cx : Cx} {sc : Scope} {d : Nat} {loc : Loc} {sto : Sto} {ρ : List Addr} {F : Addr → Prop} {s : Shared} {env : Env}
end
end Mine

namespace Mine
section
variable {cx : Cx} {sc : Scope} {d : Nat} {loc : Loc} {sto : Sto}
theorem ne_ss {a b : Str} {Q : V → Sto → Prop} (q : Q (.bool (a.cps.toList != b.cps.toList)) sto) : Op2 cx d (compareOp .NotEq) (.str a) (.str b) sto Q := by
  intro A s ρ F x y hA B r₁ r₂
  simp only [VRel] at r₁ r₂
  obtain ⟨t, rfl⟩ := r₁
  obtain ⟨u, rfl⟩ := r₂
  exact P.ne_str (.imm0 B (by simp [VRel]) q)
theorem eq_ss {a b : Str} {Q : V → Sto → Prop} (q : Q (.bool (a.cps.toList == b.cps.toList)) sto) : Op2 cx d (compareOp .Eq) (.str a) (.str b) sto Q := by
  intro A s ρ F x y hA B r₁ r₂
  simp only [VRel] at r₁ r₂
  obtain ⟨t, rfl⟩ := r₁
  obtain ⟨u, rfl⟩ := r₂
  exact P.eq_str (.imm0 B (by simp [VRel]) q)
theorem ne_ss_same {a : Str} {Q : V → Sto → Prop} (q : Q (.bool false) sto) : Op2 cx d (compareOp .NotEq) (.str a) (.str a) sto Q := ne_ss (by simpa using q)
end
end Mine

namespace Mine
section
variable {cx : Cx} {sc : Scope} {d : Nat} {loc : Loc} {sto : Sto}
/-- items of a list that is told by a function -/
def tabV (n : Nat) (g : Nat → V) : List V := (List.range n).map g
mutual
theorem below_mono {k : Nat} : ∀ {v : V}, below 0 v = true → below k v = true
  | .none, _ => rfl
  | .bool _, _ => rfl
  | .int _, _ => rfl
  | .str _, _ => rfl
  | .obj n, h => by simp [below] at h
  | .raw _, _ => rfl
  | .tup vs, h => by simp only [below] at h ⊢; exact belows_mono h
  | .lst vs, h => by simp only [below] at h ⊢; exact belows_mono h
  | .rng _ _ _, _ => rfl
  | .thing _, _ => rfl
theorem belows_mono {k : Nat} : ∀ {vs : List V}, belows 0 vs = true → belows k vs = true
  | [], _ => rfl
  | v :: vs, h => by
    simp only [belows, Bool.and_eq_true] at h ⊢
    exact ⟨below_mono h.1, belows_mono h.2⟩
end
/-- tracked lists that hold no tracked list -/
def Flat (sto : Sto) : Prop := ∀ o ∈ sto, belows 0 o = true
end
end Mine

namespace Mine
section
variable {cx : Cx} {sc : Scope} {d : Nat} {loc : Loc} {sto : Sto}
/-! sorted, in -/
/-! iterators that are made by the loop's head -/
def WEI (cx : Cx) (sc : Scope) (d : Nat) (e : Expr) (loc : Loc) (sto : Sto) (R : List V → Sto → Prop) : Prop :=
  ∀ env A s ρ F, EnvOK sc env A → AOK cx d A s.heap → Base cx ρ F sto s → Frame cx env ρ F loc s →
    wpAny (model cx.prog cx.w) A (eval e env) (fun a s₂ => ∃ sto₁ ρ₁ F₁ s₁ xs, Step NoWr ρ F s ρ₁ F₁ s₁ ∧ Base cx ρ₁ F₁ sto₁ s₁ ∧
      wpAny (model cx.prog cx.w) A (pyIter a) (fun it s₀ => ∃ I fp wr P St h₀ tk, it = .ref I ∧ s₀ = { s₁ with heap := h₀, toks := tk } ∧ (∀ b o, s₁.heap.get? b = some o → h₀.get? b = some o) ∧
        IterOK cx A s₁ ρ₁ F₁ I fp wr xs P St ∧ St 0 h₀) (fun _ _ => False) s₂ ∧ R xs sto₁) (fun _ _ => False) s
end

/-! a def whose first part makes lists that its second part only reads -/
section
variable {cx : Cx} {d : Nat} {sto : Sto}
def FrozL (k : Nat) (sto : Sto) (loc loc' : Loc) : Prop := ∀ x v', loc'.lookup x = some v' → ∃ v, loc.lookup x = some v ∧ Froz k sto v v'
def Mid (cx : Cx) (sc : Scope) (d : Nat) (rest : List Stmt) (k : Nat) (Q : V → Sto → Prop) : Fl → Loc → Sto → Prop := fun fl loc sto => match fl with
  | .next => (∀ o ∈ sto.take k, belows k o = true) ∧ ∃ loc', FrozL k sto loc loc' ∧ WSs cx sc d rest loc' (sto.take k) (Ret k Q)
  | fl => Ret k Q fl loc sto
end
end Mine

namespace Mine
section
variable {cx : Cx} {sc : Scope} {d : Nat} {loc : Loc} {sto : Sto} {ρ : List Addr} {F : Addr → Prop} {s : Shared}
/-! new lists, tracked where they are made -/
/-! writing an item of what an expression tells -/
theorem swaps_sub {value o i : Expr} {p : Pos} {n : Nat} {env : Env} : swapsWith value (some (.Subscript o i p)) n env = pure false := by
  cases value <;> rfl
/-! is -/
/-! tuple(list) -/
theorem call_tuple {v : V} {vs : List V} {Q : V → Sto → Prop} (l : LV sto v vs) (hz : vs.length ≤ sizeLine) (q : Q (.tup vs) sto) : CallV cx d (.type "tuple") [v] sto Q := by
  intro A s ρ F xs hA B r
  obtain ⟨x, rfl, r1⟩ := r.one
  obtain ⟨a, items, rfl, hl, r2⟩ := l.is B r1
  have hlen : items.size = vs.length := by have := r2.length; simpa using this
  refine call_tuple_list hl (fun h' hk => ?_) (by omega)
  have st : Step NoWr ρ F s ρ F { s with heap := h', toks := s.toks } := keepsStep hk
  have B' : Base cx ρ F sto { s with heap := h', toks := s.toks } := B.keeps hk
  have r3 : VRels F ρ h' vs items.toList := r2.keeps hk
  have hk2 : ∀ b o, h'.get? b = some o → (h'.push { cls := .type "tuple", data := .seq items }).get? b = some o := fun b o e => Heap.get?_push_of_some _ e
  refine PostV.after st (PostV.newFr (s := { s with heap := h', toks := s.toks }) B' rfl ?_ q)
  simp only [VRel]
  exact ⟨_, items, rfl, .inr rfl, ⟨_, Heap.get?_push_size _ rfl, rfl, _, rfl⟩, (r3.keeps hk2).mono (fun _ h => .inl h) (fun _ _ x => x) fun _ _ _ e _ => e⟩
end

/-! a call that keeps what it made -/
section
variable {cx : Cx} {d : Nat} {sto : Sto}
def Keep (Q : V → Sto → Prop) : Fl → Loc → Sto → Prop := fun fl _ sto' => Q (retOf fl) sto'
theorem callF_keep {f : Str} {params : Arguments} {body : List Stmt} {scope : Scope} {args : List V} {names : List Str} {Q : V → Sto → Prop} (hf : FnIs cx f params body scope)
    (h : WSs cx scope d body (names.zip args) sto (Keep Q))
    (hb : ∀ pm cd doc xs, xs.length = args.length → bindArgs (Calls.docDef f params body scope pm cd doc) ⟨xs, []⟩ = pure (names.zip xs))
    (hn : names.Nodup := by decide) (hv : (names.all fun x => isVar scope x) = true := by rfl) (hco : scope.isCoroutine = false := by rfl) (hgen : scope.isGenerator = false := by rfl) (hk : scope.kind = .function := by rfl) :
    CallF cx (d + 1) f args sto Q := by
  obtain ⟨a, o, pm, code, doc, e1, e2, e3, e4⟩ := hf.at'
  refine ⟨a, o, _, e1, e2, e3, ?_⟩
  intro A s ρ F xs hA B r
  have hlen := r.length
  refine wpAny_call (codeAny_call_cells (binds := names.zip xs) (body := body) (by have := hA.depth; omega) (B.stays _ _ e2) e3 (cx.top.nolimit.keeps B.stays) (e4.keeps B.stays) rfl (hb pm code doc xs hlen) rfl ?_ ?_ hco hgen hk)
  · intro x hx
    have hx1 : x.1 ∈ names := (List.of_mem_zip (show (x.1, x.2) ∈ names.zip xs from hx)).1
    have hv1 := List.all_eq_true.mp hv x.1 hx1
    unfold isVar at hv1
    split at hv1
    · rename_i hl; exact .inl hl
    · rename_i hl
      exact .inr ⟨hl, lookup_isSome_of_mem (cellsFrom_mem (.inr (mem_of_lookup hl)))⟩
    · cases hv1
  intro s₁ hin
  have hL : (callEnvC (Calls.docDef f params body scope pm code doc) s.heap.objs.size a).locals = s.heap.objs.size := rfl
  have hsc : (callEnvC (Calls.docDef f params body scope pm code doc) s.heap.objs.size a).scope = scope := rfl
  have hfr : (callEnvC (Calls.docDef f params body scope pm code doc) s.heap.objs.size a).frame = some s.heap.objs.size := rfl
  have hgl : (callEnvC (Calls.docDef f params body scope pm code doc) s.heap.objs.size a).globals = mainGlobals := rfl
  have hbl : (callEnvC (Calls.docDef f params body scope pm code doc) s.heap.objs.size a).builtins = builtinsNs := rfl
  have hcs : (callEnvC (Calls.docDef f params body scope pm code doc) s.heap.objs.size a).cells = cellsFrom (s.heap.objs.size + 1) scope.names [] := rfl
  have hco' : (callEnvC (Calls.docDef f params body scope pm code doc) s.heap.objs.size a).code = code := rfl
  generalize callEnvC (Calls.docDef f params body scope pm code doc) s.heap.objs.size a = env at *
  obtain ⟨hE, hA₁, st₁, B₁, f₁, ownNew⟩ := enter_def hA B r hL hsc hfr hgl hbl hcs hin hn hk (by obtain ⟨c, o, vs, t, q1, q2, q3, _⟩ := e4; exact ⟨c, o, vs, hco'.trans q1, q2, q3⟩)
  refine wpAny_mono (h env (A.deeper env) s₁ ρ F hE hA₁ B₁ f₁) ?_ fun _ _ x => x.elim
  rintro g s₂ ⟨fl, loc₂, sto₂, ρ₂, F₂, st₂, r₂, B₂, f₂, q⟩
  have st₃ : Step (Own env) ρ F s ρ₂ F₂ s₂ := st₁.own.trans st₂
  have st₄ : Step NoWr ρ F s ρ₂ F₂ s₂ := ⟨st₃.pre, st₃.sub, st₃.newr, st₃.newF, fun b o hb _ e => st₃.kept b o hb (fun ho => by rw [ownNew b ho] at e; cases e) e, st₃.alive⟩
  have rel : VRel F₂ ρ₂ s₂.heap (retOf fl) (retVal g) := by
    cases fl with
    | next => simp only [FlRel] at r₂; subst r₂; simp [retOf, retVal, VRel]
    | brk => simp only [FlRel] at r₂; subst r₂; simp [retOf, retVal, VRel]
    | cont => simp only [FlRel] at r₂; subst r₂; simp [retOf, retVal, VRel]
    | ret w => simp only [FlRel] at r₂; obtain ⟨x, rfl, rx⟩ := r₂; exact rx
  exact ⟨_, _, ρ₂, F₂, st₄, rel, B₂, q⟩
end
end Mine

open PySem.Builtin.Str (Writer Percent percentInt percentField percentFormat percentKey)
namespace Mine
abbrev FS := Nat → List Value × Writer × List Nat → Sem (ForInStep (List Value × Writer × List Nat))
def sg (i : Int) : List Nat := if i < 0 then [45] else []
def dec (n : Nat) : List Nat := (PySem.Str.ofString (toString ((n : Nat) : Int))).cps.toList
def hex (n : Nat) : List Nat := (Nat.toDigits 16 n).map Char.toNat
def Digits (l : List Nat) : Prop := ∀ c ∈ l, c ≠ 43 ∧ c ≠ 45
/-- what a part of the pattern asks for, the value, the text -/
inductive Spec : List Nat → Value → List Nat → Prop where
  | d (i : Int) (u : Tok) : i.natAbs.log2 < 1920 → Spec [100] (.int i u) (sg i ++ dec i.natAbs)
  | nd (n : Nat) (i : Int) (u : Tok) : n < 9 → i.natAbs.log2 < 1920 → Digits (dec i.natAbs) → Spec [49 + n, 100] (.int i u) (List.replicate (n + 1 - (sg i ++ dec i.natAbs).length) 32 ++ (sg i ++ dec i.natAbs))
  | ns (n : Nat) (x : PySem.Str) (u : Tok) : n < 9 → Spec [45, 49 + n, 115] (.str x u) (x.cps.toList ++ List.replicate (n + 1 - x.cps.toList.length) 32)
  | zd (n : Nat) (i : Int) (u : Tok) : n < 9 → i.natAbs.log2 < 1920 → Digits (dec i.natAbs) → Spec [48, 49 + n, 100] (.int i u) (sg i ++ (List.replicate (n + 1 - ((sg i).length + (dec i.natAbs).length)) 48 ++ dec i.natAbs))
  | x (i : Int) (u : Tok) : Spec [120] (.int i u) (sg i ++ hex i.natAbs)
inductive Shape : List Nat → Prop where
  | d : Shape [100]
  | nd (n : Nat) : n < 9 → Shape [49 + n, 100]
  | ns (n : Nat) : n < 9 → Shape [45, 49 + n, 115]
  | zd (n : Nat) : n < 9 → Shape [48, 49 + n, 100]
  | x : Shape [120]
theorem Spec.shape {a : List Nat} {v : Value} {b : List Nat} (h : Spec a v b) : Shape a := by
  cases h with
  | d => exact .d
  | nd n _ _ hn => exact .nd n hn
  | ns n _ _ hn => exact .ns n hn
  | zd n _ _ hn => exact .zd n hn
  | x => exact .x
theorem span_loop {p : Nat → Bool} {rest : List Nat} (hr : rest = [] ∨ ∃ c r', rest = c :: r' ∧ p c = false) : ∀ (l acc : List Nat), (∀ c ∈ l, p c = true) → List.span.loop p (l ++ rest) acc = (acc.reverse ++ l, rest)
  | [], acc, _ => by
    rcases hr with rfl | ⟨c, r', rfl, hc⟩
    · simp [List.span.loop]
    · simp [List.span.loop, hc]
  | c :: l, acc, h => by
    rw [List.cons_append, List.span.loop, h c List.mem_cons_self]
    simp only
    rw [span_loop hr l (c :: acc) fun x hx => h x (List.mem_cons_of_mem _ hx)]
    simp
theorem span_lit {l rest : List Nat} (h : ∀ c ∈ l, c ≠ 37) (hr : rest = [] ∨ ∃ r', rest = 37 :: r') : List.span (fun x => x != 37) (l ++ rest) = (l, rest) := by
  unfold List.span
  rw [span_loop (by rcases hr with h | ⟨r', h⟩; exact .inl h; exact .inr ⟨37, r', h, rfl⟩) l [] fun c hc => by simpa using h c hc]
  rfl
theorem percentKey_go {rest : List Nat} : ∀ {key : List Nat} (seen : List Nat), (∀ c ∈ key, c ≠ 40 ∧ c ≠ 41) → percentKey (key ++ 41 :: rest) 0 seen = some (seen.reverse ++ key, rest)
  | [], seen, _ => by simp [percentKey]
  | c :: key, seen, h => by
    obtain ⟨h1, h2⟩ := h c List.mem_cons_self
    rw [List.cons_append, percentKey]
    have e1 : (c == 41) = false := by simpa using h2
    have e2 : (c == 40) = false := by simpa using h1
    rw [e1, e2]
    simp only [Bool.false_and, Bool.false_eq_true, if_false]
    rw [percentKey_go (c :: seen) fun x hx => h x (List.mem_cons_of_mem _ hx)]
    simp
theorem percentKey_ok {key rest : List Nat} (h : ∀ c ∈ key, c ≠ 40 ∧ c ≠ 41) : percentKey (key ++ 41 :: rest) 0 [] = some (key, rest) := by
  rw [percentKey_go [] h]; rfl
theorem int_text {f : Percent} {i : Int} {d : List Nat} (h1 : f.alt = false) (h2 : (f.type == 88) = false) (h3 : f.prec = none) : percentInt f (decide (i < 0)) d = sg i ++ d := by
  unfold percentInt sg
  simp [h1, h2, h3]
def splitSign : List Nat → List Nat × List Nat
  | 45 :: r => ([45], r)
  | 43 :: r => ([43], r)
  | t => ([], t)
theorem split_sg {i : Int} {d : List Nat} (hd : Digits d) : splitSign (sg i ++ d) = (sg i, d) := by
  unfold sg
  split
  · rfl
  · show splitSign d = ([], d)
    match d, hd with
    | [], _ => rfl
    | c :: r, hd =>
      obtain ⟨h1, h2⟩ := hd c List.mem_cons_self
      unfold splitSign
      split
      · rename_i e; exact absurd (List.cons.inj e).1 h2
      · rename_i e; exact absurd (List.cons.inj e).1 h1
      · rfl
theorem pf_num {n : Nat} {z : Bool} {text : List Nat} : percentField { zero := z, width := some n, type := 100 } true text = (if n ≤ text.length then none else
    some (if z = true then (splitSign text).1 ++ (List.replicate (n - ((splitSign text).1.length + (splitSign text).2.length)) 48 ++ (splitSign text).2) else List.replicate (n - ((splitSign text).1.length + (splitSign text).2.length)) 32 ++ ((splitSign text).1 ++ (splitSign text).2))) := by
  unfold percentField splitSign
  by_cases hl : n ≤ text.length
  · rw [if_pos hl]; simp [hl]
  · rw [if_neg hl]
    have hc : (Option.all (fun x => decide (x ≤ text.length)) (some n) && Option.all (fun x => decide (x ≥ text.length)) (none : Option Nat) && !false && !false) = false := by simp; omega
    simp only [hc, Bool.false_eq_true, if_false]
    cases z <;> simp <;> split <;> simp
theorem pf_nd {n : Nat} {i : Int} {d : List Nat} (hd : Digits d) : percentField { width := some n, type := 100 } true (sg i ++ d) = (if n ≤ (sg i ++ d).length then none else some (List.replicate (n - (sg i ++ d).length) 32 ++ (sg i ++ d))) := by
  have := pf_num (n := n) (z := false) (text := sg i ++ d)
  rw [split_sg hd] at this
  rw [this]; simp
theorem pf_zd {n : Nat} {i : Int} {d : List Nat} (hd : Digits d) : percentField { zero := true, width := some n, type := 100 } true (sg i ++ d) = (if n ≤ (sg i ++ d).length then none else some (sg i ++ (List.replicate (n - ((sg i).length + d.length)) 48 ++ d))) := by
  have := pf_num (n := n) (z := true) (text := sg i ++ d)
  rw [split_sg hd] at this
  rw [this]; simp
theorem pf_ns {n : Nat} {text : List Nat} : percentField { ljust := true, width := some n, type := 115 } false text = (if n ≤ text.length then none else some (text ++ List.replicate (n - text.length) 32)) := by
  unfold percentField
  by_cases hl : n ≤ text.length
  · rw [if_pos hl]; simp [hl]
  · rw [if_neg hl]
    have hc : (Option.all (fun x => decide (x ≤ text.length)) (some n) && Option.all (fun x => decide (x ≥ text.length)) (none : Option Nat) && !false && !false) = false := by simp; omega
    simp only [hc, Bool.false_eq_true, if_false]
    simp
/-- the steps of the loop over the pattern -/
structure Steps (prog : Program) (W : World) (A : Around) (E : Value → Shared → Prop) (X : PySem.Str) (f : FS) : Prop where
  nil : ∀ {x p w T N s Q}, KPc.Good w T N → N ≤ 16777216 → Q (.done (p, w, [])) s → wpAny (model prog W) A (f x (p, w, [])) Q E s
  lit : ∀ {x p w T N s Q l rest}, KPc.Good w T N → N ≤ 16777216 → l ≠ [] → (∀ c ∈ l, c ≠ 37) → (rest = [] ∨ ∃ r', rest = 37 :: r') → (l.length = X.length → X = ⟨l.toArray⟩) → (∀ o, KPc.Obj o ⟨l.toArray⟩ → Q (.yield (p, w.add ⟨l.toArray⟩ o, rest)) s) → wpAny (model prog W) A (f x (p, w, l ++ rest)) Q E s
  pct : ∀ {x p w T N s Q rest}, KPc.Good w T N → N ≤ 16777216 → Q (.yield (p, w.add (PySem.Str.ofString "%"), rest)) s → wpAny (model prog W) A (f x (p, w, 37 :: 37 :: rest)) Q E s
  fld : ∀ {x v more w T N s Q spec text rest}, KPc.Good w T N → N ≤ 16777216 → Spec spec v text → (∀ o k, KPc.Obj o ⟨text.toArray⟩ → Q (.yield (more, w.add ⟨text.toArray⟩ o, rest)) { s with toks := k }) → wpAny (model prog W) A (f x (v :: more, w, 37 :: (spec ++ rest))) Q E s
  few : ∀ {x w T N s Q spec rest}, KPc.Good w T N → N ≤ 16777216 → Shape spec → A.handled = none → (∀ h' tk e, Heap.NewExc s.heap h' e "TypeError" → E (.ref e) { s with heap := h', toks := tk }) → wpAny (model prog W) A (f x ([], w, 37 :: (spec ++ rest))) Q E s
theorem n9 {P : Nat → Prop} (h0 : P 0) (h1 : P 1) (h2 : P 2) (h3 : P 3) (h4 : P 4) (h5 : P 5) (h6 : P 6) (h7 : P 7) (h8 : P 8) : ∀ n, n < 9 → P n := fun n hn => by
  match n, hn with
  | 0, _ => exact h0
  | 1, _ => exact h1
  | 2, _ => exact h2
  | 3, _ => exact h3
  | 4, _ => exact h4
  | 5, _ => exact h5
  | 6, _ => exact h6
  | 7, _ => exact h7
  | 8, _ => exact h8
end Mine

open PySem.Builtin.Str (Writer Percent percentInt percentField percentFormat percentKey percentNumber tooLong)
namespace Mine
abbrev FL := List Value × Writer × List Nat
theorem obj_no {b : Bool} {x : PySem.Str} : KPc.Obj (if b = true then none else none) x := KPc.obj_none (ite_self _)
theorem obj_own {b : Bool} {x : PySem.Str} {u : Tok} : KPc.Obj (if b = true then some (.str x u) else none) ⟨x.cps.toList.toArray⟩ := fun v hv => by
  cases b with
  | true => exact ⟨u, by rw [← Option.some.inj hv, congrArg PySem.Str.mk (Array.toArray_toList ..)]⟩
  | false => cases hv
local macro_rules | `(tactic| walk_at "pint") => `(tactic| (
  refine wpAny_bind (wpAny_holding ?_)
  refine wpAny_bind (wpAny_of_eq (a := _) rfl ?_)
  refine wpAny_bind (wpAny_mkInt ?_)
  refine wpAny_bind (call_gives PySem.F.slot_int_repr (typeIs_int _ _ _) PySem.F.entry_int_repr (PySem.F.args_int_repr_1 _) (gives_int_repr _ _ (by assumption)) ⟨int_text_fits (by assumption), ?_⟩)
  refine wpAny_bind (wpAny_of_eq (a := some _) rfl ?_)
  refine wpAny_pure ?_))
/-- what the conversion at the end of a part gives -/
inductive Conv (lj z : Bool) (wd : Option Nat) : Nat → Value → List Nat → Prop where
  | d (i : Int) (u : Tok) : i.natAbs.log2 < 1920 → Conv lj z wd 100 (.int i u) ((percentField { ljust := lj, zero := z, width := wd, type := 100 } true (sg i ++ dec i.natAbs)).getD (sg i ++ dec i.natAbs))
  | x (i : Int) (u : Tok) : Conv lj z wd 120 (.int i u) ((percentField { ljust := lj, zero := z, width := wd, type := 120 } true (sg i ++ hex i.natAbs)).getD (sg i ++ hex i.natAbs))
  | s (x : PySem.Str) (u : Tok) : Conv lj z wd 115 (.str x u) ((percentField { ljust := lj, zero := z, width := wd, type := 115 } false x.cps.toList).getD x.cps.toList)
theorem conv_nd {i : Int} {u : Tok} (n : Nat) (hlog : i.natAbs.log2 < 1920) (hd : Digits (dec i.natAbs)) :
    Conv false false (some (n + 1)) 100 (.int i u) (List.replicate (n + 1 - (sg i ++ dec i.natAbs).length) 32 ++ (sg i ++ dec i.natAbs)) := by
  have h := Conv.d (lj := false) (z := false) (wd := some (n + 1)) i u hlog
  rw [pf_nd hd] at h
  by_cases hl : n + 1 ≤ (sg i ++ dec i.natAbs).length
  · rw [if_pos hl] at h
    rw [show n + 1 - (sg i ++ dec i.natAbs).length = 0 by omega]
    exact h
  · rw [if_neg hl] at h
    exact h
theorem conv_zd {i : Int} {u : Tok} (n : Nat) (hlog : i.natAbs.log2 < 1920) (hd : Digits (dec i.natAbs)) :
    Conv false true (some (n + 1)) 100 (.int i u) (sg i ++ (List.replicate (n + 1 - ((sg i).length + (dec i.natAbs).length)) 48 ++ dec i.natAbs)) := by
  have h := Conv.d (lj := false) (z := true) (wd := some (n + 1)) i u hlog
  rw [pf_zd hd] at h
  by_cases hl : n + 1 ≤ (sg i ++ dec i.natAbs).length
  · rw [if_pos hl] at h
    rw [show n + 1 - ((sg i).length + (dec i.natAbs).length) = 0 by rw [List.length_append] at hl; omega]
    exact h
  · rw [if_neg hl] at h
    exact h
theorem conv_ns {x : PySem.Str} {u : Tok} (n : Nat) : Conv true false (some (n + 1)) 115 (.str x u) (x.cps.toList ++ List.replicate (n + 1 - x.cps.toList.length) 32) := by
  have h := Conv.s (lj := true) (z := false) (wd := some (n + 1)) x u
  rw [pf_ns] at h
  by_cases hl : n + 1 ≤ x.cps.toList.length
  · rw [if_pos hl] at h
    rw [show n + 1 - x.cps.toList.length = 0 by omega, List.replicate_zero, List.append_nil]
    exact h
  · rw [if_neg hl] at h
    exact h
/-- the end of a part: G takes the values, the sign's letter and what is behind it, and the flags -/
structure J2 (prog : Program) (W : World) (A : Around) (E : Value → Shared → Prop) (w : Writer) (G : Unit → List Value → List Nat → Percent → Sem (ForInStep FL)) : Prop where
  conv : ∀ {v more s} {Q : ForInStep FL → Shared → Prop} {lj z wd ty text rest}, Conv lj z wd ty v text → tooLong (wd.getD 0) = false → (∀ o k, KPc.Obj o ⟨text.toArray⟩ → Q (.yield (more, w.add ⟨text.toArray⟩ o, rest)) { s with toks := k }) →
    wpAny (model prog W) A (G () (v :: more) (ty :: rest) { ljust := lj, zero := z, width := wd }) Q E s
  few : ∀ {s} {Q : ForInStep FL → Shared → Prop} {lj z wd ty rest}, (ty = 100 ∨ ty = 120 ∨ ty = 115) → A.handled = none → (∀ h' tk e, Heap.NewExc s.heap h' e "TypeError" → E (.ref e) { s with heap := h', toks := tk }) →
    wpAny (model prog W) A (G () [] (ty :: rest) { ljust := lj, zero := z, width := wd }) Q E s
/-- a part behind its sign and its name -/
structure J1 (prog : Program) (W : World) (A : Around) (E : Value → Shared → Prop) (w : Writer) (G : Unit → List Value → List Nat → Sem (ForInStep FL)) : Prop where
  fld : ∀ {v more s} {Q : ForInStep FL → Shared → Prop} {spec text rest}, Spec spec v text → (∀ o k, KPc.Obj o ⟨text.toArray⟩ → Q (.yield (more, w.add ⟨text.toArray⟩ o, rest)) { s with toks := k }) → wpAny (model prog W) A (G () (v :: more) (spec ++ rest)) Q E s
  few : ∀ {s} {Q : ForInStep FL → Shared → Prop} {spec rest}, Shape spec → A.handled = none → (∀ h' tk e, Heap.NewExc s.heap h' e "TypeError" → E (.ref e) { s with heap := h', toks := tk }) → wpAny (model prog W) A (G () [] (spec ++ rest)) Q E s
structure Steps0 (prog : Program) (W : World) (A : Around) (E : Value → Shared → Prop) (X : PySem.Str) (args : Value) (mp : Bool) (f : FS) : Prop where
  nil : ∀ {x p w T N s Q}, KPc.Good w T N → N ≤ 16777216 → Q (.done (p, w, [])) s → wpAny (model prog W) A (f x (p, w, [])) Q E s
  lit : ∀ {x p w T N s Q l rest}, KPc.Good w T N → N ≤ 16777216 → l ≠ [] → (∀ c ∈ l, c ≠ 37) → (rest = [] ∨ ∃ r', rest = 37 :: r') → (l.length = X.length → X = ⟨l.toArray⟩) → (∀ o, KPc.Obj o ⟨l.toArray⟩ → Q (.yield (p, w.add ⟨l.toArray⟩ o, rest)) s) → wpAny (model prog W) A (f x (p, w, l ++ rest)) Q E s
  pct : ∀ {x p w T N s Q rest}, KPc.Good w T N → N ≤ 16777216 → Q (.yield (p, w.add (PySem.Str.ofString "%"), rest)) s → wpAny (model prog W) A (f x (p, w, 37 :: 37 :: rest)) Q E s
  any : ∀ {x p w T N s Q c r}, KPc.Good w T N → N ≤ 16777216 → c ≠ 37 →
    (∀ G, J1 prog W A E w G → (c ≠ 40 ∧ wpAny (model prog W) A (G () p (c :: r)) Q E s) ∨
      (c = 40 ∧ mp = true ∧ ∃ key rest, r = key ++ 41 :: rest ∧ (∀ c ∈ key, c ≠ 40 ∧ c ≠ 41) ∧ (⟨key.toArray⟩ : PySem.Str).length ≤ sizeLine ∧
        ∀ tk k0, wpAny (model prog W) A (getItem args (.str ⟨key.toArray⟩ tk)) (fun v s' => wpAny (model prog W) A (G () [v] rest) Q E s') E { s with toks := k0 })) →
    wpAny (model prog W) A (f x (p, w, 37 :: c :: r)) Q E s
theorem loop_use0 {prog : Program} {W : World} {A : Around} {E : Value → Shared → Prop} {X : PySem.Str} {args : Value} {mp : Bool} {f : FS} {l : List Nat} {b : FL} {Q : FL → Shared → Prop} {s : Shared}
    (hs : Steps0 prog W A E X args mp f) (h : Steps0 prog W A E X args mp f → wpAny (model prog W) A (forIn l b f) Q E s) : wpAny (model prog W) A (forIn l b f) Q E s := h hs
theorem pf_any {prog : Program} {W : World} {A : Around} {E : Value → Shared → Prop} {s : Shared} {X : PySem.Str} {t : Tok} {args : Value} {Q : PySem.Fin → Shared → Prop} (b : Bool) (o : Option PySem.Str) (mp : Bool) (p0 : List Value)
   (h1 : ∀ Q' : Bool → Shared → Prop, Q' b s → wpAny (model prog W) A (isInstance args (.type "tuple")) Q' E s)
   (h2 : ∀ Q' : Option PySem.Str → Shared → Prop, Q' o s → wpAny (model prog W) A (asStr? args) Q' E s)
   (h3 : ∀ Q' : Bool → Shared → Prop, (∀ m, (!b && !o.isSome && m) = mp → Q' m s) → wpAny (model prog W) A (fillsMappingSlot args) Q' E s)
   (h4 : if b = true then ∃ its : Array Value, its.toList = p0 ∧ ∀ Q' : Option (Array Value) → Shared → Prop, Q' (some its) s → wpAny (model prog W) A (seqItems? args) Q' E s else p0 = [args])
   (h : ∀ f, Steps0 prog W A E X args mp f → wpAny (model prog W) A (forIn (List.range' 0 X.length 1) (p0, ({} : Writer), X.cps.toList) f) (fun st s' => (mp = true ∨ st.1 = [] → wpAny (model prog W) A (st.2.1.finish "str.__mod__") Q E s') ∧ (mp = false → st.1 ≠ [] → A.handled = none ∧ ∀ h' tk e, Heap.NewExc s'.heap h' e "TypeError" → E (.ref e) { s' with heap := h', toks := tk })) E s) :
   wpAny (model prog W) A (percentFormat (.str X t) X args) Q E s := by
  unfold percentFormat
  refine wpAny_bind (h1 _ ?_)
  refine wpAny_bind (h2 _ ?_)
  refine wpAny_bind (h3 _ fun m hm => ?_)
  rw [hm]
  clear h1 h2 h3
  extract_lets -underBinder mapping jp0
  have hj0 : wpAny (model prog W) A (jp0 p0) Q E s := by
    refine wpAny_bind ?_
    rw [KPc.range_list]
    clear h4
    refine loop_use0 (X := X) (args := args) (mp := mp) ⟨?_, ?_, ?_, ?_⟩ (fun hs => wpAny_mono (h _ hs) ?_ fun _ _ e => e)
    · intro x p w T N s Q g hN q
      refine wpAny_ite (KPc.ite_no (KPc.short_good g hN) ?_)
      exact wpAny_pure q
    · intro x p w T N s Q l rest g hN hne hl hr hF q
      refine wpAny_ite (KPc.ite_no (KPc.short_good g hN) ?_)
      have e1 : (l ++ rest).isEmpty = false := by cases l with | nil => exact absurd rfl hne | cons => rfl
      have e2 : (!l.isEmpty) = true := by cases l with | nil => exact absurd rfl hne | cons => rfl
      refine wpAny_ite (KPc.ite_no (by rw [e1]; exact Bool.false_ne_true) ?_)
      generalize hsp : List.span _ _ = z
      obtain rfl : z = (l, rest) := hsp.symm.trans (span_lit hl hr)
      refine wpAny_ite (KPc.ite_yes e2 ?_)
      refine wpAny_pure (q _ ?_)
      intro v hv
      by_cases hc : (l.length == X.length) = true
      · rw [if_pos hc] at hv
        have := hF (beq_iff_eq.mp hc)
        exact ⟨t, by rw [← Option.some.inj hv, ← this]⟩
      · rw [if_neg hc] at hv; cases hv
    · intro x p w T N s Q rest g hN q
      refine wpAny_ite (KPc.ite_no (KPc.short_good g hN) ?_)
      exact wpAny_pure q
    · intro x p w T N s Q c r g hN h37 hG
      refine wpAny_ite (KPc.ite_no (KPc.short_good g hN) ?_)
      kpc_if
      kpc_if
      refine wpAny_ite (KPc.ite_no (fun e => h37 (Option.some.inj (eq_of_beq e))) ?_)
      clear jp0
      extract_lets f jo jp3 jp2 jp1 jk
      have h3 : J2 prog W A E w jp3 := by
        clear hG h37
        refine ⟨?_, ?_⟩
        · intro v more s Q lj z wd ty text rest hc hw q
          have hw' : ¬ tooLong (wd.getD 0) = true := by rw [hw]; exact Bool.false_ne_true
          cases hc with
          | d i u hlog =>
            have hlog2 : ((i.natAbs : Nat) : Int).natAbs.log2 < 1920 := hlog
            kpc_if
            refine wpAny_ite (KPc.ite_no hw' ?_)
            walk_at "pint"
            dsimp only
            rw [int_text rfl rfl rfl]
            change ∀ o k, KPc.Obj o ⟨((percentField _ true (sg i ++ dec i.natAbs)).getD (sg i ++ dec i.natAbs)).toArray⟩ → _ at q
            change wpAny _ _ (match percentField _ true (sg i ++ dec i.natAbs) with | none => _ | some laid => _) _ _ _
            cases hpf : percentField { ljust := lj, zero := z, width := wd, type := 100 } true (sg i ++ dec i.natAbs) with
            | none => rw [hpf] at q; exact wpAny_pure (q _ _ obj_no)
            | some l => rw [hpf] at q; exact wpAny_pure (q _ _ (KPc.obj_none rfl))
          | x i u =>
            kpc_if
            refine wpAny_ite (KPc.ite_no hw' ?_)
            refine wpAny_bind (wpAny_holding ?_)
            refine wpAny_bind (wpAny_of_eq (a := i) rfl ?_)
            refine wpAny_bind (wpAny_pure ?_)
            refine wpAny_pure ?_
            dsimp only
            rw [int_text rfl rfl rfl]
            change wpAny _ _ (match percentField _ true (sg i ++ hex i.natAbs) with | none => _ | some laid => _) _ _ _
            cases hpf : percentField { ljust := lj, zero := z, width := wd, type := 120 } true (sg i ++ hex i.natAbs) with
            | none => rw [hpf] at q; exact wpAny_pure (q _ _ obj_no)
            | some l => rw [hpf] at q; exact wpAny_pure (q _ _ (KPc.obj_none rfl))
          | s x u =>
            kpc_if
            refine wpAny_ite (KPc.ite_no hw' ?_)
            refine wpAny_bind (wpAny_holding ?_)
            refine wpAny_bind (wpAny_of_eq (KPc.strOf_str _ _) ?_)
            refine wpAny_bind (wpAny_of_eq (a := some _) rfl ?_)
            refine wpAny_pure ?_
            dsimp only
            cases hpf : percentField { ljust := lj, zero := z, width := wd, type := 115 } false x.cps.toList with
            | none => rw [hpf] at q; exact wpAny_pure (q _ _ obj_own)
            | some l => rw [hpf] at q; exact wpAny_pure (q _ _ (KPc.obj_none rfl))
        · intro s Q lj z wd ty rest hty hh hE
          rcases hty with rfl | rfl | rfl
          all_goals
            kpc_if
            refine wpAny_bind ?_
            unfold PySem.Builtin.Str.notEnoughArguments
            refine wpAny_bind (wpAny_rule ?_)
            exact wpAny_raiseTypeErrorWords hh hE
      clear_value jp3
      clear jo
      have h2 : J2 prog W A E w jp2 := by
        clear hG h37
        refine ⟨?_, ?_⟩
        · intro v more s Q lj z wd ty text rest hc hw q
          cases hc with
          | d i u hlog => exact h3.conv (.d i u hlog) hw q
          | x i u => exact h3.conv (.x i u) hw q
          | s x u => exact h3.conv (.s x u) hw q
        · intro s Q lj z wd ty rest hty hh hE
          rcases hty with rfl | rfl | rfl
          · exact h3.few (.inl rfl) hh hE
          · exact h3.few (.inr (.inl rfl)) hh hE
          · exact h3.few (.inr (.inr rfl)) hh hE
      clear_value jp2
      clear h3 jp3
      have h1 : J1 prog W A E w jp1 := by
        clear hG h37
        refine ⟨?_, ?_⟩
        · intro v more s Q spec text rest sp q
          cases sp with
          | d i u hlog => exact h2.conv (.d i u hlog) rfl q
          | x i u => exact h2.conv (.x i u) rfl q
          | nd n i u hn hlog hdg =>
            have hc := conv_nd (u := u) n hlog hdg
            revert n
            refine n9 ?_ ?_ ?_ ?_ ?_ ?_ ?_ ?_ ?_ <;> exact fun q hc => h2.conv hc rfl q
          | zd n i u hn hlog hdg =>
            have hc := conv_zd (u := u) n hlog hdg
            revert n
            refine n9 ?_ ?_ ?_ ?_ ?_ ?_ ?_ ?_ ?_ <;> exact fun q hc => h2.conv hc rfl q
          | ns n x u hn =>
            have hc := conv_ns (x := x) (u := u) n
            revert n
            refine n9 ?_ ?_ ?_ ?_ ?_ ?_ ?_ ?_ ?_ <;> exact fun q hc => h2.conv hc rfl q
        · intro s Q spec rest sh hh hE
          cases sh with
          | d => exact h2.few (.inl rfl) hh hE
          | x => exact h2.few (.inr (.inl rfl)) hh hE
          | nd n hn =>
            revert n
            refine n9 ?_ ?_ ?_ ?_ ?_ ?_ ?_ ?_ ?_ <;> exact h2.few (.inl rfl) hh hE
          | zd n hn =>
            revert n
            refine n9 ?_ ?_ ?_ ?_ ?_ ?_ ?_ ?_ ?_ <;> exact h2.few (.inl rfl) hh hE
          | ns n hn =>
            revert n
            refine n9 ?_ ?_ ?_ ?_ ?_ ?_ ?_ ?_ ?_ <;> exact h2.few (.inr (.inr rfl)) hh hE
      clear_value jp1
      clear h2 jp2
      rcases hG jp1 h1 with ⟨h40, q⟩ | ⟨rfl, rfl, key, rest, rfl, hk, hkl, q⟩
      · exact wpAny_ite (KPc.ite_no (fun e => h40 (Option.some.inj (eq_of_beq e))) q)
      · refine wpAny_ite (KPc.ite_yes rfl ?_)
        refine wpAny_ite (KPc.ite_no Bool.false_ne_true ?_)
        simp only [jk, List.drop_succ_cons, List.drop_zero, percentKey_ok hk]
        refine wpAny_bind (wpAny_mkStr ?_ hkl)
        exact wpAny_bind (q _ _)
    · rintro ⟨p, w, r⟩ s' ⟨h1, h2⟩
      cases mp with
      | true =>
        refine wpAny_ite (KPc.ite_no ?_ ?_)
        · cases p <;> exact Bool.false_ne_true
        · exact h1 (.inl rfl)
      | false =>
        cases p with
        | nil => exact h1 (.inr rfl)
        | cons v p =>
          obtain ⟨hh, hE⟩ := h2 rfl (by simp)
          refine wpAny_bind (wpAny_rule ?_)
          exact wpAny_bind (wpAny_raiseTypeErrorWords hh hE)
  clear_value jp0
  cases b with
  | true =>
    obtain ⟨its, rfl, hq⟩ := h4
    refine wpAny_ite (KPc.ite_yes rfl ?_)
    refine wpAny_bind (hq _ ?_)
    exact wpAny_bind (wpAny_pure hj0)
  | false =>
    have e : p0 = [args] := h4
    subst e
    refine wpAny_ite (KPc.ite_no Bool.false_ne_true ?_)
    exact wpAny_bind (wpAny_pure hj0)
/-- the steps with names -/
structure StepsK (prog : Program) (W : World) (A : Around) (E : Value → Shared → Prop) (X : PySem.Str) (args : Value) (f : FS) : Prop where
  nil : ∀ {x p w T N s Q}, KPc.Good w T N → N ≤ 16777216 → Q (.done (p, w, [])) s → wpAny (model prog W) A (f x (p, w, [])) Q E s
  lit : ∀ {x p w T N s Q l rest}, KPc.Good w T N → N ≤ 16777216 → l ≠ [] → (∀ c ∈ l, c ≠ 37) → (rest = [] ∨ ∃ r', rest = 37 :: r') → (l.length = X.length → X = ⟨l.toArray⟩) → (∀ o, KPc.Obj o ⟨l.toArray⟩ → Q (.yield (p, w.add ⟨l.toArray⟩ o, rest)) s) → wpAny (model prog W) A (f x (p, w, l ++ rest)) Q E s
  pct : ∀ {x p w T N s Q rest}, KPc.Good w T N → N ≤ 16777216 → Q (.yield (p, w.add (PySem.Str.ofString "%"), rest)) s → wpAny (model prog W) A (f x (p, w, 37 :: 37 :: rest)) Q E s
  key : ∀ {x p w T N s Q key spec v text rest}, KPc.Good w T N → N ≤ 16777216 → (∀ c ∈ key, c ≠ 40 ∧ c ≠ 41) → (⟨key.toArray⟩ : PySem.Str).length ≤ sizeLine → Spec spec v text →
    (∀ tk k0 (Q' : Value → Shared → Prop), (∀ k, Q' v { s with toks := k }) → wpAny (model prog W) A (getItem args (.str ⟨key.toArray⟩ tk)) Q' E { s with toks := k0 }) →
    (∀ o k, KPc.Obj o ⟨text.toArray⟩ → Q (.yield ([], w.add ⟨text.toArray⟩ o, rest)) { s with toks := k }) → wpAny (model prog W) A (f x (p, w, 37 :: 40 :: (key ++ 41 :: (spec ++ rest)))) Q E s
  keyx : ∀ {x p w T N s Q key rest}, KPc.Good w T N → N ≤ 16777216 → (∀ c ∈ key, c ≠ 40 ∧ c ≠ 41) → (⟨key.toArray⟩ : PySem.Str).length ≤ sizeLine →
    (∀ tk k0, wpAny (model prog W) A (getItem args (.str ⟨key.toArray⟩ tk)) (fun _ _ => False) E { s with toks := k0 }) → wpAny (model prog W) A (f x (p, w, 37 :: 40 :: (key ++ 41 :: rest))) Q E s
theorem sub_dict_tuple' : isSubtype (.type "dict") (.type "tuple") = pure false := by rw [isSubtype_type]; kernel_rfl
theorem asStr_dict {M : Model} {A : Around} {E : Value → Shared → Prop} {s : Shared} {a : Addr} {o : Obj} {es : Array DictEntry} {n : Nat} {Q : Option PySem.Str → Shared → Prop} (ho : s.heap.get? a = some o) (hd : o.data = .dict es n) (h : Q none s) : wpAny M A (asStr? (.ref a)) Q E s := by
  simp only [asStr?]
  refine wpAny_bind (wpAny_load ho ?_)
  rw [hd]
  exact wpAny_pure h
theorem fills_dict {M : Model} {A : Around} {E : Value → Shared → Prop} {s : Shared} {a : Addr} {Q : Bool → Shared → Prop} (hT : s.TypeIs (.ref a) "dict") (h : Q true s) : wpAny M A (fillsMappingSlot (.ref a)) Q E s := by
  unfold fillsMappingSlot
  refine wpAny_bind (wpAny_specialOf hT PySem.F.slot_dict_getitem.lookup ?_)
  exact wpAny_pure h
theorem Shape.head {spec : List Nat} (h : Shape spec) : ∃ c r, spec = c :: r ∧ c ≠ 37 ∧ c ≠ 40 := by
  cases h with
  | d => exact ⟨_, _, rfl, by decide, by decide⟩
  | nd n hn => exact ⟨_, _, rfl, by omega, by omega⟩
  | ns n hn => exact ⟨_, _, rfl, by decide, by decide⟩
  | zd n hn => exact ⟨_, _, rfl, by decide, by decide⟩
  | x => exact ⟨_, _, rfl, by decide, by decide⟩
section
variable {prog : Program} {W : World} {A : Around} {E : Value → Shared → Prop} {X : PySem.Str} {args : Value} {f : FS}
theorem Steps0.steps {mp : Bool} (h : Steps0 prog W A E X args mp f) : Steps prog W A E X f := by
  refine ⟨h.nil, h.lit, h.pct, ?_, ?_⟩
  · intro x v more w T N s Q spec text rest g hN sp q
    obtain ⟨c, r, rfl, h37, h40⟩ := sp.shape.head
    exact h.any g hN h37 fun G hG => .inl ⟨h40, hG.fld sp q⟩
  · intro x w T N s Q spec rest g hN sh hh hE
    obtain ⟨c, r, rfl, h37, h40⟩ := sh.head
    exact h.any g hN h37 fun G hG => .inl ⟨h40, hG.few sh hh hE⟩
theorem Steps0.stepsK (h : Steps0 prog W A E X args true f) : StepsK prog W A E X args f := by
  refine ⟨h.nil, h.lit, h.pct, ?_, ?_⟩
  · intro x p w T N s Q key spec v text rest g hN hk hkl sp hget q
    exact h.any g hN (by decide) fun G hG => .inr ⟨rfl, rfl, key, spec ++ rest, rfl, hk, hkl, fun tk k0 => hget tk k0 _ fun k => hG.fld sp q⟩
  · intro x p w T N s Q key rest g hN hk hkl hget
    exact h.any g hN (by decide) fun G hG => .inr ⟨rfl, rfl, key, rest, rfl, hk, hkl, fun tk k0 => wpAny_mono (hget tk k0) (fun _ _ h => h.elim) fun _ _ e => e⟩
end
theorem pf_tuple {prog : Program} {W : World} {A : Around} {E : Value → Shared → Prop} {s : Shared} {X : PySem.Str} {t : Tok} {b : Addr} {o : Obj} {its : Array Value} {n : Nat} {Q : PySem.Fin → Shared → Prop}
   (ho : s.heap.get? b = some o) (hc : o.cls = .type "tuple") (hd : o.data = .seq its n)
   (h : ∀ f, Steps prog W A E X f → wpAny (model prog W) A (forIn (List.range' 0 X.length 1) (its.toList, ({} : Writer), X.cps.toList) f) (fun st s' => (st.1 = [] → wpAny (model prog W) A (st.2.1.finish "str.__mod__") Q E s') ∧ (st.1 ≠ [] → A.handled = none ∧ ∀ h' tk e, Heap.NewExc s'.heap h' e "TypeError" → E (.ref e) { s' with heap := h', toks := tk })) E s) :
   wpAny (model prog W) A (percentFormat (.str X t) X (.ref b)) Q E s :=
  pf_any true none false its.toList
    (fun _ q => wpAny_isInstance (T := "tuple") ⟨o, ho, hc⟩ KPt.sub_tt q)
    (fun _ q => KPt.asStr_ref ho hd q)
    (fun _ q => KPt.fills_ref ⟨o, ho, hc⟩ fun m => q m rfl)
    ⟨its, rfl, fun _ q => wpAny_seqItems ho hd q⟩
    fun f hs => wpAny_mono (h f hs.steps) (fun _ _ p => ⟨fun e => p.1 (e.resolve_left Bool.false_ne_true), fun _ => p.2⟩) fun _ _ e => e
theorem pf_int {prog : Program} {W : World} {A : Around} {E : Value → Shared → Prop} {s : Shared} {X : PySem.Str} {t : Tok} {j : Int} {v : Tok} {Q : PySem.Fin → Shared → Prop}
   (h : ∀ f, Steps prog W A E X f → wpAny (model prog W) A (forIn (List.range' 0 X.length 1) ([.int j v], ({} : Writer), X.cps.toList) f) (fun st s' => (st.1 = [] → wpAny (model prog W) A (st.2.1.finish "str.__mod__") Q E s') ∧ (st.1 ≠ [] → A.handled = none ∧ ∀ h' tk e, Heap.NewExc s'.heap h' e "TypeError" → E (.ref e) { s' with heap := h', toks := tk })) E s) :
   wpAny (model prog W) A (percentFormat (.str X t) X (.int j v)) Q E s :=
  pf_any false none false [.int j v]
    (fun _ q => wpAny_isInstance (typeIs_int _ _ _) PySem.F.sub_int_tuple q)
    (fun _ q => wpAny_of_eq (a := none) rfl q)
    (fun _ q => wpAny_of_eq (KPc.fills _ _) (q false rfl))
    rfl
    fun f hs => wpAny_mono (h f hs.steps) (fun _ _ p => ⟨fun e => p.1 (e.resolve_left Bool.false_ne_true), fun _ => p.2⟩) fun _ _ e => e
theorem pf_str {prog : Program} {W : World} {A : Around} {E : Value → Shared → Prop} {s : Shared} {X : PySem.Str} {t : Tok} {y : PySem.Str} {v : Tok} {Q : PySem.Fin → Shared → Prop}
   (h : ∀ f, Steps prog W A E X f → wpAny (model prog W) A (forIn (List.range' 0 X.length 1) ([.str y v], ({} : Writer), X.cps.toList) f) (fun st s' => (st.1 = [] → wpAny (model prog W) A (st.2.1.finish "str.__mod__") Q E s') ∧ (st.1 ≠ [] → A.handled = none ∧ ∀ h' tk e, Heap.NewExc s'.heap h' e "TypeError" → E (.ref e) { s' with heap := h', toks := tk })) E s) :
   wpAny (model prog W) A (percentFormat (.str X t) X (.str y v)) Q E s :=
  pf_any false (some y) false [.str y v]
    (fun _ q => wpAny_isInstance (typeIs_str _ _ _) PySem.F.sub_str_tuple q)
    (fun _ q => wpAny_of_eq (a := some _) rfl q)
    (fun _ q => KPc.wp_fills_str fun m => q m rfl)
    rfl
    fun f hs => wpAny_mono (h f hs.steps) (fun _ _ p => ⟨fun e => p.1 (e.resolve_left Bool.false_ne_true), fun _ => p.2⟩) fun _ _ e => e
theorem pf_dict {prog : Program} {W : World} {A : Around} {E : Value → Shared → Prop} {s : Shared} {X : PySem.Str} {t : Tok} {D : Addr} {o : Obj} {es : Array DictEntry} {n : Nat} {Q : PySem.Fin → Shared → Prop}
   (ho : s.heap.get? D = some o) (hc : o.cls = .type "dict") (hd : o.data = .dict es n)
   (h : ∀ f, StepsK prog W A E X (.ref D) f → wpAny (model prog W) A (forIn (List.range' 0 X.length 1) ([Value.ref D], ({} : Writer), X.cps.toList) f) (fun st s' => wpAny (model prog W) A (st.2.1.finish "str.__mod__") Q E s') E s) :
   wpAny (model prog W) A (percentFormat (.str X t) X (.ref D)) Q E s :=
  pf_any false none true [.ref D]
    (fun _ q => wpAny_isInstance (T := "dict") ⟨o, ho, hc⟩ sub_dict_tuple' q)
    (fun _ q => asStr_dict ho hd q)
    (fun _ q => fills_dict ⟨o, ho, hc⟩ (q true rfl))
    rfl
    fun f hs => wpAny_mono (h f hs.stepsK) (fun _ _ p => ⟨fun _ => p, fun e => nomatch e⟩) fun _ _ e => e
end Mine

open PySem.Builtin.Str (Writer Percent percentInt percentField percentFormat percentKey)
namespace Mine
def tx (l : List Nat) : PySem.Str := ⟨l.toArray⟩
theorem tx_app (a b : List Nat) : tx a ++ tx b = tx (a ++ b) := by
  have : (tx a ++ tx b).cps = (tx (a ++ b)).cps := by rw [PySem.Str.cps_append]; simp [tx]
  exact congrArg PySem.Str.mk this
theorem tx_len (a : List Nat) : (tx a).length = a.length := by simp [tx, PySem.Str.length]
theorem tx_list (a : List Nat) : (tx a).cps.toList = a := by simp [tx]
theorem tx_pct : PySem.Str.ofString "%" = tx [37] := by decide +kernel
structure Prt where
  spec : List Nat
  v : Value
  text : List Nat
def codesP : List (Option Prt) → List Nat
  | [] => []
  | none :: ps => 37 :: 37 :: ([124] ++ codesP ps)
  | some p :: ps => 37 :: (p.spec ++ ([124] ++ codesP ps))
def valsP : List (Option Prt) → List Value
  | [] => []
  | none :: ps => valsP ps
  | some p :: ps => p.v :: valsP ps
def outP : List (Option Prt) → List Nat
  | [] => []
  | none :: ps => 37 :: 124 :: outP ps
  | some p :: ps => p.text ++ 124 :: outP ps
def GoodP (ps : List (Option Prt)) : Prop := ∀ p, some p ∈ ps → Spec p.spec p.v p.text
theorem GoodP.tail {p : Option Prt} {ps : List (Option Prt)} (h : GoodP (p :: ps)) : GoodP ps := fun q hq => h q (List.mem_cons_of_mem _ hq)
theorem codes_head (ps : List (Option Prt)) : codesP ps = [] ∨ ∃ r', codesP ps = 37 :: r' := by
  match ps with
  | [] => exact .inl rfl
  | none :: ps => exact .inr ⟨_, rfl⟩
  | some p :: ps => exact .inr ⟨_, rfl⟩
section
variable {prog : Program} {W : World} {A : Around} {E : Value → Shared → Prop} {X : PySem.Str} {f : FS}
/-- behind the last piece -/
theorem loop_end (hs : Steps prog W A E X f) {p : List Value} {w : Writer} {T : PySem.Str} {N : Nat} {s : Shared} {Q : List Value × Writer × List Nat → Shared → Prop} (g : KPc.Good w T N) (hN : N ≤ 16777216) (q : Q (p, w, []) s) : ∀ l : List Nat, wpAny (model prog W) A (forIn l (p, w, ([] : List Nat)) f) Q E s
  | [] => wpAny_pure q
  | _ :: _ => KPc.turn (hs.nil g hN q)
theorem good_tx {w : Writer} {T : List Nat} {N : Nat} {x : List Nat} {o : Option Value} (g : KPc.Good w (tx T) N) (ho : KPc.Obj o (tx x)) : KPc.Good (w.add (tx x) o) (tx (T ++ x)) (N + x.length) := by
  have := KPc.good_add g ho
  rw [tx_app, tx_len] at this
  exact this
theorem loop_parts (hs : Steps prog W A E X f) (hX : 2 ≤ X.length) {p0 : List Value} {s : Shared} {Q : List Value × Writer × List Nat → Shared → Prop} : ∀ (ps : List (Option Prt)) (w : Writer) (T : List Nat) (N k : Nat) (l : List Nat), GoodP ps → KPc.Good w (tx T) N → N + (outP ps).length ≤ 16777216 → (codesP ps).length ≤ l.length →
    (∀ w' N' k', KPc.Good w' (tx (T ++ outP ps)) N' → N' ≤ 16777216 → Q (p0, w', []) { s with toks := k' }) → wpAny (model prog W) A (forIn l (valsP ps ++ p0, w, codesP ps) f) Q E { s with toks := k }
  | [], w, T, N, k, l, _, g, hN, _, q => loop_end hs g (by simpa [outP] using hN) (q w N k (by simpa [outP] using g) (by simpa [outP] using hN)) l
  | none :: ps, w, T, N, k, l, hg, g, hN, hl, q => by
    match l, hl with
    | [], hl => simp [codesP] at hl
    | [_], hl => simp [codesP] at hl
    | x :: y :: l, hl =>
      simp only [outP, List.length_cons] at hN
      have g1 : KPc.Good (w.add (PySem.Str.ofString "%")) (tx (T ++ [37])) (N + 1) := by rw [tx_pct]; exact good_tx g (KPc.obj_none rfl)
      refine KPc.turn (hs.pct g (by omega) ?_)
      refine KPc.turn (hs.lit (l := [124]) g1 (by omega) (by simp) (by simp) (codes_head ps) (fun e => by simp at e; omega) fun o ho => ?_)
      have g2 := good_tx (x := [124]) g1 ho
      refine loop_parts hs hX ps _ _ _ _ _ hg.tail g2 (by simp; omega) (by simp [codesP] at hl; omega) fun w' N' k' g' hN' => q w' N' k' ?_ hN'
      simpa [outP] using g'
  | some p :: ps, w, T, N, k, l, hg, g, hN, hl, q => by
    match l, hl with
    | [], hl => simp [codesP] at hl
    | [_], hl => simp [codesP] at hl
    | x :: y :: l, hl =>
      simp only [outP, List.length_append, List.length_cons] at hN
      refine KPc.turn (hs.fld g (by omega) (hg p List.mem_cons_self) fun o k2 ho => ?_)
      have g1 := good_tx (x := p.text) g ho
      refine KPc.turn (hs.lit (l := [124]) g1 (by omega) (by simp) (by simp) (codes_head ps) (fun e => by simp at e; omega) fun o2 ho2 => ?_)
      have g2 := good_tx (x := [124]) g1 ho2
      refine loop_parts hs hX ps _ _ _ _ _ hg.tail g2 (by simp; omega) (by simp [codesP] at hl; omega) fun w' N' k' g' hN' => q w' N' k' ?_ hN'
      simpa [outP] using g'
/-- one value less -/
theorem loop_few (hs : Steps prog W A E X f) (hX : 2 ≤ X.length) (hh : A.handled = none) {s : Shared} {Q : List Value × Writer × List Nat → Shared → Prop} (hE : ∀ h' tk e, Heap.NewExc s.heap h' e "TypeError" → E (.ref e) { s with heap := h', toks := tk }) :
    ∀ (ps : List (Option Prt)) (w : Writer) (T : List Nat) (N k : Nat) (l : List Nat), valsP ps ≠ [] → GoodP ps → KPc.Good w (tx T) N → N + (outP ps).length ≤ 16777216 → (codesP ps).length ≤ l.length →
    wpAny (model prog W) A (forIn l ((valsP ps).dropLast, w, codesP ps) f) Q E { s with toks := k }
  | [], w, T, N, k, l, hv, _, _, _, _ => absurd rfl hv
  | none :: ps, w, T, N, k, l, hv, hg, g, hN, hl => by
    match l, hl with
    | [], hl => simp [codesP] at hl
    | [_], hl => simp [codesP] at hl
    | x :: y :: l, hl =>
      simp only [outP, List.length_cons] at hN
      have g1 : KPc.Good (w.add (PySem.Str.ofString "%")) (tx (T ++ [37])) (N + 1) := by rw [tx_pct]; exact good_tx g (KPc.obj_none rfl)
      refine KPc.turn (hs.pct g (by omega) ?_)
      refine KPc.turn (hs.lit (l := [124]) g1 (by omega) (by simp) (by simp) (codes_head ps) (fun e => by simp at e; omega) fun o ho => ?_)
      have g2 := good_tx (x := [124]) g1 ho
      exact loop_few hs hX hh hE ps _ _ _ _ _ hv hg.tail g2 (by simp; omega) (by simp [codesP] at hl; omega)
  | some p :: ps, w, T, N, k, l, hv, hg, g, hN, hl => by
    match l, hl with
    | [], hl => simp [codesP] at hl
    | [_], hl => simp [codesP] at hl
    | x :: y :: l, hl =>
      simp only [outP, List.length_append, List.length_cons] at hN
      by_cases hr : valsP ps = []
      · have e : (valsP (some p :: ps)).dropLast = [] := by simp [valsP, hr]
        rw [e]
        exact KPc.turn (hs.few g (by omega) (hg p List.mem_cons_self).shape hh hE)
      · have e : (valsP (some p :: ps)).dropLast = p.v :: (valsP ps).dropLast := by
          simp only [valsP]; rw [List.dropLast_cons_of_ne_nil hr]
        rw [e]
        refine KPc.turn (hs.fld g (by omega) (hg p List.mem_cons_self) fun o k2 ho => ?_)
        have g1 := good_tx (x := p.text) g ho
        refine KPc.turn (hs.lit (l := [124]) g1 (by omega) (by simp) (by simp) (codes_head ps) (fun e => by simp at e; omega) fun o2 ho2 => ?_)
        have g2 := good_tx (x := [124]) g1 ho2
        exact loop_few hs hX hh hE ps _ _ _ _ _ hr hg.tail g2 (by simp; omega) (by simp [codesP] at hl; omega)
/-- one part alone -/
theorem loop_one (hs : Steps prog W A E X f) {v : Value} {spec text : List Nat} {s : Shared} {Q : List Value × Writer × List Nat → Shared → Prop} (sp : Spec spec v text) (ht : text.length ≤ 16777216) (l : List Nat) (hl : 0 < l.length)
    (q : ∀ w' N' k', KPc.Good w' (tx text) N' → N' ≤ 16777216 → Q ([], w', []) { s with toks := k' }) : wpAny (model prog W) A (forIn l ([v], ({} : Writer), 37 :: spec) f) Q E s := by
  match l, hl with
  | x :: l, _ =>
    refine KPc.turn ?_
    have e : 37 :: spec = 37 :: (spec ++ []) := by rw [List.append_nil]
    rw [e]
    refine hs.fld KPc.good0 (by omega) sp fun o k ho => ?_
    have g1 := good_tx (T := []) (x := text) KPc.good0 ho
    rw [List.nil_append, Nat.zero_add] at g1
    exact loop_end hs g1 ht (q _ _ k g1 ht) l
/-- each per cent sign doubled -/
def dbl : List Nat → List Nat
  | [] => []
  | c :: r => if c = 37 then 37 :: 37 :: dbl r else c :: dbl r
theorem dbl_lit : ∀ {l r : List Nat}, (∀ c ∈ l, c ≠ 37) → dbl (l ++ r) = l ++ dbl r
  | [], _, _ => rfl
  | c :: l, r, h => by
    rw [List.cons_append, dbl, if_neg (h c List.mem_cons_self), dbl_lit fun x hx => h x (List.mem_cons_of_mem _ hx)]; rfl
theorem cut_pct : ∀ t : List Nat, ∃ l r, t = l ++ r ∧ (∀ c ∈ l, c ≠ 37) ∧ (r = [] ∨ ∃ r', r = 37 :: r')
  | [] => ⟨[], [], rfl, fun _ h => (nomatch h), .inl rfl⟩
  | c :: t => by
    by_cases h : c = 37
    · exact ⟨[], c :: t, rfl, fun _ h => (nomatch h), .inr ⟨t, by rw [h]⟩⟩
    · obtain ⟨l, r, e, h1, h2⟩ := cut_pct t
      exact ⟨c :: l, r, by rw [e]; rfl, fun x hx => by rcases List.mem_cons.mp hx with rfl | hx; exact h; exact h1 x hx, h2⟩
theorem loop_dbl (hs : Steps prog W A E X f) {s : Shared} {Q : List Value × Writer × List Nat → Shared → Prop} : ∀ (n : Nat) (t pre : List Nat) (w : Writer) (T : List Nat) (N : Nat) (l : List Nat), t.length ≤ n → X.cps.toList = pre ++ dbl t → KPc.Good w (tx T) N → N + t.length ≤ 16777216 → (dbl t).length ≤ l.length →
    (∀ w' N', KPc.Good w' (tx (T ++ t)) N' → N' ≤ 16777216 → Q ([], w', []) s) → wpAny (model prog W) A (forIn l ([], w, dbl t) f) Q E s
  | 0, t, pre, w, T, N, l, hn, _, g, hN, _, q => by
    have : t = [] := List.eq_nil_of_length_eq_zero (by omega)
    subst this
    exact loop_end hs g (by simpa using hN) (q w N (by simpa using g) (by simpa using hN)) l
  | n + 1, t, pre, w, T, N, l, hn, hX, g, hN, hl, q => by
    match t, hn, hX, hN, hl, q with
    | [], hn, hX, hN, hl, q => exact loop_end hs g (by simpa using hN) (q w N (by simpa using g) (by simpa using hN)) l
    | c :: r, hn, hX, hN, hl, q =>
      by_cases hc : c = 37
      · subst hc
        have ed : dbl (37 :: r) = 37 :: 37 :: dbl r := by rw [dbl, if_pos rfl]
        rw [ed] at hX hl ⊢
        match l, hl with
        | [], hl => simp at hl
        | x :: l, hl =>
          simp only [List.length_cons] at hN hn
          have g1 : KPc.Good (w.add (PySem.Str.ofString "%")) (tx (T ++ [37])) (N + 1) := by rw [tx_pct]; exact good_tx g (KPc.obj_none rfl)
          refine KPc.turn (hs.pct g (by omega) ?_)
          refine loop_dbl hs n r (pre ++ [37, 37]) _ _ _ l (by omega) (by rw [hX]; simp) g1 (by omega) (by simp at hl; omega) fun w' N' g' hN' => q w' N' ?_ hN'
          simpa using g'
      · obtain ⟨l1, r1, e, h1, h2⟩ := cut_pct (c :: r)
        have hne : l1 ≠ [] := fun q => by
          rw [q, List.nil_append] at e
          rcases h2 with h2 | ⟨r', h2⟩
          · rw [h2] at e; cases e
          · rw [h2] at e; exact hc (List.cons.inj e).1
        rw [e] at hX hN hl q hn ⊢
        rw [dbl_lit h1] at hX hl ⊢
        have hpos : 0 < l1.length := List.length_pos_iff.mpr hne
        match l, hl with
        | [], hl => rw [List.length_append, List.length_nil] at hl; omega
        | x :: l, hl =>
          simp only [List.length_append] at hN hn
          refine KPc.turn (hs.lit (l := l1) g (by omega) hne h1 ?_ (fun hlen => ?_) fun o ho => ?_)
          · rcases h2 with h2 | ⟨r', h2⟩
            · left; rw [h2]; rfl
            · right; rw [h2, dbl, if_pos rfl]; exact ⟨_, rfl⟩
          · have hlX : X.length = (pre ++ (l1 ++ dbl r1)).length := by rw [← hX]; simp [PySem.Str.length]
            simp only [List.length_append] at hlX
            have hp0 : pre = [] := List.eq_nil_of_length_eq_zero (by omega)
            have hr0 : dbl r1 = [] := List.eq_nil_of_length_eq_zero (by omega)
            rw [hp0, hr0] at hX
            simp only [List.nil_append, List.append_nil] at hX
            rw [← hX]
          · have g1 := good_tx (x := l1) g ho
            refine loop_dbl hs n r1 (pre ++ l1) _ _ _ l (by omega) (by rw [hX]; simp) g1 (by omega) (by simp at hl; omega) fun w' N' g' hN' => q w' N' ?_ hN'
            simpa using g'
end
end Mine

open PySem.Builtin.Str (Writer Percent percentInt percentField percentFormat percentKey)
namespace Mine
structure KPrt where
  key : List Nat
  spec : List Nat
  v : Value
  text : List Nat
def codesK : List (Option KPrt) → List Nat
  | [] => []
  | none :: ps => 37 :: 37 :: ([124] ++ codesK ps)
  | some p :: ps => 37 :: 40 :: (p.key ++ 41 :: (p.spec ++ ([124] ++ codesK ps)))
def outK : List (Option KPrt) → List Nat
  | [] => []
  | none :: ps => 37 :: 124 :: outK ps
  | some p :: ps => p.text ++ 124 :: outK ps
structure KeyOK (key : List Nat) : Prop where
  no : ∀ c ∈ key, c ≠ 40 ∧ c ≠ 41
  len : key.length ≤ 1000
def GoodK (ps : List (Option KPrt)) : Prop := ∀ p, some p ∈ ps → Spec p.spec p.v p.text ∧ KeyOK p.key
theorem GoodK.tail {p : Option KPrt} {ps : List (Option KPrt)} (h : GoodK (p :: ps)) : GoodK ps := fun q hq => h q (List.mem_cons_of_mem _ hq)
theorem codesK_head (ps : List (Option KPrt)) : codesK ps = [] ∨ ∃ r', codesK ps = 37 :: r' := by
  match ps with
  | [] => exact .inl rfl
  | none :: ps => exact .inr ⟨_, rfl⟩
  | some p :: ps => exact .inr ⟨_, rfl⟩
section
variable {prog : Program} {W : World} {A : Around} {E : Value → Shared → Prop} {X : PySem.Str} {args : Value} {f : FS}
theorem loop_endK (hs : StepsK prog W A E X args f) {p : List Value} {w : Writer} {T : PySem.Str} {N : Nat} {s : Shared} {Q : List Value × Writer × List Nat → Shared → Prop} (g : KPc.Good w T N) (hN : N ≤ 16777216) (q : Q (p, w, []) s) : ∀ l : List Nat, wpAny (model prog W) A (forIn l (p, w, ([] : List Nat)) f) Q E s
  | [] => wpAny_pure q
  | _ :: _ => KPc.turn (hs.nil g hN q)
theorem key_len {key : List Nat} (h : KeyOK key) : (⟨key.toArray⟩ : PySem.Str).length ≤ sizeLine := by
  rw [show (⟨key.toArray⟩ : PySem.Str) = tx key from rfl, tx_len, sizeLine_eq]; have := h.len; omega
theorem loop_keys (hs : StepsK prog W A E X args f) (hX : 2 ≤ X.length) {s : Shared} {Q : List Value × Writer × List Nat → Shared → Prop} : ∀ (ps : List (Option KPrt)) (p0 : List Value) (w : Writer) (T : List Nat) (N k : Nat) (l : List Nat), GoodK ps →
    (∀ p, some p ∈ ps → ∀ tk k0 (Q' : Value → Shared → Prop), (∀ k, Q' p.v { s with toks := k }) → wpAny (model prog W) A (getItem args (.str (tx p.key) tk)) Q' E { s with toks := k0 }) →
    KPc.Good w (tx T) N → N + (outK ps).length ≤ 16777216 → (codesK ps).length ≤ l.length →
    (∀ p' w' N' k', KPc.Good w' (tx (T ++ outK ps)) N' → N' ≤ 16777216 → Q (p', w', []) { s with toks := k' }) → wpAny (model prog W) A (forIn l (p0, w, codesK ps) f) Q E { s with toks := k }
  | [], p0, w, T, N, k, l, _, _, g, hN, _, q => loop_endK hs g (by simpa [outK] using hN) (q p0 w N k (by simpa [outK] using g) (by simpa [outK] using hN)) l
  | none :: ps, p0, w, T, N, k, l, hg, hget, g, hN, hl, q => by
    match l, hl with
    | [], hl => simp [codesK] at hl
    | [_], hl => simp [codesK] at hl
    | x :: y :: l, hl =>
      simp only [outK, List.length_cons] at hN
      have g1 : KPc.Good (w.add (PySem.Str.ofString "%")) (tx (T ++ [37])) (N + 1) := by rw [tx_pct]; exact good_tx g (KPc.obj_none rfl)
      refine KPc.turn (hs.pct g (by omega) ?_)
      refine KPc.turn (hs.lit (l := [124]) g1 (by omega) (by simp) (by simp) (codesK_head ps) (fun e => by simp at e; omega) fun o ho => ?_)
      have g2 := good_tx (x := [124]) g1 ho
      refine loop_keys hs hX ps _ _ _ _ _ _ hg.tail (fun p hp => hget p (List.mem_cons_of_mem _ hp)) g2 (by simp; omega) (by simp [codesK] at hl; omega) fun p' w' N' k' g' hN' => q p' w' N' k' ?_ hN'
      simpa [outK] using g'
  | some p :: ps, p0, w, T, N, k, l, hg, hget, g, hN, hl, q => by
    match l, hl with
    | [], hl => simp [codesK] at hl
    | [_], hl => simp [codesK] at hl
    | x :: y :: l, hl =>
      simp only [outK, List.length_append, List.length_cons] at hN
      obtain ⟨hsp, hk⟩ := hg p List.mem_cons_self
      refine KPc.turn (hs.key g (by omega) hk.no (key_len hk) hsp (fun tk k0 Q' hQ => hget p List.mem_cons_self tk k0 Q' hQ) fun o k2 ho => ?_)
      have g1 := good_tx (x := p.text) g ho
      refine KPc.turn (hs.lit (l := [124]) g1 (by omega) (by simp) (by simp) (codesK_head ps) (fun e => by simp at e; omega) fun o2 ho2 => ?_)
      have g2 := good_tx (x := [124]) g1 ho2
      refine loop_keys hs hX ps _ _ _ _ _ _ hg.tail (fun p hp => hget p (List.mem_cons_of_mem _ hp)) g2 (by simp; omega) (by simp [codesK] at hl; omega) fun p' w' N' k' g' hN' => q p' w' N' k' ?_ hN'
      simpa [outK] using g'
/-- a missing name -/
theorem loop_keyx (hs : StepsK prog W A E X args f) (hX : 2 ≤ X.length) {s : Shared} {Q : List Value × Writer × List Nat → Shared → Prop} (hget : ∀ key tk k0, wpAny (model prog W) A (getItem args (.str (tx key) tk)) (fun _ _ => False) E { s with toks := k0 }) :
    ∀ (ps : List (Option KPrt)) (p0 : List Value) (w : Writer) (T : List Nat) (N k : Nat) (l : List Nat), GoodK ps → (∃ p, some p ∈ ps) → KPc.Good w (tx T) N → N + (outK ps).length ≤ 16777216 → (codesK ps).length ≤ l.length →
    wpAny (model prog W) A (forIn l (p0, w, codesK ps) f) Q E { s with toks := k }
  | [], _, _, _, _, _, _, _, he, _, _, _ => by obtain ⟨p, hp⟩ := he; cases hp
  | none :: ps, p0, w, T, N, k, l, hg, he, g, hN, hl => by
    match l, hl with
    | [], hl => simp [codesK] at hl
    | [_], hl => simp [codesK] at hl
    | x :: y :: l, hl =>
      simp only [outK, List.length_cons] at hN
      have g1 : KPc.Good (w.add (PySem.Str.ofString "%")) (tx (T ++ [37])) (N + 1) := by rw [tx_pct]; exact good_tx g (KPc.obj_none rfl)
      refine KPc.turn (hs.pct g (by omega) ?_)
      refine KPc.turn (hs.lit (l := [124]) g1 (by omega) (by simp) (by simp) (codesK_head ps) (fun e => by simp at e; omega) fun o ho => ?_)
      have g2 := good_tx (x := [124]) g1 ho
      refine loop_keyx hs hX hget ps _ _ _ _ _ _ hg.tail ?_ g2 (by simp; omega) (by simp [codesK] at hl; omega)
      obtain ⟨p, hp⟩ := he
      rcases List.mem_cons.mp hp with h | h
      · cases h
      · exact ⟨p, h⟩
  | some p :: ps, p0, w, T, N, k, l, hg, _, g, hN, hl => by
    match l, hl with
    | [], hl => simp [codesK] at hl
    | x :: l, hl =>
      simp only [outK, List.length_append, List.length_cons] at hN
      obtain ⟨hsp, hk⟩ := hg p List.mem_cons_self
      exact KPc.turn (hs.keyx g (by omega) hk.no (key_len hk) (fun tk k0 => hget p.key tk k0))
end
/-! the operation -/
theorem nf_dict_mod : fillsNumberSlot (.type "dict") "mod" = pure false := by
  unfold fillsNumberSlot
  show (typeLookup (.type "dict") (dunder "mod") >>= fun f => typeLookup (.type "dict") (dunderR "mod") >>= fun r => pure ((f.isSome && !isSeqSlot f) || (r.isSome && !isSeqSlot r))) = pure false
  rw [typeLookup_type, typeLookup_type, builtinLookup_eq_fast]; kernel_rfl
theorem nf_none_mod' : fillsNumberSlot (.type "NoneType") "mod" = pure false := by
  unfold fillsNumberSlot
  show (typeLookup (.type "NoneType") (dunder "mod") >>= fun f => typeLookup (.type "NoneType") (dunderR "mod") >>= fun r => pure ((f.isSome && !isSeqSlot f) || (r.isSome && !isSeqSlot r))) = pure false
  rw [typeLookup_type, typeLookup_type, builtinLookup_eq_fast]; kernel_rfl
theorem ni_str_mod' : typeLookup (.type "str") (dunderI "mod") = pure none := by rw [typeLookup_type, builtinLookup_eq_fast]; kernel_rfl
theorem sub_int_str' : isSubtype (.type "int") (.type "str") = pure false := by rw [isSubtype_type]; kernel_rfl
theorem entry_none (X : PySem.Str) (t : Tok) : Builtin.«str.__mod__» ⟨[.str X t, .none], []⟩ = percentFormat (.str X t) X .none := by kernel_rfl
section
variable {prog : Program} {W : World} {A : Around} {E : Value → Shared → Prop} {s : Shared} {X : PySem.Str} {t : Tok} {Q : Value → Shared → Prop}
/-- a text by something else, in place -/
theorem ip_mod {b : Value} {U : String} {bU : Bool} (hTU : (Value.type "str" == Value.type U) = false) (hb : s.TypeIs b U) (hfU : fillsNumberSlot (.type U) "mod" = pure bU) (hsub : bU = true → isSubtype (.type U) (.type "str") = pure false)
    (he : Builtin.«str.__mod__» ⟨[.str X t, b], []⟩ = percentFormat (.str X t) X b)
    (h : wpAny (model prog W) A.in1 (percentFormat (.str X t) X b) (fun r s' => ∃ v, r = .done (.ret v) ∧ v ≠ .notImplemented ∧ Q v s') E s) : wpAny (model prog W) A (inplaceOp .Mod (.str X t) b) Q E s := by
  have hc : wpAny (model prog W) A (call (.builtin "str.__mod__") [.str X t, b]) (fun v s' => v ≠ .notImplemented ∧ Q v s') E s :=
    wpAny_call_entry PySem.F.slot_str_mod (typeIs_str s X t) PySem.F.entry_str_mod (by rw [he]; exact wpAny_mono h (fun r s' q => by obtain ⟨v, e, q1, q2⟩ := q; exact ⟨v, e, q1, q2⟩) fun _ _ e => e) (PySem.F.args_str_mod_2 _ _)
  unfold inplaceOp
  try with_reducible refine wpAny_holding ?_
  have hfi : fillsInplaceSlot (.type "str") "mod" false = pure false := by
    unfold fillsInplaceSlot
    show (typeLookup (.type "str") (dunderI "mod") >>= fun fi => pure (fi.isSome && !isSeqSlot fi)) = pure false
    rw [ni_str_mod']; rfl
  refine wpAny_bind (wpAny_typeOf (typeIs_str s X t) (wpAny_bind (wpAny_of_eq hfi ?_)))
  show wpAny _ A (if false = true then _ else _) _ _ s
  rw [if_neg Bool.false_ne_true]
  refine wpAny_bind ?_
  show wpAny _ A (binaryOp1 "mod" (.str X t) b) _ _ s
  cases bU with
  | false => exact KPt.bin1_left (nm := "mod") hTU (typeIs_str s X t) hb PySem.F.fills_str_mod hfU PySem.F.slot_str_mod (wpAny_mono hc (fun v s' q => ⟨q.1, wpAny_pure q.2⟩) fun _ _ e => e)
  | true =>
    simp only [binaryOp1]
    refine wpAny_bind (wpAny_typeOf (typeIs_str s X t) (wpAny_bind (wpAny_typeOf hb (wpAny_bind (wpAny_of_eq PySem.F.fills_str_mod ?_)))))
    simp only [hTU, Bool.false_eq_true, if_false]
    refine wpAny_bind (wpAny_of_eq hfU ?_)
    simp only [Bool.and_self, if_true]
    refine wpAny_bind (wpAny_of_eq (hsub rfl) ?_)
    have hpy : numberSlotInPython (.type "str") "mod" = pure false := rfl
    simp only [Bool.false_eq_true, if_false, pure_bind, Bool.not_false, Bool.and_self, if_true, hpy]
    exact wpAny_bind (wpAny_tryMethod_slot (typeIs_str s X t) PySem.F.slot_str_mod (wpAny_mono hc (fun v s' q => ⟨q.1, wpAny_pure (wpAny_pure q.2)⟩) fun _ _ e => e))
theorem ip_mod_str {y : PySem.Str} {u : Tok} (h : wpAny (model prog W) A.in1 (percentFormat (.str X t) X (.str y u)) (fun r s' => ∃ v, r = .done (.ret v) ∧ v ≠ .notImplemented ∧ Q v s') E s) : wpAny (model prog W) A (inplaceOp .Mod (.str X t) (.str y u)) Q E s := by
  have hc : wpAny (model prog W) A (call (.builtin "str.__mod__") [.str X t, .str y u]) (fun v s' => v ≠ .notImplemented ∧ Q v s') E s :=
    wpAny_call_entry PySem.F.slot_str_mod (typeIs_str s X t) PySem.F.entry_str_mod (by rw [KPc.entry_is_s]; exact wpAny_mono h (fun r s' q => by obtain ⟨v, e, q1, q2⟩ := q; exact ⟨v, e, q1, q2⟩) fun _ _ e => e) (PySem.F.args_str_mod_2 _ _)
  exact wpAny_inplaceOp_same (op := .Mod) (T := "str") (typeIs_str s X t) (typeIs_str s y u) ni_str_mod' PySem.F.fills_str_mod PySem.F.slot_str_mod hc
end
end Mine

open PySem.Builtin.Str (Writer Percent percentInt percentField percentFormat percentKey percentIntOf)
namespace Mine
def XP (s : Shared) (cls : String) : Value → Shared → Prop := fun e s' => ∃ ea h' tk, e = .ref ea ∧ s' = { s with heap := h', toks := tk } ∧ Heap.NewExc s.heap h' ea cls
theorem lk_int_str : typeLookup (.type "str") "__int__" = pure none := by rw [typeLookup_type, builtinLookup_eq_fast]; kernel_rfl
theorem lk_index_str : typeLookup (.type "str") "__index__" = pure none := by rw [typeLookup_type, builtinLookup_eq_fast]; kernel_rfl
theorem lk_float_str : typeLookup (.type "str") "__float__" = pure none := by rw [typeLookup_type, builtinLookup_eq_fast]; kernel_rfl
theorem lk_trunc_str : typeLookup (.type "str") "__trunc__" = pure none := by rw [typeLookup_type, builtinLookup_eq_fast]; kernel_rfl
theorem lk_int_none : typeLookup (.type "NoneType") "__int__" = pure none := by rw [typeLookup_type, builtinLookup_eq_fast]; kernel_rfl
theorem lk_index_none : typeLookup (.type "NoneType") "__index__" = pure none := by rw [typeLookup_type, builtinLookup_eq_fast]; kernel_rfl
theorem lk_float_none : typeLookup (.type "NoneType") "__float__" = pure none := by rw [typeLookup_type, builtinLookup_eq_fast]; kernel_rfl
theorem lk_trunc_none : typeLookup (.type "NoneType") "__trunc__" = pure none := by rw [typeLookup_type, builtinLookup_eq_fast]; kernel_rfl
theorem lk_getitem_none : typeLookup (.type "NoneType") "__getitem__" = pure none := by rw [typeLookup_type, builtinLookup_eq_fast]; kernel_rfl
theorem sub_none_tuple' : isSubtype (.type "NoneType") (.type "tuple") = pure false := by rw [isSubtype_type]; kernel_rfl
section
variable {prog : Program} {W : World} {A : Around} {s : Shared}
theorem pio_x {v : Value} {T : String} {type : Nat} {Q : Int → Shared → Prop} {E : Value → Shared → Prop} (hT : s.TypeIs v T) (h0 : asInt? v = pure none) (h1 : typeLookup (.type T) "__int__" = pure none) (h2 : typeLookup (.type T) "__index__" = pure none) (h3 : typeLookup (.type T) "__float__" = pure none) (h4 : typeLookup (.type T) "__trunc__" = pure none)
    (hU : (Value.type T == Value.type "builtin_function_or_method") = false) (hh : A.handled = none)
    (hm : ((s!"%{Char.ofNat type} format: {if (type == 100 || type == 105 || type == 117) = true then "a real number" else "an integer"} is required, not {shownName T}" : String) : PySem.Str).length ≤ sizeLine)
    (hE : ∀ h' tk e, Heap.NewExc s.heap h' e "TypeError" → E (.ref e) { s with heap := h', toks := tk }) : wpAny (model prog W) A (percentIntOf type v) Q E s := by
  unfold percentIntOf
  refine wpAny_bind (wpAny_of_eq h0 ?_)
  refine wpAny_bind (wpAny_bind (wpAny_specialOf hT h1 (wpAny_pure ?_)))
  refine wpAny_bind (wpAny_bind (wpAny_specialOf hT h2 (wpAny_pure ?_)))
  refine wpAny_bind (wpAny_bind (wpAny_specialOf hT h3 (wpAny_pure ?_)))
  refine wpAny_bind (wpAny_bind (wpAny_specialOf hT h4 (wpAny_pure ?_)))
  simp only [Option.isSome_none, Bool.and_false, Bool.false_and, Bool.false_eq_true, if_false]
  refine wpAny_bind (wpAny_pure ?_)
  refine wpAny_bind (wpAny_rule (wpAny_bind (wpAny_typeNameOf' hT hU ?_)))
  exact wpAny_raiseTypeError hh hE hm
end
theorem mg_ds : ((s!"%{Char.ofNat 100} format: {if ((100 : Nat) == 100 || (100 : Nat) == 105 || (100 : Nat) == 117) = true then "a real number" else "an integer"} is required, not {shownName "str"}" : String) : PySem.Str).length ≤ sizeLine := by rw [PySem.ofString_length, PySem.sizeLine_eq]; decide +kernel
theorem mg_xs : ((s!"%{Char.ofNat 120} format: {if ((120 : Nat) == 100 || (120 : Nat) == 105 || (120 : Nat) == 117) = true then "a real number" else "an integer"} is required, not {shownName "str"}" : String) : PySem.Str).length ≤ sizeLine := by rw [PySem.ofString_length, PySem.sizeLine_eq]; decide +kernel
theorem mg_dn : ((s!"%{Char.ofNat 100} format: {if ((100 : Nat) == 100 || (100 : Nat) == 105 || (100 : Nat) == 117) = true then "a real number" else "an integer"} is required, not {shownName "NoneType"}" : String) : PySem.Str).length ≤ sizeLine := by rw [PySem.ofString_length, PySem.sizeLine_eq]; decide +kernel
section
variable {prog : Program} {W : World} {A : Around} {s : Shared} {t u : Tok}
theorem xd_str {y : PySem.Str} (hh : A.handled = none) : wpAny (model prog W) A (percentFormat (.str (tx [37, 100]) t) (tx [37, 100]) (.str y u)) (fun _ _ => False) (XP s "TypeError") s := by
  unfold percentFormat
  refine wpAny_bind (wpAny_isInstance (typeIs_str _ _ _) PySem.F.sub_str_tuple ?_)
  refine wpAny_bind (wpAny_of_eq (a := some _) rfl ?_)
  refine wpAny_bind (KPc.wp_fills_str ?_)
  intro _
  kpc_if
  refine wpAny_bind (wpAny_pure ?_)
  refine wpAny_bind ?_
  rw [KPc.range_list]
  refine KPc.turn ?_
  refine wpAny_ite (KPc.ite_no (KPc.short_good KPc.good0 (by decide)) ?_)
  refine wpAny_bind (wpAny_holding ?_)
  exact wpAny_bind (pio_x (typeIs_str _ _ _) rfl lk_int_str lk_index_str lk_float_str lk_trunc_str (by decide) hh mg_ds fun h' tk e hx => ⟨e, h', tk, rfl, rfl, hx⟩)
theorem xx_str {y : PySem.Str} (hh : A.handled = none) : wpAny (model prog W) A (percentFormat (.str (tx [37, 120]) t) (tx [37, 120]) (.str y u)) (fun _ _ => False) (XP s "TypeError") s := by
  unfold percentFormat
  refine wpAny_bind (wpAny_isInstance (typeIs_str _ _ _) PySem.F.sub_str_tuple ?_)
  refine wpAny_bind (wpAny_of_eq (a := some _) rfl ?_)
  refine wpAny_bind (KPc.wp_fills_str ?_)
  intro _
  kpc_if
  refine wpAny_bind (wpAny_pure ?_)
  refine wpAny_bind ?_
  rw [KPc.range_list]
  refine KPc.turn ?_
  refine wpAny_ite (KPc.ite_no (KPc.short_good KPc.good0 (by decide)) ?_)
  refine wpAny_bind (wpAny_holding ?_)
  exact wpAny_bind (pio_x (typeIs_str _ _ _) rfl lk_int_str lk_index_str lk_float_str lk_trunc_str (by decide) hh mg_xs fun h' tk e hx => ⟨e, h', tk, rfl, rfl, hx⟩)
theorem fills_none {Q : Bool → Shared → Prop} {E : Value → Shared → Prop} {M : Model} (h : Q false s) : wpAny M A (fillsMappingSlot .none) Q E s := by
  unfold fillsMappingSlot
  refine wpAny_bind (wpAny_specialOf (T := "NoneType") rfl lk_getitem_none ?_)
  exact wpAny_pure h
theorem x5_none (hh : A.handled = none) : wpAny (model prog W) A (percentFormat (.str (tx [37, 53, 100]) t) (tx [37, 53, 100]) .none) (fun _ _ => False) (XP s "TypeError") s := by
  unfold percentFormat
  refine wpAny_bind (wpAny_isInstance (T := "NoneType") rfl sub_none_tuple' ?_)
  refine wpAny_bind (wpAny_of_eq (a := none) rfl ?_)
  refine wpAny_bind (fills_none ?_)
  kpc_if
  refine wpAny_bind (wpAny_pure ?_)
  refine wpAny_bind ?_
  rw [KPc.range_list]
  refine KPc.turn ?_
  refine wpAny_ite (KPc.ite_no (KPc.short_good KPc.good0 (by decide)) ?_)
  refine wpAny_bind (wpAny_holding ?_)
  exact wpAny_bind (pio_x (T := "NoneType") rfl rfl lk_int_none lk_index_none lk_float_none lk_trunc_none (by decide) hh mg_dn fun h' tk e hx => ⟨e, h', tk, rfl, rfl, hx⟩)
theorem xk_int {j : Int} (hh : A.handled = none) : wpAny (model prog W) A (percentFormat (.str (tx [37, 40, 107, 41, 100]) t) (tx [37, 40, 107, 41, 100]) (.int j u)) (fun _ _ => False) (XP s "TypeError") s := by
  unfold percentFormat
  refine wpAny_bind (wpAny_isInstance (typeIs_int _ _ _) PySem.F.sub_int_tuple ?_)
  refine wpAny_bind (wpAny_of_eq (a := none) rfl ?_)
  refine wpAny_bind (wpAny_of_eq (KPc.fills _ _) ?_)
  kpc_if
  refine wpAny_bind (wpAny_pure ?_)
  refine wpAny_bind ?_
  rw [KPc.range_list]
  refine KPc.turn ?_
  refine wpAny_ite (KPc.ite_no (KPc.short_good KPc.good0 (by decide)) ?_)
  refine wpAny_bind (wpAny_rule ?_)
  exact wpAny_bind (wpAny_raiseTypeErrorWords hh fun h' tk e hx => ⟨e, h', tk, rfl, rfl, hx⟩)
theorem xk_tup {b : Addr} {o : Obj} {its : Array Value} {n : Nat} (ho : s.heap.get? b = some o) (hc : o.cls = .type "tuple") (hd : o.data = .seq its n) (hh : A.handled = none) : wpAny (model prog W) A (percentFormat (.str (tx [37, 40, 107, 41, 100]) t) (tx [37, 40, 107, 41, 100]) (.ref b)) (fun _ _ => False) (XP s "TypeError") s := by
  unfold percentFormat
  refine wpAny_bind (wpAny_isInstance (T := "tuple") ⟨o, ho, hc⟩ KPt.sub_tt ?_)
  refine wpAny_bind (KPt.asStr_ref ho hd ?_)
  refine wpAny_bind (KPt.fills_ref ⟨o, ho, hc⟩ ?_)
  intro mp
  kpc_if
  refine wpAny_bind (wpAny_seqItems ho hd ?_)
  refine wpAny_bind (wpAny_pure ?_)
  refine wpAny_bind ?_
  rw [KPc.range_list]
  refine KPc.turn ?_
  refine wpAny_ite (KPc.ite_no (KPc.short_good KPc.good0 (by decide)) ?_)
  refine wpAny_bind (wpAny_rule ?_)
  exact wpAny_bind (wpAny_raiseTypeErrorWords hh fun h' tk e hx => ⟨e, h', tk, rfl, rfl, hx⟩)
theorem xp_int {j : Int} (hh : A.handled = none) : wpAny (model prog W) A (percentFormat (.str (tx [37]) t) (tx [37]) (.int j u)) (fun _ _ => False) (XP s "ValueError") s := by
  unfold percentFormat
  refine wpAny_bind (wpAny_isInstance (typeIs_int _ _ _) PySem.F.sub_int_tuple ?_)
  refine wpAny_bind (wpAny_of_eq (a := none) rfl ?_)
  refine wpAny_bind (wpAny_of_eq (KPc.fills _ _) ?_)
  kpc_if
  refine wpAny_bind (wpAny_pure ?_)
  refine wpAny_bind ?_
  rw [KPc.range_list]
  refine KPc.turn ?_
  refine wpAny_ite (KPc.ite_no (KPc.short_good KPc.good0 (by decide)) ?_)
  refine wpAny_bind (wpAny_rule ?_)
  exact wpAny_bind (wpAny_raiseErrorWords plainExc_ValueError hh fun h' tk e hx => ⟨e, h', tk, rfl, rfl, hx⟩)
theorem xy_int {j : Int} (hh : A.handled = none) : wpAny (model prog W) A (percentFormat (.str (tx [37, 121]) t) (tx [37, 121]) (.int j u)) (fun _ _ => False) (XP s "ValueError") s := by
  unfold percentFormat
  refine wpAny_bind (wpAny_isInstance (typeIs_int _ _ _) PySem.F.sub_int_tuple ?_)
  refine wpAny_bind (wpAny_of_eq (a := none) rfl ?_)
  refine wpAny_bind (wpAny_of_eq (KPc.fills _ _) ?_)
  kpc_if
  refine wpAny_bind (wpAny_pure ?_)
  refine wpAny_bind ?_
  rw [KPc.range_list]
  refine KPc.turn ?_
  refine wpAny_ite (KPc.ite_no (KPc.short_good KPc.good0 (by decide)) ?_)
  refine wpAny_bind (wpAny_holding ?_)
  refine wpAny_bind (wpAny_rule ?_)
  exact wpAny_raiseErrorMade plainExc_ValueError hh (fun h' tk e hx => ⟨e, h', tk, rfl, rfl, hx⟩) (by rw [PySem.ofString_length, PySem.sizeLine_eq]; decide +kernel)
end
end Mine

namespace Mine
/-! one more object that stays: a wider context -/
def only (h : Heap) (P : Addr → Bool) : Heap := { h with objs := h.objs.mapIdx fun i o => if P i = true then o else { o with data := .freed } }
theorem get_only (h : Heap) (P : Addr → Bool) (a : Addr) : (only h P).get? a = if P a = true then h.get? a else none := by
  unfold Heap.get? only
  simp only [Array.getElem?_mapIdx]
  cases h.objs[a]? with
  | none => simp
  | some o =>
    by_cases hp : P a = true
    · simp [hp]
    · simp [hp]
def Cx.ext (cx : Cx) (h : Heap) (hk : ∀ b o, cx.base.get? b = some o → h.get? b = some o) : Cx := { cx with base := h, top := cx.top.keeps hk }
section
variable {cx : Cx} {h : Heap} {hk : ∀ b o, cx.base.get? b = some o → h.get? b = some o} {ρ : List Addr} {F : Addr → Prop} {sto : Sto} {s : Shared} {env : Env} {loc : Loc} {A : Around} {d : Nat}
theorem base_none {a : Addr} (hk : ∀ b o, cx.base.get? b = some o → h.get? b = some o) (e : h.get? a = none) : cx.base.get? a = none := by
  cases q : cx.base.get? a with
  | none => rfl
  | some o => rw [hk a o q] at e; cases e
theorem Base.ext (B : Base cx ρ F sto s) (h1 : ∀ b o, h.get? b = some o → s.heap.get? b = some o) (h2 : ∀ a ∈ ρ, h.get? a = none) : Base (cx.ext h hk) ρ F sto s := ⟨h1, h2, B.nodup, B.len, B.objs, B.disj, B.live, B.gens, B.os⟩
theorem Base.unext (B : Base (cx.ext h hk) ρ F sto s) : Base cx ρ F sto s := ⟨fun b o e => B.stays b o (hk b o e), fun a ha => base_none hk (B.rnew a ha), B.nodup, B.len, B.objs, B.disj, B.live, B.gens, B.os⟩
theorem Frame.ext (f : Frame cx env ρ F loc s) (h1 : ∀ b, Own env b → h.get? b = none) : Frame (cx.ext h hk) env ρ F loc s :=
  ⟨f.ns, f.cell, f.cells, f.apart, fun b hb => ⟨(f.own b hb).1, (f.own b hb).2.1, h1 b hb, (f.own b hb).2.2.2⟩, f.lc⟩
theorem Frame.unext (f : Frame (cx.ext h hk) env ρ F loc s) : Frame cx env ρ F loc s :=
  ⟨f.ns, f.cell, f.cells, f.apart, fun b hb => ⟨(f.own b hb).1, (f.own b hb).2.1, base_none hk (f.own b hb).2.2.1, (f.own b hb).2.2.2⟩, f.lc⟩
theorem FunFrames.ext {h₀ : Heap} : ∀ {l : List Env}, h₀.FunFrames cx.base l → (∀ e ∈ l, ∀ L, e.frame = some L → h.get? L = none) → h₀.FunFrames h l
  | [], _, _ => trivial
  | e :: l, hf, hn => by
    obtain ⟨h1, ⟨L, o, h2, h3, h4, h5⟩, h6⟩ := hf
    exact ⟨h1, ⟨L, o, h2, hn e List.mem_cons_self L h2, h4, h5⟩, FunFrames.ext h6 fun e he => hn e (List.mem_cons_of_mem _ he)⟩
theorem AOK.ext (a : AOK cx d A s.heap) (hn : ∀ outer, A.frames = some outer → ∀ e ∈ outer, ∀ L, e.frame = some L → h.get? L = none) : AOK (cx.ext h hk) d A s.heap where
  handled := a.handled
  depth := a.depth
  units := a.units
  codes := fun outer ho e he => by obtain ⟨c, o, vs, h1, h2, h3⟩ := a.codes outer ho e he; exact ⟨c, o, vs, h1, hk c o h2, h3⟩
  frames := by
    obtain ⟨outer, h1, h2, h3⟩ := a.frames
    exact ⟨outer, h1, FunFrames.ext h2 (hn outer h1), h3⟩
theorem FnIs.ext {f : Str} {params : Arguments} {body : List Stmt} {scope : Scope} (x : FnIs cx f params body scope) : FnIs (cx.ext h hk) f params body scope := by
  obtain ⟨a, o, pm, code, doc, e1, e2, e3, e4⟩ := x.at'
  exact ⟨a, o, pm, code, doc, e1, hk _ _ e2, e3, e4.keeps hk⟩
theorem PostV.unext {Q : V → Sto → Prop} {x : Value} {s' : Shared} (p : PostV (cx.ext h hk) ρ F s Q x s') : PostV cx ρ F s Q x s' := by
  obtain ⟨v, sto', ρ', F', st, r, B, q⟩ := p
  exact ⟨v, sto', ρ', F', st, r, B.unext, q⟩
end

/-! a dict on the side -/
/-- a number or a text -/
def FlatRel (v : V) (x : Value) : Prop := (∃ i t, v = .int i ∧ x = .int i t) ∨ ∃ u t, v = .str u ∧ x = .str u t
theorem FlatRel.vrel {v : V} {x : Value} (h : FlatRel v x) (F : Addr → Prop) (ρ : List Addr) (hp : Heap) : VRel F ρ hp v x := by
  rcases h with ⟨i, t, rfl, rfl⟩ | ⟨u, t, rfl, rfl⟩
  · exact ⟨t, rfl⟩
  · exact ⟨t, rfl⟩
def flatV : V → Bool
  | .int _ => true
  | .str _ => true
  | _ => false
theorem FlatRel.of {v : V} {x : Value} {F : Addr → Prop} {ρ : List Addr} {hp : Heap} (h : flatV v = true) (r : VRel F ρ hp v x) : FlatRel v x := by
  cases v with
  | int i => obtain ⟨t, rfl⟩ := r; exact .inl ⟨i, t, rfl, rfl⟩
  | str u => obtain ⟨t, rfl⟩ := r; exact .inr ⟨u, t, rfl, rfl⟩
  | _ => cases h
/-- the dict at D, by what its names mean -/
def MRel (kvs : List (Str × Value)) (m : Str → Option V) : Prop := ∀ k, match m k with | none => valueAt kvs k = none | some v => ∃ x, valueAt kvs k = some x ∧ FlatRel v x
def DObj (cx : Cx) (o : Obj) (m : Str → Option V) (n : Nat) : Prop := ∃ kvs, o.IsDictOf (strKind cx.prog cx.w) kvs ∧ MRel kvs m ∧ kvs.length ≤ n
structure Side (cx : Cx) (env : Env) (A : Around) (D : Addr) (m : Str → Option V) (n : Nat) (ρ : List Addr) (F : Addr → Prop) (s : Shared) : Prop where
  at' : ∃ o, s.heap.get? D = some o ∧ DObj cx o m n
  notρ : D ∉ ρ
  notF : ¬ F D
  base : cx.base.get? D = none
  own : ¬ Own env D
  frames : ∀ outer, A.frames = some outer → ∀ e ∈ outer, ∀ L, e.frame = some L → L ≠ D
  sysm : (D == sysModules) = false
/-- a context that has the dict -/
def CxD (cx : Cx) (D : Addr) (m : Str → Option V) (n : Nat) (cx' : Cx) : Prop := (D == sysModules) = false ∧ ∃ h hk o, cx' = cx.ext h hk ∧ h.get? D = some o ∧ DObj cx o m n
def DStep (env : Env) (D : Addr) : Addr → Prop := fun b => Own env b ∨ b = D
section
variable {cx : Cx} {sc : Scope} {d : Nat} {loc : Loc} {sto : Sto} {env : Env} {A : Around} {D : Addr} {m : Str → Option V} {n : Nat} {ρ : List Addr} {F : Addr → Prop} {s : Shared}
theorem FunFrames.none {h₀ b : Heap} : ∀ {l : List Env}, h₀.FunFrames b l → ∀ e ∈ l, ∀ L, e.frame = some L → b.get? L = none
  | [], _, _, he => nomatch he
  | e :: l, hf, e', he => by
    obtain ⟨h1, ⟨L, o, h2, h3, h4, h5⟩, h6⟩ := hf
    rcases List.mem_cons.mp he with rfl | he
    · intro L' hL; rw [h2] at hL; cases hL; exact h3
    · exact FunFrames.none h6 e' he
theorem Side.ext (S : Side cx env A D m n ρ F s) (hA : AOK cx d A s.heap) (B : Base cx ρ F sto s) (f : Frame cx env ρ F loc s) :
    ∃ cx', CxD cx D m n cx' ∧ cx'.prog = cx.prog ∧ cx'.w = cx.w ∧ AOK cx' d A s.heap ∧ Base cx' ρ F sto s ∧ Frame cx' env ρ F loc s ∧
      (∀ ρ' F' sto' s', Base cx' ρ' F' sto' s' → Base cx ρ' F' sto' s' ∧ ((∀ a, F' a → F a ∨ s.heap.get? a = none) → Side cx env A D m n ρ' F' s')) ∧
      (∀ ρ' F' loc' s', Frame cx' env ρ' F' loc' s' → Frame cx env ρ' F' loc' s') := by
  obtain ⟨o, ho, hd⟩ := S.at'
  let P : Addr → Bool := fun a => (cx.base.get? a).isSome || a == D
  have hk : ∀ b o, cx.base.get? b = some o → (only s.heap P).get? b = some o := fun b o e => by
    rw [get_only, if_pos (by simp [P, e])]; exact B.stays b o e
  have hD : (only s.heap P).get? D = some o := by rw [get_only, if_pos (by simp [P])]; exact ho
  have hN : ∀ a, a ≠ D → cx.base.get? a = none → (only s.heap P).get? a = none := fun a h1 h2 => by
    rw [get_only, if_neg (by simp [P, h1, h2])]
  refine ⟨cx.ext (only s.heap P) hk, ⟨S.sysm, _, hk, o, rfl, hD, hd⟩, rfl, rfl, hA.ext ?_, B.ext (fun b o e => ?_) (fun a ha => ?_), f.ext (fun b hb => ?_), fun ρ' F' sto' s' B' => ⟨B'.unext, fun hn => ?_⟩, fun ρ' F' loc' s' f' => f'.unext⟩
  · intro outer h1 e he L hL
    obtain ⟨outer', h1', h2, _⟩ := hA.frames
    rw [h1] at h1'; cases h1'
    exact hN L (S.frames outer h1 e he L hL) (FunFrames.none h2 e he L hL)
  · rw [get_only] at e
    by_cases hp : P b = true
    · rw [if_pos hp] at e; exact e
    · rw [if_neg hp] at e; cases e
  · exact hN a (fun q => S.notρ (q ▸ ha)) (B.rnew a ha)
  · exact hN b (fun q => S.own (q ▸ hb)) (f.own b hb).2.2.1
  · refine ⟨⟨o, B'.stays D o hD, hd⟩, fun q => ?_, fun q => ?_, S.base, S.own, S.frames, S.sysm⟩
    · have := B'.rnew D q
      exact absurd (this.symm.trans hD) (by simp)
    · rcases hn D q with h | h
      · exact S.notF h
      · rw [ho] at h; cases h

def PostSD (cx : Cx) (env : Env) (A : Around) (D : Addr) (ρ : List Addr) (F : Addr → Prop) (s : Shared) (Q : Fl → Loc → Sto → (Str → Option V) → Nat → Prop) : Flow → Shared → Prop :=
  fun f s' => ∃ fl loc' sto' ρ' F' m' n', Step (DStep env D) ρ F s ρ' F' s' ∧ FlRel F' ρ' s'.heap fl f ∧ Base cx ρ' F' sto' s' ∧ Frame cx env ρ' F' loc' s' ∧ Side cx env A D m' n' ρ' F' s' ∧ Q fl loc' sto' m' n'
def WSsD (cx : Cx) (sc : Scope) (d : Nat) (D : Addr) (body : List Stmt) (loc : Loc) (sto : Sto) (m : Str → Option V) (n : Nat) (Q : Fl → Loc → Sto → (Str → Option V) → Nat → Prop) : Prop :=
  ∀ env A s ρ F, EnvOK sc env A → AOK cx d A s.heap → Base cx ρ F sto s → Frame cx env ρ F loc s → Side cx env A D m n ρ F s →
    wpAny (model cx.prog cx.w) A (execs body env) (PostSD cx env A D ρ F s Q) (fun _ _ => False) s
theorem PostSD.after {s₁ : Shared} {ρ₁ : List Addr} {F₁ : Addr → Prop} {Q : Fl → Loc → Sto → (Str → Option V) → Nat → Prop} {f : Flow} {s' : Shared} (p : PostSD cx env A D ρ₁ F₁ s₁ Q f s') (st : Step (DStep env D) ρ F s ρ₁ F₁ s₁) : PostSD cx env A D ρ F s Q f s' := by
  obtain ⟨fl, loc', sto', ρ', F', m', n', st', r⟩ := p
  exact ⟨fl, loc', sto', ρ', F', m', n', st.trans st', r⟩
theorem WSsD.mono {body : List Stmt} {Q Q' : Fl → Loc → Sto → (Str → Option V) → Nat → Prop} (h : WSsD cx sc d D body loc sto m n Q) (hq : ∀ fl l st m n, Q fl l st m n → Q' fl l st m n) : WSsD cx sc d D body loc sto m n Q' :=
  fun env A s ρ F hE hA B f S => wpAny_mono (h env A s ρ F hE hA B f S) (fun _ _ p => by
    obtain ⟨fl, loc', sto', ρ', F', m', n', st', r1, r2, r3, r4, q⟩ := p
    exact ⟨fl, loc', sto', ρ', F', m', n', st', r1, r2, r3, r4, hq _ _ _ _ _ q⟩) fun _ _ x => x
theorem Step.dstep {ρ' : List Addr} {F' : Addr → Prop} {s' : Shared} (st : Step (Own env) ρ F s ρ' F' s') : Step (DStep env D) ρ F s ρ' F' s' := st.weaken fun _ h => .inl h
theorem Step.dstep0 {ρ' : List Addr} {F' : Addr → Prop} {s' : Shared} (st : Step NoWr ρ F s ρ' F' s') : Step (DStep env D) ρ F s ρ' F' s' := st.weaken fun _ h => h.elim

/-- a part of a body that leaves the dict alone -/
theorem d_seq {seg rest : List Stmt} {Q : Fl → Loc → Sto → (Str → Option V) → Nat → Prop}
    (h : ∀ cx', CxD cx D m n cx' → WSs cx' sc d seg loc sto fun fl loc' sto' => match fl with | .next => WSsD cx sc d D rest loc' sto' m n Q | fl => Q fl loc' sto' m n) :
    WSsD cx sc d D (seg ++ rest) loc sto m n Q := by
  intro env A s ρ F hE hA B f S
  obtain ⟨cx', hc, e1, e2, hA', B', f', back, backF⟩ := S.ext hA B f
  have h' := h cx' hc env A s ρ F hE hA' B' f'
  rw [e1, e2] at h'
  rw [execs_append]
  refine wpAny_bind (wpAny_mono h' ?_ fun _ _ x => x)
  rintro fl s₁ ⟨v, loc₁, sto₁, ρ₁, F₁, st₁, r₁, B₁, f₁, h₁⟩
  obtain ⟨B₂, hS⟩ := back _ _ _ _ B₁
  have S₂ := hS st₁.newF
  have f₂ := backF _ _ _ _ f₁
  cases v with
  | next =>
    simp only [FlRel] at r₁
    subst r₁
    exact wpAny_mono (h₁ env A s₁ ρ₁ F₁ hE (hA.step st₁) B₂ f₂ S₂) (fun _ _ p => p.after st₁.dstep) fun _ _ x => x
  | brk => simp only [FlRel] at r₁; subst r₁; exact wpAny_pure ⟨.brk, loc₁, sto₁, ρ₁, F₁, m, n, st₁.dstep, rfl, B₂, f₂, S₂, h₁⟩
  | cont => simp only [FlRel] at r₁; subst r₁; exact wpAny_pure ⟨.cont, loc₁, sto₁, ρ₁, F₁, m, n, st₁.dstep, rfl, B₂, f₂, S₂, h₁⟩
  | ret v =>
    simp only [FlRel] at r₁
    obtain ⟨x, rfl, r₁⟩ := r₁
    exact wpAny_pure ⟨.ret v, loc₁, sto₁, ρ₁, F₁, m, n, st₁.dstep, ⟨x, rfl, r₁⟩, B₂, f₂, S₂, h₁⟩
theorem d_all {seg : List Stmt} {Q : Fl → Loc → Sto → (Str → Option V) → Nat → Prop}
    (h : ∀ cx', CxD cx D m n cx' → WSs cx' sc d seg loc sto fun fl loc' sto' => Q fl loc' sto' m n) : WSsD cx sc d D seg loc sto m n Q := by
  intro env A s ρ F hE hA B f S
  obtain ⟨cx', hc, e1, e2, hA', B', f', back, backF⟩ := S.ext hA B f
  have h' := h cx' hc env A s ρ F hE hA' B' f'
  rw [e1, e2] at h'
  refine wpAny_mono h' ?_ fun _ _ x => x
  rintro fl s₁ ⟨v, loc₁, sto₁, ρ₁, F₁, st₁, r₁, B₁, f₁, h₁⟩
  obtain ⟨B₂, hS⟩ := back _ _ _ _ B₁
  exact ⟨v, loc₁, sto₁, ρ₁, F₁, m, n, st₁.dstep, r₁, B₂, backF _ _ _ _ f₁, hS st₁.newF, h₁⟩
theorem d_if {test : Expr} {body orelse rest : List Stmt} {pos : Pos} {Q : Fl → Loc → Sto → (Str → Option V) → Nat → Prop}
    (h : ∀ cx', CxD cx D m n cx' → WT cx' sc d test loc sto fun c sto₁ => if c = true then WSsD cx sc d D (body ++ rest) loc sto₁ m n Q else WSsD cx sc d D (orelse ++ rest) loc sto₁ m n Q) :
    WSsD cx sc d D (.If test body orelse pos :: rest) loc sto m n Q := by
  intro env A s ρ F hE hA B f S
  obtain ⟨cx', hc, e1, e2, hA', B', f', back, backF⟩ := S.ext hA B f
  have h' := h cx' hc env A s ρ F hE hA' B' f'
  rw [e1, e2] at h'
  refine wpAny_If_seq (wpAny_mono h' ?_ fun _ _ x => x)
  rintro c s₁ ⟨sto₁, ρ₁, F₁, st₁, B₁, h₁⟩
  obtain ⟨B₂, hS⟩ := back _ _ _ _ B₁
  have S₂ := hS st₁.newF
  cases c with
  | true =>
    simp only [if_true] at h₁ ⊢
    exact wpAny_mono (h₁ env A s₁ ρ₁ F₁ hE (hA.step st₁) B₂ (f.step B st₁) S₂) (fun _ _ p => p.after st₁.dstep0) fun _ _ x => x
  | false =>
    simp only [Bool.false_eq_true, if_false] at h₁ ⊢
    exact wpAny_mono (h₁ env A s₁ ρ₁ F₁ hE (hA.step st₁) B₂ (f.step B st₁) S₂) (fun _ _ p => p.after st₁.dstep0) fun _ _ x => x

theorem valueAt_stored {kvs : List (Str × Value)} {k k' : Str} {v : Value} : valueAt (stored kvs k v) k' = if k' = k then some v else valueAt kvs k' := by
  unfold stored valueAt
  by_cases ha : (kvs.any fun kv => decide (kv.1 = k)) = true
  · rw [if_pos ha]
    by_cases hk : k' = k
    · subst hk
      rw [if_pos rfl]
      induction kvs with
      | nil => simp at ha
      | cons kv kvs ih =>
        by_cases h1 : kv.1 = k'
        · simp [h1]
        · simp only [List.any_cons, h1, decide_false, Bool.false_or] at ha
          simpa [h1] using ih ha
    · rw [if_neg hk]
      clear ha
      induction kvs with
      | nil => rfl
      | cons kv kvs ih =>
        by_cases h1 : kv.1 = k
        · have h2 : ¬ kv.1 = k' := fun q => hk (q.symm.trans h1)
          have h3 : ¬ k = k' := fun q => hk q.symm
          simp only [List.map_cons, h1, if_true, List.find?_cons, h3, decide_false]
          rw [← h1] at ih ⊢
          simpa using ih
        · by_cases h2 : kv.1 = k'
          · simp [h2, hk]
          · simp only [List.map_cons, h1, if_false, List.find?_cons, h2, decide_false]
            exact ih
  · rw [if_neg ha, List.find?_append]
    by_cases hk : k' = k
    · subst hk
      rw [if_pos rfl]
      have : kvs.find? (fun kv => decide (kv.1 = k')) = none := by
        rw [List.find?_eq_none]; intro x hx q
        exact ha (List.any_eq_true.mpr ⟨x, hx, q⟩)
      rw [this]; simp
    · rw [if_neg hk]
      have h3 : ¬ k = k' := fun q => hk q.symm
      simp [h3]
/-- `D[name] = value` -/
theorem d_set {x : Str} {value index : Expr} {px p pos : Pos} {rest : List Stmt} {Q : Fl → Loc → Sto → (Str → Option V) → Nat → Prop} (hx : loc.lookup x = some (.raw (.ref D)))
    (h : ∀ cx', CxD cx D m n cx' → WE cx' sc d value loc sto fun v sto₁ => WE cx' sc d index loc sto₁ fun i sto₂ => ∃ k, i = .str k ∧ flatV v = true ∧ n ≤ sizeLine ∧ WSsD cx sc d D rest loc sto₂ (fun y => if y = k then some v else m y) (n + 1) Q)
    (hk : isVar sc x = true := by rfl) (hd : (x == ("__debug__" : Str)) = false := by decide) : WSsD cx sc d D (.Assign [.Subscript (.Name x px) index p] value pos :: rest) loc sto m n Q := by
  intro env A s ρ F hE hA B f S
  obtain ⟨cx', hc, e1, e2, hA', B', f', back, backF⟩ := S.ext hA B f
  have h' := h cx' hc env A s ρ F hE hA' B' f'
  rw [e1, e2] at h'
  refine wpAny_execs_cons (wpAny_Assign_Subscript (wpAny_mono h' ?_ fun _ _ x => x) swaps_sub)
  rintro y s₀ ⟨v, sto₀, ρ₀, F₀, st₀, r₀, B₀, h₀⟩
  have f₀ := f'.step B' st₀
  have h₀' := h₀ env A s₀ ρ₀ F₀ hE (hA'.step st₀) B₀ f₀
  rw [e1, e2] at h₀'
  have hload := load_var (cx := cx') (A := A) (E := fun _ _ => False) hE f₀ hx hk
    (Q := fun z s₁ => z = .ref D ∧ s₁ = s₀) fun y r => ⟨r, rfl⟩
  rw [e1, e2] at hload
  refine wpAny_Name (wpAny_mono hload ?_ fun _ _ x => x) hd
  rintro z s₁ ⟨rfl, rfl⟩
  refine wpAny_mono h₀' ?_ fun _ _ x => x
  rintro i s₂ ⟨iv, sto₂, ρ₂, F₂, st₂, r₂, B₂, k, rfl, hfl, hn, q⟩
  obtain ⟨t, rfl⟩ := r₂
  obtain ⟨B₃, hS⟩ := back _ _ _ _ B₂
  have st02 := st₀.trans st₂
  have S₃ := hS st02.newF
  have f₃ := f.step B st02
  obtain ⟨o, ho, kvs, hd, hm, hl⟩ := S₃.at'
  refine wpAny_setItem_pairs (strKind_is _ _ _ _) (Heap.dictOf_iff.mpr ⟨o, ho, hd⟩) (fun h' hd' hs' => ?_) (by omega)
  obtain ⟨o', ho', hd''⟩ := Heap.dictOf_iff.mp hd'
  have fl : FlatRel v y := .of hfl r₀
  obtain ⟨es', ep', _, hdat', _⟩ := id hd''
  have st3 : Step (DStep env D) ρ₂ F₂ s₂ ρ₂ F₂ { s₂ with heap := h', toks := s₂.toks + 1 } := .sameBut hs' (.inr rfl) ho' (fun vs q => by rw [hdat'] at q; cases q) (fun _ _ _ => ⟨_, _, hdat'⟩)
  have B4 : Base cx ρ₂ F₂ sto₂ { s₂ with heap := h', toks := s₂.toks + 1 } := B₃.sameBut hs' S₃.notρ S₃.notF S₃.base
  have f4 : Frame cx env ρ₂ F₂ loc { s₂ with heap := h', toks := s₂.toks + 1 } := by
    refine ⟨?_, fun z w h1 h2 => ?_, fun z h2 => ?_, f₃.apart, fun b hb => ?_, f₃.lc⟩
    · obtain ⟨mm, hn, hmm⟩ := f₃.ns
      refine ⟨mm, hn.sameBut hs' (fun q => S.own (.inl q.symm)), fun z w h1 h2 => ?_⟩
      obtain ⟨y', e, r⟩ := hmm z w h1 h2
      exact ⟨y', e, r.sameBut hs' S₃.notF⟩
    · obtain ⟨c, y', e, hc, r⟩ := f₃.cell z w h1 h2
      exact ⟨c, y', e, hc.sameBut hs' (fun q => S.own (.inr ⟨z, q ▸ e⟩)), r.sameBut hs' S₃.notF⟩
    · obtain ⟨c, oc, e, hc⟩ := f₃.cells z h2
      exact ⟨c, oc, e, hc.sameBut hs' (fun q => S.own (.inr ⟨z, q ▸ e⟩))⟩
    · obtain ⟨h1, h2, h3, ob, hob⟩ := f₃.own b hb
      exact ⟨h1, h2, h3, ob, (hs'.2 b (fun q => S.own (q ▸ hb))).trans hob⟩
  have S4 : Side cx env A D (fun y => if y = k then some v else m y) (n + 1) ρ₂ F₂ { s₂ with heap := h', toks := s₂.toks + 1 } := by
    refine ⟨⟨o', ho', _, hd'', fun z => ?_, ?_⟩, S₃.notρ, S₃.notF, S.base, S.own, S.frames, S.sysm⟩
    · by_cases hz : z = k
      · simp only [hz, if_true]
        exact ⟨y, by rw [valueAt_stored, if_pos rfl], fl⟩
      · simp only [hz, if_false]
        have := hm z
        rw [valueAt_stored, if_neg hz]
        exact this
    · have := stored_length_le kvs k y; omega
  refine wpAny_mono (q env A _ ρ₂ F₂ hE (hA.step (st02.dstep0.trans st3)) B4 f4 S4) (fun _ _ p => p.after (st02.dstep0.trans st3)) fun _ _ x => x
end
end Mine

namespace Mine
section
variable {cx : Cx} {sc : Scope} {d : Nat} {loc : Loc} {sto : Sto} {env : Env} {A : Around} {D : Addr} {m : Str → Option V} {n : Nat} {ρ : List Addr} {F : Addr → Prop} {s : Shared}
def LoopD (cx : Cx) (sc : Scope) (d : Nat) (D : Addr) (x : Str) (body : List Stmt) : List V → Loc → Sto → (Str → Option V) → Nat → (Fl → Loc → Sto → (Str → Option V) → Nat → Prop) → Prop
  | [], loc, sto, m, n, Q => Q .next loc sto m n
  | v :: vs, loc, sto, m, n, Q => WSsD cx sc d D body ((x, v) :: loc) sto m n fun fl loc' sto' m' n' => match fl with
      | .next => LoopD cx sc d D x body vs loc' sto' m' n' Q
      | .cont => LoopD cx sc d D x body vs loc' sto' m' n' Q
      | .brk => Q .next loc' sto' m' n'
      | .ret r => Q (.ret r) loc' sto' m' n'
def ThenD (cx : Cx) (sc : Scope) (d : Nat) (D : Addr) (rest : List Stmt) (Q : Fl → Loc → Sto → (Str → Option V) → Nat → Prop) : Fl → Loc → Sto → (Str → Option V) → Nat → Prop :=
  fun fl loc sto m n => match fl with | .next => WSsD cx sc d D rest loc sto m n Q | fl => Q fl loc sto m n
theorem Side.later {wr : List Addr} {h' : Heap} {t : Nat} (S : Side cx env A D m n ρ F s) (hk : ∀ b o, b ∉ wr → s.heap.get? b = some o → h'.get? b = some o) (hw : D ∉ wr) : Side cx env A D m n ρ F { s with heap := h', toks := t } := by
  obtain ⟨⟨o, ho, hd⟩, h1, h2, h3, h4, h5, h6⟩ := S
  exact ⟨⟨o, hk D o hw ho, hd⟩, h1, h2, h3, h4, h5, h6⟩
/-- storing a name leaves the dict -/
theorem Side.store {x : Str} {v : V} {y : Value} (S : Side cx env A D m n ρ F s) (hE : EnvOK sc env A) (B : Base cx ρ F sto s) (f : Frame cx env ρ F loc s) (hA : AOK cx d A s.heap)
    (r : VRel F ρ s.heap v y) (hk : isVar sc x = true) {E : Value → Shared → Prop} {Q : Unit → Shared → Prop}
    (q : ∀ s', Step (Own env) ρ F s ρ F s' → Base cx ρ F sto s' → Frame cx env ρ F ((x, v) :: loc) s' → Side cx env A D m n ρ F s' → Q () s') : wpAny (model cx.prog cx.w) A (storeName env x y) Q E s := by
  obtain ⟨cx', hc, e1, e2, hA', B', f', back, backF⟩ := S.ext hA B f
  have := store_var (cx := cx') (E := E) (Q := Q) hE B' f' r hk fun s' st B₁ f₁ => q s' st (back _ _ _ _ B₁).1 (backF _ _ _ _ f₁) ((back _ _ _ _ B₁).2 fun _ h => .inl h)
  rwa [e1, e2] at this

theorem d_for {x : Str} {iter : Expr} {body rest : List Stmt} {p pos : Pos} {Q : Fl → Loc → Sto → (Str → Option V) → Nat → Prop}
    (h : ∀ cx', CxD cx D m n cx' → WE cx' sc d iter loc sto fun a sto₁ => ∃ xs, ItV cx a sto₁ xs ∧ LoopD cx sc d D x body xs loc sto₁ m n (ThenD cx sc d D rest Q)) (hk : isVar sc x = true := by rfl)
    (hs : noSet iter = true := by rfl) : WSsD cx sc d D (.For (.Name x p) iter body [] pos :: rest) loc sto m n Q := by
  intro env A s ρ F hE hA B f S
  obtain ⟨cx', hc, e1, e2, hA', B', f', back, backF⟩ := S.ext hA B f
  have h' := h cx' hc env A s ρ F hE hA' B' f'
  rw [e1, e2] at h'
  refine wpAny_execs_cons (wpAny_mono (Q := PostSD cx env A D ρ F s (ThenD cx sc d D rest Q)) (E := fun _ _ => False) ?_ ?_ fun _ _ x => x)
  rotate_left
  · rintro fl s₁ ⟨v, loc₁, sto₁, ρ₁, F₁, m₁, n₁, st₁, r₁, B₁, f₁, S₁, h₁⟩
    cases v with
    | next =>
      simp only [FlRel] at r₁
      subst r₁
      exact wpAny_mono (h₁ env A s₁ ρ₁ F₁ hE (hA.step st₁) B₁ f₁ S₁) (fun _ _ p => p.after st₁) fun _ _ x => x
    | brk => simp only [FlRel] at r₁; subst r₁; exact ⟨.brk, loc₁, sto₁, ρ₁, F₁, m₁, n₁, st₁, rfl, B₁, f₁, S₁, h₁⟩
    | cont => simp only [FlRel] at r₁; subst r₁; exact ⟨.cont, loc₁, sto₁, ρ₁, F₁, m₁, n₁, st₁, rfl, B₁, f₁, S₁, h₁⟩
    | ret v =>
      simp only [FlRel] at r₁
      obtain ⟨x, rfl, r₁⟩ := r₁
      exact ⟨.ret v, loc₁, sto₁, ρ₁, F₁, m₁, n₁, st₁, ⟨x, rfl, r₁⟩, B₁, f₁, S₁, h₁⟩
  generalize ThenD cx sc d D rest Q = Q at *
  refine wpAny_For (wpAny_mono h' ?_ fun _ _ x => x) (notSet_folds hs env)
  rintro a s₁ ⟨v, sto₁, ρ₁, F₁, st₁, r₁, B₁', xs, hit, hloop⟩
  obtain ⟨B₁, hS⟩ := back _ _ _ _ B₁'
  have S₁ := hS st₁.newF
  refine wpAny_mono (hit A s₁ ρ₁ F₁ a hA.handled B₁ r₁) ?_ fun _ _ x => x
  rintro it s₂ ⟨I, fp, wr, P, St, h₀, tk, rfl, rfl, hkeep, ok, hst⟩
  have f₁ := f.step B st₁
  let Inv : Nat → Shared → Prop := fun k s' => ∃ i ρ' F' loc' sto' m' n', k = xs.length - i ∧ i ≤ xs.length ∧ Step (DStep env D) ρ₁ F₁ s₁ ρ' F' s' ∧ Base cx ρ' F' sto' s' ∧ Frame cx env ρ' F' loc' s' ∧
    Side cx env A D m' n' ρ' F' s' ∧ St i s'.heap ∧ (∀ b ∈ wr, b ∉ ρ' ∧ ¬ F' b) ∧ LoopD cx sc d D x body (xs.drop i) loc' sto' m' n' Q
  have wrBase : ∀ b ∈ wr, cx.base.get? b = none := fun b hb => by
    cases e : cx.base.get? b with
    | none => rfl
    | some o => have := B₁.stays b o e; rw [ok.fresh b hb] at this; cases this
  have wrOwn : ∀ b ∈ wr, ¬ Own env b := fun b hb ho => by
    obtain ⟨_, _, _, o, e⟩ := f₁.own b ho
    rw [ok.fresh b hb] at e; cases e
  have wrD : D ∉ wr := fun hb => by
    obtain ⟨o, e, _⟩ := S₁.at'
    rw [ok.fresh D hb] at e; cases e
  have wrρ : ∀ b ∈ wr, b ∉ ρ₁ := fun b hb hm => by
    obtain ⟨i, hi⟩ := List.getElem?_of_mem hm
    have hlt : i < ρ₁.length := (List.getElem?_eq_some_iff.mp hi).1
    obtain ⟨items, ⟨n, ho⟩, _⟩ := B₁.objs i b (sto₁[i]'(B₁.len ▸ hlt)) hi (List.getElem?_eq_getElem _)
    rw [ok.fresh b hb] at ho; cases ho
  have wrF : ∀ b ∈ wr, ¬ F₁ b := fun b hb hF => by
    obtain ⟨o, ho⟩ := B₁.live b hF
    rw [ok.fresh b hb] at ho; cases ho
  have start : Inv xs.length { s₁ with heap := h₀, toks := tk } := by
    refine ⟨0, ρ₁, F₁, loc, sto₁, m, n, rfl, Nat.zero_le _, Step.later (wr := []) Step.refl (fun b o _ e => hkeep b o e) (fun _ h => nomatch h), B₁.later (wr := []) (fun b o _ e => hkeep b o e) (fun _ h => nomatch h),
      f₁.later (wr := []) (fun b o _ e => hkeep b o e) (fun _ h => nomatch h), S₁.later (wr := []) (fun b o _ e => hkeep b o e) (fun h => nomatch h), hst, fun b hb => ⟨wrρ b hb, wrF b hb⟩, hloop⟩
  refine codeAny_forLoop_any Inv ?_ xs.length start
  rintro k s' ⟨i, ρ', F', loc', sto', m', n', rfl, hi, st', B', f', S', hst', hwr, hl⟩
  have hall : ∀ b ∈ wr, b ∉ ρ' ∧ ¬ F' b ∧ cx.base.get? b = none := fun b hb => ⟨(hwr b hb).1, (hwr b hb).2, wrBase b hb⟩
  have dF : ∀ a, DStep env D a → ¬ F₁ a := fun a h => by
    rcases h with h | rfl
    · exact f₁.noF a h
    · exact S₁.notF
  by_cases hlt : i < xs.length
  · refine ok.walk.item i s' _ _ hlt hst' fun y h' tk' hP hst₂ hk₂ => ?_
    obtain ⟨v', hv', rv⟩ := ok.rel i y hlt hP
    have hgi : xs[i] = v' := by rw [List.getElem?_eq_getElem hlt] at hv'; exact Option.some.inj hv'
    rw [List.drop_eq_getElem_cons hlt, hgi] at hl
    unfold LoopD at hl
    have st₂ : Step (DStep env D) ρ₁ F₁ s₁ ρ' F' { s' with heap := h', toks := tk' } := st'.later hk₂ ok.fresh
    have B₂ := B'.later (t := tk') hk₂ hall
    have f₂ := f'.later (t := tk') hk₂ fun b hb => ⟨wrOwn b hb, (hwr b hb).2⟩
    have S₂ := S'.later (t := tk') hk₂ wrD
    refine wpAny_pure (a := ()) ?_
    have hA₂ := (hA.step st₁).step st₂
    refine wpAny_assign_Name (S₂.store hE B₂ f₂ hA₂ (st₂.vrel B₁ dF rv) hk fun s₃ st₃ B₃ f₃ S₃ => ?_)
    refine wpAny_mono (hl env A s₃ ρ' F' hE (hA₂.step st₃) B₃ f₃ S₃) ?_ fun _ _ x => x.elim
    rintro g s₄ ⟨fl, loc₄, sto₄, ρ₄, F₄, m₄, n₄, st₄, r₄, B₄, f₄, S₄, q₄⟩
    have st₃₄ := st₃.dstep.trans st₄
    have st₅ : Step (DStep env D) ρ₁ F₁ s₁ ρ₄ F₄ s₄ := st₂.trans st₃₄
    have keepfp : ∀ b ∈ fp, ∀ o, h'.get? b = some o → s₄.heap.get? b = some o := fun b hb o e => by
      have hb' : b ∉ ρ' ∧ ¬ DStep env D b := by
        rcases ok.prot b hb with h | h
        · exact ⟨(hwr b h).1, fun q => q.elim (wrOwn b h) fun q => wrD (q ▸ h)⟩
        · exact ⟨B'.disj b (st'.sub b h), fun q => q.elim (fun q => (f'.own b q).2.1 (st'.sub b h)) fun q => S'.notF (q ▸ st'.sub b h)⟩
      obtain ⟨o', e', k'⟩ := st₃₄.kept b o hb'.1 hb'.2 e
      rw [k'.same (ok.nd _ _ hst₂ b hb o e)] at e'
      exact e'
    have hst₄ : St (i + 1) s₄.heap := ok.walk.frame _ _ _ hst₂ keepfp
    have hwr₄ : ∀ b ∈ wr, b ∉ ρ₄ ∧ ¬ F₄ b := fun b hb => by
      obtain ⟨o, vs, e, _⟩ := ok.fld _ _ hst₂ b hb
      refine ⟨fun h => ?_, fun h => ?_⟩
      · rcases st₃₄.newr b h with h | h
        · exact (hwr b hb).1 h
        · have h : h'.get? b = none := h
          rw [h] at e; cases e
      · rcases st₃₄.newF b h with h | h
        · exact (hwr b hb).2 h
        · have h : h'.get? b = none := h
          rw [h] at e; cases e
    cases fl with
    | next =>
      simp only [FlRel] at r₄; subst r₄
      exact ⟨xs.length - (i + 1), by omega, i + 1, ρ₄, F₄, loc₄, sto₄, m₄, n₄, rfl, hlt, st₅, B₄, f₄, S₄, hst₄, hwr₄, q₄⟩
    | cont =>
      simp only [FlRel] at r₄; subst r₄
      exact ⟨xs.length - (i + 1), by omega, i + 1, ρ₄, F₄, loc₄, sto₄, m₄, n₄, rfl, hlt, st₅, B₄, f₄, S₄, hst₄, hwr₄, q₄⟩
    | brk =>
      simp only [FlRel] at r₄; subst r₄
      exact ⟨.next, loc₄, sto₄, ρ₄, F₄, m₄, n₄, st₁.dstep0.trans st₅, rfl, B₄, f₄, S₄, q₄⟩
    | ret r =>
      simp only [FlRel] at r₄
      obtain ⟨z, rfl, rz⟩ := r₄
      exact ⟨.ret r, loc₄, sto₄, ρ₄, F₄, m₄, n₄, st₁.dstep0.trans st₅, ⟨z, rfl, rz⟩, B₄, f₄, S₄, q₄⟩
  · obtain rfl : i = xs.length := by omega
    refine ok.walk.done s' _ _ hst' fun h' tk' hk₂ => ?_
    rw [List.drop_length] at hl
    exact wpAny_execs_nil ⟨.next, loc', sto', ρ', F', m', n', st₁.dstep0.trans (st'.later hk₂ ok.fresh), rfl, B'.later hk₂ hall, f'.later hk₂ fun b hb => ⟨wrOwn b hb, (hwr b hb).2⟩, S'.later hk₂ wrD, hl⟩

/-- by what holds before turn i -/
theorem LoopD.up {x : Str} {body : List Stmt} {Q : Fl → Loc → Sto → (Str → Option V) → Nat → Prop} (I : Nat → Loc → Sto → (Str → Option V) → Nat → Prop) {b : Nat}
    (hstep : ∀ (i : Nat) loc sto m n, i < b → I i loc sto m n → WSsD cx sc d D body ((x, .int (i : Int)) :: loc) sto m n fun fl loc' sto' m' n' => match fl with
      | .next => I (i + 1) loc' sto' m' n'
      | .cont => I (i + 1) loc' sto' m' n'
      | .brk => Q .next loc' sto' m' n'
      | .ret r => Q (.ret r) loc' sto' m' n')
    (hend : ∀ loc sto m n, I b loc sto m n → Q .next loc sto m n) (h0 : I 0 loc sto m n) : LoopD cx sc d D x body (rngV 0 (b : Int) 1) loc sto m n Q := by
  have key : ∀ (k : Nat) (ys : List V), ys = (rngV 0 (b : Int) 1).drop k → k ≤ b → ∀ loc sto m n, I k loc sto m n → LoopD cx sc d D x body ys loc sto m n Q := by
    intro k ys
    have hlen : (rngV 0 (b : Int) 1).length = b := by rw [rngV_length]; omega
    induction ys generalizing k with
    | nil =>
      intro e hk loc sto m n h
      have : k = b := by
        have := congrArg List.length e
        simp [hlen] at this; omega
      subst this
      exact hend _ _ _ _ h
    | cons y ys ih =>
      intro e hk loc sto m n h
      have hk' : k < (rngV 0 (b : Int) 1).length := by
        have := congrArg List.length e
        simp at this; omega
      rw [List.drop_eq_getElem_cons hk'] at e
      obtain ⟨rfl, e2⟩ := List.cons.inj e
      obtain ⟨hv, _⟩ := rngV_get (List.getElem?_eq_getElem hk')
      rw [hv, Int.zero_add]
      unfold LoopD
      refine (hstep k loc sto m n (by omega) h).mono fun fl l st m n q => ?_
      cases fl with
      | next => exact ih (k + 1) e2 (by omega) _ _ _ _ q
      | cont => exact ih (k + 1) e2 (by omega) _ _ _ _ q
      | brk => exact q
      | ret r => exact q
  exact key 0 _ (by simp) (Nat.zero_le _) loc sto m n h0

theorem keeps_push {o : Obj} : ∀ b x, s.heap.get? b = some x → (s.heap.push o).get? b = some x := fun _ _ e => Heap.get?_push_of_some _ e
theorem get_size : s.heap.get? s.heap.objs.size = none := by
  cases e : s.heap.get? s.heap.objs.size with
  | none => rfl
  | some o => exact absurd (Heap.lt_size e) (Nat.lt_irrefl _)
theorem low_modules (cx : Cx) {F : Addr → Prop} (B : Base cx ρ F sto s) : sysModules < s.heap.objs.size := by
  obtain ⟨_, ⟨o, _, _, ho, _⟩, _⟩ := cx.top.nodigits
  exact Nat.lt_trans (by decide) (Heap.lt_size (B.stays _ _ ho))
/-- a dict is made -/
theorem DObj.new (cx : Cx) : DObj cx { cls := .type "dict", data := .dict #[] } (fun _ => none) 0 :=
  ⟨[], ⟨#[], 0, ⟨rfl, rfl, rfl⟩, rfl, fun _ he => by simp at he, Pairs.nil, List.nodup_nil⟩, fun _ => rfl, Nat.le_refl _⟩
theorem Side.new (hA : AOK cx d A s.heap) (B : Base cx ρ F sto s) (f : Frame cx env ρ F loc s) :
    Side cx env A s.heap.objs.size (fun _ => none) 0 ρ F { s with heap := s.heap.push { cls := .type "dict", data := .dict #[] } } := by
  refine ⟨⟨_, Heap.get?_push_size _ rfl, .new cx⟩, fun h => ?_, fun h => ?_, ?_, fun h => ?_, fun outer h1 e he L hL q => ?_, ?_⟩
  · obtain ⟨i, hi⟩ := List.getElem?_of_mem h
    have hlt : i < ρ.length := (List.getElem?_eq_some_iff.mp hi).1
    obtain ⟨items, ⟨n, ho⟩, _⟩ := B.objs i _ (sto[i]'(B.len ▸ hlt)) hi (List.getElem?_eq_getElem _)
    rw [get_size] at ho; cases ho
  · obtain ⟨o, ho⟩ := B.live _ h
    rw [get_size] at ho; cases ho
  · cases e : cx.base.get? s.heap.objs.size with
    | none => rfl
    | some o => have := B.stays _ o e; rw [get_size] at this; cases this
  · obtain ⟨_, _, _, o, e⟩ := f.own _ h
    rw [get_size] at e; cases e
  · obtain ⟨outer', h1', _, h3⟩ := hA.frames
    rw [h1] at h1'; cases h1'
    obtain ⟨o, es, n, e1, _⟩ := h3 e he L hL
    rw [q, get_size] at e1; cases e1
  · exact beq_eq_false_iff_ne.mpr (Nat.ne_of_gt (low_modules cx B))
theorem d_new {x : Str} {p dp pos : Pos} {rest : List Stmt} {Q : Fl → Loc → Sto → Prop}
    (h : ∀ D, WSsD cx sc d D rest ((x, .raw (.ref D)) :: loc) sto (fun _ => none) 0 fun fl loc' sto' _ _ => Q fl loc' sto') (hk : isVar sc x = true := by rfl) :
    WSs cx sc d (.Assign [.Name x p] (.Dict [] [] dp) pos :: rest) loc sto Q := by
  intro env A s ρ F hE hA B f
  refine wpAny_execs_cons (wpAny_Assign_Name (wpAny_Dict_empty ?_) (swaps_false rfl))
  have hk0 : ∀ b o, b ∉ ([] : List Addr) → s.heap.get? b = some o → (s.heap.push { cls := .type "dict", data := .dict #[] }).get? b = some o := fun b o _ e => keeps_push b o e
  have st₁ : Step (Own env) ρ F s ρ F { s with heap := s.heap.push { cls := .type "dict", data := .dict #[] }, toks := s.toks } := Step.later (wr := []) Step.refl hk0 (fun _ h => nomatch h)
  have B₁ : Base cx ρ F sto { s with heap := s.heap.push { cls := .type "dict", data := .dict #[] }, toks := s.toks } := B.later (wr := []) hk0 (fun _ h => nomatch h)
  have f₁ : Frame cx env ρ F loc { s with heap := s.heap.push { cls := .type "dict", data := .dict #[] }, toks := s.toks } := f.later (wr := []) hk0 (fun _ h => nomatch h)
  refine (Side.new hA B f).store (v := .raw (.ref s.heap.objs.size)) hE B₁ f₁ (hA.step st₁) rfl hk fun s₂ st₂ B₂ f₂ S₂ => ?_
  refine wpAny_mono (h _ env A s₂ ρ F hE ((hA.step st₁).step st₂) B₂ f₂ S₂) ?_ fun _ _ x => x
  rintro fl s' ⟨v, loc₁, sto₁, ρ₁, F₁, m₁, n₁, st₃, r₃, B₃, f₃, S₃, h₃⟩
  have st := (st₁.trans st₂).dstep.trans st₃
  exact ⟨v, loc₁, sto₁, ρ₁, F₁, ⟨st.pre, st.sub, st.newr, st.newF, fun b o hb hw e => st.kept b o hb (fun q => q.elim hw fun q => by rw [q, get_size] at e; cases e) e, st.alive⟩, r₃, B₃, f₃, h₃⟩
end
end Mine

open PySem.Builtin.Str (Writer Percent percentInt percentField percentFormat percentKey)
namespace Mine
/-! % at the level of V -/
structure SpecV (spec : List Nat) (v : V) (text : List Nat) : Prop where
  flat : flatV v = true
  is : ∀ x, FlatRel v x → Spec spec x text
structure PV where
  key : List Nat
  spec : List Nat
  v : V
  text : List Nat
def codesV : List (Option PV) → List Nat
  | [] => []
  | none :: ps => 37 :: 37 :: ([124] ++ codesV ps)
  | some p :: ps => 37 :: (p.spec ++ ([124] ++ codesV ps))
def valsV : List (Option PV) → List V
  | [] => []
  | none :: ps => valsV ps
  | some p :: ps => p.v :: valsV ps
def outV : List (Option PV) → List Nat
  | [] => []
  | none :: ps => 37 :: 124 :: outV ps
  | some p :: ps => p.text ++ 124 :: outV ps
def codesN : List (Option PV) → List Nat
  | [] => []
  | none :: ps => 37 :: 37 :: ([124] ++ codesN ps)
  | some p :: ps => 37 :: 40 :: (p.key ++ 41 :: (p.spec ++ ([124] ++ codesN ps)))
def GoodV (ps : List (Option PV)) : Prop := ∀ p, some p ∈ ps → SpecV p.spec p.v p.text ∧ KeyOK p.key
theorem GoodV.tail {p : Option PV} {ps : List (Option PV)} (h : GoodV (p :: ps)) : GoodV ps := fun q hq => h q (List.mem_cons_of_mem _ hq)
theorem flat_some {v : V} (h : flatV v = true) : ∃ x, FlatRel v x := by
  cases v with
  | int i => exact ⟨.int i 0, .inl ⟨i, 0, rfl, rfl⟩⟩
  | str u => exact ⟨.str u 0, .inr ⟨u, 0, rfl, rfl⟩⟩
  | _ => cases h
section
variable {cx : Cx} {d : Nat} {sto : Sto} {F : Addr → Prop} {ρ : List Addr} {h : Heap}
theorem raise_parts : ∀ (ps : List (Option PV)) (xs : List Value), GoodV ps → VRels F ρ h (valsV ps) xs → ∃ qs : List (Option Prt), codesP qs = codesV ps ∧ valsP qs = xs ∧ outP qs = outV ps ∧ GoodP qs
  | [], xs, _, r => by simp only [valsV, VRels] at r; subst r; exact ⟨[], rfl, rfl, rfl, fun _ h => nomatch h⟩
  | none :: ps, xs, g, r => by
    obtain ⟨qs, h1, h2, h3, h4⟩ := raise_parts ps xs g.tail r
    refine ⟨none :: qs, by simp [codesP, codesV, h1], by simpa [valsP] using h2, by simp [outP, outV, h3], fun p hp => ?_⟩
    rcases List.mem_cons.mp hp with q | q
    · cases q
    · exact h4 p q
  | some p :: ps, xs, g, r => by
    simp only [valsV, VRels] at r
    obtain ⟨y, ys, rfl, r1, r2⟩ := r
    obtain ⟨qs, h1, h2, h3, h4⟩ := raise_parts ps ys g.tail r2
    have sp := (g p List.mem_cons_self).1
    refine ⟨some ⟨p.spec, y, p.text⟩ :: qs, by simp [codesP, codesV, h1], by simp [valsP, h2], by simp [outP, outV, h3], fun q hq => ?_⟩
    rcases List.mem_cons.mp hq with e | e
    · cases e; exact sp.is y (.of sp.flat r1)
    · exact h4 q e
theorem vals_snoc : ∀ (vs : List V) (v : V) (xs : List Value), VRels F ρ h (vs ++ [v]) xs → ∃ ys y, xs = ys ++ [y] ∧ VRels F ρ h vs ys ∧ VRel F ρ h v y
  | [], v, xs, r => by
    simp only [List.nil_append, VRels] at r
    obtain ⟨y, ys, rfl, r1, r2⟩ := r
    subst r2
    exact ⟨[], y, rfl, by simp [VRels], r1⟩
  | u :: vs, v, xs, r => by
    simp only [List.cons_append, VRels] at r
    obtain ⟨y, ys, rfl, r1, r2⟩ := r
    obtain ⟨zs, z, rfl, r3, r4⟩ := vals_snoc vs v ys r2
    exact ⟨y :: zs, z, rfl, by simp only [VRels]; exact ⟨y, zs, rfl, r1, r3⟩, r4⟩
theorem flat_last : ∀ (ps : List (Option PV)), GoodV ps → valsV ps ≠ [] → ∃ vs v, valsV ps = vs ++ [v] ∧ flatV v = true := by
  intro ps g hne
  refine ⟨(valsV ps).dropLast, (valsV ps).getLast hne, (List.dropLast_concat_getLast hne).symm, ?_⟩
  have key : ∀ (ps : List (Option PV)), GoodV ps → ∀ v ∈ valsV ps, flatV v = true := by
    intro ps
    induction ps with
    | nil => intro _ v hv; simp [valsV] at hv
    | cons p ps ih =>
      intro g v hv
      cases p with
      | none => exact ih g.tail v hv
      | some p =>
        rcases List.mem_cons.mp hv with rfl | hv
        · exact (g p List.mem_cons_self).1.flat
        · exact ih g.tail v hv
  exact key ps g _ (List.getLast_mem hne)
theorem ok_tuple {codes : List Nat} {vs : List V} {Q : V → Sto → Prop} (out : List Nat)
    (h : ∀ (A : Around) (s : Shared) (ρ : List Addr) (F : Addr → Prop) (xs : List Value) (E : Value → Shared → Prop) (f : FS) (P : List Value × Writer × List Nat → Shared → Prop), A.handled = none → VRels F ρ s.heap vs xs → Steps cx.prog cx.w A E (tx codes) f →
      (∀ w' N' k', KPc.Good w' (tx out) N' → N' ≤ 16777216 → P ([], w', []) { s with toks := k' }) → wpAny (model cx.prog cx.w) A (forIn (List.range' 0 (tx codes).length 1) (xs, ({} : Writer), codes) f) P E s)
    (q : Q (.str (tx out)) sto) : Op2 cx d (inplaceOp .Mod) (.str (tx codes)) (.tup vs) sto Q := by
  intro A s ρ F x y hA B r₁ r₂
  obtain ⟨t, rfl⟩ := r₁
  simp only [VRel] at r₂
  obtain ⟨a, items, rfl, hF, ⟨o, ho, hc, n, hd⟩, r⟩ := r₂
  refine ip_mod (U := "tuple") (by decide) ⟨o, ho, hc⟩ KPt.fills_tuple (fun e => nomatch e) (KPt.entry_is_r _ _ _) (pf_tuple ho hc hd fun f hs => ?_)
  rw [tx_list]
  refine h A.in1 s ρ F items.toList _ f _ hA.handled r hs fun w' N' k' g' hN' => ⟨fun _ => ?_, fun hne => absurd rfl hne⟩
  exact KPc.finish_ok g' hN' rfl fun t k => ⟨_, rfl, by simp, PostV.imm B (v := .str (tx _)) ⟨t, rfl⟩ q k⟩
theorem mod_parts {ps : List (Option PV)} {Q : V → Sto → Prop} (g : GoodV ps) (hl : 2 ≤ (codesV ps).length) (hN : (outV ps).length ≤ 16777216) (q : Q (.str (tx (outV ps))) sto) : Op2 cx d (inplaceOp .Mod) (.str (tx (codesV ps))) (.tup (valsV ps)) sto Q := by
  refine ok_tuple (outV ps) (fun A s ρ F xs E f P hh r hs hP => ?_) q
  obtain ⟨qs, h1, h2, h3, h4⟩ := raise_parts ps xs g r
  rw [← h3] at hN hP
  have := loop_parts (p0 := []) (s := s) hs (by rw [tx_len]; exact hl) qs {} [] 0 s.toks (List.range' 0 (tx (codesV ps)).length 1) h4 KPc.good0 (by omega) (by rw [List.length_range', tx_len, h1]; exact Nat.le_refl _) (by simpa using hP)
  rw [h1, h2, List.append_nil] at this
  exact this
theorem mod_dbl {t : List Nat} {Q : V → Sto → Prop} (hN : t.length ≤ 16777216) (q : Q (.str (tx t)) sto) : Op2 cx d (inplaceOp .Mod) (.str (tx (dbl t))) (.tup []) sto Q := by
  refine ok_tuple t (fun A s ρ F xs E f P hh r hs hP => ?_) q
  simp only [VRels] at r
  subst r
  exact loop_dbl hs t.length t [] {} [] 0 _ (Nat.le_refl _) (by rw [tx_list]; rfl) KPc.good0 (by omega) (by rw [List.length_range', tx_len]; exact Nat.le_refl _) (fun w' N' g' hN' => hP w' N' s.toks (by simpa using g') hN')
theorem mod_one_t {spec text : List Nat} {v : V} {Q : V → Sto → Prop} (sp : SpecV spec v text) (hN : text.length ≤ 16777216) (q : Q (.str (tx text)) sto) : Op2 cx d (inplaceOp .Mod) (.str (tx (37 :: spec))) (.tup [v]) sto Q := by
  refine ok_tuple text (fun A s ρ F xs E f P hh r hs hP => ?_) q
  simp only [VRels] at r
  obtain ⟨y, ys, rfl, r1, rfl⟩ := r
  exact loop_one hs (sp.is y (.of sp.flat r1)) hN _ (by rw [List.length_range', tx_len]; simp) hP
theorem mod_one {spec text : List Nat} {v : V} {Q : V → Sto → Prop} (sp : SpecV spec v text) (hN : text.length ≤ 16777216) (q : Q (.str (tx text)) sto) : Op2 cx d (inplaceOp .Mod) (.str (tx (37 :: spec))) v sto Q := by
  intro A s ρ F x y hA B r₁ r₂
  obtain ⟨t, rfl⟩ := r₁
  rcases FlatRel.of sp.flat r₂ with ⟨i, u, rfl, rfl⟩ | ⟨z, u, rfl, rfl⟩
  · refine ip_mod (U := "int") (by decide) (typeIs_int s i u) PySem.F.fills_int_mod (fun _ => sub_int_str') (KPc.entry_is _ _ _ _) (pf_int fun f hs => ?_)
    rw [tx_list]
    refine loop_one hs (sp.is _ (.of sp.flat r₂)) hN _ (by rw [List.length_range', tx_len]; simp) fun w' N' k' g' hN' => ⟨fun _ => ?_, fun hne => absurd rfl hne⟩
    exact KPc.finish_ok g' hN' rfl fun t k => ⟨_, rfl, by simp, PostV.imm B (v := .str (tx _)) ⟨t, rfl⟩ q k⟩
  · refine ip_mod_str (pf_str fun f hs => ?_)
    rw [tx_list]
    refine loop_one hs (sp.is _ (.of sp.flat r₂)) hN _ (by rw [List.length_range', tx_len]; simp) fun w' N' k' g' hN' => ⟨fun _ => ?_, fun hne => absurd rfl hne⟩
    exact KPc.finish_ok g' hN' rfl fun t k => ⟨_, rfl, by simp, PostV.imm B (v := .str (tx _)) ⟨t, rfl⟩ q k⟩
theorem loop_parts_eq {prog : Program} {W : World} {A : Around} {E : Value → Shared → Prop} {X : PySem.Str} {f : FS} {s : Shared} {Q : List Value × Writer × List Nat → Shared → Prop} {p0 vs : List Value} {c : List Nat} (qs : List (Option Prt)) (hs : Steps prog W A E X f) (hX : 2 ≤ X.length)
    (hc : c = codesP qs) (hv : vs = valsP qs ++ p0) (g : GoodP qs) (hN : (outP qs).length ≤ 16777216) (l : List Nat) (hl : c.length ≤ l.length)
    (q : ∀ w' N' k', KPc.Good w' (tx (outP qs)) N' → N' ≤ 16777216 → Q (p0, w', []) { s with toks := k' }) : wpAny (model prog W) A (forIn l (vs, ({} : Writer), c) f) Q E s := by
  subst hc hv
  exact loop_parts (s := s) hs hX qs {} [] 0 s.toks l g KPc.good0 (by omega) hl (by simpa using q)
/-- one value more -/
theorem mod_more {ps : List (Option PV)} {i : Int} (g : GoodV ps) (hl : 2 ≤ (codesV ps).length) (hN : (outV ps).length ≤ 16777216) : Op2X cx d (inplaceOp .Mod) (.str (tx (codesV ps))) (.tup (valsV ps ++ [.int i])) sto "TypeError" := by
  intro A s ρ F x y hA B r₁ r₂
  obtain ⟨t, rfl⟩ := r₁
  simp only [VRel] at r₂
  obtain ⟨a, items, rfl, hF, ⟨o, ho, hc, n, hd⟩, r⟩ := r₂
  refine ip_mod (U := "tuple") (by decide) ⟨o, ho, hc⟩ KPt.fills_tuple (fun e => nomatch e) (KPt.entry_is_r _ _ _) (pf_tuple ho hc hd fun f hs => ?_)
  rw [tx_list]
  obtain ⟨ys, z, e, r3, r4⟩ := vals_snoc _ _ _ r
  obtain ⟨qs, h1, h2, h3, h4⟩ := raise_parts ps ys g r3
  rw [← h3] at hN
  exact loop_parts_eq (p0 := [z]) qs hs (by rw [tx_len]; exact hl) h1.symm (by rw [h2, e]) h4 hN _ (by rw [List.length_range', tx_len]; exact Nat.le_refl _)
    (fun w' N' k' g' hN' => ⟨fun e => (nomatch e), fun _ => ⟨hA.handled, fun h' tk e hx => ⟨e, h', tk, rfl, rfl, hx⟩⟩⟩)
/-- one value less -/
theorem mod_few {ps : List (Option PV)} (g : GoodV ps) (hne : valsV ps ≠ []) (hl : 2 ≤ (codesV ps).length) (hN : (outV ps).length ≤ 16777216) : Op2X cx d (inplaceOp .Mod) (.str (tx (codesV ps))) (.tup (valsV ps).dropLast) sto "TypeError" := by
  intro A s ρ F x y hA B r₁ r₂
  obtain ⟨t, rfl⟩ := r₁
  simp only [VRel] at r₂
  obtain ⟨a, items, rfl, hF, ⟨o, ho, hc, n, hd⟩, r⟩ := r₂
  refine ip_mod (U := "tuple") (by decide) ⟨o, ho, hc⟩ KPt.fills_tuple (fun e => nomatch e) (KPt.entry_is_r _ _ _) (pf_tuple ho hc hd fun f hs => ?_)
  rw [tx_list]
  obtain ⟨vs, v, ev, hv⟩ := flat_last ps g hne
  obtain ⟨z, hz⟩ := flat_some hv
  have r' : VRels F ρ s.heap (valsV ps) (items.toList ++ [z]) := by
    rw [ev] at r ⊢
    rw [List.dropLast_concat] at r
    refine r.append ?_
    simp only [VRels]
    exact ⟨z, [], rfl, hz.vrel F ρ s.heap, rfl⟩
  obtain ⟨qs, h1, h2, h3, h4⟩ := raise_parts ps _ g r'
  rw [← h3] at hN
  have := loop_few (s := s) (Q := fun st s' => (st.1 = [] → wpAny (model cx.prog cx.w) A.in1 (st.2.1.finish "str.__mod__") (fun r s' => ∃ v, r = .done (.ret v) ∧ v ≠ .notImplemented ∧ False) (XP s "TypeError") s') ∧ (st.1 ≠ [] → A.in1.handled = none ∧ ∀ h' tk e, Heap.NewExc s'.heap h' e "TypeError" → XP s "TypeError" (.ref e) { s' with heap := h', toks := tk })) hs (by rw [tx_len]; exact hl) hA.handled (fun h' tk e hx => ⟨e, h', tk, rfl, rfl, hx⟩) qs {} [] 0 s.toks (List.range' 0 (tx (codesV ps)).length 1) (by rw [h2]; simp) h4 KPc.good0 (by omega) (by rw [List.length_range', tx_len, h1]; exact Nat.le_refl _)
  rw [h1, h2, List.dropLast_concat] at this
  exact this
/-! what doesn't go -/
theorem XP.op {s : Shared} {X : PySem.Str} {A : Around} {t : Tok} {b : Value} {cls : String} (h : wpAny (model cx.prog cx.w) A (percentFormat (.str X t) X b) (fun _ _ => False) (XP s cls) s) :
    wpAny (model cx.prog cx.w) A (percentFormat (.str X t) X b) (fun r _ => ∃ v, r = .done (.ret v) ∧ v ≠ .notImplemented ∧ False) (XP s cls) s := wpAny_mono h (fun _ _ q => q.elim) fun _ _ q => q
theorem x_d_a {y : Str} : Op2X cx d (inplaceOp .Mod) (.str (tx [37, 100])) (.str y) sto "TypeError" := by
  intro A s ρ F x z hA B r₁ r₂
  obtain ⟨t, rfl⟩ := r₁
  obtain ⟨u, rfl⟩ := r₂
  exact ip_mod_str (XP.op (xd_str hA.handled))
theorem x_x_a {y : Str} : Op2X cx d (inplaceOp .Mod) (.str (tx [37, 120])) (.str y) sto "TypeError" := by
  intro A s ρ F x z hA B r₁ r₂
  obtain ⟨t, rfl⟩ := r₁
  obtain ⟨u, rfl⟩ := r₂
  exact ip_mod_str (XP.op (xx_str hA.handled))
theorem x_5_none : Op2X cx d (inplaceOp .Mod) (.str (tx [37, 53, 100])) .none sto "TypeError" := by
  intro A s ρ F x z hA B r₁ r₂
  obtain ⟨t, rfl⟩ := r₁
  simp only [VRel] at r₂
  subst r₂
  exact ip_mod (U := "NoneType") (by decide) rfl nf_none_mod' (fun e => nomatch e) (entry_none _ _) (XP.op (x5_none hA.handled))
theorem x_k_int {i : Int} : Op2X cx d (inplaceOp .Mod) (.str (tx [37, 40, 107, 41, 100])) (.int i) sto "TypeError" := by
  intro A s ρ F x z hA B r₁ r₂
  obtain ⟨t, rfl⟩ := r₁
  obtain ⟨u, rfl⟩ := r₂
  exact ip_mod (U := "int") (by decide) (typeIs_int s i u) PySem.F.fills_int_mod (fun _ => sub_int_str') (KPc.entry_is _ _ _ _) (XP.op (xk_int hA.handled))
theorem x_k_tup {vs : List V} : Op2X cx d (inplaceOp .Mod) (.str (tx [37, 40, 107, 41, 100])) (.tup vs) sto "TypeError" := by
  intro A s ρ F x z hA B r₁ r₂
  obtain ⟨t, rfl⟩ := r₁
  simp only [VRel] at r₂
  obtain ⟨a, items, rfl, hF, ⟨o, ho, hc, n, hd⟩, r⟩ := r₂
  exact ip_mod (U := "tuple") (by decide) ⟨o, ho, hc⟩ KPt.fills_tuple (fun e => nomatch e) (KPt.entry_is_r _ _ _) (XP.op (xk_tup ho hc hd hA.handled))
theorem x_p_int {i : Int} : Op2X cx d (inplaceOp .Mod) (.str (tx [37])) (.int i) sto "ValueError" := by
  intro A s ρ F x z hA B r₁ r₂
  obtain ⟨t, rfl⟩ := r₁
  obtain ⟨u, rfl⟩ := r₂
  exact ip_mod (U := "int") (by decide) (typeIs_int s i u) PySem.F.fills_int_mod (fun _ => sub_int_str') (KPc.entry_is _ _ _ _) (XP.op (xp_int hA.handled))
theorem x_y_int {i : Int} : Op2X cx d (inplaceOp .Mod) (.str (tx [37, 121])) (.int i) sto "ValueError" := by
  intro A s ρ F x z hA B r₁ r₂
  obtain ⟨t, rfl⟩ := r₁
  obtain ⟨u, rfl⟩ := r₂
  exact ip_mod (U := "int") (by decide) (typeIs_int s i u) PySem.F.fills_int_mod (fun _ => sub_int_str') (KPc.entry_is _ _ _ _) (XP.op (xy_int hA.handled))
end
end Mine

open PySem.Builtin.Str (Writer Percent percentInt percentField percentFormat percentKey)
namespace Mine
/-! % with a dict -/
def HasD (cx : Cx) (D : Addr) (m : Str → Option V) : Prop := (D == sysModules) = false ∧ ∃ o n, cx.base.get? D = some o ∧ DObj cx o m n
theorem CxD.has {cx cx' : Cx} {D : Addr} {m : Str → Option V} {n : Nat} (h : CxD cx D m n cx') : HasD cx' D m := by
  obtain ⟨h0, hp, hk, o, rfl, ho, hd⟩ := h
  exact ⟨h0, o, n, ho, hd⟩
section
variable {cx : Cx} {d : Nat} {sto : Sto} {D : Addr} {m : Str → Option V}
theorem raise_named {kvs : List (Str × Value)} (hm : MRel kvs m) : ∀ (ps : List (Option PV)), GoodV ps → (∀ p, some p ∈ ps → m (tx p.key) = some p.v) →
    ∃ qs : List (Option KPrt), codesK qs = codesN ps ∧ outK qs = outV ps ∧ GoodK qs ∧ ∀ q, some q ∈ qs → valueAt kvs (tx q.key) = some q.v
  | [], _, _ => ⟨[], rfl, rfl, fun _ h => (nomatch h), fun _ h => (nomatch h)⟩
  | none :: ps, g, hk => by
    obtain ⟨qs, h1, h2, h3, h4⟩ := raise_named hm ps g.tail fun p hp => hk p (List.mem_cons_of_mem _ hp)
    refine ⟨none :: qs, by simp [codesK, codesN, h1], by simp [outK, outV, h2], fun p hp => ?_, fun p hp => ?_⟩
    · rcases List.mem_cons.mp hp with q | q
      · cases q
      · exact h3 p q
    · rcases List.mem_cons.mp hp with q | q
      · cases q
      · exact h4 p q
  | some p :: ps, g, hk => by
    obtain ⟨qs, h1, h2, h3, h4⟩ := raise_named hm ps g.tail fun p hp => hk p (List.mem_cons_of_mem _ hp)
    have := hm (tx p.key)
    rw [hk p List.mem_cons_self] at this
    obtain ⟨x, hx, fl⟩ := this
    obtain ⟨sp, ko⟩ := g p List.mem_cons_self
    refine ⟨some ⟨p.key, p.spec, x, p.text⟩ :: qs, by simp [codesK, codesN, h1], by simp [outK, outV, h2], fun q hq => ?_, fun q hq => ?_⟩
    · rcases List.mem_cons.mp hq with e | e
      · cases e; exact ⟨sp.is x fl, ko⟩
      · exact h3 q e
    · rcases List.mem_cons.mp hq with e | e
      · cases e; exact hx
      · exact h4 q e
theorem loop_keys_eq {prog : Program} {W : World} {A : Around} {E : Value → Shared → Prop} {X : PySem.Str} {args : Value} {f : FS} {s : Shared} {Q : List Value × Writer × List Nat → Shared → Prop} {p0 : List Value} {c : List Nat} (qs : List (Option KPrt)) (hs : StepsK prog W A E X args f) (hX : 2 ≤ X.length)
    (hc : c = codesK qs) (g : GoodK qs) (hN : (outK qs).length ≤ 16777216) (l : List Nat) (hl : c.length ≤ l.length)
    (hget : ∀ p, some p ∈ qs → ∀ tk k0 (Q' : Value → Shared → Prop), (∀ k, Q' p.v { s with toks := k }) → wpAny (model prog W) A (getItem args (.str (tx p.key) tk)) Q' E { s with toks := k0 })
    (q : ∀ p' w' N' k', KPc.Good w' (tx (outK qs)) N' → N' ≤ 16777216 → Q (p', w', []) { s with toks := k' }) : wpAny (model prog W) A (forIn l (p0, ({} : Writer), c) f) Q E s := by
  subst hc
  exact loop_keys (s := s) hs hX qs p0 {} [] 0 s.toks l g hget KPc.good0 (by omega) hl (by simpa using q)
theorem loop_keyx_eq {prog : Program} {W : World} {A : Around} {E : Value → Shared → Prop} {X : PySem.Str} {args : Value} {f : FS} {s : Shared} {Q : List Value × Writer × List Nat → Shared → Prop} {p0 : List Value} {c : List Nat} (qs : List (Option KPrt)) (hs : StepsK prog W A E X args f) (hX : 2 ≤ X.length)
    (hc : c = codesK qs) (g : GoodK qs) (he : ∃ p, some p ∈ qs) (hN : (outK qs).length ≤ 16777216) (l : List Nat) (hl : c.length ≤ l.length)
    (hget : ∀ key tk k0, wpAny (model prog W) A (getItem args (.str (tx key) tk)) (fun _ _ => False) E { s with toks := k0 }) : wpAny (model prog W) A (forIn l (p0, ({} : Writer), c) f) Q E s := by
  subst hc
  exact loop_keyx (s := s) hs hX hget qs p0 {} [] 0 s.toks l g he KPc.good0 (by omega) hl
theorem mod_named {ps : List (Option PV)} {Q : V → Sto → Prop} (H : HasD cx D m) (g : GoodV ps) (hk : ∀ p, some p ∈ ps → m (tx p.key) = some p.v) (hl : 2 ≤ (codesN ps).length) (hN : (outV ps).length ≤ 16777216) (q : Q (.str (tx (outV ps))) sto) :
    Op2 cx d (inplaceOp .Mod) (.str (tx (codesN ps))) (.raw (.ref D)) sto Q := by
  intro A s ρ F x y hA B r₁ r₂
  obtain ⟨t, rfl⟩ := r₁
  simp only [VRel] at r₂
  subst r₂
  obtain ⟨hsys, o, n, ho, kvs, hd, hm, _⟩ := H
  have ho' := B.stays D o ho
  have hD : s.heap.DictOf (strKind cx.prog cx.w) D kvs := Heap.dictOf_iff.mpr ⟨o, ho', hd⟩
  obtain ⟨es, ep, hex, hdat, _⟩ := id hd
  have hc : o.cls = .type "dict" := hex.1
  refine ip_mod (U := "dict") (by decide) ⟨o, ho', hc⟩ nf_dict_mod (fun e => nomatch e) (KPt.entry_is_r _ _ _) (pf_dict ho' hc hdat fun f hs => ?_)
  rw [tx_list]
  obtain ⟨qs, h1, h2, h3, h4⟩ := raise_named hm ps g hk
  refine loop_keys_eq qs hs (by rw [tx_len]; exact hl) h1.symm h3 (by rw [h2]; exact hN) _ (by rw [List.length_range', tx_len]; exact Nat.le_refl _) (fun p hp tk k0 Q' hQ => ?_) fun p' w' N' k' g' hN' => ?_
  · exact wpAny_getItem_of (s := { s with toks := k0 }) (strKind_is _ _ _ _) (Heap.DictOf.mapOf hD) (h4 p hp) (hQ _)
  · rw [h2] at g'
    exact KPc.finish_ok g' hN' rfl fun t k => ⟨_, rfl, by simp, PostV.imm B (v := .str (tx _)) ⟨t, rfl⟩ q k⟩
/-- a name that is not there -/
theorem mod_keyx {ps : List (Option PV)} (H : HasD cx D fun _ => none) (g : GoodV ps) (he : ∃ p, some p ∈ ps) (hl : 2 ≤ (codesN ps).length) (hN : (outV ps).length ≤ 16777216) :
    Op2X cx d (inplaceOp .Mod) (.str (tx (codesN ps))) (.raw (.ref D)) sto "KeyError" := by
  intro A s ρ F x y hA B r₁ r₂
  obtain ⟨t, rfl⟩ := r₁
  simp only [VRel] at r₂
  subst r₂
  obtain ⟨hsys, o, n, ho, kvs, hd, hm, _⟩ := H
  have ho' := B.stays D o ho
  have hD : s.heap.DictOf (strKind cx.prog cx.w) D kvs := Heap.dictOf_iff.mpr ⟨o, ho', hd⟩
  obtain ⟨es, ep, hex, hdat, _⟩ := id hd
  have hc : o.cls = .type "dict" := hex.1
  refine ip_mod (U := "dict") (by decide) ⟨o, ho', hc⟩ nf_dict_mod (fun e => nomatch e) (KPt.entry_is_r _ _ _) (pf_dict ho' hc hdat fun f hs => ?_)
  rw [tx_list]
  -- any values do
  have raise : ∀ ps : List (Option PV), GoodV ps → ∃ qs : List (Option KPrt), codesK qs = codesN ps ∧ outK qs = outV ps ∧ GoodK qs ∧ ((∃ p, some p ∈ ps) → ∃ q, some q ∈ qs) := by
    intro ps
    induction ps with
    | nil => intro _; exact ⟨[], rfl, rfl, fun _ h => (nomatch h), fun ⟨_, h⟩ => (nomatch h)⟩
    | cons p ps ih =>
      intro g
      obtain ⟨qs, h1, h2, h3, h4⟩ := ih g.tail
      cases p with
      | none =>
        refine ⟨none :: qs, by simp [codesK, codesN, h1], by simp [outK, outV, h2], fun p hp => ?_, fun ⟨p, hp⟩ => ?_⟩
        · rcases List.mem_cons.mp hp with q | q
          · cases q
          · exact h3 p q
        · rcases List.mem_cons.mp hp with q | q
          · cases q
          · obtain ⟨q', hq⟩ := h4 ⟨p, q⟩
            exact ⟨q', List.mem_cons_of_mem _ hq⟩
      | some p =>
        obtain ⟨sp, ko⟩ := g p List.mem_cons_self
        obtain ⟨x, fl⟩ := flat_some sp.flat
        refine ⟨some ⟨p.key, p.spec, x, p.text⟩ :: qs, by simp [codesK, codesN, h1], by simp [outK, outV, h2], fun q hq => ?_, fun _ => ⟨_, List.mem_cons_self⟩⟩
        rcases List.mem_cons.mp hq with e | e
        · cases e; exact ⟨sp.is x fl, ko⟩
        · exact h3 q e
  obtain ⟨qs, h1, h2, h3, h4⟩ := raise ps g
  refine loop_keyx_eq qs hs (by rw [tx_len]; exact hl) h1.symm h3 (h4 he) (by rw [h2]; exact hN) _ (by rw [List.length_range', tx_len]; exact Nat.le_refl _) fun key tk k0 => ?_
  exact wpAny_getItem_missing_of (s := { s with toks := k0 }) (strKind_is _ _ _ _) hsys hA.handled (Heap.DictOf.mapOf hD) (hm (tx key)) fun h' e hx => ⟨e, h', _, rfl, rfl, hx⟩
end
end Mine

namespace Mine
/-! texts as lists of code points -/
section
variable {cx : Cx} {sc scope : Scope} {d : Nat} {loc : Loc} {sto : Sto}
theorem add_tt {a b : List Nat} {Q : V → Sto → Prop} (q : a.length + b.length ≤ 16777216 ∧ Q (.str (tx (a ++ b))) sto) : Op2 cx d (binaryOp .Add) (.str (tx a)) (.str (tx b)) sto Q := by
  intro A s ρ F x y hA B r₁ r₂
  obtain ⟨t, rfl⟩ := r₁
  obtain ⟨u, rfl⟩ := r₂
  refine SB.add (fun t' k => ?_) (by rw [tx_len, tx_len, sizeLine_eq]; exact q.1)
  rw [tx_app]
  exact .imm B (v := .str (tx _)) ⟨t', rfl⟩ q.2 k
theorem foldl_app {c : Nat} : ∀ (n : Nat) (acc : Array Nat), (List.replicate n (#[c] : Array Nat)).foldl (· ++ ·) acc = acc ++ (List.replicate n c).toArray
  | 0, acc => by simp
  | n + 1, acc => by
    rw [List.replicate_succ, List.foldl_cons, foldl_app n]
    apply Array.toList_inj.mp
    simp [List.replicate_succ]
theorem mul_tx {c : Nat} {n : Int} : Txt.mul (tx [c]) n = tx (List.replicate n.toNat c) := by
  unfold Txt.mul
  by_cases h1 : n < 1
  · rw [if_pos h1]
    have : n.toNat = 0 := by omega
    rw [this]; rfl
  · rw [if_neg h1]
    by_cases h2 : n = 1
    · subst h2; rfl
    · rw [if_neg (by simp [h2, tx_len])]
      show (⟨(List.replicate n.toNat (#[c] : Array Nat)).foldl (· ++ ·) #[]⟩ : Str) = _
      rw [foldl_app]
      simp [tx]
theorem mul_ti {c : Nat} {n : Int} {Q : V → Sto → Prop} (h1 : -(2 ^ 62) < n) (h2 : n ≤ 2 ^ 24) (q : Q (.str (tx (List.replicate n.toNat c))) sto) : Op2 cx d (binaryOp .Mult) (.str (tx [c])) (.int n) sto Q := by
  intro A s ρ F x y hA B r₁ r₂
  obtain ⟨t, rfl⟩ := r₁
  obtain ⟨u, rfl⟩ := r₂
  refine SB.mul ⟨by simp; omega, fun h _ hh => ?_, fun h _ => ?_⟩ fun t' k => ?_
  · rw [tx_len] at hh
    have h3 : (1 : Int) ≤ (2 ^ 63 - 1) / n := by
      rw [Int.le_ediv_iff_mul_le (by omega)]; omega
    have hh' : (1 : Int) > (2 ^ 63 - 1) / n := hh
    omega
  · rw [tx_len]
    unfold Builtin.Str.tooLong
    rw [sizeLine_eq]
    simp
    omega
  · rw [mul_tx]
    exact .imm B (v := .str (tx _)) ⟨t', rfl⟩ q k
theorem call_len_t {a : List Nat} {Q : V → Sto → Prop} (q : a.length ≤ 16777216 ∧ Q (.int a.length) sto) : CallV cx d (.builtin "len") [.str (tx a)] sto Q := by
  intro A s ρ F xs hA B r
  obtain ⟨x, rfl, t, rfl⟩ := r.one
  refine P.len_str (by rw [tx_len]; have := q.1; omega) ?_
  rw [tx_len]
  exact .imm B (v := .int _) ⟨_, rfl⟩ q.2 _
theorem get_t {a : List Nat} {k : Int} {c : Nat} {Q : V → Sto → Prop} (h0 : 0 ≤ k) (h1 : k < 2 ^ 62) (hc : a[k.toNat]? = some c) (q : Q (.str (tx [c])) sto) : GetV cx d (.str (tx a)) (.int k) sto Q := by
  intro A s ρ F x y hA B r₁ r₂
  obtain ⟨t, rfl⟩ := r₁
  obtain ⟨u, rfl⟩ := r₂
  refine ⟨⟨"str", _, typeIs_str _ _ _, PySem.F.slot_str_getitem.lookup⟩, P.getItem_str (c := c) (by simp; omega) ?_ (.imm B (v := .str (tx _)) ⟨_, rfl⟩ q _)⟩
  have hlt : k.toNat < a.length := (List.getElem?_eq_some_iff.mp hc).1
  rw [tx_len, idx_nn h0 (by omega)]
  show (tx a).cps[k.toNat]? = some c
  rw [← Array.getElem?_toList, tx_list]
  exact hc
theorem slice_to {a : List Nat} {k : Nat} (h : k ≤ a.length) : Txt.slice (tx a) none (some (k : Int)) = tx (a.take k) := by
  unfold Txt.slice
  have e : Builtin.Str.strSliceIndices none (some (k : Int)) 1 (tx a).length = List.range k := by
    rw [tx_len]
    unfold Builtin.Str.strSliceIndices
    simp only [show (1 : Int) > 0 by decide, if_true]
    have h0 : ¬ (k : Int) < 0 := by omega
    rw [if_neg h0, show max 0 (min (k : Int) (a.length : Int)) = (k : Int) by omega]
    have := sliceRange_one (a := 0) (b := k)
    rw [show ((0 : Nat) : Int) = 0 from rfl] at this
    rw [this]; simp
  rw [e, List.length_range, tx_len]
  by_cases hk : k = a.length
  · subst hk
    simp
  · rw [if_neg (by simp; omega)]
    unfold tx
    congr 2
    have : ∀ j, j ≤ a.length → (List.range j).filterMap (fun x => a.toArray[x]?) = a.take j := by
      intro j
      induction j with
      | zero => intro _; simp
      | succ j ih =>
        intro hj
        have hlt : j < a.length := by omega
        rw [List.range_succ, List.filterMap_append, ih (by omega), List.take_succ_eq_append_getElem hlt]
        simp [hlt]
    exact this k h
theorem we_slice_t {value hi : Expr} {p pos : Pos} {Q : V → Sto → Prop}
    (h : WE cx sc d value loc sto fun v sto₁ => WE cx sc d hi loc sto₁ fun b sto₂ => ∃ a k, v = .str (tx a) ∧ b = .int (k : Nat) ∧ k ≤ a.length ∧ a.length ≤ 16777216 ∧ Q (.str (tx (a.take k))) sto₂) :
    WE cx sc d (.Subscript value (.Slice none (some hi) none p) pos) loc sto Q := by
  intro env A s ρ F hE hA B f
  refine Subscript_ (wpAny_mono (h env A s ρ F hE hA B f) ?_ fun _ _ x => x)
  rintro x s₁ ⟨v, sto₁, ρ₁, F₁, st₁, r₁, B₁, h₁⟩
  have hA₁ := hA.step st₁
  have f₁ := f.step B st₁
  show wpAny _ A (do
    let l ← valueOrNone (evalOpt none env)
    let u ← holding [l] (valueOrNone (evalOpt (some hi) env))
    let s ← holding [l, u] (valueOrNone (evalOpt none env))
    newFields "slice" [l, u, s]) _ _ s₁
  refine wpAny_bind (wpAny_pure (wpAny_bind (wpAny_holding ?_)))
  show wpAny _ A (eval hi env) _ _ s₁
  refine wpAny_mono (h₁ env A s₁ ρ₁ F₁ hE hA₁ B₁ f₁) ?_ fun _ _ x => x
  rintro y s₂ ⟨b, sto₂, ρ₂, F₂, st₂, r₂, B₂, a, k, rfl, rfl, hk, hz, q⟩
  obtain ⟨t, rfl⟩ := r₁
  obtain ⟨u, rfl⟩ := r₂
  refine wpAny_bind (wpAny_holding (wpAny_pure ?_))
  refine wpAny_newObj_type ?_
  have hkp : ∀ b o, s₂.heap.get? b = some o → (s₂.heap.push { cls := .type "slice", data := .fields #[.none, .int (k : Int) u, .none] }).get? b = some o := fun b o e => Heap.get?_push_of_some _ e
  have st₃ : Step NoWr ρ F s ρ₂ F₂ { s₂ with heap := s₂.heap.push { cls := .type "slice", data := .fields #[.none, .int (k : Int) u, .none] } } := (st₁.trans st₂).trans (keepsStep (t := s₂.toks) hkp)
  have B₃ := B₂.keeps (t := s₂.toks) hkp
  refine tail_any (ops := [.ref s₂.heap.objs.size, .str (tx a) t]) (typeIs_str _ _ _) PySem.F.slot_str_getitem.lookup
    (wpAny_getItem_str_slice (l := none) (u := some ((k : Int), u)) (st := none) ⟨_, Heap.get?_push_size _ rfl, rfl, rfl⟩ rfl
      (post_val_or_str ⟨Nat.le_trans (Txt.slice_le (tx a) _ _) (by rw [tx_len, sizeLine_eq]; exact hz), fun t' n => ?_⟩)) rfl
  show PostV cx ρ F s Q (.str (Txt.slice (tx a) none (some (k : Int))) t') _
  rw [slice_to (a := a) hk]
  exact PostV.after st₃ (.imm B₃ (v := .str (tx _)) ⟨t', rfl⟩ q n)
/-- going through a text -/
theorem it_text {a : List Nat} : ItV cx (.str (tx a)) sto (a.map fun c => .str (tx [c])) := by
  intro A s ρ F x hA B r
  obtain ⟨t, rfl⟩ := r
  have go : ∀ (cls : String), Walks cx.prog cx.w A s.heap.objs.size [s.heap.objs.size] [s.heap.objs.size] (tx a).cps.size (SignAt (tx a)) (fun i h => h.IsStrIter s.heap.objs.size cls (tx a) t i) →
      ∃ I fp wr P St h₀ tk, Value.ref s.heap.objs.size = .ref I ∧ ({ s with heap := s.heap.push { cls := .type cls, data := .fields #[.str (tx a) t, .int 0 0] } } : Shared) = { s with heap := h₀, toks := tk } ∧ (∀ b o, s.heap.get? b = some o → h₀.get? b = some o) ∧
        IterOK cx A s ρ F I fp wr (a.map fun c => .str (tx [c])) P St ∧ St 0 h₀ := by
    intro cls W
    have hlen : (tx a).cps.size = (a.map fun c => V.str (tx [c])).length := by simp [tx]
    refine ⟨s.heap.objs.size, [s.heap.objs.size], [s.heap.objs.size], _, _, _, s.toks, rfl, rfl, fun b o e => Heap.get?_push_of_some _ e, ⟨hlen ▸ W, fun b hb => ?_, fun b hb => .inl hb, fun i h st b hb o e => ?_, fun i h st b hb => ?_, fun i y hi hy => ?_⟩, ⟨_, Heap.get?_push_size _ rfl, rfl, rfl⟩⟩
    · rw [List.mem_singleton.mp hb]; exact noneAt s
    · intro es n q
      rw [List.mem_singleton.mp hb] at e
      obtain ⟨o', ho', _, hd⟩ := st
      rw [e] at ho'; cases ho'; rw [hd] at q; cases q
    · rw [List.mem_singleton.mp hb]
      obtain ⟨o', ho', _, hd⟩ := st
      exact ⟨o', _, ho', hd⟩
    · obtain ⟨c, t', hc, rfl⟩ := hy
      refine ⟨.str (tx [c]), ?_, ⟨t', rfl⟩⟩
      rw [← Array.getElem?_toList, tx_list] at hc
      rw [List.getElem?_map, hc]; rfl
  cases ha : (tx a).cps.all (· < 128)
  · exact wpAny_pyIter_wide ha (go "str_iterator" (Walks.strWide hA _ (tx a) t))
  · exact wpAny_pyIter_ascii ha (go "str_ascii_iterator" (Walks.strAscii hA _ (tx a) t))
end
end Mine

namespace Mine
section
variable {cx : Cx} {sc scope : Scope} {d : Nat} {loc : Loc} {sto : Sto}
theorem is_none_v {v : V} {b : Bool} {Q : V → Sto → Prop} (hb : b = match v with | .none => true | _ => false) (hv : v = .none ∨ flatV v = true) (q : Q (.bool b) sto) : Op2 cx d (compareOp .Is) v .none sto Q := by
  intro A s ρ F x y hA B r₁ r₂
  simp only [VRel] at r₂
  subst r₂
  refine is_none ?_
  have e : (x == Value.none) = b := by
    rcases hv with rfl | hv
    · simp only [VRel] at r₁; subst r₁; rw [hb]; rfl
    · rcases FlatRel.of hv r₁ with ⟨i, t, rfl, rfl⟩ | ⟨u, t, rfl, rfl⟩
      · rw [hb]; rfl
      · rw [hb]; rfl
  rw [e]
  exact .imm0 B (v := .bool b) (by simp [VRel]) q
/-- a method of a text -/
theorem we_smeth {u : Str} {kk : Nat} {spos : Pos} {name : Str} {id : String} {apos pos : Pos} {e : Expr} {es : List Expr} {Q : V → Sto → Prop} (slot : Slot "str" name id) (hty : typeOf (.builtin id) = pure (.type "method_descriptor"))
    (h : WEs cx sc d (e :: es) loc sto fun vs sto₁ => CallV cx d (.builtin id) (.str u :: vs) sto₁ Q)
    (hline : (apos.endLine == pos.line) = true := by rfl) (hs : noStars (e :: es) = true := by rfl) (hfew : es.length < 20 := by decide) :
    WE cx sc d (.Call (.Attribute (.Constant (.str u) kk spos) name apos) (e :: es) [] pos) loc sto Q := by
  intro env A s ρ F hE hA B f
  have hpl : ∀ (es : List Expr), noStars es = true → ((backTo pos (starEach es env)).all fun x => !x.1) = true := by
    intro es
    induction es with
    | nil => intro _; rfl
    | cons e es ih =>
      intro h
      simp only [noStars, Bool.and_eq_true] at h
      rw [starEach_cons h.1]
      show (true && (backTo pos (starEach es env)).all fun x => !x.1) = true
      rw [ih h.2]; rfl
  refine wpAny_Call_method (T := "str") (id := id) rfl ?_ hline PySem.F.plainAttrs_str slot hty ?_
  · rw [hpl _ hs]
    show decide ((e :: es).length + 0 + 0 < 30) = true
    simp; omega
  refine wpAny_mono (we_str (u := u) (Q := fun v sto₀ => v = .str u ∧ sto₀ = sto) ⟨rfl, rfl⟩ env A s ρ F hE hA B f) ?_ fun _ _ x => x
  rintro y s₀ ⟨v, sto₀, ρ₀, F₀, st₀, r₀, B₀, rfl, rfl⟩
  have h₀ := h
  obtain ⟨t, rfl⟩ := r₀
  refine ⟨typeIs_str _ _ _, fun b hb => (nomatch hb), ?_⟩
  have hs' := hs
  simp only [noStars, Bool.and_eq_true] at hs'
  have hh := h₀ env A s₀ ρ₀ F₀ pos hE (hA.step st₀) B₀ (f.step B st₀)
  have hp := plain_trees (pos := pos) (env := env) hs
  rw [starEach_cons hs'.1] at hh hp ⊢
  refine Calls.callWith_builtin hp (Calls.evalArgs_plain (x := eval e env) (rest := backTo pos (starEach es env)) (wpAny_mono hh ?_ fun _ _ x => x))
  rintro xs s₁ ⟨vs, sto₁, ρ₁, F₁, st₁, r₁, B₁, h₁⟩
  refine wpAny_mono (h₁ A s₁ ρ₁ F₁ (.str u t :: xs) ((hA.step st₀).step st₁) B₁ ?_) (fun _ _ p => p.after (st₀.trans st₁)) fun _ _ x => x
  simp only [VRels, VRel]
  exact ⟨_, _, rfl, ⟨t, rfl⟩, r₁⟩
theorem texts_raise {F : Addr → Prop} {ρ : List Addr} {h : Heap} : ∀ (ts : List (List Nat)) (xs : List Value), VRels F ρ h (ts.map fun t => .str (tx t)) xs → ∃ l : List (Str × Tok), xs = strValues l ∧ l.map (·.1) = ts.map tx
  | [], xs, r => by simp only [List.map_nil, VRels] at r; subst r; exact ⟨[], rfl, rfl⟩
  | t :: ts, xs, r => by
    simp only [List.map_cons, VRels] at r
    obtain ⟨y, ys, rfl, ⟨k, rfl⟩, r2⟩ := r
    obtain ⟨l, rfl, e⟩ := texts_raise ts ys r2
    exact ⟨(tx t, k) :: l, rfl, by simp [e]⟩
theorem join_tx : ∀ ts : List (List Nat), Str.join (tx []) (ts.map tx) = tx ts.flatten
  | [] => rfl
  | [t] => by simp [Str.join]
  | t :: u :: ts => by
    have ih := join_tx (u :: ts)
    show tx t ++ tx [] ++ Str.join (tx []) (tx u :: ts.map tx) = _
    simp only [List.map_cons] at ih
    rw [ih, tx_app, tx_app]
    simp
theorem sum_tx : ∀ ts : List (List Nat), ((ts.map tx).map (·.length)).sum = ts.flatten.length
  | [] => rfl
  | t :: ts => by
    show (tx t).length + ((ts.map tx).map (·.length)).sum = _
    rw [sum_tx ts, tx_len]; simp
theorem call_join {v : V} {ts : List (List Nat)} {Q : V → Sto → Prop} (l : LV sto v (ts.map fun t => .str (tx t))) (hN : ts.flatten.length ≤ 16777216) (q : Q (.str (tx ts.flatten)) sto) : CallV cx d (.builtin "str.join") [.str (tx []), v] sto Q := by
  intro A s ρ F xs hA B r
  simp only [VRels] at r
  obtain ⟨x, ys, rfl, ⟨t, rfl⟩, y, zs, rfl, r2, rfl⟩ := r
  obtain ⟨a, items, rfl, hl, r3⟩ := l.is B r2
  obtain ⟨l, e1, e2⟩ := texts_raise ts _ r3
  have e3 : items = (strValues l).toArray := by rw [← e1]
  refine SC.join (l := l) (by rw [← e3]; exact hl) e2 ?_ fun t' k => ?_
  · unfold JoinOk
    rw [Bool.not_eq_true']
    have := StrLaws.joinTotal (tx []) (ts.map tx)
    rw [sum_tx] at this
    unfold Builtin.Str.tooLong
    rw [sizeLine_eq]
    refine decide_eq_false fun hh => ?_
    rw [this] at hh
    have e : ts.flatten.length + (ts.map tx).length * (tx []).length = ts.flatten.length := by rw [tx_len]; simp
    omega
  · show PostV cx ρ F s Q (.str (Builtin.Str.glued (tx []) (ts.map tx)) t') _
    rw [StrLaws.glued_eq_join, join_tx]
    exact .imm B (v := .str (tx _)) ⟨t', rfl⟩ q k
theorem nil_tx : ("" : Str) = tx [] := by decide +kernel
theorem we_join {e : Expr} {kk : Nat} {spos apos pos : Pos} {Q : V → Sto → Prop}
    (h : WE cx sc d e loc sto fun v sto₁ => ∃ ts : List (List Nat), LV sto₁ v (ts.map fun t => .str (tx t)) ∧ ts.flatten.length ≤ 16777216 ∧ Q (.str (tx ts.flatten)) sto₁)
    (hline : (apos.endLine == pos.line) = true := by rfl) (hs : noStar e = true := by rfl) : WE cx sc d (.Call (.Attribute (.Constant (.str "") kk spos) "join" apos) [e] [] pos) loc sto Q :=
  we_smeth PySem.F.slot_str_join PySem.F.type_str_join (wes_cons (h.mono fun v st q => wes_nil (by obtain ⟨ts, l, hN, q⟩ := q; rw [nil_tx]; exact call_join l hN q)) hs) hline (by simp [noStars, hs])
/-! handlers -/
theorem sub_refl_K : isSubtype (.type "KeyError") (.type "KeyError") = pure true := by rw [isSubtype_type]; kernel_rfl
theorem sub_KT : isSubtype (.type "KeyError") (.type "TypeError") = pure false := by rw [isSubtype_type]; kernel_rfl
theorem sub_VT : isSubtype (.type "ValueError") (.type "TypeError") = pure false := by rw [isSubtype_type]; kernel_rfl
theorem sub_VK : isSubtype (.type "ValueError") (.type "KeyError") = pure false := by rw [isSubtype_type]; kernel_rfl
theorem hand_K {body : List Stmt} {fl : Fl} {np pos : Pos} {rest : List ExceptHandler} {Q : Fl → Loc → Sto → Prop} (hb : BI cx "KeyError" (.type "KeyError")) (hc : constFl body = some fl) (q : Q fl loc sto) (hg : isGlob sc "KeyError" = true := by rfl) :
    Hand cx sc (.ExceptHandler (some (.Name "KeyError" np)) none body pos :: rest) "KeyError" loc sto Q := hand_hit hb hc q kr_isExc_KeyError kr_notTuple_KeyError sub_refl_K hg
theorem hand_KnotT {b₀ : Stmt} {suite : List Stmt} {np pos : Pos} {rest : List ExceptHandler} {Q : Fl → Loc → Sto → Prop} (hb : BI cx "TypeError" (.type "TypeError")) (h : Hand cx sc rest "KeyError" loc sto Q) (hg : isGlob sc "TypeError" = true := by rfl) :
    Hand cx sc (.ExceptHandler (some (.Name "TypeError" np)) none (b₀ :: suite) pos :: rest) "KeyError" loc sto Q := hand_miss hb h PySem.F.isExc_TypeError PySem.F.notTuple_TypeError sub_KT hg
theorem hand_VnotT {b₀ : Stmt} {suite : List Stmt} {np pos : Pos} {rest : List ExceptHandler} {Q : Fl → Loc → Sto → Prop} (hb : BI cx "TypeError" (.type "TypeError")) (h : Hand cx sc rest "ValueError" loc sto Q) (hg : isGlob sc "TypeError" = true := by rfl) :
    Hand cx sc (.ExceptHandler (some (.Name "TypeError" np)) none (b₀ :: suite) pos :: rest) "ValueError" loc sto Q := hand_miss hb h PySem.F.isExc_TypeError PySem.F.notTuple_TypeError sub_VT hg
theorem hand_VnotK {b₀ : Stmt} {suite : List Stmt} {np pos : Pos} {rest : List ExceptHandler} {Q : Fl → Loc → Sto → Prop} (hb : BI cx "KeyError" (.type "KeyError")) (h : Hand cx sc rest "ValueError" loc sto Q) (hg : isGlob sc "KeyError" = true := by rfl) :
    Hand cx sc (.ExceptHandler (some (.Name "KeyError" np)) none (b₀ :: suite) pos :: rest) "ValueError" loc sto Q := hand_miss hb h kr_isExc_KeyError kr_notTuple_KeyError sub_VK hg
/-! x, y, z = a tuple of three -/
theorem VRels.three' {F : Addr → Prop} {ρ : List Addr} {h : Heap} {a b c : V} {xs : List Value} (r : VRels F ρ h [a, b, c] xs) : ∃ x y z, xs = [x, y, z] ∧ VRel F ρ h a x ∧ VRel F ρ h b y ∧ VRel F ρ h c z := by
  simp only [VRels] at r
  obtain ⟨x, _, rfl, r1, y, _, rfl, r2, z, _, rfl, r3, rfl⟩ := r
  exact ⟨x, y, z, rfl, r1, r2, r3⟩
def notTup : Expr → Bool
  | .Call .. => true
  | _ => false
theorem s_three {x y z : Str} {p1 p2 p3 tp pos : Pos} {k : Nat} {e : Expr} {rest : List Stmt} {Q : Fl → Loc → Sto → Prop}
    (h : WE cx sc d e loc sto fun t sto₁ => ∃ a b c, t = .tup [a, b, c] ∧ WSs cx sc d rest ((z, c) :: (y, b) :: (x, a) :: loc) sto₁ Q)
    (hx : isVar sc x = true := by rfl) (hy : isVar sc y = true := by rfl) (hz : isVar sc z = true := by rfl) (hn : notTup e = true := by rfl) :
    WSs cx sc d (.Assign [.Tuple [.Name x p1, .Name y p2, .Name z p3] k tp] e pos :: rest) loc sto Q := by
  refine ss_cons ?_
  intro env A s ρ F hE hA B f
  refine Assign_Tuple (wpAny_mono (h env A s ρ F hE hA B f) ?_ fun _ _ x => x) (by cases e <;> first | rfl | cases hn) (by cases e <;> first | rfl | cases hn)
  rintro v s₁ ⟨t, sto₁, ρ₁, F₁, st₁, r₁, B₁, a, b, c, rfl, q⟩
  simp only [VRel] at r₁
  obtain ⟨ad, items, rfl, hF, ht, r₂⟩ := r₁
  have hsz : items.size = 3 := by have := r₂.length; simpa using this
  refine assign_Tuple_tuple hA.handled ht (by rw [hsz]; rfl) rfl fun h₂ he => ?_
  have hk : ∀ b o, s₁.heap.get? b = some o → h₂.get? b = some o := fun b o e => he b o (Nat.ne_of_lt (Heap.lt_size e)) e
  obtain ⟨xv, yv, zv, hi, rx, ry, rz⟩ := r₂.three'
  rw [hi]
  have st₂ : Step NoWr ρ₁ F₁ s₁ ρ₁ F₁ { s₁ with heap := h₂, toks := s₁.toks } := keepsStep hk
  have B₂ : Base cx ρ₁ F₁ sto₁ { s₁ with heap := h₂, toks := s₁.toks } := B₁.keeps hk
  have f₂ := (f.step B st₁).step B₁ st₂
  show wpAny _ A (do holding [yv, zv] (assign (.Name x p1) env xv); (do holding [zv] (assign (.Name y p2) env yv); (do holding [] (assign (.Name z p3) env zv); pure ()))) _ _ _
  refine wpAny_bind (wpAny_holding (assign_Name (store_var hE B₂ f₂ (rx.keeps hk) hx fun s₃ st₃ B₃ f₃ => ?_)))
  have ry₃ := st₃.vrel B₂ f₂.noF (ry.keeps hk)
  have rz₃ := st₃.vrel B₂ f₂.noF (rz.keeps hk)
  refine wpAny_bind (wpAny_holding (assign_Name (store_var hE B₃ f₃ ry₃ hy fun s₄ st₄ B₄ f₄ => ?_)))
  have rz₄ := st₄.vrel B₃ f₃.noF rz₃
  refine wpAny_bind (wpAny_holding (assign_Name (store_var hE B₄ f₄ rz₄ hz fun s₅ st₅ B₅ f₅ => wpAny_pure ?_)))
  exact ⟨.next, _, _, ρ₁, F₁, (st₁.trans st₂).own.trans ((st₃.trans st₄).trans st₅), rfl, B₅, f₅, q⟩
end
end Mine

namespace Mine
section
variable {cx : Cx} {sc : Scope} {d : Nat} {loc : Loc} {sto : Sto}
/-- a call with a new dict at its end -/
theorem we_call_d {f : Str} {p dp pos : Pos} {e : Expr} {Q : V → Sto → Prop} (h : WE cx sc d e loc sto fun v sto₁ => ∀ cx' D, CxD cx D (fun _ => none) 0 cx' → CallF cx' d f [v, .raw (.ref D)] sto₁ Q)
    (hg : isGlob sc f = true := by rfl) (hd : (f == ("__debug__" : Str)) = false := by decide) (hs : noStar e = true := by rfl)
    (hne : (∃ a o fd, cx.mg f = some (.ref a) ∧ cx.base.get? a = some o ∧ o.data = .func fd)) :
    WE cx sc d (.Call (.Name f p) [e, .Dict [] [] dp] [] pos) loc sto Q := by
  intro env A s ρ F hE hA B fr
  have hkind : env.scope.kind = .function := by rw [hE.scope]; exact hE.kind
  obtain ⟨a, o, fd, e1, e2, e3⟩ := hne
  refine wpAny_Call_NameR (Calls.Name_function_global hkind (isGlob_kind hE hg) (Calls.loadGlobal_global (mg := cx.mg) (by rw [hE.globals]; exact cx.top.g.keeps B.stays) e1 ?_) hd)
  refine callWith_def e3 (args_cons (wpAny_mono (h env A s ρ F hE hA B fr) ?_ fun _ _ x => x) (starEach_cons hs)) (starEach_cons hs)
  rintro x s₁ ⟨v, sto₁, ρ₁, F₁, st₁, r₁, B₁, h₁⟩
  have hA₁ := hA.step st₁
  have f₁ := fr.step B st₁
  refine args_cons (wpAny_Dict_empty ?_) (starEach_cons rfl)
  refine Calls.spliced_nil ?_
  have S := Side.new hA₁ B₁ f₁
  have hk0 : ∀ b o, s₁.heap.get? b = some o → (s₁.heap.push { cls := .type "dict", data := .dict #[] }).get? b = some o := fun b o e => keeps_push b o e
  have st₂ : Step NoWr ρ₁ F₁ s₁ ρ₁ F₁ { s₁ with heap := s₁.heap.push { cls := .type "dict", data := .dict #[] }, toks := s₁.toks } := keepsStep hk0
  have B₂ : Base cx ρ₁ F₁ sto₁ { s₁ with heap := s₁.heap.push { cls := .type "dict", data := .dict #[] }, toks := s₁.toks } := B₁.keeps hk0
  have r₂ : VRel F₁ ρ₁ (s₁.heap.push { cls := .type "dict", data := .dict #[] }) v x := r₁.keeps hk0
  have f₂ := f₁.step B₁ st₂
  have hA₂ := hA₁.step st₂
  obtain ⟨cx', hc, q1, q2, hA', B', f', back, backF⟩ := S.ext hA₂ B₂ f₂
  obtain ⟨a', o', fd', e1', e2', e3', hcall⟩ := h₁ cx' s₁.heap.objs.size hc
  obtain ⟨_, hp, hkk, oo, rfl, _, _⟩ := id hc
  have e1' : cx.mg f = some (.ref a') := e1'
  rw [e1] at e1'; cases e1'
  refine ⟨B₂.stays _ _ e2, ?_⟩
  have hh := hcall A _ ρ₁ F₁ [x, .ref s₁.heap.objs.size] hA' B' (by simp only [VRels, VRel]; exact ⟨_, _, rfl, r₂, _, _, rfl, rfl, rfl⟩)
  refine wpAny_mono hh (fun y s' pp => ?_) fun _ _ x => x
  exact (PostV.unext pp).after (st₁.trans st₂)
end
end Mine

namespace Mine
namespace A04
/-! figures -/
def ch (k : Nat) : Nat := (Nat.digitChar k).toNat
def figR (b : Nat) : Nat → Nat → List Nat → List Nat
  | 0, _, acc => acc
  | f + 1, n, acc => if n / b = 0 then ch (n % b) :: acc else figR b f (n / b) (ch (n % b) :: acc)
def figs (b n : Nat) : List Nat := figR b (n + 1) n []
theorem figR_core (b : Nat) : ∀ (f n : Nat) (ds : List Char), (Nat.toDigitsCore b f n ds).map Char.toNat = figR b f n (ds.map Char.toNat)
  | 0, _, _ => rfl
  | f + 1, n, ds => by
    rw [Nat.toDigitsCore, figR]
    by_cases h : n / b = 0
    · simp [h, ch]
    · simp only [h, if_false]
      rw [figR_core b f]; rfl
theorem figs_eq (b n : Nat) : (Nat.toDigits b n).map Char.toNat = figs b n := by
  unfold Nat.toDigits figs
  rw [figR_core]; rfl
theorem hex_figs (n : Nat) : hex n = figs 16 n := figs_eq 16 n
theorem dec_figs (n : Nat) : dec n = figs 10 n := by
  unfold dec
  rw [Str.ofString_eq_toList]
  show (((String.ofList (Nat.toDigits 10 n)).toList.map Char.toNat).toArray).toList = _
  rw [String.toList_ofList, figs_eq]
theorem figR_len {b : Nat} (hb : 2 ≤ b) : ∀ (f n k : Nat) (acc : List Nat), n < 2 ^ k → (figR b f n acc).length ≤ acc.length + k + 1
  | 0, _, _, _, _ => by simp only [figR]; omega
  | f + 1, n, k, acc, h => by
    rw [figR]
    split
    · simp only [List.length_cons]; omega
    · rename_i hn
      match k, h with
      | 0, h =>
        exfalso
        have : n = 0 := by simp at h; omega
        subst this
        simp at hn
      | k + 1, h =>
        have h2 : n / b < 2 ^ k := by
          have h3 : n / b ≤ n / 2 := Nat.div_le_div_left hb (by decide)
          have h4 : 2 ^ (k + 1) = 2 * 2 ^ k := by rw [Nat.pow_succ]; omega
          omega
        have := figR_len hb f (n / b) k (ch (n % b) :: acc) h2
        simp only [List.length_cons] at this
        omega
theorem figs_len {b n k : Nat} (hb : 2 ≤ b) (h : n < 2 ^ k) : (figs b n).length ≤ k + 1 := by
  have := figR_len hb (n + 1) n k [] h
  simp only [List.length_nil] at this
  unfold figs
  omega
theorem ch_ok : ∀ k, k < 16 → ch k ≠ 43 ∧ ch k ≠ 45 ∧ ch k ≠ 40 ∧ ch k ≠ 41 ∧ ([48, 49, 50, 51, 52, 53, 54, 55, 56, 57, 97, 98, 99, 100, 101, 102] : List Nat)[k]? = some (ch k) := by decide
def Plain (l : List Nat) : Prop := ∀ c ∈ l, c ≠ 43 ∧ c ≠ 45 ∧ c ≠ 40 ∧ c ≠ 41
theorem figR_plain {b : Nat} (h0 : 0 < b) (hb : b ≤ 16) : ∀ (f n : Nat) (acc : List Nat), Plain acc → Plain (figR b f n acc)
  | 0, _, _, h => h
  | f + 1, n, acc, h => by
    have hn : Plain (ch (n % b) :: acc) := fun c hc => by
      rcases List.mem_cons.mp hc with rfl | hc
      · obtain ⟨h1, h2, h3, h4, _⟩ := ch_ok (n % b) (by have := Nat.mod_lt n h0; omega)
        exact ⟨h1, h2, h3, h4⟩
      · exact h c hc
    rw [figR]
    split
    · exact hn
    · exact figR_plain h0 hb f _ _ hn
theorem figs_plain {b : Nat} (h0 : 0 < b) (hb : b ≤ 16) (n : Nat) : Plain (figs b n) := figR_plain h0 hb _ _ _ fun _ h => (nomatch h)
theorem dec_digits (n : Nat) : Digits (dec n) := by
  rw [dec_figs]
  intro c hc
  obtain ⟨h1, h2, _⟩ := figs_plain (b := 10) (by decide) (by decide) n c hc
  exact ⟨h1, h2⟩
theorem log_ok {n : Nat} (h : n < 2 ^ 70) : n.log2 < 1920 := by
  by_cases h0 : n = 0
  · subst h0; decide
  · rw [Nat.log2_lt h0]
    exact Nat.lt_trans h (Nat.pow_lt_pow_right (by decide) (by decide))
theorem fig_one : ∀ n, n < 9 → figs 10 (n + 1) = [49 + n] := by decide
/-! one part -/
def fig (b : Nat) (i : Int) : List Nat := sg i ++ figs b i.natAbs
def psz (x : Int) : Nat := x.natAbs / 6
def pval (x : Int) : Int := if x < 0 then -(psz x : Int) else psz x
def word (x : Int) : List Nat := [97, 98, 99, 97, 98, 99].take (psz x % 7)
theorem pval_abs (x : Int) : (pval x).natAbs = psz x := by unfold pval; split <;> omega
def prt (x : Int) : Option (List Nat × V × List Nat) :=
  if x.natAbs % 6 = 0 then some ([100], .int (pval x), fig 10 (pval x))
  else if x.natAbs % 6 = 1 then some ([49 + psz x % 9, 100], .int (pval x), List.replicate (psz x % 9 + 1 - (fig 10 (pval x)).length) 32 ++ fig 10 (pval x))
  else if x.natAbs % 6 = 2 then some ([45, 49 + psz x % 9, 115], .str (tx (word x)), word x ++ List.replicate (psz x % 9 + 1 - (word x).length) 32)
  else if x.natAbs % 6 = 3 then some ([48, 49 + psz x % 9, 100], .int (pval x), sg (pval x) ++ (List.replicate (psz x % 9 + 1 - ((sg (pval x)).length + (figs 10 (psz x)).length)) 48 ++ figs 10 (psz x)))
  else if x.natAbs % 6 = 4 then some ([120], .int (pval x), fig 16 (pval x))
  else none
def tl (x : Int) : List Nat := match prt x with | some p => p.1 | none => [37]
def vl (x : Int) : V := match prt x with | some p => p.2.1 | none => .none
def wr (x : Int) : List Nat := match prt x with | some p => p.2.2 | none => [37]
theorem sg_len (i : Int) : (sg i).length ≤ 1 := by unfold sg; split <;> simp
theorem fig_len {b : Nat} {i : Int} (hb : 2 ≤ b) (h : i.natAbs < 2 ^ 70) : (fig b i).length ≤ 72 := by
  unfold fig
  have h1 := sg_len i
  have h2 := figs_len hb h
  rw [List.length_append]
  omega
theorem psz_lt {x : Int} (h : x.natAbs < 2 ^ 70) : psz x < 2 ^ 70 := Nat.lt_of_le_of_lt (Nat.div_le_self _ _) h
theorem spec_int {s : List Nat} {i : Int} {t : List Nat} (h : ∀ u, Spec s (.int i u) t) : SpecV s (.int i) t := ⟨rfl, fun x hx => by
  rcases hx with ⟨j, u, e, rfl⟩ | ⟨_, _, e, _⟩
  · cases e; exact h u
  · cases e⟩
theorem prt_ok {x : Int} (h : x.natAbs < 2 ^ 70) {p : List Nat × V × List Nat} (hp : prt x = some p) : SpecV p.1 p.2.1 p.2.2 ∧ p.1.length ≤ 3 ∧ p.2.2.length ≤ 100 := by
  have hv : (pval x).natAbs < 2 ^ 70 := by rw [pval_abs]; exact psz_lt h
  have hf := fig_len (b := 10) (by decide) hv
  have hf16 := fig_len (b := 16) (by decide) hv
  have hl := log_ok hv
  have hd := dec_digits (pval x).natAbs
  have hn : psz x % 9 < 9 := Nat.mod_lt _ (by decide)
  have hw : (word x).length ≤ 6 := by unfold word; simp; omega
  unfold prt at hp
  split at hp
  · cases hp
    refine ⟨spec_int fun u => ?_, by simp, Nat.le_trans hf (by decide)⟩
    have := Spec.d (pval x) u hl
    rw [dec_figs] at this
    exact this
  split at hp
  · cases hp
    refine ⟨spec_int fun u => ?_, by simp, ?_⟩
    · have := Spec.nd (psz x % 9) (pval x) u hn hl hd
      rw [dec_figs] at this
      exact this
    · simp only [List.length_append, List.length_replicate]; omega
  split at hp
  · cases hp
    refine ⟨⟨rfl, fun y hy => ?_⟩, by simp, ?_⟩
    · rcases hy with ⟨_, _, e, _⟩ | ⟨w, u, e, rfl⟩
      · cases e
      · cases e
        have := Spec.ns (psz x % 9) (tx (word x)) u hn
        rw [tx_list] at this
        exact this
    · simp only [List.length_append, List.length_replicate]; omega
  split at hp
  · cases hp
    refine ⟨spec_int fun u => ?_, by simp, ?_⟩
    · have := Spec.zd (psz x % 9) (pval x) u hn hl hd
      rw [dec_figs, pval_abs] at this
      exact this
    · have h1 := sg_len (pval x)
      have h2 := figs_len (b := 10) (by decide) (psz_lt h)
      simp only [List.length_append, List.length_replicate]; omega
  split at hp
  · cases hp
    refine ⟨spec_int fun u => ?_, by simp, Nat.le_trans hf16 (by decide)⟩
    have := Spec.x (pval x) u
    rw [hex_figs] at this
    exact this
  · cases hp
/-! all parts -/
def key (k : Nat) : List Nat := 107 :: figs 10 k
def pv (k : Nat) (x : Int) : Option PV := (prt x).map fun p => ⟨key k, p.1, p.2.1, p.2.2⟩
def psOf (ns : List Int) (i : Nat) : List (Option PV) := (List.range i).map fun k => pv k (ns[k]?.getD 0)
theorem psOf_succ (ns : List Int) (i : Nat) : psOf ns (i + 1) = psOf ns i ++ [pv i (ns[i]?.getD 0)] := by simp [psOf, List.range_succ]
theorem key_ok (k : Nat) (h : k < 2 ^ 70) : KeyOK (key k) := by
  refine ⟨fun c hc => ?_, ?_⟩
  · rcases List.mem_cons.mp hc with rfl | hc
    · decide
    · obtain ⟨_, _, h3, h4⟩ := figs_plain (b := 10) (by decide) (by decide) k c hc
      exact ⟨h3, h4⟩
  · have := figs_len (b := 10) (by decide) h
    simp only [key, List.length_cons]; omega
theorem key_inj : ∀ i, i < 15 → ∀ j, j < 15 → key i = key j → i = j := by decide
def Small (ns : List Int) : Prop := ∀ x ∈ ns, x.natAbs < 2 ^ 70
theorem small_at {ns : List Int} (h : Small ns) (k : Nat) : (ns[k]?.getD 0).natAbs < 2 ^ 70 := by
  cases e : ns[k]? with
  | none => simp
  | some x => exact h x (List.mem_of_getElem? e)
theorem ps_good {ns : List Int} (hs : Small ns) {i : Nat} (hi : i ≤ 15) : GoodV (psOf ns i) := by
  intro p hp
  obtain ⟨k, hk, e⟩ := List.mem_map.mp hp
  have hk := List.mem_range.mp hk
  obtain ⟨q, hq, rfl⟩ := Option.map_eq_some_iff.mp e
  exact ⟨(prt_ok (small_at hs k) hq).1, key_ok k (Nat.lt_of_lt_of_le hk (Nat.le_trans hi (by decide)))⟩
theorem codesV_app : ∀ (a b : List (Option PV)), codesV (a ++ b) = codesV a ++ codesV b
  | [], _ => rfl
  | none :: a, b => by simp [codesV, codesV_app a b]
  | some p :: a, b => by simp [codesV, codesV_app a b]
theorem valsV_app : ∀ (a b : List (Option PV)), valsV (a ++ b) = valsV a ++ valsV b
  | [], _ => rfl
  | none :: a, b => by simp [valsV, valsV_app a b]
  | some p :: a, b => by simp [valsV, valsV_app a b]
theorem outV_app : ∀ (a b : List (Option PV)), outV (a ++ b) = outV a ++ outV b
  | [], _ => rfl
  | none :: a, b => by simp [outV, outV_app a b]
  | some p :: a, b => by simp [outV, outV_app a b]
theorem codesV_one (k : Nat) (x : Int) : codesV [pv k x] = 37 :: (tl x ++ [124]) := by
  unfold pv tl
  cases prt x <;> simp [codesV]
theorem outV_one (k : Nat) (x : Int) : outV [pv k x] = wr x ++ [124] := by
  unfold pv wr
  cases prt x <;> simp [outV]
theorem tl_len {x : Int} (h : x.natAbs < 2 ^ 70) : (tl x).length ≤ 3 := by
  unfold tl
  cases e : prt x with
  | none => simp
  | some p => exact (prt_ok h e).2.1
theorem wr_len {x : Int} (h : x.natAbs < 2 ^ 70) : (wr x).length ≤ 100 := by
  unfold wr
  cases e : prt x with
  | none => simp
  | some p => exact (prt_ok h e).2.2
theorem codes_len {ns : List Int} (hs : Small ns) : ∀ i, (codesV (psOf ns i)).length ≤ 5 * i
  | 0 => by simp [psOf, codesV]
  | i + 1 => by
    rw [psOf_succ, codesV_app, codesV_one]
    have h1 := codes_len hs i
    have h2 := tl_len (small_at hs i)
    simp only [List.length_append, List.length_cons, List.length_nil]; omega
theorem codes_ge (ns : List Int) : ∀ i, 2 * i ≤ (codesV (psOf ns i)).length
  | 0 => Nat.zero_le _
  | i + 1 => by
    rw [psOf_succ, codesV_app, codesV_one]
    have h1 := codes_ge ns i
    simp only [List.length_append, List.length_cons, List.length_nil]; omega
theorem out_len {ns : List Int} (hs : Small ns) : ∀ i, (outV (psOf ns i)).length ≤ 101 * i
  | 0 => by simp [psOf, outV]
  | i + 1 => by
    rw [psOf_succ, outV_app, outV_one]
    have h1 := out_len hs i
    have h2 := wr_len (small_at hs i)
    simp only [List.length_append, List.length_cons, List.length_nil]; omega
/-! backward, with names -/
def rv (ns : List Int) (i : Nat) : List (Option PV) := (psOf ns i).reverse
theorem rv_succ (ns : List Int) (i : Nat) : rv ns (i + 1) = pv i (ns[i]?.getD 0) :: rv ns i := by simp [rv, psOf_succ]
theorem rv_good {ns : List Int} (hs : Small ns) {i : Nat} (hi : i ≤ 15) : GoodV (rv ns i) := fun p hp => ps_good hs hi p (List.mem_reverse.mp hp)
theorem rv_out_len {ns : List Int} (hs : Small ns) : ∀ i, (outV (rv ns i)).length ≤ 101 * i
  | 0 => by simp [rv, psOf, outV]
  | i + 1 => by
    rw [rv_succ]
    have h1 := rv_out_len hs i
    have h2 := wr_len (small_at hs i)
    have := outV_app [pv i (ns[i]?.getD 0)] (rv ns i)
    rw [List.singleton_append] at this
    rw [this, outV_one]
    simp only [List.length_append, List.length_cons, List.length_nil]; omega
def nm (k : Nat) (x : Int) : List Nat := match prt x with | some p => 37 :: 40 :: (key k ++ 41 :: (p.1 ++ [124])) | none => [37, 37, 124]
theorem codesN_cons (k : Nat) (x : Int) (ps : List (Option PV)) : codesN (pv k x :: ps) = nm k x ++ codesN ps := by
  unfold pv nm
  cases prt x <;> simp [codesN]
theorem outV_cons (k : Nat) (x : Int) (ps : List (Option PV)) : outV (pv k x :: ps) = wr x ++ 124 :: outV ps := by
  unfold pv wr
  cases prt x <;> simp [outV]
theorem key_len {k : Nat} (h : k < 2 ^ 70) : (key k).length ≤ 72 := by
  have := figs_len (b := 10) (by decide) h
  simp only [key, List.length_cons]; omega
theorem rv_len {ns : List Int} (hs : Small ns) : ∀ i, i ≤ 15 → (codesN (rv ns i)).length ≤ 200 * i
  | 0, _ => by simp [rv, psOf, codesN]
  | i + 1, hi => by
    rw [rv_succ, codesN_cons]
    have h1 := rv_len hs i (by omega)
    have h2 : (nm i (ns[i]?.getD 0)).length ≤ 150 := by
      unfold nm
      cases e : prt (ns[i]?.getD 0) with
      | none => simp
      | some p =>
        have h3 := (prt_ok (small_at hs i) e).2.1
        have h4 := key_len (k := i) (Nat.lt_of_lt_of_le (by omega : i < 15) (by decide))
        simp only [List.length_append, List.length_cons, List.length_nil]; omega
    rw [List.length_append]; omega
theorem rv_ge (ns : List Int) : ∀ i, 2 * i ≤ (codesN (rv ns i)).length
  | 0 => Nat.zero_le _
  | i + 1 => by
    rw [rv_succ, codesN_cons]
    have h1 := rv_ge ns i
    have h2 : 2 ≤ (nm i (ns[i]?.getD 0)).length := by
      unfold nm
      cases prt (ns[i]?.getD 0) with
      | none => simp
      | some p => simp
    rw [List.length_append]; omega
/-- what the names mean -/
def Means (ns : List Int) (i : Nat) (m : Str → Option V) : Prop := ∀ p, some p ∈ psOf ns i → m (tx p.key) = some p.v
theorem tx_inj {a b : List Nat} (h : tx a = tx b) : a = b := by
  have := congrArg (fun x : Str => x.cps.toList) h
  simpa [tx] using this
theorem Means.skip {ns : List Int} {i : Nat} {m : Str → Option V} (h : Means ns i m) (hp : prt (ns[i]?.getD 0) = none) : Means ns (i + 1) m := by
  intro p hm
  rw [psOf_succ] at hm
  rcases List.mem_append.mp hm with hm | hm
  · exact h p hm
  · have := List.mem_singleton.mp hm
    simp [pv, hp] at this
theorem Means.put {ns : List Int} {i : Nat} {m : Str → Option V} {q : List Nat × V × List Nat} (h : Means ns i m) (hi : i < 15) (hp : prt (ns[i]?.getD 0) = some q) : Means ns (i + 1) (fun y => if y = tx (key i) then some q.2.1 else m y) := by
  intro p hm
  rw [psOf_succ] at hm
  rcases List.mem_append.mp hm with hm | hm
  · have hne : tx p.key ≠ tx (key i) := fun e => by
      obtain ⟨k, hk, e2⟩ := List.mem_map.mp hm
      have hk := List.mem_range.mp hk
      obtain ⟨_, _, rfl⟩ := Option.map_eq_some_iff.mp e2
      have := key_inj k (by omega) i hi (tx_inj e)
      omega
    simp only [if_neg hne]
    exact h p hm
  · have := List.mem_singleton.mp hm
    simp only [pv, hp, Option.map_some] at this
    cases this
    simp
theorem Means.rv {ns : List Int} {i : Nat} {m : Str → Option V} (h : Means ns i m) : ∀ p, some p ∈ A04.rv ns i → m (tx p.key) = some p.v := fun p hp => h p (List.mem_reverse.mp hp)
/-- the tenth number is a number's part -/
theorem has_part {ns : List Int} (h : ns[9]? = some (-606)) : ∃ p, pv 9 (ns[9]?.getD 0) = some p := by
  rw [h]
  exact ⟨_, rfl⟩
theorem mem_part {ns : List Int} (h : ns[9]? = some (-606)) : ∃ p, some p ∈ psOf ns 15 := by
  obtain ⟨p, hp⟩ := has_part h
  exact ⟨p, List.mem_map.mpr ⟨9, by simp, hp⟩⟩
theorem vals_ne {ns : List Int} (h : ns[9]? = some (-606)) : valsV (psOf ns 15) ≠ [] := by
  obtain ⟨p, hp⟩ := mem_part h
  intro e
  have key : ∀ (l : List (Option PV)), some p ∈ l → p.v ∈ valsV l := by
    intro l
    induction l with
    | nil => intro h; cases h
    | cons q l ih =>
      intro hm
      rcases List.mem_cons.mp hm with hm | hl
      · subst hm; exact List.mem_cons_self
      · cases q with
        | none => exact ih hl
        | some q => exact List.mem_cons_of_mem _ (ih hl)
  have := key _ hp
  rw [e] at this
  cases this
theorem vals_len (ns : List Int) : ∀ i, (valsV (psOf ns i)).length ≤ i
  | 0 => by simp [psOf, valsV]
  | i + 1 => by
    rw [psOf_succ, valsV_app, List.length_append]
    have h1 := vals_len ns i
    have h2 : (valsV [pv i (ns[i]?.getD 0)]).length ≤ 1 := by
      unfold pv
      cases prt (ns[i]?.getD 0) <;> simp [valsV]
    omega
/-- each sign by itself -/
def dblOne (c : Nat) : List Nat := if c = 37 then [37, 37] else [c]
theorem dbl_flat : ∀ t : List Nat, (t.map dblOne).flatten = dbl t
  | [] => rfl
  | c :: r => by
    rw [List.map_cons, List.flatten_cons, dbl_flat r, dbl, dblOne]
    split <;> rfl
theorem dbl_le : ∀ t : List Nat, (dbl t).length ≤ 2 * t.length
  | [] => Nat.le_refl _
  | c :: r => by
    have := dbl_le r
    rw [dbl]; split <;> simp <;> omega
end A04
end Mine

namespace Mine
local macro_rules | `(tactic| walk_at "x") => `(tactic| first
  | (with_reducible refine we_int ?_)
  | (with_reducible refine we_bool ?_)
  | (with_reducible refine we_none ?_)
  | (with_reducible refine we_bin ?_)
  | (with_reducible refine we_un ?_)
  | (with_reducible refine add_ii ?_)
  | (with_reducible refine sub_ii ?_)
  | (with_reducible refine neg_i ?_)
  | (with_reducible refine lt_ii ?_)
  | (with_reducible refine gt_ii ?_)
  | (with_reducible refine le_ii ?_)
  | (with_reducible refine ge_ii ?_)
  | (with_reducible refine eq_ii ?_)
  | (with_reducible refine ne_ii ?_)
  | (with_reducible refine iadd_ii ?_)
  | ((with_reducible show WE _ _ _ (Expr.Name _ _) _ _ _); refine we_name (by rfl) ?_)
  | (with_reducible refine wes_nil ?_)
  | ((with_reducible show WEs _ _ _ (_ :: _) _ _ _); refine wes_cons ?_)
  | ((with_reducible show WT _ _ _ (Expr.Compare _ [_] [_] _) _ _ _); refine wt_cmp ?_)
  | ((with_reducible show WE _ _ _ (Expr.Compare _ [_] [_] _) _ _ _); refine we_cmp ?_)
  | (with_reducible refine we_ifexp ?_)
  | (with_reducible refine wt_not ?_)
  | (with_reducible refine wt_and ?_)
  | (with_reducible refine wt_and_nil ?_)
  | (with_reducible refine wt_or ?_)
  | (with_reducible refine wt_or_nil ?_)
  | (with_reducible refine weo_none ?_)
  | (with_reducible refine weo_some ?_)
  | ((with_reducible show ∃ c, V.int _ = V.int c ∧ _); refine ⟨_, rfl, ?_⟩)
  | ((with_reducible show WE _ _ _ (Expr.Subscript _ (Expr.Slice _ _ _ _) _) _ _ _); refine WEN.data (wen_slice ?_))
  | ((with_reducible show WE _ _ _ (Expr.Subscript _ _ _) _ _ _); refine we_sub ?_)
  | ((with_reducible show ∃ c, V.bool _ = V.bool c ∧ _); refine ⟨_, rfl, ?_⟩))
local macro_rules | `(tactic| walk_at "i") => `(tactic| first
  | (with_reducible refine if_dec (fun _ => ?_) (fun _ => ?_))
  | (with_reducible refine if_ndec (fun _ => ?_) (fun _ => ?_))
  | (with_reducible refine if_eq (fun _ => ?_) (fun _ => ?_))
  | (with_reducible refine if_ne (fun _ => ?_) (fun _ => ?_))
  | (with_reducible refine if_tt ?_)
  | (with_reducible refine if_ff ?_)
  | (with_reducible refine if_ntt ?_)
  | (with_reducible refine if_nff ?_))
local macro_rules | `(tactic| walk_at "s") => `(tactic| first
  | ((with_reducible show WSs _ _ _ (Stmt.Assign [Expr.Name _ _] _ _ :: _) _ _ _); refine s_assign ?_)
  | ((with_reducible show WSs _ _ _ (Stmt.AugAssign (Expr.Name _ _) _ _ _ :: _) _ _ _); refine s_aug (by rfl) ?_)
  | (with_reducible refine s_return ?_)
  | (with_reducible refine s_if ?_)
  | (with_reducible refine app_nil ?_)
  | (with_reducible refine app_cons ?_))
local macro_rules | `(tactic| walk_at "e") => `(tactic| first | walk_at "x" | walk_at "s" | walk_at "i")
local macro_rules | `(tactic| walk_at "sub") => `(tactic| repeat' (first | exact Sub.nil | refine Sub.cons (by rfl) ?_))
namespace A04
abbrev P := PySem.Challenge.pw_dm0220_04
structure Env (cx : Cx) : Prop where
  h1 : FnIs cx "imod" (parAt P 1) (bodyAt P 1) (scopeAt P 1)
  h3 : FnIs cx "_law_cut" (parAt P 3) (bodyAt P 3) (scopeAt P 3)
  h4 : FnIs cx "_law_figures" (parAt P 4) (bodyAt P 4) (scopeAt P 4)
  h5 : FnIs cx "_law_part" (parAt P 5) (bodyAt P 5) (scopeAt P 5)
  h6 : FnIs cx "_law_error" (parAt P 6) (bodyAt P 6) (scopeAt P 6)
  h7 : FnIs cx "law" (parAt P 7) (bodyAt P 7) (scopeAt P 7)
  range : BI cx "range" (.type "range")
  len : BI cx "len" (.builtin "len")
  sum : BI cx "sum" (.builtin "sum")
  abs : BI cx "abs" (.builtin "abs")
  tuple : BI cx "tuple" (.type "tuple")
  type : BI cx "type" (.type "type")
  str : BI cx "str" (.type "str")
  te : BI cx "TypeError" (.type "TypeError")
  ke : BI cx "KeyError" (.type "KeyError")
  ve : BI cx "ValueError" (.type "ValueError")
theorem Env.ext {cx cx' : Cx} {D : Addr} {m : Str → Option V} {n : Nat} (H : Env cx) (h : CxD cx D m n cx') : Env cx' := by
  obtain ⟨_, hp, hk, o, rfl, _, _⟩ := h
  exact ⟨H.h1.ext, H.h3.ext, H.h4.ext, H.h5.ext, H.h6.ext, H.h7.ext, H.range, H.len, H.sum, H.abs, H.tuple, H.type, H.str, H.te, H.ke, H.ve⟩

variable {cx : Cx} {d : Nat} {sto : Sto} {Q : V → Sto → Prop}
theorem we_strx {sc : Scope} {loc : Loc} {u : Str} {k : Nat} {pos : Pos} (l : List Nat) (h : u = tx l) (q : Q (.str (tx l)) sto) : WE cx sc d (.Constant (.str u) k pos) loc sto Q := by
  subst h; exact we_str q
theorem fmodN {a : Nat} (b : Nat) (c : Int) (h : c = b) : (a : Int).fmod c = ((a % b : Nat) : Int) := by subst h; rw [Int.fmod_eq_emod_of_nonneg _ (by omega)]; rfl
theorem fdivN {a : Nat} (b : Nat) (c : Int) (h : c = b) : (a : Int).fdiv c = ((a / b : Nat) : Int) := by subst h; rw [Int.fdiv_eq_ediv_of_nonneg _ (by omega)]; rfl
theorem eq_tt {a b : List Nat} (q : Q (.bool (a == b)) sto) : Op2 cx d (compareOp .Eq) (.str (tx a)) (.str (tx b)) sto Q := eq_ss (by rw [tx_list, tx_list]; exact q)
theorem ne_tt {a b : List Nat} (q : Q (.bool (a != b)) sto) : Op2 cx d (compareOp .NotEq) (.str (tx a)) (.str (tx b)) sto Q := ne_ss (by rw [tx_list, tx_list]; exact q)
theorem cut_ok (H : Env cx) {x top : Int} (ht : 0 < top) (q : ∀ r : Int, r.natAbs < top.natAbs → Q (.int r) sto) : CallF cx (d + 1) "_law_cut" [.int x, .int top] sto Q := by
  refine callF_keep (names := ["x", "top"]) H.h3 ?_ ?_
  · conv => arg 4; whnf
    repeat walk_at "e"
    refine we_bcall H.abs ?_
    repeat walk_at "x"
    refine call_abs ?_
    repeat walk_at "x"
    refine mod_ii ⟨by omega, ?_⟩
    have h1 := Int.fmod_nonneg_of_pos (x.natAbs : Int) ht
    have h2 := Int.fmod_lt_of_pos (x.natAbs : Int) ht
    generalize (x.natAbs : Int).fmod top = r at *
    repeat walk_at "e"
    · exact q _ (by omega)
    · exact q _ (by omega)
  · intro pm cd doc xs h
    match xs, h with
    | [x, y], _ => rfl
def fT : Expr := whileTest (bodyAt P 4) 2
def fB : List Stmt := forBody (bodyAt P 4) 2
theorem fig_loop {b : Nat} (hb : 2 ≤ b) (hb16 : b ≤ 16) {n : Int} {Q' : Fl → Loc → Sto → Prop} : ∀ (f m k : Nat) (acc : List Nat) (loc : Loc), m < f → m < 2 ^ k → m < 2 ^ 70 → acc.length + k ≤ 100 → (0 < m ∨ acc = []) →
    Sub [("out", .str (tx acc)), ("left", .int (m : Int)), ("n", .int n), ("base", .int (b : Int))] loc →
    (∀ loc, Sub [("out", .str (tx (figR b f m acc))), ("n", .int n)] loc → Q' .next loc sto) → WhileS cx (scopeAt P 4) d fT fB (f + 1) loc sto Q'
  | 0, _, _, _, _, h, _, _, _, _, _, _ => absurd h (Nat.not_lt_zero _)
  | f + 1, m, k, acc, loc, hf, hk, h70, hlen, hrun, hsub, hQ => by
    unfold WhileS
    refine WT.weaken (loc' := [("out", .str (tx acc)), ("left", .int (m : Int)), ("n", .int n), ("base", .int (b : Int))]) ?_ hsub
    have body : WSs cx (scopeAt P 4) d fB loc sto (fun fl loc' sto' => match fl with
        | .next => WhileS cx (scopeAt P 4) d fT fB (f + 1) loc' sto' Q'
        | .cont => WhileS cx (scopeAt P 4) d fT fB (f + 1) loc' sto' Q'
        | .brk => Q' .next loc' sto'
        | .ret r => Q' (.ret r) loc' sto') := by
      refine WSs.sub (loc' := [("out", .str (tx acc)), ("left", .int (m : Int)), ("n", .int n), ("base", .int (b : Int))]) ?_ hsub
      conv => arg 4; whnf
      refine s_assign ?_
      refine we_bin ?_
      refine we_sub ?_
      refine we_strx [48, 49, 50, 51, 52, 53, 54, 55, 56, 57, 97, 98, 99, 100, 101, 102] (by decide +kernel) ?_
      repeat walk_at "x"
      refine mod_ii ⟨by omega, ?_⟩
      rw [fmodN b _ rfl]
      have hm : m % b < b := Nat.mod_lt _ (by omega)
      refine get_t (c := ch (m % b)) (by omega) (by omega) ?_ ?_
      · rw [Int.toNat_natCast]; exact (ch_ok (m % b) (by omega)).2.2.2.2
      repeat walk_at "x"
      refine add_tt ⟨by simp; omega, ?_⟩
      rw [List.singleton_append]
      refine s_assign ?_
      repeat walk_at "x"
      refine fdiv_ii ⟨by omega, PyProof.noPylong_small (by omega), ?_⟩
      rw [fdivN b _ rfl]
      refine ws_nil ?_
      show WhileS _ _ _ _ _ _ _ _ _
      have hmb : m / b ≤ m / 2 := Nat.div_le_div_left hb (by decide)
      by_cases h0 : m / b = 0
      · rw [h0]
        have hQ2 := fun loc (h : Sub [("out", .str (tx (ch (m % b) :: acc))), ("n", .int n)] loc) => hQ loc (by rw [figR, if_pos h0]; exact h)
        unfold WhileS
        show WT cx (scopeAt P 4) d fT _ sto _
        unfold fT
        conv => arg 4; whnf
        repeat walk_at "x"
        refine if_dec (fun h => absurd h (by decide)) (fun _ => ?_)
        repeat walk_at "x"
        refine we_strx [] (by decide +kernel) ?_
        refine eq_tt ?_
        repeat walk_at "x"
        refine if_ff ?_
        repeat walk_at "x"
        refine if_ff ?_
        exact hQ2 _ (by walk_at "sub")
      · have hk1 : 0 < k := by
          rcases Nat.eq_zero_or_pos k with rfl | h
          · exfalso; have : m = 0 := by simp at hk; omega
            subst this; simp at h0
          · exact h
        obtain ⟨k', rfl⟩ : ∃ k', k = k' + 1 := ⟨k - 1, by omega⟩
        have h2 : m / b < 2 ^ k' := by
          have h4 : 2 ^ (k' + 1) = 2 * 2 ^ k' := by rw [Nat.pow_succ]; omega
          omega
        refine fig_loop hb hb16 f (m / b) k' (ch (m % b) :: acc) _ (by omega) h2 (by omega) (by simp; omega) (.inl (Nat.pos_of_ne_zero h0)) (by walk_at "sub") fun loc hl => hQ loc ?_
        rw [figR, if_neg h0]; exact hl
    unfold fT
    conv => arg 4; whnf
    repeat walk_at "x"
    refine if_dec (fun _ => ?_) (fun h => ?_)
    · refine if_tt ?_
      exact body
    · have ha : acc = [] := by rcases hrun with h' | h'; exact absurd (by omega) h; exact h'
      subst ha
      repeat walk_at "x"
      refine we_strx [] (by decide +kernel) ?_
      refine eq_tt ?_
      repeat walk_at "x"
      refine if_tt ?_
      refine if_tt ?_
      exact body
theorem figures_ok (H : Env cx) {n : Int} {b : Nat} (hb : 2 ≤ b) (hb16 : b ≤ 16) (h : n.natAbs < 2 ^ 70) (q : Q (.str (tx (fig b n))) sto) : CallF cx (d + 1) "_law_figures" [.int n, .int (b : Int)] sto Q := by
  refine callF_keep (names := ["n", "base"]) H.h4 ?_ ?_
  · conv => arg 4; whnf
    refine s_assign ?_
    refine we_strx [] (by decide +kernel) ?_
    refine s_assign ?_
    refine we_bcall H.abs ?_
    repeat walk_at "x"
    refine call_abs ?_
    refine s_while (n.natAbs + 2) ?_
    refine fig_loop hb hb16 (n.natAbs + 1) n.natAbs 70 [] _ (by omega) h h (by simp) (.inr rfl) (by walk_at "sub") fun loc hl => ?_
    refine Then.next (WSs.sub ?_ hl)
    have hl := figs_len hb h
    change (figR b (n.natAbs + 1) n.natAbs []).length ≤ _ at hl
    have e : fig b n = sg n ++ figR b (n.natAbs + 1) n.natAbs [] := rfl
    rw [e] at q
    generalize figR b (n.natAbs + 1) n.natAbs [] = r at *
    refine s_return ?_
    refine we_ifexp ?_
    repeat walk_at "x"
    refine if_dec (fun hn => ?_) (fun hn => ?_)
    · refine we_bin ?_
      refine we_strx [45] (by decide +kernel) ?_
      repeat walk_at "x"
      refine add_tt ⟨by simp; omega, ?_⟩
      have : sg n = [45] := by unfold sg; rw [if_pos hn]
      rw [this] at q
      exact q
    · have : sg n = [] := by unfold sg; rw [if_neg hn]
      rw [this] at q
      repeat walk_at "x"
      exact q
  · intro pm cd doc xs h
    match xs, h with
    | [x, y], _ => rfl
theorem fig_wide {k : Nat} (h : k < 9) : fig 10 ((k : Int) + 1) = [49 + k] := by
  unfold fig sg
  rw [if_neg (by omega), show ((k : Int) + 1).natAbs = k + 1 by omega, fig_one k h]; rfl
theorem fig_nat (n : Nat) : fig 10 (n : Int) = figs 10 n := by
  unfold fig sg
  rw [if_neg (by omega), Int.natAbs_natCast]; rfl
/-- the sign's expression -/
def ifAt (b : List Stmt) : Expr := match (b[8]? : Option Stmt) with
  | some (.If _ (_ :: .Assign _ e _ :: _) _ _) => e
  | _ => .Constant .none 0 default
theorem part_tail (H : Env cx) {x : Int} (h : x.natAbs < 2 ^ 70) (hq : ∀ s v t, prt x = some (s, v, t) → Q (.tup [.str (tx s), v, .str (tx t)]) sto) (hq5 : prt x = none → Q (.tup [.str (tx [37]), .none, .str (tx [37])]) sto) :
    WSs cx (scopeAt P 5) (d + 1) ((bodyAt P 5).drop 3) [("value", .int (pval x)), ("size", .int (psz x : Int)), ("kind", .int ((x.natAbs % 6 : Nat) : Int)), ("x", .int x)] sto (Keep Q) := by
  have hv : (pval x).natAbs < 2 ^ 70 := by rw [pval_abs]; exact psz_lt h
  have hf := fig_len (b := 10) (by decide) hv
  have hn : psz x % 9 < 9 := Nat.mod_lt _ (by decide)
  have hp6 : x.natAbs % 6 < 6 := Nat.mod_lt _ (by decide)
  conv => arg 4; whnf
  refine s_assign ?_
  repeat walk_at "x"
  refine mod_ii ⟨by decide, ?_⟩
  rw [fmodN 9 9 rfl]
  repeat walk_at "x"
  refine s_assign ?_
  refine we_call ?_ (hne := H.h4.ne)
  repeat walk_at "x"
  refine figures_ok (b := 10) H (by decide) (by decide) (Nat.lt_of_le_of_lt (by omega : _ ≤ 9) (by decide)) ?_
  rw [fig_wide hn]
  refine s_if ?_
  repeat walk_at "x"
  refine if_eq (fun hk => ?_) (fun hk => ?_)
  · refine app_cons ?_
    refine s_return ?_
    refine we_tuple ?_
    refine wes_cons ?_
    refine we_strx [100] (by decide +kernel) ?_
    repeat walk_at "x"
    refine we_call ?_ (hne := H.h4.ne)
    repeat walk_at "x"
    refine figures_ok (b := 10) H (by decide) (by decide) hv ?_
    repeat walk_at "x"
    refine ⟨by simp [sizeLine], ?_⟩
    exact hq _ _ _ (by unfold prt; rw [if_pos (by omega)])
  refine app_nil ?_
  refine s_if ?_
  repeat walk_at "x"
  refine if_eq (fun hk1 => ?_) (fun hk1 => ?_)
  · refine app_cons ?_
    refine s_assign ?_
    refine we_call ?_ (hne := H.h4.ne)
    repeat walk_at "x"
    refine figures_ok (b := 10) H (by decide) (by decide) hv ?_
    refine app_cons ?_
    refine s_return ?_
    refine we_tuple ?_
    refine wes_cons ?_
    refine we_bin ?_
    repeat walk_at "x"
    refine we_strx [100] (by decide +kernel) ?_
    refine add_tt ⟨by simp, ?_⟩
    repeat walk_at "x"
    refine we_strx [32] (by decide +kernel) ?_
    repeat walk_at "x"
    refine we_bcall H.len ?_
    repeat walk_at "x"
    refine call_len_t ⟨by omega, ?_⟩
    repeat walk_at "x"
    refine mul_ti (by omega) (by omega) ?_
    repeat walk_at "x"
    refine add_tt ⟨by simp only [List.length_replicate]; omega, ?_⟩
    repeat walk_at "x"
    refine ⟨by simp [sizeLine], ?_⟩
    refine hq _ _ _ ?_
    unfold prt; rw [if_neg (by omega), if_pos (by omega)]
    rw [show (((psz x % 9 : Nat) : Int) + 1 - ((fig 10 (pval x)).length : Int)).toNat = psz x % 9 + 1 - (fig 10 (pval x)).length by omega]
    rfl
  refine app_nil ?_
  refine s_if ?_
  repeat walk_at "x"
  refine if_eq (fun hk2 => ?_) (fun hk2 => ?_)
  · have hw : (word x).length ≤ 6 := by unfold word; simp; omega
    have h7 : psz x % 7 < 7 := Nat.mod_lt _ (by decide)
    refine app_cons ?_
    refine s_assign ?_
    refine we_slice_t ?_
    refine we_strx [97, 98, 99, 97, 98, 99] (by decide +kernel) ?_
    repeat walk_at "x"
    refine mod_ii ⟨by decide, ?_⟩
    rw [fmodN 7 7 rfl]
    refine ⟨_, _, rfl, rfl, by simp; omega, by simp, ?_⟩
    change WSs _ _ _ _ (("word", .str (tx (word x))) :: _) _ _
    refine app_cons ?_
    refine s_return ?_
    refine we_tuple ?_
    refine wes_cons ?_
    refine we_bin ?_
    refine we_bin ?_
    refine we_strx [45] (by decide +kernel) ?_
    repeat walk_at "x"
    refine add_tt ⟨by simp, ?_⟩
    refine we_strx [115] (by decide +kernel) ?_
    refine add_tt ⟨by simp, ?_⟩
    repeat walk_at "x"
    refine we_strx [32] (by decide +kernel) ?_
    repeat walk_at "x"
    refine we_bcall H.len ?_
    repeat walk_at "x"
    refine call_len_t ⟨by omega, ?_⟩
    repeat walk_at "x"
    refine mul_ti (by omega) (by omega) ?_
    refine add_tt ⟨by simp only [List.length_replicate]; omega, ?_⟩
    repeat walk_at "x"
    refine ⟨by simp [sizeLine], ?_⟩
    refine hq _ _ _ ?_
    unfold prt; rw [if_neg (by omega), if_neg (by omega), if_pos (by omega)]
    rw [show (((psz x % 9 : Nat) : Int) + 1 - ((word x).length : Int)).toNat = psz x % 9 + 1 - (word x).length by omega]
    rfl
  refine app_nil ?_
  refine s_if ?_
  repeat walk_at "x"
  refine if_eq (fun hk3 => ?_) (fun hk3 => ?_)
  · have hsz : psz x < 2 ^ 70 := psz_lt h
    have hfs : (figs 10 (psz x)).length ≤ 71 := figs_len (by decide) hsz
    have hsg := sg_len (pval x)
    refine app_cons ?_
    refine s_assign ?_
    refine we_call ?_ (hne := H.h4.ne)
    repeat walk_at "x"
    refine figures_ok (b := 10) H (by decide) (by decide) (by rw [Int.natAbs_natCast]; exact hsz) ?_
    rw [fig_nat]
    refine app_cons ?_
    refine s_assign ?_
    have sgn : WE cx (scopeAt P 5) (d + 1) (ifAt (bodyAt P 5)) [("text", .str (tx (figs 10 (psz x)))), ("value", .int (pval x))] sto fun v st => v = .str (tx (sg (pval x))) ∧ st = sto := by
      conv => arg 4; whnf
      refine we_ifexp ?_
      repeat walk_at "x"
      refine if_dec (fun hn => ?_) (fun hn => ?_)
      · refine we_strx [45] (by decide +kernel) ⟨?_, rfl⟩
        unfold sg; rw [if_pos hn]
      · refine we_strx [] (by decide +kernel) ⟨?_, rfl⟩
        unfold sg; rw [if_neg hn]
    refine WE.weaken (loc' := [("text", .str (tx (figs 10 (psz x)))), ("value", .int (pval x))]) (WE.mono sgn ?_) (show Sub _ _ by walk_at "sub")
    rintro v st ⟨rfl, rfl⟩
    refine app_cons ?_
    refine s_return ?_
    refine we_tuple ?_
    refine wes_cons ?_
    refine we_bin ?_
    refine we_bin ?_
    refine we_strx [48] (by decide +kernel) ?_
    repeat walk_at "x"
    refine add_tt ⟨by simp, ?_⟩
    refine we_strx [100] (by decide +kernel) ?_
    refine add_tt ⟨by simp, ?_⟩
    repeat walk_at "x"
    refine we_strx [48] (by decide +kernel) ?_
    repeat walk_at "x"
    refine we_bcall H.len ?_
    repeat walk_at "x"
    refine call_len_t ⟨by omega, ?_⟩
    repeat walk_at "x"
    refine we_bcall H.len ?_
    repeat walk_at "x"
    refine call_len_t ⟨by omega, ?_⟩
    repeat walk_at "x"
    refine mul_ti (by omega) (by omega) ?_
    refine add_tt ⟨by simp only [List.length_replicate]; omega, ?_⟩
    repeat walk_at "x"
    refine add_tt ⟨by simp only [List.length_append, List.length_replicate]; omega, ?_⟩
    repeat walk_at "x"
    refine ⟨by simp [sizeLine], ?_⟩
    refine hq _ _ _ ?_
    unfold prt; rw [if_neg (by omega), if_neg (by omega), if_neg (by omega), if_pos (by omega)]
    rw [show (((psz x % 9 : Nat) : Int) + 1 - ((sg (pval x)).length : Int) - ((figs 10 (psz x)).length : Int)).toNat = psz x % 9 + 1 - ((sg (pval x)).length + (figs 10 (psz x)).length) by omega, List.append_assoc (sg (pval x))]
    rfl
  refine app_nil ?_
  refine s_if ?_
  repeat walk_at "x"
  refine if_eq (fun hk4 => ?_) (fun hk4 => ?_)
  · refine app_cons ?_
    refine s_return ?_
    refine we_tuple ?_
    refine wes_cons ?_
    refine we_strx [120] (by decide +kernel) ?_
    repeat walk_at "x"
    refine we_call ?_ (hne := H.h4.ne)
    repeat walk_at "x"
    refine figures_ok (b := 16) H (by decide) (by decide) hv ?_
    repeat walk_at "x"
    refine ⟨by simp [sizeLine], ?_⟩
    refine hq _ _ _ ?_
    unfold prt; rw [if_neg (by omega), if_neg (by omega), if_neg (by omega), if_neg (by omega), if_pos (by omega)]
  refine app_nil ?_
  refine s_return ?_
  refine we_tuple ?_
  refine wes_cons ?_
  refine we_strx [37] (by decide +kernel) ?_
  repeat walk_at "x"
  refine we_strx [37] (by decide +kernel) ?_
  repeat walk_at "x"
  refine ⟨by simp [sizeLine], ?_⟩
  refine hq5 ?_
  unfold prt; rw [if_neg (by omega), if_neg (by omega), if_neg (by omega), if_neg (by omega), if_neg (by omega)]
theorem part_ok (H : Env cx) {x : Int} (h : x.natAbs < 2 ^ 70) (q : Q (.tup [.str (tx (tl x)), vl x, .str (tx (wr x))]) sto) : CallF cx (d + 2) "_law_part" [.int x] sto Q := by
  have rest := part_tail (d := d) (Q := Q) (sto := sto) H h (fun s v t e => by unfold tl vl wr at q; rw [e] at q; exact q) (fun e => by unfold tl vl wr at q; rw [e] at q; exact q)
  refine callF_keep (names := ["x"]) H.h5 ?_ ?_
  · conv => arg 4; whnf
    refine s_assign ?_
    refine we_bin ?_
    refine we_bcall H.abs ?_
    repeat walk_at "x"
    refine call_abs ?_
    repeat walk_at "x"
    refine mod_ii ⟨by decide, ?_⟩
    rw [fmodN 6 6 rfl]
    refine s_assign ?_
    refine we_bin ?_
    refine we_bcall H.abs ?_
    repeat walk_at "x"
    refine call_abs ?_
    repeat walk_at "x"
    refine fdiv_ii ⟨by decide, PyProof.noPylong_small (by decide), ?_⟩
    rw [fdivN 6 6 rfl]
    change WSs _ _ _ _ (("size", .int (psz x : Int)) :: _) _ _
    refine s_assign ?_
    refine we_ifexp ?_
    repeat walk_at "x"
    refine if_dec (fun hn => ?_) (fun hn => ?_)
    · repeat walk_at "x"
      have e : -(psz x : Int) = pval x := by unfold pval; rw [if_pos hn]
      rw [e]
      exact rest
    · repeat walk_at "x"
      have e : (psz x : Int) = pval x := by unfold pval; rw [if_neg hn]
      change WSs _ _ _ _ (("value", .int (psz x : Int)) :: _) _ _
      refine WSs.sub rest ?_
      rw [← e]
      walk_at "sub"
  · intro pm cd doc xs h
    match xs, h with
    | [x], _ => rfl
theorem imod_ok (H : Env cx) {v w : V} (h : Op2 cx d (inplaceOp .Mod) v w sto Q) : CallF cx (d + 1) "imod" [v, w] sto Q := by
  refine callF_keep (names := ["a", "b"]) H.h1 ?_ ?_
  · conv => arg 4; whnf
    refine s_aug (by rfl) ?_
    refine we_name (by rfl) ?_
    intro A s ρ F x y hA B r₁ r₂
    refine wpAny_mono (h A s ρ F x y hA B r₁ r₂) (fun _ _ p => p.mono fun r st q => ?_) fun _ _ x => x
    repeat walk_at "e"
    exact q
  · intro pm cd doc xs h
    match xs, h with
    | [x, y], _ => rfl
theorem imod_x {v w : V} {cls : String} (H : Env cx) (h : Op2X cx d (inplaceOp .Mod) v w sto cls) : CallX cx (d + 1) "imod" [v, w] sto cls := by
  refine callX_def (names := ["a", "b"]) H.h1 ?_ ?_
  · conv => arg 4; whnf
    exact nx_aug (by rfl) (by rfl) h
  · intro pm cd doc xs h
    match xs, h with
    | [x, y], _ => rfl
theorem err_T {v w : V} (H : Env cx) (h : Op2X cx d (inplaceOp .Mod) v w sto "TypeError") (q : Q (.str "type") sto) : CallF cx (d + 2) "_law_error" [v, w] sto Q := by
  refine callF_keep (names := ["a", "b"]) H.h6 ?_ ?_
  · conv => arg 4; whnf
    refine s_try (cls := "TypeError") ?_
    refine xe_call ?_ H.h1.ne
    repeat walk_at "e"
    refine ⟨imod_x H h, ?_⟩
    refine hand_T H.te rfl ?_
    exact Then.ret q
  · intro pm cd doc xs h
    match xs, h with
    | [x, y], _ => rfl
theorem err_K {v w : V} (H : Env cx) (h : Op2X cx d (inplaceOp .Mod) v w sto "KeyError") (q : Q (.str "key") sto) : CallF cx (d + 2) "_law_error" [v, w] sto Q := by
  refine callF_keep (names := ["a", "b"]) H.h6 ?_ ?_
  · conv => arg 4; whnf
    refine s_try (cls := "KeyError") ?_
    refine xe_call ?_ H.h1.ne
    repeat walk_at "e"
    refine ⟨imod_x H h, ?_⟩
    refine hand_KnotT H.te ?_
    refine hand_K H.ke rfl ?_
    exact Then.ret q
  · intro pm cd doc xs h
    match xs, h with
    | [x, y], _ => rfl
theorem err_V {v w : V} (H : Env cx) (h : Op2X cx d (inplaceOp .Mod) v w sto "ValueError") (q : Q (.str "value") sto) : CallF cx (d + 2) "_law_error" [v, w] sto Q := by
  refine callF_keep (names := ["a", "b"]) H.h6 ?_ ?_
  · conv => arg 4; whnf
    refine s_try (cls := "ValueError") ?_
    refine xe_call ?_ H.h1.ne
    repeat walk_at "e"
    refine ⟨imod_x H h, ?_⟩
    refine hand_VnotT H.te ?_
    refine hand_VnotK H.ke ?_
    refine hand_V H.ve rfl ?_
    exact Then.ret q
  · intro pm cd doc xs h
    match xs, h with
    | [x, y], _ => rfl
end A04
end Mine

namespace Mine
local macro_rules | `(tactic| walk_at "x") => `(tactic| first
  | (with_reducible refine we_int ?_)
  | (with_reducible refine we_bool ?_)
  | (with_reducible refine we_none ?_)
  | (with_reducible refine we_bin ?_)
  | (with_reducible refine we_un ?_)
  | (with_reducible refine add_ii ?_)
  | (with_reducible refine sub_ii ?_)
  | (with_reducible refine neg_i ?_)
  | (with_reducible refine lt_ii ?_)
  | (with_reducible refine gt_ii ?_)
  | (with_reducible refine le_ii ?_)
  | (with_reducible refine ge_ii ?_)
  | (with_reducible refine eq_ii ?_)
  | (with_reducible refine ne_ii ?_)
  | (with_reducible refine iadd_ii ?_)
  | ((with_reducible show WE _ _ _ (Expr.Name _ _) _ _ _); refine we_name (by rfl) ?_)
  | (with_reducible refine wes_nil ?_)
  | ((with_reducible show WEs _ _ _ (_ :: _) _ _ _); refine wes_cons ?_)
  | ((with_reducible show WT _ _ _ (Expr.Compare _ [_] [_] _) _ _ _); refine wt_cmp ?_)
  | ((with_reducible show WE _ _ _ (Expr.Compare _ [_] [_] _) _ _ _); refine we_cmp ?_)
  | (with_reducible refine we_ifexp ?_)
  | (with_reducible refine wt_not ?_)
  | (with_reducible refine wt_and ?_)
  | (with_reducible refine wt_and_nil ?_)
  | (with_reducible refine wt_or ?_)
  | (with_reducible refine wt_or_nil ?_)
  | (with_reducible refine weo_none ?_)
  | (with_reducible refine weo_some ?_)
  | ((with_reducible show ∃ c, V.int _ = V.int c ∧ _); refine ⟨_, rfl, ?_⟩)
  | ((with_reducible show WE _ _ _ (Expr.Subscript _ (Expr.Slice _ _ _ _) _) _ _ _); refine WEN.data (wen_slice ?_))
  | ((with_reducible show WE _ _ _ (Expr.Subscript _ _ _) _ _ _); refine we_sub ?_)
  | ((with_reducible show ∃ c, V.bool _ = V.bool c ∧ _); refine ⟨_, rfl, ?_⟩))
local macro_rules | `(tactic| walk_at "i") => `(tactic| first
  | (with_reducible refine if_dec (fun _ => ?_) (fun _ => ?_))
  | (with_reducible refine if_ndec (fun _ => ?_) (fun _ => ?_))
  | (with_reducible refine if_eq (fun _ => ?_) (fun _ => ?_))
  | (with_reducible refine if_ne (fun _ => ?_) (fun _ => ?_))
  | (with_reducible refine if_tt ?_)
  | (with_reducible refine if_ff ?_)
  | (with_reducible refine if_ntt ?_)
  | (with_reducible refine if_nff ?_))
local macro_rules | `(tactic| walk_at "s") => `(tactic| first
  | ((with_reducible show WSs _ _ _ (Stmt.Assign [Expr.Name _ _] _ _ :: _) _ _ _); refine s_assign ?_)
  | ((with_reducible show WSs _ _ _ (Stmt.AugAssign (Expr.Name _ _) _ _ _ :: _) _ _ _); refine s_aug (by rfl) ?_)
  | (with_reducible refine s_return ?_)
  | (with_reducible refine s_if ?_)
  | (with_reducible refine app_nil ?_)
  | (with_reducible refine app_cons ?_))
local macro_rules | `(tactic| walk_at "e") => `(tactic| first | walk_at "x" | walk_at "s" | walk_at "i")
local macro_rules | `(tactic| walk_at "sub") => `(tactic| repeat' (first | exact Sub.nil | refine Sub.cons (by rfl) ?_))
namespace A04
variable {cx : Cx} {sc : Scope} {d : Nat} {sto : Sto} {loc : Loc} {D : Addr} {m : Str → Option V} {n : Nat}
theorem d_one {st : Stmt} {rest : List Stmt} {Q : Fl → Loc → Sto → (Str → Option V) → Nat → Prop}
    (h : ∀ cx', CxD cx D m n cx' → WSs cx' sc d [st] loc sto fun fl loc' sto' => match fl with | .next => WSsD cx sc d D rest loc' sto' m n Q | fl => Q fl loc' sto' m n) :
    WSsD cx sc d D (st :: rest) loc sto m n Q := d_seq (seg := [st]) h
theorem WSsD.sub {body : List Stmt} {loc' : Loc} {Q : Fl → Loc → Sto → (Str → Option V) → Nat → Prop} (h : WSsD cx sc d D body loc' sto m n Q) (hl : Sub loc' loc) : WSsD cx sc d D body loc sto m n Q :=
  fun env A s ρ F hE hA B f S => h env A s ρ F hE hA B (f.weaken hl) S
theorem is_none_f {v : V} {Q : V → Sto → Prop} (h : flatV v = true) (q : Q (.bool false) sto) : Op2 cx d (compareOp .Is) v .none sto Q :=
  is_none_v (b := false) (by cases v <;> first | rfl | cases h) (.inr h) q
/-- the law's names before turn i -/
def BL (ns : List Int) (i : Nat) (D : Addr) : Loc := [("numbers", .lst (ns.map V.int)), ("plain", .str (tx (codesV (psOf ns i)))), ("plain_told", .str (tx (outV (psOf ns i)))), ("named", .str (tx (codesN (rv ns i)))), ("named_told", .str (tx (outV (rv ns i)))), ("given", .obj 0), ("names", .raw (.ref D))]
def Post (ns : List Int) (i : Nat) (D : Addr) : Fl → Loc → Sto → (Str → Option V) → Nat → Prop := fun fl loc sto m n => fl = .next ∧ Sub (BL ns i D) loc ∧ sto = [valsV (psOf ns i)] ∧ Means ns i m ∧ n ≤ i
theorem turn_ok (H : Env cx) {ns : List Int} (hs : Small ns) (hl : ns.length = 15) {i : Nat} (hi : i < 15) (hm : Means ns i m) (hn : n ≤ i) :
    WSsD cx (scopeAt P 7) (d + 2) D (forBody (bodyAt P 7) 8) (("k", .int (i : Int)) :: BL ns i D) [valsV (psOf ns i)] m n (Post ns (i + 1) D) := by
  have hx := small_at hs i
  have e1 : codesV (psOf ns (i + 1)) = codesV (psOf ns i) ++ (37 :: (tl (ns[i]?.getD 0) ++ [124])) := by rw [psOf_succ, codesV_app, codesV_one]
  have e2 : outV (psOf ns (i + 1)) = outV (psOf ns i) ++ (wr (ns[i]?.getD 0) ++ [124]) := by rw [psOf_succ, outV_app, outV_one]
  have e3 : codesN (rv ns (i + 1)) = nm i (ns[i]?.getD 0) ++ codesN (rv ns i) := by rw [rv_succ, codesN_cons]
  have e4 : outV (rv ns (i + 1)) = wr (ns[i]?.getD 0) ++ 124 :: outV (rv ns i) := by rw [rv_succ, outV_cons]
  have e5 : valsV (psOf ns (i + 1)) = valsV (psOf ns i) ++ valsV [pv i (ns[i]?.getD 0)] := by rw [psOf_succ, valsV_app]
  have l1 := codes_len hs i
  have l2 := out_len hs i
  have l3 := rv_len hs i (by omega)
  have l4 := rv_out_len hs i
  have l5 := vals_len ns i
  have l6 := tl_len hx
  have l7 := wr_len hx
  have hget : (ns.map V.int)[i]? = some (.int (ns[i]?.getD 0)) := by
    have : i < ns.length := by omega
    simp [this]
  have sk : prt (ns[i]?.getD 0) = none → Means ns (i + 1) m := hm.skip
  have pt : ∀ q, prt (ns[i]?.getD 0) = some q → Means ns (i + 1) (fun y => if y = tx (key i) then some q.2.1 else m y) := fun q hq => hm.put hi hq
  have ok : ∀ q, prt (ns[i]?.getD 0) = some q → SpecV q.1 q.2.1 q.2.2 ∧ q.1.length ≤ 3 ∧ q.2.2.length ≤ 100 := fun q hq => prt_ok hx hq
  unfold Post BL
  rw [e1, e2, e3, e4, e5]
  generalize ns[i]?.getD 0 = x at *
  generalize codesV (psOf ns i) = A at *
  generalize outV (psOf ns i) = B at *
  generalize codesN (rv ns i) = C at *
  generalize outV (rv ns i) = E at *
  generalize valsV (psOf ns i) = G at *
  conv => arg 5; whnf
  refine d_one fun cx' hc => ?_
  have H' := H.ext hc
  refine s_three ?_
  refine we_call ?_ (hne := H'.h5.ne)
  refine wes_cons ?_
  refine we_sub ?_
  repeat walk_at "x"
  refine get_lst (j := i) (by omega) (idx_nn (by omega) (by rw [List.length_map]; omega)) hget ?_
  repeat walk_at "x"
  refine part_ok H' hx ?_
  refine ⟨_, _, _, rfl, ?_⟩
  refine ws_nil ?_
  show WSsD _ _ _ _ _ _ _ _ _ _
  clear H' hc
  conv => arg 5; whnf
  refine d_one fun cx' hc => ?_
  refine s_assign ?_
  refine we_bin ?_
  refine we_bin ?_
  refine we_bin ?_
  repeat walk_at "x"
  refine we_strx [37] (by decide +kernel) ?_
  refine add_tt ⟨by simp only [List.length_cons, List.length_nil]; omega, ?_⟩
  repeat walk_at "x"
  refine add_tt ⟨by simp only [List.length_append, List.length_cons, List.length_nil]; omega, ?_⟩
  refine we_strx [124] (by decide +kernel) ?_
  refine add_tt ⟨by simp only [List.length_append, List.length_cons, List.length_nil]; omega, ?_⟩
  rw [show A ++ [37] ++ tl x ++ [124] = A ++ (37 :: (tl x ++ [124])) by simp]
  refine ws_nil ?_
  show WSsD _ _ _ _ _ _ _ _ _ _
  conv => arg 5; whnf
  refine d_one fun cx' hc => ?_
  refine s_assign ?_
  refine we_bin ?_
  refine we_bin ?_
  repeat walk_at "x"
  refine add_tt ⟨by omega, ?_⟩
  refine we_strx [124] (by decide +kernel) ?_
  refine add_tt ⟨by simp only [List.length_append, List.length_cons, List.length_nil]; omega, ?_⟩
  rw [show B ++ wr x ++ [124] = B ++ (wr x ++ [124]) by simp]
  refine ws_nil ?_
  show WSsD _ _ _ _ _ _ _ _ _ _
  conv => arg 5; whnf
  refine d_one fun cx' hc => ?_
  refine s_assign ?_
  refine we_bin ?_
  refine we_bin ?_
  repeat walk_at "x"
  refine we_strx [124] (by decide +kernel) ?_
  refine add_tt ⟨by simp only [List.length_cons, List.length_nil]; omega, ?_⟩
  repeat walk_at "x"
  refine add_tt ⟨by simp only [List.length_append, List.length_cons, List.length_nil]; omega, ?_⟩
  rw [show wr x ++ [124] ++ E = wr x ++ 124 :: E by simp]
  refine ws_nil ?_
  show WSsD _ _ _ _ _ _ _ _ _ _
  conv => arg 5; whnf
  have z1 : ∀ q, prt x = some q → tl x = q.1 ∧ vl x = q.2.1 ∧ wr x = q.2.2 ∧ nm i x = 37 :: 40 :: (key i ++ 41 :: (q.1 ++ [124])) ∧ valsV [pv i x] = [q.2.1] := fun q e => by
    unfold tl vl wr nm pv; rw [e]; exact ⟨rfl, rfl, rfl, rfl, rfl⟩
  have z0 : prt x = none → tl x = [37] ∧ vl x = .none ∧ wr x = [37] ∧ nm i x = [37, 37, 124] ∧ valsV [pv i x] = [] := fun e => by
    unfold tl vl wr nm pv; rw [e]; exact ⟨rfl, rfl, rfl, rfl, rfl⟩
  clear e1 e2 e3 e4 e5
  cases hp : prt x with
  | none =>
    obtain ⟨y1, y2, y3, y4, y5⟩ := z0 hp
    have hm' := sk hp
    clear z1 z0 sk pt ok
    rw [y1, y2, y3, y4, y5, List.append_nil]
    refine d_if fun cx' hc => ?_
    refine wt_cmp ?_
    repeat walk_at "x"
    refine is_none_v (b := true) rfl (.inl rfl) ?_
    repeat walk_at "x"
    refine if_tt ?_
    conv => arg 5; whnf
    refine d_one fun cx' hc => ?_
    refine s_assign ?_
    refine we_bin ?_
    refine we_bin ?_
    refine we_bin ?_
    refine we_strx [37] (by decide +kernel) ?_
    repeat walk_at "x"
    refine add_tt ⟨by simp, ?_⟩
    refine we_strx [124] (by decide +kernel) ?_
    refine add_tt ⟨by simp, ?_⟩
    repeat walk_at "x"
    refine add_tt ⟨by simp only [List.length_append, List.length_cons, List.length_nil]; omega, ?_⟩
    refine ws_nil ?_
    show WSsD _ _ _ _ _ _ _ _ _ _
    refine d_all fun cx' hc => ws_nil ?_
    exact ⟨rfl, by walk_at "sub", rfl, hm', by omega⟩
  | some q =>
    obtain ⟨y1, y2, y3, y4, y5⟩ := z1 q hp
    have hm' := pt q hp
    obtain ⟨sp, s3, s100⟩ := ok q hp
    clear z1 z0 sk pt ok
    rw [y1, y2, y3, y4, y5]
    obtain ⟨qs, qv, qt⟩ := q
    replace sp : SpecV qs qv qt := sp
    replace s3 : qs.length ≤ 3 := s3
    replace s100 : qt.length ≤ 100 := s100
    have hfl : flatV qv = true := sp.1
    have hk72 : (key i).length ≤ 72 := key_len (Nat.lt_of_lt_of_le hi (by decide))
    show WSsD _ _ _ _ _ (("named_told", .str (tx (qt ++ 124 :: E))) :: ("plain_told", .str (tx (B ++ (qt ++ [124])))) :: ("plain", .str (tx (A ++ 37 :: (qs ++ [124])))) :: ("written", .str (tx qt)) :: ("value", qv) :: ("tail", .str (tx qs)) :: _) _ _ _ _
    refine d_if fun cx' hc => ?_
    refine wt_cmp ?_
    repeat walk_at "x"
    refine is_none_f hfl ?_
    repeat walk_at "x"
    refine if_ff ?_
    conv => arg 5; whnf
    refine d_one fun cx' hc => ?_
    have H' := H.ext hc
    refine s_assign ?_
    refine we_bin ?_
    refine we_strx [107] (by decide +kernel) ?_
    refine we_call ?_ (hne := H'.h4.ne)
    repeat walk_at "x"
    refine figures_ok (b := 10) H' (by decide) (by decide) (by omega) ?_
    rw [fig_nat]
    have hk73 : (figs 10 i).length ≤ 71 := by simpa [key] using hk72
    refine add_tt ⟨by simp only [List.length_cons, List.length_nil]; omega, ?_⟩
    refine ws_nil ?_
    clear H' hc hk73
    show WSsD _ _ _ _ _ (("name", .str (tx (key i))) :: _) _ _ _ _
    conv => arg 5; whnf
    refine d_one fun cx' hc => ?_
    refine s_assign ?_
    refine we_bin ?_
    refine we_bin ?_
    refine we_bin ?_
    refine we_bin ?_
    refine we_bin ?_
    refine we_strx [37, 40] (by decide +kernel) ?_
    repeat walk_at "x"
    refine add_tt ⟨by simp only [List.length_append, List.length_cons, List.length_nil]; omega, ?_⟩
    refine we_strx [41] (by decide +kernel) ?_
    refine add_tt ⟨by simp only [List.length_append, List.length_cons, List.length_nil]; omega, ?_⟩
    repeat walk_at "x"
    refine add_tt ⟨by simp only [List.length_append, List.length_cons, List.length_nil]; omega, ?_⟩
    refine we_strx [124] (by decide +kernel) ?_
    refine add_tt ⟨by simp only [List.length_append, List.length_cons, List.length_nil]; omega, ?_⟩
    repeat walk_at "x"
    refine add_tt ⟨by simp only [List.length_append, List.length_cons, List.length_nil]; omega, ?_⟩
    rw [show [37, 40] ++ key i ++ [41] ++ qs ++ [124] ++ C = 37 :: 40 :: (key i ++ 41 :: (qs ++ [124])) ++ C by simp]
    refine ws_nil ?_
    show WSsD _ _ _ _ _ _ _ _ _ _
    conv => arg 5; whnf
    refine d_set (by rfl) fun cx' hc => ?_
    repeat walk_at "x"
    refine ⟨_, rfl, hfl, by simp [sizeLine]; omega, ?_⟩
    conv => arg 5; whnf
    refine d_one fun cx' hc => ?_
    refine s_expr ?_
    refine we_append (n := 0) (by rfl) ?_
    repeat walk_at "x"
    refine ⟨G, rfl, by simp [sizeLine]; omega, ?_⟩
    refine ws_nil ?_
    show WSsD _ _ _ _ _ _ [G ++ [qv]] _ _ _
    conv => arg 5; whnf
    refine d_all fun cx' hc => ?_
    have H' := H.ext hc
    have hne : (qt != qt) = false := by simp
    refine s_if ?_
    refine wt_or ?_
    refine wt_cmp ?_
    refine we_call ?_ (hne := H'.h1.ne)
    refine wes_cons ?_
    refine we_bin ?_
    refine we_strx [37] (by decide +kernel) ?_
    repeat walk_at "x"
    refine add_tt ⟨by simp only [List.length_cons, List.length_nil]; omega, ?_⟩
    repeat walk_at "x"
    refine imod_ok H' (mod_one sp (by omega) ?_)
    repeat walk_at "x"
    refine ne_tt ?_
    rw [hne]
    repeat walk_at "x"
    refine if_ff ?_
    refine wt_or ?_
    refine wt_cmp ?_
    refine we_call ?_ (hne := H'.h1.ne)
    refine wes_cons ?_
    refine we_bin ?_
    refine we_strx [37] (by decide +kernel) ?_
    repeat walk_at "x"
    refine add_tt ⟨by simp only [List.length_cons, List.length_nil]; omega, ?_⟩
    refine wes_cons ?_
    refine we_tuple ?_
    repeat walk_at "x"
    refine ⟨by simp [sizeLine], ?_⟩
    repeat walk_at "x"
    refine imod_ok H' (mod_one_t sp (by omega) ?_)
    repeat walk_at "x"
    refine ne_tt ?_
    rw [hne]
    repeat walk_at "x"
    refine if_ff ?_
    repeat walk_at "x"
    refine if_ff ?_
    refine app_nil ?_
    refine ws_nil ?_
    exact ⟨rfl, by walk_at "sub", rfl, hm', by omega⟩
end A04
end Mine

namespace Mine
local macro_rules | `(tactic| walk_at "x") => `(tactic| first
  | (with_reducible refine we_int ?_)
  | (with_reducible refine we_bool ?_)
  | (with_reducible refine we_none ?_)
  | (with_reducible refine we_bin ?_)
  | (with_reducible refine we_un ?_)
  | (with_reducible refine add_ii ?_)
  | (with_reducible refine sub_ii ?_)
  | (with_reducible refine neg_i ?_)
  | (with_reducible refine lt_ii ?_)
  | (with_reducible refine gt_ii ?_)
  | (with_reducible refine le_ii ?_)
  | (with_reducible refine ge_ii ?_)
  | (with_reducible refine eq_ii ?_)
  | (with_reducible refine ne_ii ?_)
  | (with_reducible refine iadd_ii ?_)
  | ((with_reducible show WE _ _ _ (Expr.Name _ _) _ _ _); refine we_name (by rfl) ?_)
  | (with_reducible refine wes_nil ?_)
  | ((with_reducible show WEs _ _ _ (_ :: _) _ _ _); refine wes_cons ?_)
  | ((with_reducible show WT _ _ _ (Expr.Compare _ [_] [_] _) _ _ _); refine wt_cmp ?_)
  | ((with_reducible show WE _ _ _ (Expr.Compare _ [_] [_] _) _ _ _); refine we_cmp ?_)
  | (with_reducible refine we_ifexp ?_)
  | (with_reducible refine wt_not ?_)
  | (with_reducible refine wt_and ?_)
  | (with_reducible refine wt_and_nil ?_)
  | (with_reducible refine wt_or ?_)
  | (with_reducible refine wt_or_nil ?_)
  | (with_reducible refine weo_none ?_)
  | (with_reducible refine weo_some ?_)
  | ((with_reducible show ∃ c, V.int _ = V.int c ∧ _); refine ⟨_, rfl, ?_⟩)
  | ((with_reducible show WE _ _ _ (Expr.Subscript _ (Expr.Slice _ _ _ _) _) _ _ _); refine WEN.data (wen_slice ?_))
  | ((with_reducible show WE _ _ _ (Expr.Subscript _ _ _) _ _ _); refine we_sub ?_)
  | ((with_reducible show ∃ c, V.bool _ = V.bool c ∧ _); refine ⟨_, rfl, ?_⟩))
local macro_rules | `(tactic| walk_at "i") => `(tactic| first
  | (with_reducible refine if_dec (fun _ => ?_) (fun _ => ?_))
  | (with_reducible refine if_ndec (fun _ => ?_) (fun _ => ?_))
  | (with_reducible refine if_eq (fun _ => ?_) (fun _ => ?_))
  | (with_reducible refine if_ne (fun _ => ?_) (fun _ => ?_))
  | (with_reducible refine if_tt ?_)
  | (with_reducible refine if_ff ?_)
  | (with_reducible refine if_ntt ?_)
  | (with_reducible refine if_nff ?_))
local macro_rules | `(tactic| walk_at "s") => `(tactic| first
  | ((with_reducible show WSs _ _ _ (Stmt.Assign [Expr.Name _ _] _ _ :: _) _ _ _); refine s_assign ?_)
  | ((with_reducible show WSs _ _ _ (Stmt.AugAssign (Expr.Name _ _) _ _ _ :: _) _ _ _); refine s_aug (by rfl) ?_)
  | (with_reducible refine s_return ?_)
  | (with_reducible refine s_if ?_)
  | (with_reducible refine app_nil ?_)
  | (with_reducible refine app_cons ?_))
local macro_rules | `(tactic| walk_at "e") => `(tactic| first | walk_at "x" | walk_at "s" | walk_at "i")
local macro_rules | `(tactic| walk_at "sub") => `(tactic| repeat' (first | exact Sub.nil | refine Sub.cons (by rfl) ?_))
namespace A04
variable {cx : Cx} {sc : Scope} {d : Nat} {sto : Sto} {loc : Loc} {D : Addr} {m : Str → Option V}
/-- a and b, where a holds -/
theorem we_and2 {e₁ e₂ : Expr} {pos : Pos} {Q : V → Sto → Prop} (h : WE cx sc d e₁ loc sto fun v sto₁ => v = .bool true ∧ WE cx sc d e₂ loc sto₁ Q) : WE cx sc d (.BoolOp .And [e₁, e₂] pos) loc sto Q := by
  intro env A s ρ F hE hA B f
  refine BoolOp_and (wpAny_mono (h env A s ρ F hE hA B f) ?_ fun _ _ x => x)
  rintro x s₁ ⟨v, sto₁, ρ₁, F₁, st₁, r₁, B₁, rfl, h₁⟩
  simp only [VRel] at r₁
  subst r₁
  refine wpAny_truthy_bool ?_
  simp only [if_true]
  exact BoolOp_one (wpAny_mono (h₁ env A s₁ ρ₁ F₁ hE (hA.step st₁) B₁ (f.step B st₁)) (fun _ _ p => p.after st₁) fun _ _ x => x)
theorem pick_init {vs : List V} (h : vs ≠ []) : pickV vs none (some (-1)) none = vs.dropLast := by
  have hp : 0 < vs.length := List.length_pos_iff.mpr h
  have := pickV_run (vs := vs) (lo := none) (hi := some (-1)) (a := 0) (k := vs.length - 1) (by simp [sliceBounds]; omega) (by omega)
  rw [this, List.drop_zero, List.dropLast_eq_take]
theorem eq_ss_same {a : Str} {Q : V → Sto → Prop} (q : Q (.bool true) sto) : Op2 cx d (compareOp .Eq) (.str a) (.str a) sto Q := eq_ss (by simpa using q)
theorem ne_tt_same {a : List Nat} {Q : V → Sto → Prop} (q : Q (.bool false) sto) : Op2 cx d (compareOp .NotEq) (.str (tx a)) (.str (tx a)) sto Q := ne_tt (by simpa using q)
/-- one pair that doesn't go -/
theorem pair_ok (H : Env cx) {a : List Nat} {w : V} {Q : Fl → Loc → Sto → Prop} (h : Op2X cx d (inplaceOp .Mod) (.str (tx a)) w sto "TypeError") (hQ : ∀ loc', Sub loc loc' → Q .next loc' sto) (h0 : loc.lookup ("pair" : Str) = none) :
    WSs cx (scopeAt P 7) (d + 2) (forBody (bodyAt P 7) 15) (("pair", .tup [.str (tx a), w]) :: loc) sto Q := by
  conv => arg 4; whnf
  refine s_if ?_
  refine wt_cmp ?_
  refine we_call ?_ (hne := H.h6.ne)
  repeat walk_at "x"
  refine get_tup (by decide) (j := 0) (by rfl) (by rfl) ?_
  repeat walk_at "x"
  refine get_tup (by decide) (j := 1) (by rfl) (by rfl) ?_
  repeat walk_at "x"
  refine err_T H h ?_
  refine we_str ?_
  refine ne_ss_same ?_
  repeat walk_at "x"
  refine if_ff ?_
  refine app_nil ?_
  refine ws_nil ?_
  refine hQ _ ?_
  intro y v hy
  rw [lookup_cons']
  by_cases hx : y = ("pair" : Str)
  · subst hx; rw [h0] at hy; cases hy
  · rw [if_neg hx]; exact hy
theorem test_nil {A B : Sto → Prop} (q : if true = true then A sto else B sto) : TestS cx sc d [] loc sto fun b st => if b = true then A st else B st := q
theorem dbl_ok (H : Env cx) {T : List Nat} (hT : T.length ≤ 2000) {rest : List Stmt} {Q : Fl → Loc → Sto → Prop} (hl : loc.lookup ("plain_told" : Str) = some (.str (tx T))) (h0 : loc.lookup (".0" : Str) = none)
    (h : WSs cx (scopeAt P 7) (d + 2) rest (("doubled", .str (tx (dbl T))) :: loc) sto Q) :
    WSs cx (scopeAt P 7) (d + 2) (((bodyAt P 7).drop 12).take 1 ++ rest) loc sto Q := by
  conv => arg 4; whnf
  refine s_assign ?_
  refine we_join ?_
  refine WEN.data (wen_comp ?_ (h0 := h0))
  refine we_name hl ?_
  refine ⟨_, by simp [sizeLine]; omega, it_text, ?_⟩
  refine CompS.at _ (fun i acc st => st = sto ∧ acc = ((T.take i).map dblOne).map fun t => .str (tx t)) ?_ ?_ ⟨rfl, by simp⟩
  · rintro i v acc st hv ⟨rfl, rfl⟩
    rw [List.getElem?_map] at hv
    obtain ⟨c, hc, rfl⟩ := Option.map_eq_some_iff.mp hv
    have ht : T.take (i + 1) = T.take i ++ [c] := by rw [List.take_add_one, hc]; rfl
    refine test_nil (if_tt ?_)
    refine we_ifexp ?_
    refine wt_cmp ?_
    repeat walk_at "x"
    refine we_strx [37] (by decide +kernel) ?_
    refine eq_tt ?_
    repeat walk_at "x"
    by_cases h37 : c = 37
    · subst h37
      refine if_tt ?_
      refine we_strx [37, 37] (by decide +kernel) ⟨rfl, ?_⟩
      rw [ht]; simp [dblOne]
    · rw [show ([c] == [37]) = false by simp [h37]]
      refine if_ff ?_
      repeat walk_at "x"
      refine ⟨rfl, ?_⟩
      rw [ht]; simp [dblOne, h37]
  · rintro acc st ⟨rfl, rfl⟩
    rw [List.length_map, List.take_length]
    refine ⟨T.map dblOne, .lst _, by rw [dbl_flat]; have := dbl_le T; omega, ?_⟩
    rw [dbl_flat]
    exact h
theorem tail_ok (H : Env cx) {ns : List Int} (hs : Small ns) (h9 : ns[9]? = some (-606)) (hD : HasD cx D m) (hm : Means ns 15 m) :
    WSs cx (scopeAt P 7) (d + 2) ((bodyAt P 7).drop 9) (BL ns 15 D) [valsV (psOf ns 15)] (Ret 0 fun v _ => v = .bool true) := by
  have g1 := ps_good hs (i := 15) (by decide)
  have g2 := rv_good hs (i := 15) (by decide)
  have c1 := codes_ge ns 15
  have c2 := rv_ge ns 15
  have o1 := out_len hs 15
  have o2 := rv_out_len hs 15
  have hv := vals_ne h9
  have hvl := vals_len ns 15
  have hmr : ∀ p, some p ∈ rv ns 15 → m (tx p.key) = some p.v := hm.rv
  have hex : ∃ p, some p ∈ rv ns 15 := by obtain ⟨p, hp⟩ := mem_part h9; exact ⟨p, List.mem_reverse.mpr hp⟩
  unfold BL
  conv => arg 4; whnf
  refine s_assign ?_
  refine we_call ?_ (hne := H.h1.ne)
  repeat walk_at "x"
  refine we_tcall H.tuple ?_
  repeat walk_at "x"
  refine call_tuple (.obj rfl) (by simp [sizeLine]; omega) ?_
  repeat walk_at "x"
  refine imod_ok H (mod_parts g1 (by omega) (by omega) ?_)
  refine s_if ?_
  refine wt_or ?_
  refine wt_cmp ?_
  refine we_tcall H.type ?_
  repeat walk_at "x"
  refine call_type rfl ?_
  refine we_bname H.str ?_
  refine isnot_raw (by rfl) ?_
  rw [show (!((Value.type "str") == (Value.type "str"))) = false by rfl]
  repeat walk_at "x"
  refine if_ff ?_
  refine wt_or ?_
  repeat walk_at "x"
  refine ne_tt_same ?_
  repeat walk_at "x"
  refine if_ff ?_
  repeat walk_at "x"
  refine if_ff ?_
  refine app_nil ?_
  refine s_if ?_
  refine wt_cmp ?_
  refine we_call ?_ (hne := H.h1.ne)
  repeat walk_at "x"
  refine imod_ok H (mod_named hD g2 hmr (by omega) (by omega) ?_)
  repeat walk_at "x"
  refine ne_tt_same ?_
  repeat walk_at "x"
  refine if_ff ?_
  refine app_nil ?_
  refine dbl_ok (T := outV (psOf ns 15)) H (by omega) (by rfl) (by rfl) ?_
  refine s_if ?_
  refine wt_cmp ?_
  refine we_call ?_ (hne := H.h1.ne)
  repeat walk_at "x"
  refine we_tuple ?_
  repeat walk_at "x"
  refine ⟨by simp [sizeLine], ?_⟩
  repeat walk_at "x"
  refine imod_ok H (mod_dbl (by omega) ?_)
  repeat walk_at "x"
  refine ne_tt_same ?_
  repeat walk_at "x"
  refine if_ff ?_
  refine app_nil ?_
  refine s_if ?_
  refine wt_or ?_
  refine wt_cmp ?_
  refine we_call ?_ (hne := H.h6.ne)
  repeat walk_at "x"
  refine we_tcall H.tuple ?_
  repeat walk_at "x"
  refine ⟨valsV (psOf ns 15), .obj rfl, by decide, by simp [sizeLine]; omega, ?_⟩
  rw [pick_init hv]
  repeat walk_at "x"
  refine call_tuple (.lst _) (by simp [sizeLine]; omega) ?_
  repeat walk_at "x"
  refine err_T H (mod_few g1 hv (by omega) (by omega)) ?_
  refine we_str ?_
  refine ne_ss_same ?_
  repeat walk_at "x"
  refine if_ff ?_
  refine wt_or ?_
  refine wt_cmp ?_
  refine we_call ?_ (hne := H.h6.ne)
  repeat walk_at "x"
  refine we_tcall H.tuple ?_
  refine wes_cons ?_
  refine WEN.data (wen_bin ?_)
  repeat walk_at "x"
  refine WEN.data (wen_list ?_)
  repeat walk_at "x"
  refine ⟨by simp [sizeLine], ?_⟩
  refine add_ll (.obj rfl) (.lst _) ⟨by simp [sizeLine]; omega, ?_⟩
  repeat walk_at "x"
  refine call_tuple (.lst _) (by simp [sizeLine]; omega) ?_
  repeat walk_at "x"
  refine err_T H (mod_more g1 (by omega) (by omega)) ?_
  refine we_str ?_
  refine ne_ss_same ?_
  repeat walk_at "x"
  refine if_ff ?_
  repeat walk_at "x"
  refine if_ff ?_
  refine app_nil ?_
  refine s_for ?_
  refine we_tuple ?_
  refine wes_cons ?_
  refine we_tuple ?_
  refine wes_cons ?_
  refine we_strx [37, 100] (by decide +kernel) ?_
  refine wes_cons ?_
  refine we_str ?_
  repeat walk_at "x"
  refine ⟨by simp [sizeLine], ?_⟩
  refine wes_cons ?_
  refine we_tuple ?_
  refine wes_cons ?_
  refine we_strx [37, 120] (by decide +kernel) ?_
  refine wes_cons ?_
  refine we_str ?_
  repeat walk_at "x"
  refine ⟨by simp [sizeLine], ?_⟩
  refine wes_cons ?_
  refine we_tuple ?_
  refine wes_cons ?_
  refine we_strx [37, 53, 100] (by decide +kernel) ?_
  refine wes_cons ?_
  refine we_none ?_
  repeat walk_at "x"
  refine ⟨by simp [sizeLine], ?_⟩
  refine wes_cons ?_
  refine we_tuple ?_
  refine wes_cons ?_
  refine we_strx [37, 40, 107, 41, 100] (by decide +kernel) ?_
  refine wes_cons ?_
  refine we_int ?_
  repeat walk_at "x"
  refine ⟨by simp [sizeLine], ?_⟩
  refine wes_cons ?_
  refine we_tuple ?_
  refine wes_cons ?_
  refine we_strx [37, 40, 107, 41, 100] (by decide +kernel) ?_
  refine wes_cons ?_
  refine we_tuple ?_
  repeat walk_at "x"
  refine ⟨by simp [sizeLine], ?_⟩
  repeat walk_at "x"
  refine ⟨by simp [sizeLine], ?_⟩
  repeat walk_at "x"
  refine ⟨by simp [sizeLine], ?_⟩
  refine ⟨_, it_tup, ?_⟩
  refine LoopS.at _ (fun i loc st => st = [valsV (psOf ns 15)] ∧ Sub [("named", .str (tx (codesN (rv ns 15))))] loc) ?_ ?_ ⟨rfl, by walk_at "sub"⟩
  · rintro i v loc st hvi ⟨rfl, hsub⟩
    have hi : i < 5 := (List.getElem?_eq_some_iff.mp hvi).1
    refine WSs.sub (loc' := ("pair", v) :: [("named", .str (tx (codesN (rv ns 15))))]) ?_ hsub.under
    rcases (show i = 0 ∨ i = 1 ∨ i = 2 ∨ i = 3 ∨ i = 4 by omega) with rfl | rfl | rfl | rfl | rfl
    · replace hvi := Option.some.inj hvi
      subst hvi
      exact pair_ok H x_d_a (fun loc' hl => Turn.next ⟨rfl, hl⟩) (by rfl)
    · replace hvi := Option.some.inj hvi
      subst hvi
      exact pair_ok H x_x_a (fun loc' hl => Turn.next ⟨rfl, hl⟩) (by rfl)
    · replace hvi := Option.some.inj hvi
      subst hvi
      exact pair_ok H x_5_none (fun loc' hl => Turn.next ⟨rfl, hl⟩) (by rfl)
    · replace hvi := Option.some.inj hvi
      subst hvi
      exact pair_ok H x_k_int (fun loc' hl => Turn.next ⟨rfl, hl⟩) (by rfl)
    · replace hvi := Option.some.inj hvi
      subst hvi
      exact pair_ok H x_k_tup (fun loc' hl => Turn.next ⟨rfl, hl⟩) (by rfl)
  rintro loc st ⟨rfl, hsub⟩
  refine Then.next (WSs.sub ?_ hsub)
  refine s_if ?_
  refine wt_cmp ?_
  refine we_call_d ?_ (hne := H.h6.ne)
  repeat walk_at "x"
  intro cx' D' hc
  refine err_K (H.ext hc) (mod_keyx hc.has g2 hex (by omega) (by omega)) ?_
  refine we_str ?_
  refine ne_ss_same ?_
  repeat walk_at "x"
  refine if_ff ?_
  refine app_nil ?_
  refine s_return ?_
  refine we_and2 ?_
  refine we_cmp ?_
  refine we_call ?_ (hne := H.h6.ne)
  refine wes_cons ?_
  refine we_strx [37, 121] (by decide +kernel) ?_
  repeat walk_at "x"
  refine err_V H x_y_int ?_
  refine we_str ?_
  refine eq_ss_same ⟨rfl, ?_⟩
  refine we_cmp ?_
  refine we_call ?_ (hne := H.h6.ne)
  refine wes_cons ?_
  refine we_strx [37] (by decide +kernel) ?_
  repeat walk_at "x"
  refine err_V H x_p_int ?_
  refine we_str ?_
  refine eq_ss_same ?_
  exact ret_same0 rfl rfl
end A04
end Mine

namespace Mine
local macro_rules | `(tactic| walk_at "x") => `(tactic| first
  | (with_reducible refine we_int ?_)
  | (with_reducible refine we_bool ?_)
  | (with_reducible refine we_none ?_)
  | (with_reducible refine we_bin ?_)
  | (with_reducible refine we_un ?_)
  | (with_reducible refine add_ii ?_)
  | (with_reducible refine sub_ii ?_)
  | (with_reducible refine neg_i ?_)
  | (with_reducible refine lt_ii ?_)
  | (with_reducible refine gt_ii ?_)
  | (with_reducible refine le_ii ?_)
  | (with_reducible refine ge_ii ?_)
  | (with_reducible refine eq_ii ?_)
  | (with_reducible refine ne_ii ?_)
  | (with_reducible refine iadd_ii ?_)
  | ((with_reducible show WE _ _ _ (Expr.Name _ _) _ _ _); refine we_name (by rfl) ?_)
  | (with_reducible refine wes_nil ?_)
  | ((with_reducible show WEs _ _ _ (_ :: _) _ _ _); refine wes_cons ?_)
  | ((with_reducible show WT _ _ _ (Expr.Compare _ [_] [_] _) _ _ _); refine wt_cmp ?_)
  | ((with_reducible show WE _ _ _ (Expr.Compare _ [_] [_] _) _ _ _); refine we_cmp ?_)
  | (with_reducible refine we_ifexp ?_)
  | (with_reducible refine wt_not ?_)
  | (with_reducible refine wt_and ?_)
  | (with_reducible refine wt_and_nil ?_)
  | (with_reducible refine wt_or ?_)
  | (with_reducible refine wt_or_nil ?_)
  | (with_reducible refine weo_none ?_)
  | (with_reducible refine weo_some ?_)
  | ((with_reducible show ∃ c, V.int _ = V.int c ∧ _); refine ⟨_, rfl, ?_⟩)
  | ((with_reducible show WE _ _ _ (Expr.Subscript _ (Expr.Slice _ _ _ _) _) _ _ _); refine WEN.data (wen_slice ?_))
  | ((with_reducible show WE _ _ _ (Expr.Subscript _ _ _) _ _ _); refine we_sub ?_)
  | ((with_reducible show ∃ c, V.bool _ = V.bool c ∧ _); refine ⟨_, rfl, ?_⟩))
local macro_rules | `(tactic| walk_at "i") => `(tactic| first
  | (with_reducible refine if_dec (fun _ => ?_) (fun _ => ?_))
  | (with_reducible refine if_ndec (fun _ => ?_) (fun _ => ?_))
  | (with_reducible refine if_eq (fun _ => ?_) (fun _ => ?_))
  | (with_reducible refine if_ne (fun _ => ?_) (fun _ => ?_))
  | (with_reducible refine if_tt ?_)
  | (with_reducible refine if_ff ?_)
  | (with_reducible refine if_ntt ?_)
  | (with_reducible refine if_nff ?_))
local macro_rules | `(tactic| walk_at "s") => `(tactic| first
  | ((with_reducible show WSs _ _ _ (Stmt.Assign [Expr.Name _ _] _ _ :: _) _ _ _); refine s_assign ?_)
  | ((with_reducible show WSs _ _ _ (Stmt.AugAssign (Expr.Name _ _) _ _ _ :: _) _ _ _); refine s_aug (by rfl) ?_)
  | (with_reducible refine s_return ?_)
  | (with_reducible refine s_if ?_)
  | (with_reducible refine app_nil ?_)
  | (with_reducible refine app_cons ?_))
local macro_rules | `(tactic| walk_at "e") => `(tactic| first | walk_at "x" | walk_at "s" | walk_at "i")
local macro_rules | `(tactic| walk_at "sub") => `(tactic| repeat' (first | exact Sub.nil | refine Sub.cons (by rfl) ?_))
namespace A04
variable {cx : Cx} {d : Nat}
theorem law_ok (H : Env cx) {ns : List Int} (hlen : ns.length ≤ 63) : CallF cx (d + 3) "law" [.lst (ns.map V.int)] [] fun v _ => v = .bool true := by
  refine callF_def (names := ["script"]) H.h7 ?_ ?_
  · conv => arg 4; whnf
    refine s_comp ?_
    refine we_tcall H.range ?_
    repeat walk_at "e"
    refine call_range1 ?_
    refine ⟨_, by rw [rngV_length]; simp [sizeLine], it_rng1 (by decide) (by decide), ?_⟩
    refine CompS.up (fun i acc st => st = [] ∧ ∃ l : List Int, acc = l.map V.int ∧ l.length = i ∧ Small l) ?_ ?_ ⟨rfl, [], rfl, rfl, fun x hx => nomatch hx⟩
    · rintro i acc st hi ⟨rfl, l, rfl, rfl, hs⟩
      refine we_call ?_ (hne := H.h3.ne)
      refine wes_cons ?_
      refine we_sumfrom H.sum (by rfl) hlen (by decide) ?_
      repeat walk_at "x"
      intro n
      repeat walk_at "x"
      refine pow_ii ⟨by decide, by decide, ?_⟩
      repeat walk_at "x"
      refine cut_ok H (by decide) fun r hr => ?_
      refine ⟨rfl, l ++ [r], by simp, by simp, ?_⟩
      intro x hx
      rcases List.mem_append.mp hx with hx | hx
      · exact hs x hx
      · rw [List.mem_singleton.mp hx]
        have : ((10 : Int) ^ (20 : Int).toNat).natAbs < 2 ^ 70 := by decide
        omega
    rintro acc st ⟨rfl, l, rfl, hl, hs⟩
    replace hl : l.length = 9 := hl
    refine s_assign ?_
    refine WEN.data (wen_bin ?_)
    repeat walk_at "x"
    refine WEN.data (wen_list ?_)
    repeat walk_at "x"
    refine ⟨by simp [sizeLine], ?_⟩
    refine add_ll (.lst _) (.lst _) ⟨by simp [sizeLine]; omega, ?_⟩
    obtain ⟨a, ha, hal, has, ha9⟩ : ∃ a : List Int, l.map V.int ++ [V.int (-606), V.int 1027, V.int 14, V.int (-15), V.int 2026, V.int 11] = a.map V.int ∧ a.length = 15 ∧ Small a ∧ a[9]? = some (-606) := by
      refine ⟨l ++ [-606, 1027, 14, -15, 2026, 11], by simp, by simp [hl], fun x hx => ?_, ?_⟩
      · rcases List.mem_append.mp hx with hx | hx
        · exact hs x hx
        · simp only [List.mem_cons, List.not_mem_nil, or_false] at hx
          omega
      · rw [List.getElem?_append_right (by omega), hl]; rfl
    rw [ha]
    refine s_assign ?_
    refine we_strx [] (by decide +kernel) ?_
    refine s_assign ?_
    refine we_strx [] (by decide +kernel) ?_
    refine s_assign ?_
    refine we_strx [] (by decide +kernel) ?_
    refine s_assign ?_
    refine we_strx [] (by decide +kernel) ?_
    refine s_assign_new (wen_list ?_)
    repeat walk_at "x"
    refine ⟨by simp [sizeLine], ?_⟩
    refine d_new fun D => ?_
    refine d_for fun cx' hc => ?_
    have H' := H.ext hc
    refine we_tcall H'.range ?_
    refine wes_cons ?_
    refine we_bcall H'.len ?_
    repeat walk_at "x"
    refine call_len (.lst _) ⟨by simp; omega, ?_⟩
    rw [List.length_map, hal]
    repeat walk_at "x"
    refine call_range1 ?_
    refine ⟨_, it_rng1 (by decide) (by decide), ?_⟩
    refine LoopD.up (b := 15) (fun i loc st m n => Post a i D .next loc st m n) ?_ ?_ ?_
    · rintro i loc st m n hi ⟨_, hsub, rfl, hm, hn⟩
      refine (WSsD.sub (turn_ok H has hal hi hm hn) hsub.under).mono ?_
      rintro fl l st m n ⟨rfl, h⟩
      exact ⟨rfl, h⟩
    · rintro loc st m n ⟨_, hsub, rfl, hm, hn⟩
      show WSsD _ _ _ _ _ _ _ _ _ _
      refine WSsD.sub ?_ hsub
      refine d_all fun cx' hc => ?_
      exact tail_ok (H.ext hc) has ha9 hc.has hm
    · exact ⟨rfl, by unfold BL; walk_at "sub", rfl, fun p hp => (by simp [psOf] at hp), Nat.zero_le _⟩
  · intro pm cd doc xs h
    match xs, h with
    | [x], _ => rfl
end A04
end Mine

set_option maxHeartbeats 8000000 in
theorem PySem.Challenge.cw_dm0220_04_holds : PySem.Challenge.rw_dm0220_04.Holds := by
  w_on
  o_law
  k_head
  case hw => w_witness2
  k_fill
  intro w s₀ s₁ mg mb G Y fa o pm cd doc dV kV ho hd hcd hD hmg hg args vals as hpre hlay hrd hwl hlo
  refine Ground.open G ?_
  intro T B D TE TW
  wrow_args hpre hlay hrd hwl hlo
  rename IntsAre _ _ => hI
  rename Heap.IsList _ _ _ => hL
  refine wpAny_mono (Mine.law_top T hg hL hI hmg (Mine.A04.law_ok (d := 37) ⟨?_, ?_, ?_, ?_, ?_, ?_, ?_, ?_, ?_, ?_, ?_, ?_, ?_, ?_, ?_, ?_⟩ (by omega))) (fun v s' hv => GoodW.toG (Mine.goodW_true hv (fun _ => rfl) (postW_of rfl (w_eq_bool (w_res rfl) w_lit) rfl))) fun _ _ h => h.elim
  · exact Mine.fnIs (i := 0) (r := ⟨"imod", Mine.parAt Mine.A04.P 1, Mine.bodyAt Mine.A04.P 1, Mine.scopeAt Mine.A04.P 1, Mine.posAt Mine.A04.P 1⟩) (by kernel_rfl)
  · exact Mine.fnIs (i := 1) (r := ⟨"_law_cut", Mine.parAt Mine.A04.P 3, Mine.bodyAt Mine.A04.P 3, Mine.scopeAt Mine.A04.P 3, Mine.posAt Mine.A04.P 3⟩) (by kernel_rfl)
  · exact Mine.fnIs (i := 2) (r := ⟨"_law_figures", Mine.parAt Mine.A04.P 4, Mine.bodyAt Mine.A04.P 4, Mine.scopeAt Mine.A04.P 4, Mine.posAt Mine.A04.P 4⟩) (by kernel_rfl)
  · exact Mine.fnIs (i := 3) (r := ⟨"_law_part", Mine.parAt Mine.A04.P 5, Mine.bodyAt Mine.A04.P 5, Mine.scopeAt Mine.A04.P 5, Mine.posAt Mine.A04.P 5⟩) (by kernel_rfl)
  · exact Mine.fnIs (i := 4) (r := ⟨"_law_error", Mine.parAt Mine.A04.P 6, Mine.bodyAt Mine.A04.P 6, Mine.scopeAt Mine.A04.P 6, Mine.posAt Mine.A04.P 6⟩) (by kernel_rfl)
  · exact Mine.fnIs (i := 5) (r := ⟨"law", Mine.parAt Mine.A04.P 7, Mine.bodyAt Mine.A04.P 7, Mine.scopeAt Mine.A04.P 7, Mine.posAt Mine.A04.P 7⟩) (by kernel_rfl)
  all_goals exact ⟨T.free _ (by decide +kernel) (by decide +kernel) (by decide +kernel) (by decide +kernel) (by decide +kernel), (T.builtins _ (by decide +kernel)).trans (by kernel_rfl)⟩

