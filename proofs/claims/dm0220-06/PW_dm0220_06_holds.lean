import PyProof.Rows.All
import Wide.All
import OpenK.AllK
import Wide.FinOn
import PySem.Challenge.RW_dm0220_06
open PySem PySem.W PyProof.Rows
set_option Elab.async false
set_option maxRecDepth 100000
namespace Mine

/-- abstract values: obj n is the n-th tracked list; tup, lst are data that nobody writes -/
inductive V where
  | none
  | bool (b : Bool)
  | int (i : Int)
  | str (s : Str)
  | obj (n : Nat)
  | raw (v : Value)
  | tup (vs : List V)
  | lst (vs : List V)
  | rng (a b c : Int)
  | thing (T : String)

mutual
def VRel (F : Addr → Prop) (ρ : List Addr) (h : Heap) : V → Value → Prop
  | .none, x => x = .none
  | .bool b, x => x = .bool b
  | .int i, x => ∃ t, x = .int i t
  | .str u, x => ∃ t, x = .str u t
  | .obj n, x => ∃ a, ρ[n]? = some a ∧ x = .ref a
  | .raw v, x => x = v
  | .tup vs, x => ∃ a items, x = .ref a ∧ F a ∧ h.IsTuple a items ∧ VRels F ρ h vs items.toList
  | .lst vs, x => ∃ a items, x = .ref a ∧ F a ∧ h.IsList a items ∧ VRels F ρ h vs items.toList
  | .rng a b c, x => ∃ r t u v, x = .ref r ∧ F r ∧ IsRange h r a b c t u v
  | .thing T, x => ∃ a o, x = .ref a ∧ F a ∧ h.get? a = some o ∧ o.cls = .type T ∧ ∃ es n tb, o.data = .set es n tb
def VRels (F : Addr → Prop) (ρ : List Addr) (h : Heap) : List V → List Value → Prop
  | [], xs => xs = []
  | v :: vs, xs => ∃ y ys, xs = y :: ys ∧ VRel F ρ h v y ∧ VRels F ρ h vs ys
end

abbrev Loc := List (Str × V)
abbrev Sto := List (List V)

structure Cx where
  prog : Program
  w : World
  p : Program
  loose : List Str
  mean : ExcName → Option Value
  mg : Str → Option Value
  mb : Str → Option Value
  base : Heap
  os : OsState
  top : Top p loose mean mg mb base

mutual
theorem VRel.mono {F F' : Addr → Prop} {ρ ρ' : List Addr} {h h' : Heap} (hF : ∀ a, F a → F' a) (hρ : ∀ (n : Nat) (a : Addr), ρ[n]? = some a → ρ'[n]? = some a)
    (hk : ∀ a o, F a → h.get? a = some o → (∀ es n, o.data ≠ .dict es n) → h'.get? a = some o) : ∀ {v : V} {x : Value}, VRel F ρ h v x → VRel F' ρ' h' v x
  | .none, _, q => q
  | .bool _, _, q => q
  | .int _, _, q => q
  | .str _, _, q => q
  | .obj _, _, q => by
    simp only [VRel] at q ⊢
    obtain ⟨a, h1, h2⟩ := q
    exact ⟨a, hρ _ _ h1, h2⟩
  | .raw _, _, q => q
  | .tup vs, _, q => by
    simp only [VRel] at q ⊢
    obtain ⟨a, items, h1, h2, ⟨o, ho, hc, n, hd⟩, h4⟩ := q
    exact ⟨a, items, h1, hF _ h2, ⟨o, hk _ _ h2 ho (fun es n q => by rw [hd] at q; cases q), hc, n, hd⟩, VRels.mono hF hρ hk h4⟩
  | .lst vs, _, q => by
    simp only [VRel] at q ⊢
    obtain ⟨a, items, h1, h2, ⟨o, ho, hc, n, hd⟩, h4⟩ := q
    exact ⟨a, items, h1, hF _ h2, ⟨o, hk _ _ h2 ho (fun es n q => by rw [hd] at q; cases q), hc, n, hd⟩, VRels.mono hF hρ hk h4⟩
  | .rng _ _ _, _, q => by
    simp only [VRel] at q ⊢
    obtain ⟨r, t, u, v, h1, h2, h3⟩ := q
    exact ⟨r, t, u, v, h1, hF _ h2, hk _ _ h2 h3 (fun es n q => by cases q)⟩
  | .thing _, _, q => by
    simp only [VRel] at q ⊢
    obtain ⟨a, o, h1, h2, h3, h4, h5⟩ := q
    exact ⟨a, o, h1, hF _ h2, hk _ _ h2 h3 (fun es n q => by obtain ⟨es', n', tb, hd⟩ := h5; rw [hd] at q; cases q), h4, h5⟩
theorem VRels.mono {F F' : Addr → Prop} {ρ ρ' : List Addr} {h h' : Heap} (hF : ∀ a, F a → F' a) (hρ : ∀ (n : Nat) (a : Addr), ρ[n]? = some a → ρ'[n]? = some a)
    (hk : ∀ a o, F a → h.get? a = some o → (∀ es n, o.data ≠ .dict es n) → h'.get? a = some o) : ∀ {vs : List V} {xs : List Value}, VRels F ρ h vs xs → VRels F' ρ' h' vs xs
  | [], _, q => q
  | v :: vs, _, q => by
    simp only [VRels] at q ⊢
    obtain ⟨y, ys, h1, h2, h3⟩ := q
    exact ⟨y, ys, h1, VRel.mono hF hρ hk h2, VRels.mono hF hρ hk h3⟩
end

theorem VRels.length {F : Addr → Prop} {ρ : List Addr} {h : Heap} : ∀ {vs : List V} {xs : List Value}, VRels F ρ h vs xs → xs.length = vs.length
  | [], _, q => by simp only [VRels] at q; subst q; rfl
  | _ :: _, _, q => by
    simp only [VRels] at q
    obtain ⟨y, ys, rfl, _, h3⟩ := q
    simp [VRels.length h3]

theorem VRels.get {F : Addr → Prop} {ρ : List Addr} {h : Heap} : ∀ {vs : List V} {xs : List Value}, VRels F ρ h vs xs → ∀ {i : Nat} {v : V}, vs[i]? = some v → ∃ x, xs[i]? = some x ∧ VRel F ρ h v x
  | [], _, _, i, v, e => by simp at e
  | w :: vs, _, q, i, v, e => by
    simp only [VRels] at q
    obtain ⟨y, ys, rfl, h2, h3⟩ := q
    cases i with
    | zero => simp at e; subst e; exact ⟨y, rfl, h2⟩
    | succ i => simpa using VRels.get h3 (i := i) (by simpa using e)

theorem VRels.of_get {F : Addr → Prop} {ρ : List Addr} {h : Heap} : ∀ {vs : List V} {xs : List Value}, xs.length = vs.length →
    (∀ (i : Nat) (v : V) (x : Value), vs[i]? = some v → xs[i]? = some x → VRel F ρ h v x) → VRels F ρ h vs xs
  | [], [], _, _ => by simp [VRels]
  | [], _ :: _, e, _ => by simp at e
  | _ :: _, [], e, _ => by simp at e
  | v :: vs, x :: xs, e, q => by
    simp only [VRels]
    exact ⟨x, xs, rfl, q 0 v x rfl rfl, VRels.of_get (by simpa using e) fun i v x h1 h2 => q (i + 1) v x (by simpa using h1) (by simpa using h2)⟩

theorem VRels.append {F : Addr → Prop} {ρ : List Addr} {h : Heap} : ∀ {vs : List V} {xs : List Value} {us : List V} {ys : List Value}, VRels F ρ h vs xs → VRels F ρ h us ys → VRels F ρ h (vs ++ us) (xs ++ ys)
  | [], _, _, _, q, r => by simp only [VRels] at q; subst q; simpa using r
  | _ :: _, _, _, _, q, r => by
    simp only [VRels] at q
    obtain ⟨y, ys', rfl, h2, h3⟩ := q
    simp only [List.cons_append, VRels]
    exact ⟨y, _, rfl, h2, VRels.append h3 r⟩

/-- the frame-independent part: the top's heap stays; the tracked lists are as the store tells -/
structure Base (cx : Cx) (ρ : List Addr) (F : Addr → Prop) (sto : Sto) (s : Shared) : Prop where
  stays : ∀ b o, cx.base.get? b = some o → s.heap.get? b = some o
  rnew : ∀ a ∈ ρ, cx.base.get? a = none
  nodup : ρ.Nodup
  len : ρ.length = sto.length
  objs : ∀ (i : Nat) (a : Addr) (vs : List V), ρ[i]? = some a → sto[i]? = some vs → ∃ items, s.heap.PlainList a items ∧ VRels F ρ s.heap vs items.toList
  disj : ∀ a, F a → a ∉ ρ
  live : ∀ a, F a → ∃ o, s.heap.get? a = some o
  gens : s.gens = #[]
  os : s.os = cx.os

def Kept1 (o o' : Obj) : Prop := o' = o ∨ ((∃ es n, o.data = .dict es n) ∧ ∃ sl, o' = { o with slots := sl })

structure Step (Wr : Addr → Prop) (ρ : List Addr) (F : Addr → Prop) (s : Shared) (ρ' : List Addr) (F' : Addr → Prop) (s' : Shared) : Prop where
  pre : ∃ t, ρ' = ρ ++ t
  sub : ∀ a, F a → F' a
  newr : ∀ a ∈ ρ', a ∈ ρ ∨ s.heap.get? a = none
  newF : ∀ a, F' a → F a ∨ s.heap.get? a = none
  kept : ∀ b o, b ∉ ρ → ¬ Wr b → s.heap.get? b = some o → ∃ o', s'.heap.get? b = some o' ∧ Kept1 o o'
  alive : ∀ b o, s.heap.get? b = some o → ∃ o', s'.heap.get? b = some o' ∧ ((∀ vs, o.data ≠ .fields vs) → ∀ vs, o'.data ≠ .fields vs) ∧ ((∃ es n, o.data = .dict es n) → ∃ es n, o'.data = .dict es n)

def NoWr : Addr → Prop := fun _ => False

theorem Kept1.refl (o : Obj) : Kept1 o o := .inl rfl
theorem Kept1.trans {a b c : Obj} (x : Kept1 a b) (y : Kept1 b c) : Kept1 a c := by
  rcases x with rfl | ⟨⟨es, n, hd⟩, sl, rfl⟩
  · exact y
  · rcases y with rfl | ⟨_, sl', rfl⟩
    · exact .inr ⟨⟨es, n, hd⟩, sl, rfl⟩
    · exact .inr ⟨⟨es, n, hd⟩, sl', rfl⟩
theorem Kept1.data {a b : Obj} (x : Kept1 a b) : b.data = a.data := by
  rcases x with rfl | ⟨_, sl, rfl⟩ <;> rfl
theorem Kept1.same {a b : Obj} (x : Kept1 a b) (h : ∀ es n, a.data ≠ .dict es n) : b = a := by
  rcases x with rfl | ⟨⟨es, n, hd⟩, _⟩
  · rfl
  · exact absurd hd (h es n)

theorem Step.refl {Wr : Addr → Prop} {ρ : List Addr} {F : Addr → Prop} {s : Shared} : Step Wr ρ F s ρ F s where
  pre := ⟨[], by simp⟩
  sub := fun _ h => h
  newr := fun _ h => .inl h
  newF := fun _ h => .inl h
  kept := fun _ o _ _ e => ⟨o, e, .refl o⟩
  alive := fun _ o e => ⟨o, e, fun h => h, fun h => h⟩

theorem Step.trans {Wr : Addr → Prop} {ρ ρ₁ ρ₂ : List Addr} {F F₁ F₂ : Addr → Prop} {s s₁ s₂ : Shared} (x : Step Wr ρ F s ρ₁ F₁ s₁) (y : Step Wr ρ₁ F₁ s₁ ρ₂ F₂ s₂) : Step Wr ρ F s ρ₂ F₂ s₂ where
  pre := by obtain ⟨t, rfl⟩ := x.pre; obtain ⟨u, rfl⟩ := y.pre; exact ⟨t ++ u, by simp⟩
  sub := fun a h => y.sub a (x.sub a h)
  newr := fun a h => by
    rcases y.newr a h with h | h
    · exact x.newr a h
    · right
      cases e : s.heap.get? a with
      | none => rfl
      | some o => obtain ⟨o', e', _⟩ := x.alive a o e; rw [h] at e'; cases e'
  newF := fun a h => by
    rcases y.newF a h with h | h
    · exact x.newF a h
    · right
      cases e : s.heap.get? a with
      | none => rfl
      | some o => obtain ⟨o', e', _⟩ := x.alive a o e; rw [h] at e'; cases e'
  kept := fun b o hb hw e => by
    obtain ⟨o₁, e₁, k₁⟩ := x.kept b o hb hw e
    have hb₁ : b ∉ ρ₁ := fun h => by
      rcases x.newr b h with h | h
      · exact hb h
      · rw [h] at e; cases e
    obtain ⟨o₂, e₂, k₂⟩ := y.kept b o₁ hb₁ hw e₁
    exact ⟨o₂, e₂, k₁.trans k₂⟩
  alive := fun b o e => by
    obtain ⟨o₁, e₁, k₁, l₁⟩ := x.alive b o e
    obtain ⟨o₂, e₂, k₂, l₂⟩ := y.alive b o₁ e₁
    exact ⟨o₂, e₂, fun h => k₂ (k₁ h), fun h => l₂ (l₁ h)⟩

theorem Step.weaken {Wr Wr' : Addr → Prop} {ρ ρ' : List Addr} {F F' : Addr → Prop} {s s' : Shared} (x : Step Wr ρ F s ρ' F' s') (h : ∀ b, Wr b → Wr' b) : Step Wr' ρ F s ρ' F' s' where
  pre := x.pre
  sub := x.sub
  newr := x.newr
  newF := x.newF
  kept := fun b o hb hw e => x.kept b o hb (fun q => hw (h b q)) e
  alive := x.alive

theorem Step.getr {Wr : Addr → Prop} {ρ ρ' : List Addr} {F F' : Addr → Prop} {s s' : Shared} (x : Step Wr ρ F s ρ' F' s') : ∀ (n : Nat) (a : Addr), ρ[n]? = some a → ρ'[n]? = some a := by
  obtain ⟨t, rfl⟩ := x.pre
  intro n a h
  rw [List.getElem?_append_left]
  · exact h
  · exact (List.getElem?_eq_some_iff.mp h).1

theorem Step.vrel {cx : Cx} {Wr : Addr → Prop} {ρ ρ' : List Addr} {F F' : Addr → Prop} {s s' : Shared} {sto : Sto} {v : V} {x : Value} (st : Step Wr ρ F s ρ' F' s') (B : Base cx ρ F sto s) (hW : ∀ a, Wr a → ¬ F a)
    (q : VRel F ρ s.heap v x) : VRel F' ρ' s'.heap v x :=
  q.mono st.sub st.getr fun a o ha e hd => by
    obtain ⟨o', e', k⟩ := st.kept a o (B.disj a ha) (fun h => hW a h ha) e
    rw [k.same hd] at e'
    exact e'
theorem Step.vrels {cx : Cx} {Wr : Addr → Prop} {ρ ρ' : List Addr} {F F' : Addr → Prop} {s s' : Shared} {sto : Sto} {v : List V} {x : List Value} (st : Step Wr ρ F s ρ' F' s') (B : Base cx ρ F sto s) (hW : ∀ a, Wr a → ¬ F a)
    (q : VRels F ρ s.heap v x) : VRels F' ρ' s'.heap v x :=
  q.mono st.sub st.getr fun a o ha e hd => by
    obtain ⟨o', e', k⟩ := st.kept a o (B.disj a ha) (fun h => hW a h ha) e
    rw [k.same hd] at e'
    exact e'

def Own (env : Env) (b : Addr) : Prop := b = env.locals ∨ ∃ x, env.cells.lookup x = some b

structure Frame (cx : Cx) (env : Env) (ρ : List Addr) (F : Addr → Prop) (loc : Loc) (s : Shared) : Prop where
  ns : ∃ m, s.heap.Ns env.locals m ∧ ∀ x v, loc.lookup x = some v → env.kindOf x = some .local → ∃ y, m x = some y ∧ VRel F ρ s.heap v y
  cell : ∀ x v, loc.lookup x = some v → env.kindOf x = some .cell → ∃ c y, env.cells.lookup x = some c ∧ s.heap.IsCell c (some y) ∧ VRel F ρ s.heap v y
  cells : ∀ x, env.kindOf x = some .cell → ∃ c o, env.cells.lookup x = some c ∧ s.heap.IsCell c o
  apart : ∀ x y c, env.cells.lookup x = some c → env.cells.lookup y = some c → x = y
  own : ∀ b, Own env b → b ∉ ρ ∧ ¬ F b ∧ cx.base.get? b = none ∧ ∃ o, s.heap.get? b = some o
  lc : ∀ x c, env.cells.lookup x = some c → c ≠ env.locals

/-- what is fixed of a frame -/
structure EnvOK (sc : Scope) (env : Env) (A : Around) : Prop where
  scope : env.scope = sc
  kind : sc.kind = .function
  globals : env.globals = mainGlobals
  builtins : env.builtins = builtinsNs
  top : sc.names.lookup (".0" : Str) = none → env.frame = some env.locals ∧ ∃ outer, A.frames = some (env :: outer)

structure AOK (cx : Cx) (d : Nat) (A : Around) (h : Heap) : Prop where
  handled : A.handled = none
  depth : A.depth + d < recursionLimit
  units : A.units + 16 * d + 16 < cLine
  codes : ∀ outer, A.frames = some outer → ∀ env ∈ outer, ∃ c o vs, env.code = .ref c ∧ cx.base.get? c = some o ∧ o.data = .fields vs
  frames : ∃ outer, A.frames = some outer ∧ h.FunFrames cx.base outer ∧ ∀ env ∈ outer, ∀ L, env.frame = some L → ∃ o es n, h.get? L = some o ∧ o.data = .dict es n

theorem AOK.step {cx : Cx} {d : Nat} {A : Around} {Wr : Addr → Prop} {ρ ρ' : List Addr} {F F' : Addr → Prop} {s s' : Shared} (a : AOK cx d A s.heap) (st : Step Wr ρ F s ρ' F' s') : AOK cx d A s'.heap where
  handled := a.handled
  depth := a.depth
  units := a.units
  codes := a.codes
  frames := by
    obtain ⟨outer, h1, h2, h3⟩ := a.frames
    refine ⟨outer, h1, ?_, fun env he L hL => ?_⟩
    · clear h1 h3
      induction outer with
      | nil => trivial
      | cons env rest ih =>
        obtain ⟨hk, ⟨L, o, hf, hn, ho, hd⟩, hr⟩ := h2
        obtain ⟨o', ho', hd', _⟩ := st.alive L o ho
        exact ⟨hk, ⟨L, o', hf, hn, ho', hd' hd⟩, ih hr⟩
    · obtain ⟨o, es, n, ho, hd⟩ := h3 env he L hL
      obtain ⟨o', ho', _, hd'⟩ := st.alive L o ho
      obtain ⟨es', n', e'⟩ := hd' ⟨es, n, hd⟩
      exact ⟨o', es', n', ho', e'⟩

/-- what an evaluation leaves -/
def PostV (cx : Cx) (ρ : List Addr) (F : Addr → Prop) (s : Shared) (Q : V → Sto → Prop) : Value → Shared → Prop :=
  fun x s' => ∃ v sto' ρ' F', Step NoWr ρ F s ρ' F' s' ∧ VRel F' ρ' s'.heap v x ∧ Base cx ρ' F' sto' s' ∧ Q v sto'
def PostVs (cx : Cx) (ρ : List Addr) (F : Addr → Prop) (s : Shared) (Q : List V → Sto → Prop) : List Value → Shared → Prop :=
  fun x s' => ∃ v sto' ρ' F', Step NoWr ρ F s ρ' F' s' ∧ VRels F' ρ' s'.heap v x ∧ Base cx ρ' F' sto' s' ∧ Q v sto'
def PostB (cx : Cx) (ρ : List Addr) (F : Addr → Prop) (s : Shared) (Q : Bool → Sto → Prop) : Bool → Shared → Prop :=
  fun x s' => ∃ sto' ρ' F', Step NoWr ρ F s ρ' F' s' ∧ Base cx ρ' F' sto' s' ∧ Q x sto'

/-- expressions -/
def WE (cx : Cx) (sc : Scope) (d : Nat) (e : Expr) (loc : Loc) (sto : Sto) (Q : V → Sto → Prop) : Prop :=
  ∀ env A s ρ F, EnvOK sc env A → AOK cx d A s.heap → Base cx ρ F sto s → Frame cx env ρ F loc s →
    wpAny (model cx.prog cx.w) A (eval e env) (PostV cx ρ F s Q) (fun _ _ => False) s

inductive Fl where
  | next | brk | cont
  | ret (v : V)

def FlRel (F : Addr → Prop) (ρ : List Addr) (h : Heap) : Fl → Flow → Prop
  | .next, f => f = .next
  | .brk, f => f = .brk
  | .cont, f => f = .cont
  | .ret v, f => ∃ x, f = .ret x ∧ VRel F ρ h v x

def PostS (cx : Cx) (env : Env) (ρ : List Addr) (F : Addr → Prop) (s : Shared) (Q : Fl → Loc → Sto → Prop) : Flow → Shared → Prop :=
  fun f s' => ∃ fl loc' sto' ρ' F', Step (Own env) ρ F s ρ' F' s' ∧ FlRel F' ρ' s'.heap fl f ∧ Base cx ρ' F' sto' s' ∧ Frame cx env ρ' F' loc' s' ∧ Q fl loc' sto'

def WSs (cx : Cx) (sc : Scope) (d : Nat) (body : List Stmt) (loc : Loc) (sto : Sto) (Q : Fl → Loc → Sto → Prop) : Prop :=
  ∀ env A s ρ F, EnvOK sc env A → AOK cx d A s.heap → Base cx ρ F sto s → Frame cx env ρ F loc s →
    wpAny (model cx.prog cx.w) A (execs body env) (PostS cx env ρ F s Q) (fun _ _ => False) s

def WS (cx : Cx) (sc : Scope) (d : Nat) (st : Stmt) (loc : Loc) (sto : Sto) (Q : Fl → Loc → Sto → Prop) : Prop :=
  ∀ env A s ρ F, EnvOK sc env A → AOK cx d A s.heap → Base cx ρ F sto s → Frame cx env ρ F loc s →
    wpAny (model cx.prog cx.w) A (exec st env) (PostS cx env ρ F s Q) (fun _ _ => False) s

/-- a test -/
def WT (cx : Cx) (sc : Scope) (d : Nat) (e : Expr) (loc : Loc) (sto : Sto) (Q : Bool → Sto → Prop) : Prop :=
  ∀ env A s ρ F, EnvOK sc env A → AOK cx d A s.heap → Base cx ρ F sto s → Frame cx env ρ F loc s →
    wpAny (model cx.prog cx.w) A (isTrue e env (eval e env)) (PostB cx ρ F s Q) (fun _ _ => False) s

/-- several expressions, from the left -/
def WEs (cx : Cx) (sc : Scope) (d : Nat) (es : List Expr) (loc : Loc) (sto : Sto) (Q : List V → Sto → Prop) : Prop :=
  ∀ env A s ρ F pos, EnvOK sc env A → AOK cx d A s.heap → Base cx ρ F sto s → Frame cx env ρ F loc s →
    wpAny (model cx.prog cx.w) A (spliced (backTo pos (starEach es env))) (PostVs cx ρ F s Q) (fun _ _ => False) s

/-- an operation upon two values -/
def Op2 (cx : Cx) (d : Nat) (t : Value → Value → Sem Value) (a b : V) (sto : Sto) (Q : V → Sto → Prop) : Prop :=
  ∀ A s ρ F x y, AOK cx d A s.heap → Base cx ρ F sto s → VRel F ρ s.heap a x → VRel F ρ s.heap b y →
    wpAny (model cx.prog cx.w) A (t x y) (PostV cx ρ F s Q) (fun _ _ => False) s
def Op1 (cx : Cx) (d : Nat) (t : Value → Sem Value) (a : V) (sto : Sto) (Q : V → Sto → Prop) : Prop :=
  ∀ A s ρ F x, AOK cx d A s.heap → Base cx ρ F sto s → VRel F ρ s.heap a x →
    wpAny (model cx.prog cx.w) A (t x) (PostV cx ρ F s Q) (fun _ _ => False) s
def TrV (cx : Cx) (d : Nat) (a : V) (sto : Sto) (Q : Bool → Sto → Prop) : Prop :=
  ∀ A s ρ F x, AOK cx d A s.heap → Base cx ρ F sto s → VRel F ρ s.heap a x →
    wpAny (model cx.prog cx.w) A (truthy x) (PostB cx ρ F s Q) (fun _ _ => False) s

/-- a call of a value -/
def CallV (cx : Cx) (d : Nat) (f : Value) (args : List V) (sto : Sto) (Q : V → Sto → Prop) : Prop :=
  ∀ A s ρ F xs, AOK cx d A s.heap → Base cx ρ F sto s → VRels F ρ s.heap args xs →
    wpAny (model cx.prog cx.w) A (call f xs) (PostV cx ρ F s Q) (fun _ _ => False) s

theorem Frame.noF {cx : Cx} {env : Env} {ρ : List Addr} {F : Addr → Prop} {loc : Loc} {s : Shared} (f : Frame cx env ρ F loc s) : ∀ a, Own env a → ¬ F a := fun a h => (f.own a h).2.1
theorem noWrF {F : Addr → Prop} : ∀ a, NoWr a → ¬ F a := fun _ h => h.elim

theorem Ns.kept {h h' : Heap} {a : Addr} {m : Str → Option Value} (n : h.Ns a m) (k : ∀ o, h.get? a = some o → ∃ o', h'.get? a = some o' ∧ Kept1 o o') : h'.Ns a m := by
  obtain ⟨o, es, ep, ho, hd, r⟩ := n
  obtain ⟨o', ho', k'⟩ := k o ho
  exact ⟨o', es, ep, ho', k'.data.trans hd, r⟩
theorem IsCell.kept {h h' : Heap} {a : Addr} {m : Option Value} (n : h.IsCell a m) (k : ∀ o, h.get? a = some o → ∃ o', h'.get? a = some o' ∧ Kept1 o o') : h'.IsCell a m := by
  obtain ⟨o, ho, hd⟩ := n
  obtain ⟨o', ho', k'⟩ := k o ho
  exact ⟨o', ho', k'.data.trans hd⟩

/-- a frame outlives what does not write it -/
theorem Frame.step {cx : Cx} {env : Env} {ρ ρ' : List Addr} {F F' : Addr → Prop} {loc : Loc} {sto : Sto} {s s' : Shared} (f : Frame cx env ρ F loc s) (B : Base cx ρ F sto s) (st : Step NoWr ρ F s ρ' F' s') : Frame cx env ρ' F' loc s' where
  ns := by
    obtain ⟨m, hn, hm⟩ := f.ns
    refine ⟨m, Ns.kept hn fun o ho => st.kept _ o (f.own _ (.inl rfl)).1 (fun h => h) ho, fun x v h1 h2 => ?_⟩
    obtain ⟨y, e, q⟩ := hm x v h1 h2
    exact ⟨y, e, st.vrel B noWrF q⟩
  cell := fun x v h1 h2 => by
    obtain ⟨c, y, e, hc, q⟩ := f.cell x v h1 h2
    exact ⟨c, y, e, IsCell.kept hc fun o ho => st.kept _ o (f.own _ (.inr ⟨x, e⟩)).1 (fun h => h) ho, st.vrel B noWrF q⟩
  cells := fun x h2 => by
    obtain ⟨c, y, e, hc⟩ := f.cells x h2
    exact ⟨c, y, e, IsCell.kept hc fun o ho => st.kept _ o (f.own _ (.inr ⟨x, e⟩)).1 (fun h => h) ho⟩
  apart := f.apart
  own := fun b hb => by
    obtain ⟨h1, h2, h3, o, ho⟩ := f.own b hb
    refine ⟨fun h => ?_, fun h => ?_, h3, ?_⟩
    · rcases st.newr b h with h | h
      · exact h1 h
      · rw [h] at ho; cases ho
    · rcases st.newF b h with h | h
      · exact h2 h
      · rw [h] at ho; cases ho
    · obtain ⟨o', ho', _⟩ := st.alive b o ho; exact ⟨o', ho'⟩
  lc := f.lc

end Mine

namespace Mine

section
variable {cx : Cx} {sc : Scope} {d : Nat} {loc : Loc} {sto : Sto} {ρ ρ₁ : List Addr} {F F₁ : Addr → Prop} {s s₁ : Shared}

theorem Base.toks (B : Base cx ρ F sto s) (t : Nat) : Base cx ρ F sto { s with toks := t } := ⟨B.stays, B.rnew, B.nodup, B.len, B.objs, B.disj, B.live, B.gens, B.os⟩
theorem Step.toks {Wr : Addr → Prop} (t : Nat) : Step Wr ρ F s ρ F { s with toks := t } :=
  ⟨⟨[], by simp⟩, fun _ h => h, fun _ h => .inl h, fun _ h => .inl h, fun _ o _ _ e => ⟨o, e, .refl o⟩, fun _ o e => ⟨o, e, fun h => h, fun h => h⟩⟩
theorem Frame.toks {env : Env} (f : Frame cx env ρ F loc s) (t : Nat) : Frame cx env ρ F loc { s with toks := t } := ⟨f.ns, f.cell, f.cells, f.apart, f.own, f.lc⟩

theorem PostV.imm {Q : V → Sto → Prop} {v : V} {x : Value} (B : Base cx ρ F sto s) (r : VRel F ρ s.heap v x) (q : Q v sto) (t : Nat) : PostV cx ρ F s Q x { s with toks := t } :=
  ⟨v, sto, ρ, F, .toks t, r, B.toks t, q⟩
theorem PostV.imm0 {Q : V → Sto → Prop} {v : V} {x : Value} (B : Base cx ρ F sto s) (r : VRel F ρ s.heap v x) (q : Q v sto) : PostV cx ρ F s Q x s :=
  ⟨v, sto, ρ, F, .refl, r, B, q⟩
theorem PostB.imm {Q : Bool → Sto → Prop} {b : Bool} (B : Base cx ρ F sto s) (q : Q b sto) (t : Nat) : PostB cx ρ F s Q b { s with toks := t } :=
  ⟨sto, ρ, F, .toks t, B.toks t, q⟩
theorem PostB.imm0 {Q : Bool → Sto → Prop} {b : Bool} (B : Base cx ρ F sto s) (q : Q b sto) : PostB cx ρ F s Q b s :=
  ⟨sto, ρ, F, .refl, B, q⟩
theorem PostV.after {Q : V → Sto → Prop} {x : Value} {s' : Shared} (st : Step NoWr ρ F s ρ₁ F₁ s₁) (h : PostV cx ρ₁ F₁ s₁ Q x s') : PostV cx ρ F s Q x s' := by
  obtain ⟨v, sto', ρ', F', st', r, B, q⟩ := h
  exact ⟨v, sto', ρ', F', st.trans st', r, B, q⟩
theorem PostB.after {Q : Bool → Sto → Prop} {x : Bool} {s' : Shared} (st : Step NoWr ρ F s ρ₁ F₁ s₁) (h : PostB cx ρ₁ F₁ s₁ Q x s') : PostB cx ρ F s Q x s' := by
  obtain ⟨sto', ρ', F', st', B, q⟩ := h
  exact ⟨sto', ρ', F', st.trans st', B, q⟩
theorem PostVs.after {Q : List V → Sto → Prop} {x : List Value} {s' : Shared} (st : Step NoWr ρ F s ρ₁ F₁ s₁) (h : PostVs cx ρ₁ F₁ s₁ Q x s') : PostVs cx ρ F s Q x s' := by
  obtain ⟨v, sto', ρ', F', st', r, B, q⟩ := h
  exact ⟨v, sto', ρ', F', st.trans st', r, B, q⟩
theorem Step.own {env : Env} {ρ' : List Addr} {F' : Addr → Prop} {s' : Shared} (st : Step NoWr ρ F s ρ' F' s') : Step (Own env) ρ F s ρ' F' s' := st.weaken fun _ h => h.elim
theorem PostS.after {env : Env} {Q : Fl → Loc → Sto → Prop} {x : Flow} {s' : Shared} (st : Step (Own env) ρ F s ρ₁ F₁ s₁) (h : PostS cx env ρ₁ F₁ s₁ Q x s') : PostS cx env ρ F s Q x s' := by
  obtain ⟨v, loc', sto', ρ', F', st', r, B, f, q⟩ := h
  exact ⟨v, loc', sto', ρ', F', st.trans st', r, B, f, q⟩
theorem PostV.mono {Q Q' : V → Sto → Prop} {x : Value} (h : PostV cx ρ F s Q x s₁) (q : ∀ v st, Q v st → Q' v st) : PostV cx ρ F s Q' x s₁ := by
  obtain ⟨v, sto', ρ', F', st', r, B, q'⟩ := h
  exact ⟨v, sto', ρ', F', st', r, B, q _ _ q'⟩
end

section
variable {cx : Cx} {sc : Scope} {d : Nat} {loc : Loc} {sto : Sto}

theorem WE.mono {e : Expr} {Q Q' : V → Sto → Prop} (h : WE cx sc d e loc sto Q) (q : ∀ v st, Q v st → Q' v st) : WE cx sc d e loc sto Q' :=
  fun env A s ρ F hE hA B f => wpAny_mono (h env A s ρ F hE hA B f) (fun _ _ p => p.mono q) fun _ _ x => x
theorem WT.mono {e : Expr} {Q Q' : Bool → Sto → Prop} (h : WT cx sc d e loc sto Q) (q : ∀ v st, Q v st → Q' v st) : WT cx sc d e loc sto Q' :=
  fun env A s ρ F hE hA B f => wpAny_mono (h env A s ρ F hE hA B f) (fun _ _ p => by obtain ⟨a, b, c, x, y, z⟩ := p; exact ⟨a, b, c, x, y, q _ _ z⟩) fun _ _ x => x
theorem WSs.mono {e : List Stmt} {Q Q' : Fl → Loc → Sto → Prop} (h : WSs cx sc d e loc sto Q) (q : ∀ v l st, Q v l st → Q' v l st) : WSs cx sc d e loc sto Q' :=
  fun env A s ρ F hE hA B f => wpAny_mono (h env A s ρ F hE hA B f) (fun _ _ p => by obtain ⟨a, b, c, a', b', x, y, z, w, k⟩ := p; exact ⟨a, b, c, a', b', x, y, z, w, q _ _ _ k⟩) fun _ _ x => x
theorem CallV.mono {f : Value} {args : List V} {Q Q' : V → Sto → Prop} (h : CallV cx d f args sto Q) (q : ∀ v st, Q v st → Q' v st) : CallV cx d f args sto Q' :=
  fun A s ρ F xs hA B r => wpAny_mono (h A s ρ F xs hA B r) (fun _ _ p => p.mono q) fun _ _ x => x

/-! constants -/
theorem we_int {i : Int} {k : Nat} {pos : Pos} {Q : V → Sto → Prop} (q : Q (.int i) sto) : WE cx sc d (.Constant (.int i) k pos) loc sto Q :=
  fun _ _ _ _ _ _ _ B _ => wpAny_Constant_int (.imm B (by simp [VRel]) q _)
theorem we_bool {b : Bool} {k : Nat} {pos : Pos} {Q : V → Sto → Prop} (q : Q (.bool b) sto) : WE cx sc d (.Constant (.bool b) k pos) loc sto Q :=
  fun _ _ _ _ _ _ _ B _ => wpAny_Constant_bool (.imm0 B (by simp [VRel]) q)
theorem we_none {k : Nat} {pos : Pos} {Q : V → Sto → Prop} (q : Q .none sto) : WE cx sc d (.Constant .none k pos) loc sto Q :=
  fun _ _ _ _ _ _ _ B _ => wpAny_Constant_none (.imm0 B (by simp [VRel]) q)
theorem we_str {u : Str} {k : Nat} {pos : Pos} {Q : V → Sto → Prop} (q : Q (.str u) sto) : WE cx sc d (.Constant (.str u) k pos) loc sto Q :=
  fun _ _ _ _ _ _ _ B _ => Calls.Constant_str (.imm B (by simp [VRel]) q _)

/-! names -/
def isVar (sc : Scope) (x : Str) : Bool := match sc.names.lookup x with | some .local => true | some .cell => true | _ => false
theorem load_var {x : Str} {v : V} {env : Env} {A : Around} {s : Shared} {ρ : List Addr} {F : Addr → Prop} {E : Value → Shared → Prop} {Q : Value → Shared → Prop} (hE : EnvOK sc env A) (f : Frame cx env ρ F loc s)
    (hv : loc.lookup x = some v) (hk : isVar sc x = true) (q : ∀ y, VRel F ρ s.heap v y → Q y s) : wpAny (model cx.prog cx.w) A (loadName env x) Q E s := by
  have hkind : env.scope.kind = .function := by rw [hE.scope]; exact hE.kind
  unfold isVar at hk
  split at hk
  · rename_i hl
    have hl' : env.kindOf x = some .local := by unfold Env.kindOf; rw [hE.scope]; exact hl
    obtain ⟨m, hn, hm⟩ := f.ns
    obtain ⟨y, e, r⟩ := hm x v hv hl'
    exact wpAny_loadName_local hkind hl' hn e (q y r)
  · rename_i hl
    have hl' : env.kindOf x = some .cell := by unfold Env.kindOf; rw [hE.scope]; exact hl
    obtain ⟨c, y, e, hc, r⟩ := f.cell x v hv hl'
    exact wpAny_loadName_cell hkind hl' e hc (q y r)
  · cases hk
theorem we_name {x : Str} {v : V} {pos : Pos} {Q : V → Sto → Prop} (hv : loc.lookup x = some v) (q : Q v sto) (hk : isVar sc x = true := by rfl) (hd : (x == ("__debug__" : Str)) = false := by decide) :
    WE cx sc d (.Name x pos) loc sto Q :=
  fun _ _ _ _ _ hE _ B f => wpAny_Name (load_var hE f hv hk fun _ r => .imm0 B r q) hd

/-! operators -/
theorem we_bin {l r : Expr} {op : Operator} {pos : Pos} {Q : V → Sto → Prop}
    (h : WE cx sc d l loc sto fun a sto₁ => WE cx sc d r loc sto₁ fun b sto₂ => Op2 cx d (binaryOp op) a b sto₂ Q) : WE cx sc d (.BinOp l op r pos) loc sto Q := by
  intro env A s ρ F hE hA B f
  refine wpAny_BinOp (wpAny_mono (h env A s ρ F hE hA B f) ?_ fun _ _ x => x)
  rintro x s₁ ⟨a, sto₁, ρ₁, F₁, st₁, r₁, B₁, h₁⟩
  refine wpAny_mono (h₁ env A s₁ ρ₁ F₁ hE (hA.step st₁) B₁ (f.step B st₁)) ?_ fun _ _ x => x
  rintro y s₂ ⟨b, sto₂, ρ₂, F₂, st₂, r₂, B₂, h₂⟩
  exact wpAny_mono (h₂ A s₂ ρ₂ F₂ x y ((hA.step st₁).step st₂) B₂ (st₂.vrel B₁ noWrF r₁) r₂) (fun _ _ p => p.after (st₁.trans st₂)) fun _ _ x => x

theorem we_un {x : Expr} {op : UnaryOp} {pos : Pos} {Q : V → Sto → Prop} (h : WE cx sc d x loc sto fun a sto₁ => Op1 cx d (unaryOp op) a sto₁ Q) : WE cx sc d (.UnaryOp op x pos) loc sto Q := by
  intro env A s ρ F hE hA B f
  refine UnaryOp_ (wpAny_mono (h env A s ρ F hE hA B f) ?_ fun _ _ x => x)
  rintro x s₁ ⟨a, sto₁, ρ₁, F₁, st₁, r₁, B₁, h₁⟩
  exact wpAny_mono (h₁ A s₁ ρ₁ F₁ x (hA.step st₁) B₁ r₁) (fun _ _ p => p.after st₁) fun _ _ x => x

theorem we_cmp {l r : Expr} {op : CmpOp} {pos : Pos} {Q : V → Sto → Prop}
    (h : WE cx sc d l loc sto fun a sto₁ => WE cx sc d r loc sto₁ fun b sto₂ => Op2 cx d (compareOp op) a b sto₂ Q) (hm : behindInMarks op r = false := by with_unfolding_all rfl) :
    WE cx sc d (.Compare l [op] [r] pos) loc sto Q := by
  intro env A s ρ F hE hA B f
  refine wpAny_Compare1 (wpAny_mono (h env A s ρ F hE hA B f) ?_ fun _ _ x => x) hm
  rintro x s₁ ⟨a, sto₁, ρ₁, F₁, st₁, r₁, B₁, h₁⟩
  refine wpAny_mono (h₁ env A s₁ ρ₁ F₁ hE (hA.step st₁) B₁ (f.step B st₁)) ?_ fun _ _ x => x
  rintro y s₂ ⟨b, sto₂, ρ₂, F₂, st₂, r₂, B₂, h₂⟩
  exact wpAny_mono (h₂ A s₂ ρ₂ F₂ x y ((hA.step st₁).step st₂) B₂ (st₂.vrel B₁ noWrF r₁) r₂) (fun _ _ p => p.after (st₁.trans st₂)) fun _ _ x => x

theorem wt_cmp {l r : Expr} {op : CmpOp} {pos : Pos} {Q : Bool → Sto → Prop}
    (h : WE cx sc d l loc sto fun a sto₁ => WE cx sc d r loc sto₁ fun b sto₂ => Op2 cx d (compareOp op) a b sto₂ fun v sto₃ => ∃ c, v = .bool c ∧ Q c sto₃) (hm : behindInMarks op r = false := by with_unfolding_all rfl) :
    WT cx sc d (.Compare l [op] [r] pos) loc sto Q := by
  intro env A s ρ F hE hA B f
  refine wpAny_isTrue_Compare1 (wpAny_mono (h env A s ρ F hE hA B f) ?_ fun _ _ x => x) hm
  rintro x s₁ ⟨a, sto₁, ρ₁, F₁, st₁, r₁, B₁, h₁⟩
  refine wpAny_mono (h₁ env A s₁ ρ₁ F₁ hE (hA.step st₁) B₁ (f.step B st₁)) ?_ fun _ _ x => x
  rintro y s₂ ⟨b, sto₂, ρ₂, F₂, st₂, r₂, B₂, h₂⟩
  refine wpAny_mono (h₂ A s₂ ρ₂ F₂ x y ((hA.step st₁).step st₂) B₂ (st₂.vrel B₁ noWrF r₁) r₂) ?_ fun _ _ x => x
  rintro z s₃ ⟨v, sto₃, ρ₃, F₃, st₃, r₃, B₃, c, rfl, q⟩
  simp only [VRel] at r₃
  subst r₃
  exact wpAny_truthy_bool ⟨sto₃, ρ₃, F₃, (st₁.trans st₂).trans st₃, B₃, q⟩

theorem wt_not {x : Expr} {pos : Pos} {Q : Bool → Sto → Prop} (h : WT cx sc d x loc sto fun c sto₁ => Q (!c) sto₁) : WT cx sc d (.UnaryOp .Not x pos) loc sto Q :=
  fun env A s ρ F hE hA B f => isTrue_not (wpAny_mono (h env A s ρ F hE hA B f) (fun _ _ p => p) fun _ _ x => x)
theorem wt_and_nil {pos : Pos} {Q : Bool → Sto → Prop} (h : Q true sto) : WT cx sc d (.BoolOp .And [] pos) loc sto Q :=
  fun _ _ _ _ _ _ _ B _ => isTrue_and_nil (.imm0 B h)
theorem wt_or_nil {pos : Pos} {Q : Bool → Sto → Prop} (h : Q false sto) : WT cx sc d (.BoolOp .Or [] pos) loc sto Q :=
  fun _ _ _ _ _ _ _ B _ => isTrue_or_nil (.imm0 B h)
theorem wt_and {x : Expr} {rest : List Expr} {pos : Pos} {Q : Bool → Sto → Prop} (h : WT cx sc d x loc sto fun c sto₁ => if c = true then WT cx sc d (.BoolOp .And rest pos) loc sto₁ Q else Q false sto₁) :
    WT cx sc d (.BoolOp .And (x :: rest) pos) loc sto Q := by
  intro env A s ρ F hE hA B f
  refine isTrue_and (wpAny_mono (h env A s ρ F hE hA B f) ?_ fun _ _ x => x)
  rintro c s₁ ⟨sto₁, ρ₁, F₁, st₁, B₁, h₁⟩
  cases c with
  | true =>
    simp only [if_true] at h₁ ⊢
    exact wpAny_mono (h₁ env A s₁ ρ₁ F₁ hE (hA.step st₁) B₁ (f.step B st₁)) (fun _ _ p => p.after st₁) fun _ _ x => x
  | false =>
    simp only [Bool.false_eq_true, if_false] at h₁ ⊢
    exact ⟨sto₁, ρ₁, F₁, st₁, B₁, h₁⟩
theorem wt_or {x : Expr} {rest : List Expr} {pos : Pos} {Q : Bool → Sto → Prop} (h : WT cx sc d x loc sto fun c sto₁ => if c = true then Q true sto₁ else WT cx sc d (.BoolOp .Or rest pos) loc sto₁ Q) :
    WT cx sc d (.BoolOp .Or (x :: rest) pos) loc sto Q := by
  intro env A s ρ F hE hA B f
  refine isTrue_or (wpAny_mono (h env A s ρ F hE hA B f) ?_ fun _ _ x => x)
  rintro c s₁ ⟨sto₁, ρ₁, F₁, st₁, B₁, h₁⟩
  cases c with
  | false =>
    simp only [Bool.false_eq_true, if_false] at h₁ ⊢
    exact wpAny_mono (h₁ env A s₁ ρ₁ F₁ hE (hA.step st₁) B₁ (f.step B st₁)) (fun _ _ p => p.after st₁) fun _ _ x => x
  | true =>
    simp only [if_true] at h₁ ⊢
    exact ⟨sto₁, ρ₁, F₁, st₁, B₁, h₁⟩
theorem wt_plain {e : Expr} {Q : Bool → Sto → Prop} (h : WE cx sc d e loc sto fun a sto₁ => TrV cx d a sto₁ Q)
    (he : ∀ env whole, isTrue e env whole = (do let v ← whole; standAt e.pos; holding [v] (truthy v)) := by intro _ _; rfl) : WT cx sc d e loc sto Q := by
  intro env A s ρ F hE hA B f
  refine isTrue_plain (wpAny_mono (h env A s ρ F hE hA B f) ?_ fun _ _ x => x) (he _ _)
  rintro x s₁ ⟨a, sto₁, ρ₁, F₁, st₁, r₁, B₁, h₁⟩
  exact wpAny_mono (h₁ A s₁ ρ₁ F₁ x (hA.step st₁) B₁ r₁) (fun _ _ p => p.after st₁) fun _ _ x => x
theorem we_ifexp {test a b : Expr} {pos : Pos} {Q : V → Sto → Prop} (h : WT cx sc d test loc sto fun c sto₁ => if c = true then WE cx sc d a loc sto₁ Q else WE cx sc d b loc sto₁ Q) :
    WE cx sc d (.IfExp test a b pos) loc sto Q := by
  intro env A s ρ F hE hA B f
  refine IfExp_ (wpAny_mono (h env A s ρ F hE hA B f) ?_ fun _ _ x => x)
  rintro c s₁ ⟨sto₁, ρ₁, F₁, st₁, B₁, h₁⟩
  cases c with
  | true =>
    simp only [if_true] at h₁ ⊢
    exact wpAny_mono (h₁ env A s₁ ρ₁ F₁ hE (hA.step st₁) B₁ (f.step B st₁)) (fun _ _ p => p.after st₁) fun _ _ x => x
  | false =>
    simp only [Bool.false_eq_true, if_false] at h₁ ⊢
    exact wpAny_mono (h₁ env A s₁ ρ₁ F₁ hE (hA.step st₁) B₁ (f.step B st₁)) (fun _ _ p => p.after st₁) fun _ _ x => x
theorem wt_ifexp {test a b : Expr} {pos : Pos} {Q : Bool → Sto → Prop} (h : WT cx sc d test loc sto fun c sto₁ => if c = true then WT cx sc d a loc sto₁ Q else WT cx sc d b loc sto₁ Q) :
    WT cx sc d (.IfExp test a b pos) loc sto Q := by
  intro env A s ρ F hE hA B f
  refine isTrue_IfExp (wpAny_mono (h env A s ρ F hE hA B f) ?_ fun _ _ x => x)
  rintro c s₁ ⟨sto₁, ρ₁, F₁, st₁, B₁, h₁⟩
  cases c with
  | true =>
    simp only [if_true] at h₁ ⊢
    exact wpAny_mono (h₁ env A s₁ ρ₁ F₁ hE (hA.step st₁) B₁ (f.step B st₁)) (fun _ _ p => p.after st₁) fun _ _ x => x
  | false =>
    simp only [Bool.false_eq_true, if_false] at h₁ ⊢
    exact wpAny_mono (h₁ env A s₁ ρ₁ F₁ hE (hA.step st₁) B₁ (f.step B st₁)) (fun _ _ p => p.after st₁) fun _ _ x => x

/-! ints -/
section
variable {a b : Int} {Q : V → Sto → Prop}
theorem op2_ints {t : Value → Value → Sem Value} (h : ∀ A s ρ F u w, AOK cx d A s.heap → Base cx ρ F sto s → wpAny (model cx.prog cx.w) A (t (.int a u) (.int b w)) (PostV cx ρ F s Q) (fun _ _ => False) s) :
    Op2 cx d t (.int a) (.int b) sto Q := by
  intro A s ρ F x y hA B r₁ r₂
  simp only [VRel] at r₁ r₂
  obtain ⟨u, rfl⟩ := r₁
  obtain ⟨w, rfl⟩ := r₂
  exact h A s ρ F u w hA B
theorem add_ii (q : Q (.int (a + b)) sto) : Op2 cx d (binaryOp .Add) (.int a) (.int b) sto Q := op2_ints fun _ _ _ _ _ _ _ B => add_int (.imm B (by simp [VRel]) q _)
theorem sub_ii (q : Q (.int (a - b)) sto) : Op2 cx d (binaryOp .Sub) (.int a) (.int b) sto Q := op2_ints fun _ _ _ _ _ _ _ B => sub_int (.imm B (by simp [VRel]) q _)
theorem mul_ii (q : IntMulOk a b ∧ Q (.int (a * b)) sto) : Op2 cx d (binaryOp .Mult) (.int a) (.int b) sto Q := op2_ints fun _ _ _ _ _ _ _ B => PyProof.Rows.mul_int (.imm B (by simp [VRel]) q.2 _) q.1
theorem fdiv_ii (q : b ≠ 0 ∧ Builtin.divisionGoesByPylong a b = false ∧ Q (.int (a.fdiv b)) sto) : Op2 cx d (binaryOp .FloorDiv) (.int a) (.int b) sto Q :=
  op2_ints fun _ _ _ _ _ _ _ B => floordiv_int q.1 (.imm B (by simp [VRel]) q.2.2 _) (.inl q.2.1)
theorem mod_ii (q : b ≠ 0 ∧ Q (.int (a.fmod b)) sto) : Op2 cx d (binaryOp .Mod) (.int a) (.int b) sto Q := op2_ints fun _ _ _ _ _ _ _ B => mod_int' q.1 (.imm B (by simp [VRel]) q.2 _)
theorem pow_ii (q : 0 ≤ b ∧ (Builtin.Int.intBits a : Int) * b ≤ 2 ^ 27 ∧ Q (.int (a ^ b.toNat)) sto) : Op2 cx d (binaryOp .Pow) (.int a) (.int b) sto Q :=
  op2_ints fun _ _ _ _ _ _ _ B => pow_int q.1 q.2.1 (.imm B (by simp [VRel]) q.2.2 _)
theorem iadd_ii (q : Q (.int (a + b)) sto) : Op2 cx d (inplaceOp .Add) (.int a) (.int b) sto Q := op2_ints fun _ _ _ _ _ _ _ B => iadd_int (.imm B (by simp [VRel]) q _)
theorem isub_ii (q : Q (.int (a - b)) sto) : Op2 cx d (inplaceOp .Sub) (.int a) (.int b) sto Q := op2_ints fun _ _ _ _ _ _ _ B => PyProof.Rows.isub_int (.imm B (by simp [VRel]) q _)
theorem imul_ii (q : IntMulOk a b ∧ Q (.int (a * b)) sto) : Op2 cx d (inplaceOp .Mult) (.int a) (.int b) sto Q := op2_ints fun _ _ _ _ _ _ _ B => PyProof.Rows.imul_int (.imm B (by simp [VRel]) q.2 _) q.1
theorem ifdiv_ii (q : b ≠ 0 ∧ Builtin.divisionGoesByPylong a b = false ∧ Q (.int (a.fdiv b)) sto) : Op2 cx d (inplaceOp .FloorDiv) (.int a) (.int b) sto Q :=
  op2_ints fun _ _ _ _ _ _ _ B => ifloordiv_int q.1 (.imm B (by simp [VRel]) q.2.2 _) (.inl q.2.1)
theorem imod_ii (q : b ≠ 0 ∧ Q (.int (a.fmod b)) sto) : Op2 cx d (inplaceOp .Mod) (.int a) (.int b) sto Q := op2_ints fun _ _ _ _ _ _ _ B => PyProof.Rows.imod_int q.1 (.imm B (by simp [VRel]) q.2 _)
theorem ipow_ii (q : 0 ≤ b ∧ (Builtin.Int.intBits a : Int) * b ≤ 2 ^ 27 ∧ Q (.int (a ^ b.toNat)) sto) : Op2 cx d (inplaceOp .Pow) (.int a) (.int b) sto Q :=
  op2_ints fun _ _ _ _ _ _ _ B => ipow_int q.1 q.2.1 (.imm B (by simp [VRel]) q.2.2 _)
theorem irshift_ii (q : 0 ≤ b ∧ Q (.int (a.fdiv (2 ^ b.toNat))) sto) : Op2 cx d (inplaceOp .RShift) (.int a) (.int b) sto Q :=
  op2_ints fun _ _ _ _ _ _ _ B => PyProof.Rows.irshift_int q.1 (.imm B (by simp [VRel]) q.2 _)
theorem lt_ii (q : Q (.bool (decide (a < b))) sto) : Op2 cx d (compareOp .Lt) (.int a) (.int b) sto Q := op2_ints fun _ _ _ _ _ _ _ B => lt_int (.imm0 B (by simp [VRel]) q)
theorem gt_ii (q : Q (.bool (decide (b < a))) sto) : Op2 cx d (compareOp .Gt) (.int a) (.int b) sto Q := op2_ints fun _ _ _ _ _ _ _ B => gt_int (.imm0 B (by simp [VRel]) q)
theorem le_ii (q : Q (.bool (decide (a ≤ b))) sto) : Op2 cx d (compareOp .LtE) (.int a) (.int b) sto Q := op2_ints fun _ _ _ _ _ _ _ B => le_int (.imm0 B (by simp [VRel]) q)
theorem ge_ii (q : Q (.bool (decide (b ≤ a))) sto) : Op2 cx d (compareOp .GtE) (.int a) (.int b) sto Q := op2_ints fun _ _ _ _ _ _ _ B => ge_int (.imm0 B (by simp [VRel]) q)
theorem eq_ii (q : Q (.bool (a == b)) sto) : Op2 cx d (compareOp .Eq) (.int a) (.int b) sto Q := op2_ints fun _ _ _ _ _ _ _ B => eq_int (.imm0 B (by simp [VRel]) q)
theorem ne_ii (q : Q (.bool (a != b)) sto) : Op2 cx d (compareOp .NotEq) (.int a) (.int b) sto Q := op2_ints fun _ _ _ _ _ _ _ B => ne_int (.imm0 B (by simp [VRel]) q)
theorem neg_i (q : Q (.int (-a)) sto) : Op1 cx d (unaryOp .USub) (.int a) sto Q := by
  intro A s ρ F x hA B r
  simp only [VRel] at r
  obtain ⟨u, rfl⟩ := r
  exact neg_int (.imm B (by simp [VRel]) q _)
theorem not_v {a : V} (h : TrV cx d a sto fun c sto₁ => Q (.bool (!c)) sto₁) : Op1 cx d (unaryOp .Not) a sto Q := by
  intro A s ρ F x hA B r
  refine not_of (wpAny_mono (h A s ρ F x hA B r) ?_ fun _ _ x => x)
  rintro c s₁ ⟨sto₁, ρ₁, F₁, st₁, B₁, h₁⟩
  exact ⟨_, sto₁, ρ₁, F₁, st₁, by simp [VRel], B₁, h₁⟩
end
theorem tr_b {b : Bool} {Q : Bool → Sto → Prop} (q : Q b sto) : TrV cx d (.bool b) sto Q := by
  intro A s ρ F x hA B r
  simp only [VRel] at r
  subst r
  exact wpAny_truthy_bool (.imm0 B q)
theorem tr_i {a : Int} {Q : Bool → Sto → Prop} (q : Q (a != 0) sto) : TrV cx d (.int a) sto Q := by
  intro A s ρ F x hA B r
  simp only [VRel] at r
  obtain ⟨u, rfl⟩ := r
  exact truthy_int (.imm0 B q)
end
end Mine

namespace Mine

section
variable {cx : Cx} {sc : Scope} {d : Nat} {loc : Loc} {sto : Sto} {ρ : List Addr} {F : Addr → Prop} {s : Shared} {env : Env}

/-- one object that no tracked list and no data is changes -/
theorem Base.sameBut {a : Addr} {h' : Heap} {t : Nat} (B : Base cx ρ F sto s) (hs : Heap.SameBut a s.heap h') (h1 : a ∉ ρ) (h2 : ¬ F a) (h3 : cx.base.get? a = none) : Base cx ρ F sto { s with heap := h', toks := t } where
  stays := fun b o e => by
    have : b ≠ a := fun q => by rw [q, h3] at e; cases e
    exact (hs.2 b this).trans (B.stays b o e)
  rnew := B.rnew
  nodup := B.nodup
  len := B.len
  objs := fun i b vs e1 e2 => by
    obtain ⟨items, ⟨n, ho⟩, q⟩ := B.objs i b vs e1 e2
    have hb : b ≠ a := fun q => h1 (q ▸ List.mem_of_getElem? e1)
    refine ⟨items, ⟨n, (hs.2 b hb).trans ho⟩, q.mono (fun _ x => x) (fun _ _ x => x) fun c o' hc e _ => ?_⟩
    exact (hs.2 c (fun q => h2 (q ▸ hc))).trans e
  disj := B.disj
  live := fun b hb => by
    obtain ⟨o, ho⟩ := B.live b hb
    exact ⟨o, (hs.2 b (fun q => h2 (q ▸ hb))).trans ho⟩
  gens := B.gens
  os := B.os

theorem Step.sameBut {Wr : Addr → Prop} {a : Addr} {h' : Heap} {t : Nat} {o' : Obj} (hs : Heap.SameBut a s.heap h') (hw : Wr a) (ho' : h'.get? a = some o') (hd : ∀ vs, o'.data ≠ .fields vs) (hdi : ∀ o, s.heap.get? a = some o → (∃ es n, o.data = .dict es n) → ∃ es n, o'.data = .dict es n) : Step Wr ρ F s ρ F { s with heap := h', toks := t } where
  pre := ⟨[], by simp⟩
  sub := fun _ h => h
  newr := fun _ h => .inl h
  newF := fun _ h => .inl h
  kept := fun b o _ hb e => ⟨o, (hs.2 b (fun q => hb (q ▸ hw))).trans e, .refl o⟩
  alive := fun b o e => by
    by_cases hb : b = a
    · subst hb; exact ⟨o', ho', fun _ => hd, hdi o e⟩
    · exact ⟨o, (hs.2 b hb).trans e, fun h => h, fun h => h⟩

theorem Ns.dict {h : Heap} {a : Addr} {o : Obj} {m : Str → Option Value} (n : h.Ns a m) (e : h.get? a = some o) : ∃ es n, o.data = .dict es n := by
  obtain ⟨o', es, ep, ho, hd, _⟩ := n
  rw [e] at ho; cases ho
  exact ⟨es, ep, hd⟩
theorem Ns.obj {h : Heap} {a : Addr} {m : Str → Option Value} (n : h.Ns a m) : ∃ o, h.get? a = some o ∧ ∀ vs, o.data ≠ .fields vs := by
  obtain ⟨o, es, ep, ho, hd, _⟩ := n
  exact ⟨o, ho, fun vs q => by rw [hd] at q; cases q⟩
theorem IsCell.obj {h : Heap} {a : Addr} {m : Option Value} (n : h.IsCell a m) : ∃ o, h.get? a = some o ∧ ∀ vs, o.data ≠ .fields vs := by
  obtain ⟨o, ho, hd⟩ := n
  exact ⟨o, ho, fun vs q => by rw [hd] at q; cases q⟩

/-- data seen through a heap that differs in one foreign object -/
theorem VRel.sameBut {a : Addr} {h h' : Heap} {v : V} {y : Value} (r : VRel F ρ h v y) (hs : Heap.SameBut a h h') (h2 : ¬ F a) : VRel F ρ h' v y :=
  r.mono (fun _ x => x) (fun _ _ x => x) fun c _ hc e _ => (hs.2 c (fun q => h2 (q ▸ hc))).trans e

theorem lookup_cons' {x y : Str} {v : V} : List.lookup y ((x, v) :: loc) = if y = x then some v else List.lookup y loc := by
  rw [List.lookup_cons]
  by_cases h : y = x
  · subst h; simp
  · have : (y == x) = false := by simpa using h
    simp [this, h]

theorem Frame.of_ns {m' : Str → Option Value} {h' : Heap} {t : Nat} {loc' : Loc} (f : Frame cx env ρ F loc s) (hn' : h'.Ns env.locals m') (hs : Heap.SameBut env.locals s.heap h')
    (hm : ∀ x v, loc'.lookup x = some v → env.kindOf x = some .local → ∃ y, m' x = some y ∧ VRel F ρ h' v y)
    (hc : ∀ x v, loc'.lookup x = some v → env.kindOf x = some .cell → loc.lookup x = some v) : Frame cx env ρ F loc' { s with heap := h', toks := t } where
  ns := ⟨m', hn', hm⟩
  cell := fun x v h1 h2 => by
    obtain ⟨c, y, e, hcell, r⟩ := f.cell x v (hc x v h1 h2) h2
    exact ⟨c, y, e, hcell.sameBut hs (f.lc x c e), r.sameBut hs (f.own _ (.inl rfl)).2.1⟩
  cells := fun x h2 => by
    obtain ⟨c, o, e, hcell⟩ := f.cells x h2
    exact ⟨c, o, e, hcell.sameBut hs (f.lc x c e)⟩
  apart := f.apart
  own := fun b hb => by
    obtain ⟨h1, h2, h3, o, ho⟩ := f.own b hb
    refine ⟨h1, h2, h3, ?_⟩
    by_cases q : b = env.locals
    · subst q; obtain ⟨o', ho', _⟩ := Ns.obj hn'; exact ⟨o', ho'⟩
    · exact ⟨o, (hs.2 b q).trans ho⟩
  lc := f.lc

theorem store_var {x : Str} {v : V} {y : Value} {A : Around} {E : Value → Shared → Prop} {Q : Unit → Shared → Prop} (hE : EnvOK sc env A) (B : Base cx ρ F sto s) (f : Frame cx env ρ F loc s)
    (r : VRel F ρ s.heap v y) (hk : isVar sc x = true)
    (q : ∀ s', Step (Own env) ρ F s ρ F s' → Base cx ρ F sto s' → Frame cx env ρ F ((x, v) :: loc) s' → Q () s') : wpAny (model cx.prog cx.w) A (storeName env x y) Q E s := by
  have hkind : env.scope.kind = .function := by rw [hE.scope]; exact hE.kind
  unfold isVar at hk
  split at hk
  · rename_i hl
    have hl' : env.kindOf x = some .local := by unfold Env.kindOf; rw [hE.scope]; exact hl
    obtain ⟨m, hn, hm⟩ := f.ns
    obtain ⟨o1, o2, o3, _⟩ := f.own _ (.inl rfl)
    refine wpAny_storeName_local hl' hn (fun h' hn' hs => ?_) (by rw [hkind]; rfl)
    obtain ⟨o', ho', hd'⟩ := Ns.obj hn'
    refine q _ (.sameBut hs (.inl rfl) ho' hd' (fun _ _ _ => Ns.dict hn' ho')) (B.sameBut hs o1 o2 o3) (f.of_ns hn' hs (fun z w h1 h2 => ?_) fun z w h1 h2 => ?_)
    · rw [lookup_cons'] at h1
      by_cases hz : z = x
      · rw [if_pos hz] at h1 ⊢; cases h1; exact ⟨y, rfl, r.sameBut hs o2⟩
      · rw [if_neg hz] at h1 ⊢
        obtain ⟨y', e, r'⟩ := hm z w h1 h2
        exact ⟨y', e, r'.sameBut hs o2⟩
    · rw [lookup_cons'] at h1
      by_cases hz : z = x
      · subst hz; rw [hl'] at h2; cases h2
      · rwa [if_neg hz] at h1
  · rename_i hl
    have hl' : env.kindOf x = some .cell := by unfold Env.kindOf; rw [hE.scope]; exact hl
    obtain ⟨c, oc, hc, hcell⟩ := f.cells x hl'
    obtain ⟨o1, o2, o3, _⟩ := f.own c (.inr ⟨x, hc⟩)
    refine wpAny_storeName_cell hkind hl' hc hcell fun h' hcell' hs => ?_
    obtain ⟨o', ho', hd'⟩ := IsCell.obj hcell'
    have hLc : env.locals ≠ c := fun q => f.lc x c hc q.symm
    refine q _ (.sameBut (t := s.toks) hs (.inr ⟨x, hc⟩) ho' hd' (fun o e h => by
      obtain ⟨o₁, e₁, d₁⟩ := hcell
      rw [e] at e₁; cases e₁
      obtain ⟨es, n, d₂⟩ := h
      rw [d₁] at d₂; cases d₂)) (B.sameBut (t := s.toks) hs o1 o2 o3) ⟨?_, fun z w h1 h2 => ?_, fun z h2 => ?_, f.apart, fun b hb => ?_, f.lc⟩
    · obtain ⟨m, hn, hm⟩ := f.ns
      refine ⟨m, hn.sameBut hs hLc, fun z w h1 h2 => ?_⟩
      rw [lookup_cons'] at h1
      by_cases hz : z = x
      · subst hz; rw [hl'] at h2; cases h2
      · rw [if_neg hz] at h1
        obtain ⟨y', e, r'⟩ := hm z w h1 h2
        exact ⟨y', e, r'.sameBut hs o2⟩
    · rw [lookup_cons'] at h1
      by_cases hz : z = x
      · subst hz; rw [if_pos rfl] at h1; cases h1
        exact ⟨c, y, hc, hcell', r.sameBut hs o2⟩
      · rw [if_neg hz] at h1
        obtain ⟨c', y', e, hcell₂, r'⟩ := f.cell z w h1 h2
        exact ⟨c', y', e, hcell₂.sameBut hs (fun q => hz (f.apart z x c (q ▸ e) hc)), r'.sameBut hs o2⟩
    · by_cases hz : z = x
      · subst hz; exact ⟨c, _, hc, hcell'⟩
      · obtain ⟨c', y', e, hcell₂⟩ := f.cells z h2
        exact ⟨c', y', e, hcell₂.sameBut hs (fun q => hz (f.apart z x c (q ▸ e) hc))⟩
    · obtain ⟨h1, h2, h3, o, ho⟩ := f.own b hb
      refine ⟨h1, h2, h3, ?_⟩
      by_cases q : b = c
      · subst q; exact ⟨o', ho'⟩
      · exact ⟨o, (hs.2 b q).trans ho⟩
  · cases hk

/-- the frame's facts may be forgotten in part -/
theorem Frame.weaken {loc' : Loc} (f : Frame cx env ρ F loc s) (h : ∀ x v, loc'.lookup x = some v → loc.lookup x = some v) : Frame cx env ρ F loc' s where
  ns := by
    obtain ⟨m, hn, hm⟩ := f.ns
    exact ⟨m, hn, fun x v h1 h2 => hm x v (h x v h1) h2⟩
  cell := fun x v h1 h2 => f.cell x v (h x v h1) h2
  cells := f.cells
  apart := f.apart
  own := f.own
  lc := f.lc
end

section
variable {cx : Cx} {sc : Scope} {d : Nat} {loc : Loc} {sto : Sto}

theorem WSs.weaken {loc' : Loc} {body : List Stmt} {Q : Fl → Loc → Sto → Prop} (h : WSs cx sc d body loc' sto Q) (hl : ∀ x v, loc'.lookup x = some v → loc.lookup x = some v) : WSs cx sc d body loc sto Q :=
  fun env A s ρ F hE hA B f => h env A s ρ F hE hA B (f.weaken hl)
theorem WE.weaken {loc' : Loc} {e : Expr} {Q : V → Sto → Prop} (h : WE cx sc d e loc' sto Q) (hl : ∀ x v, loc'.lookup x = some v → loc.lookup x = some v) : WE cx sc d e loc sto Q :=
  fun env A s ρ F hE hA B f => h env A s ρ F hE hA B (f.weaken hl)

theorem ws_nil {Q : Fl → Loc → Sto → Prop} (q : Q .next loc sto) : WSs cx sc d [] loc sto Q :=
  fun _ _ _ ρ F _ _ B f => wpAny_execs_nil ⟨.next, loc, sto, ρ, F, .refl, rfl, B, f, q⟩
theorem ws_cons {st : Stmt} {rest : List Stmt} {Q : Fl → Loc → Sto → Prop}
    (h : WS cx sc d st loc sto fun fl loc₁ sto₁ => match fl with | .next => WSs cx sc d rest loc₁ sto₁ Q | fl => Q fl loc₁ sto₁) : WSs cx sc d (st :: rest) loc sto Q := by
  intro env A s ρ F hE hA B f
  refine wpAny_execs_cons (wpAny_mono (h env A s ρ F hE hA B f) ?_ fun _ _ x => x)
  rintro fl s₁ ⟨v, loc₁, sto₁, ρ₁, F₁, st₁, r₁, B₁, f₁, h₁⟩
  cases v with
  | next =>
    simp only [FlRel] at r₁
    subst r₁
    exact wpAny_mono (h₁ env A s₁ ρ₁ F₁ hE (hA.step st₁) B₁ f₁) (fun _ _ p => p.after st₁) fun _ _ x => x
  | brk => simp only [FlRel] at r₁; subst r₁; exact ⟨.brk, loc₁, sto₁, ρ₁, F₁, st₁, rfl, B₁, f₁, h₁⟩
  | cont => simp only [FlRel] at r₁; subst r₁; exact ⟨.cont, loc₁, sto₁, ρ₁, F₁, st₁, rfl, B₁, f₁, h₁⟩
  | ret v =>
    simp only [FlRel] at r₁
    obtain ⟨x, rfl, r₁⟩ := r₁
    exact ⟨.ret v, loc₁, sto₁, ρ₁, F₁, st₁, ⟨x, rfl, r₁⟩, B₁, f₁, h₁⟩

theorem ws_pass {pos : Pos} {Q : Fl → Loc → Sto → Prop} (q : Q .next loc sto) : WS cx sc d (.Pass pos) loc sto Q :=
  fun _ _ _ ρ F _ _ B f => wpAny_Pass ⟨.next, loc, sto, ρ, F, .refl, rfl, B, f, q⟩
theorem ws_return {e : Expr} {pos : Pos} {Q : Fl → Loc → Sto → Prop} (h : WE cx sc d e loc sto fun v sto₁ => Q (.ret v) loc sto₁) : WS cx sc d (.Return (some e) pos) loc sto Q := by
  intro env A s ρ F hE hA B f
  refine wpAny_Return_some (wpAny_mono (h env A s ρ F hE hA B f) ?_ fun _ _ x => x)
  rintro x s₁ ⟨v, sto₁, ρ₁, F₁, st₁, r₁, B₁, h₁⟩
  exact ⟨.ret v, loc, sto₁, ρ₁, F₁, st₁.own, ⟨x, rfl, r₁⟩, B₁, f.step B st₁, h₁⟩
theorem ws_if {test : Expr} {body orelse : List Stmt} {pos : Pos} {Q : Fl → Loc → Sto → Prop}
    (h : WT cx sc d test loc sto fun c sto₁ => if c = true then WSs cx sc d body loc sto₁ Q else WSs cx sc d orelse loc sto₁ Q) : WS cx sc d (.If test body orelse pos) loc sto Q := by
  intro env A s ρ F hE hA B f
  refine wpAny_If (wpAny_mono (h env A s ρ F hE hA B f) ?_ fun _ _ x => x)
  rintro c s₁ ⟨sto₁, ρ₁, F₁, st₁, B₁, h₁⟩
  cases c with
  | true =>
    simp only [if_true] at h₁ ⊢
    exact wpAny_mono (h₁ env A s₁ ρ₁ F₁ hE (hA.step st₁) B₁ (f.step B st₁)) (fun _ _ p => p.after st₁.own) fun _ _ x => x
  | false =>
    simp only [Bool.false_eq_true, if_false] at h₁ ⊢
    exact wpAny_mono (h₁ env A s₁ ρ₁ F₁ hE (hA.step st₁) B₁ (f.step B st₁)) (fun _ _ p => p.after st₁.own) fun _ _ x => x

/-- no comprehension at the right -/
def noComp : Expr → Bool
  | .ListComp .. => false
  | .SetComp .. => false
  | .DictComp .. => false
  | _ => true
theorem swaps_false {e : Expr} {t : Option Expr} {n : Nat} {env : Env} (h : noComp e = true) : swapsWith e t n env = pure false := by
  cases e <;> first | rfl | cases h

theorem ws_assign {x : Str} {e : Expr} {p pos : Pos} {Q : Fl → Loc → Sto → Prop} (h : WE cx sc d e loc sto fun v sto₁ => Q .next ((x, v) :: loc) sto₁) (hk : isVar sc x = true := by rfl)
    (hn : noComp e = true := by rfl) : WS cx sc d (.Assign [.Name x p] e pos) loc sto Q := by
  intro env A s ρ F hE hA B f
  refine wpAny_Assign_Name (wpAny_mono (h env A s ρ F hE hA B f) ?_ fun _ _ x => x) (swaps_false hn)
  rintro y s₁ ⟨v, sto₁, ρ₁, F₁, st₁, r₁, B₁, h₁⟩
  exact store_var hE B₁ (f.step B st₁) r₁ hk fun s₂ st₂ B₂ f₂ => ⟨.next, _, sto₁, ρ₁, F₁, st₁.own.trans st₂, rfl, B₂, f₂, h₁⟩

theorem ws_aug {x : Str} {v : V} {op : Operator} {e : Expr} {p pos : Pos} {Q : Fl → Loc → Sto → Prop} (hv : loc.lookup x = some v)
    (h : WE cx sc d e loc sto fun b sto₁ => Op2 cx d (inplaceOp op) v b sto₁ fun r sto₂ => Q .next ((x, r) :: loc) sto₂) (hk : isVar sc x = true := by rfl) :
    WS cx sc d (.AugAssign (.Name x p) op e pos) loc sto Q := by
  intro env A s ρ F hE hA B f
  refine wpAny_AugAssign_Name (load_var hE f hv hk fun y r => wpAny_mono (h env A s ρ F hE hA B f) ?_ fun _ _ x => x)
  rintro z s₁ ⟨b, sto₁, ρ₁, F₁, st₁, r₁, B₁, h₁⟩
  refine wpAny_mono (h₁ A s₁ ρ₁ F₁ y z (hA.step st₁) B₁ (st₁.vrel B noWrF r) r₁) ?_ fun _ _ x => x
  rintro z' s₂ ⟨b', sto₂, ρ₂, F₂, st₂, r₂, B₂, h₂⟩
  exact store_var hE B₂ ((f.step B st₁).step B₁ st₂) r₂ hk fun s₃ st₃ B₃ f₃ => ⟨.next, _, sto₂, ρ₂, F₂, (st₁.trans st₂).own.trans st₃, rfl, B₃, f₃, h₂⟩
end
end Mine

namespace Mine

structure IterOK (cx : Cx) (A : Around) (s : Shared) (ρ : List Addr) (F : Addr → Prop) (I : Addr) (fp wr : List Addr) (xs : List V) (P : Nat → Value → Prop) (St : Nat → Heap → Prop) : Prop where
  walk : Walks cx.prog cx.w A I fp wr xs.length P St
  fresh : ∀ b ∈ wr, s.heap.get? b = none
  prot : ∀ b ∈ fp, b ∈ wr ∨ F b
  nd : ∀ i h, St i h → ∀ b ∈ fp, ∀ o, h.get? b = some o → ∀ es n, o.data ≠ .dict es n
  fld : ∀ i h, St i h → ∀ b ∈ wr, ∃ o vs, h.get? b = some o ∧ o.data = .fields vs
  rel : ∀ i y, i < xs.length → P i y → ∃ v, xs[i]? = some v ∧ VRel F ρ s.heap v y

/-- going through a gives xs -/
def ItV (cx : Cx) (a : V) (sto : Sto) (xs : List V) : Prop :=
  ∀ A s ρ F x, A.handled = none → Base cx ρ F sto s → VRel F ρ s.heap a x →
    wpAny (model cx.prog cx.w) A (pyIter x) (fun it s₀ => ∃ I fp wr P St h₀ tk, it = .ref I ∧ s₀ = { s with heap := h₀, toks := tk } ∧ (∀ b o, s.heap.get? b = some o → h₀.get? b = some o) ∧
      IterOK cx A s ρ F I fp wr xs P St ∧ St 0 h₀) (fun _ _ => False) s

def LoopS (cx : Cx) (sc : Scope) (d : Nat) (x : Str) (body : List Stmt) : List V → Loc → Sto → (Fl → Loc → Sto → Prop) → Prop
  | [], loc, sto, Q => Q .next loc sto
  | v :: vs, loc, sto, Q => WSs cx sc d body ((x, v) :: loc) sto fun fl loc' sto' => match fl with
      | .next => LoopS cx sc d x body vs loc' sto' Q
      | .cont => LoopS cx sc d x body vs loc' sto' Q
      | .brk => Q .next loc' sto'
      | .ret r => Q (.ret r) loc' sto'

theorem LoopS.inv {cx : Cx} {sc : Scope} {d : Nat} {x : Str} {body : List Stmt} {Q : Fl → Loc → Sto → Prop} (I : List V → Loc → Sto → Prop)
    (hstep : ∀ v vs loc sto, I (v :: vs) loc sto → WSs cx sc d body ((x, v) :: loc) sto fun fl loc' sto' => match fl with
      | .next => I vs loc' sto'
      | .cont => I vs loc' sto'
      | .brk => Q .next loc' sto'
      | .ret r => Q (.ret r) loc' sto')
    (hend : ∀ loc sto, I [] loc sto → Q .next loc sto) : ∀ {xs : List V} {loc : Loc} {sto : Sto}, I xs loc sto → LoopS cx sc d x body xs loc sto Q
  | [], loc, sto, h => hend loc sto h
  | v :: vs, loc, sto, h => by
    unfold LoopS
    refine (hstep v vs loc sto h).mono fun fl loc' sto' q => ?_
    cases fl with
    | next => exact LoopS.inv I hstep hend q
    | cont => exact LoopS.inv I hstep hend q
    | brk => exact q
    | ret r => exact q

theorem LoopS.mono {cx : Cx} {sc : Scope} {d : Nat} {x : Str} {body : List Stmt} {Q Q' : Fl → Loc → Sto → Prop} (q : ∀ fl l st, Q fl l st → Q' fl l st) : ∀ {xs : List V} {loc : Loc} {sto : Sto}, LoopS cx sc d x body xs loc sto Q → LoopS cx sc d x body xs loc sto Q'
  | [], _, _, h => q _ _ _ h
  | v :: vs, loc, sto, h => by
    unfold LoopS at h ⊢
    refine h.mono fun fl loc' sto' h' => ?_
    cases fl with
    | next => exact LoopS.mono q h'
    | cont => exact LoopS.mono q h'
    | brk => exact q _ _ _ h'
    | ret r => exact q _ _ _ h'

def WhileS (cx : Cx) (sc : Scope) (d : Nat) (test : Expr) (body : List Stmt) : Nat → Loc → Sto → (Fl → Loc → Sto → Prop) → Prop
  | 0, _, _, _ => False
  | n + 1, loc, sto, Q => WT cx sc d test loc sto fun c sto₁ => if c = true then WSs cx sc d body loc sto₁ (fun fl loc' sto' => match fl with
      | .next => WhileS cx sc d test body n loc' sto' Q
      | .cont => WhileS cx sc d test body n loc' sto' Q
      | .brk => Q .next loc' sto'
      | .ret r => Q (.ret r) loc' sto') else Q .next loc sto₁

section
variable {cx : Cx} {sc : Scope} {d : Nat} {loc : Loc} {sto : Sto} {ρ ρ₁ : List Addr} {F F₁ : Addr → Prop} {s s₁ : Shared} {env : Env}

/-- new objects alone are changed -/
theorem Step.later {Wr : Addr → Prop} {wr : List Addr} {h' : Heap} {t : Nat} (st : Step Wr ρ F s ρ₁ F₁ s₁) (hk : ∀ b o, b ∉ wr → s₁.heap.get? b = some o → h'.get? b = some o)
    (hw : ∀ b ∈ wr, s.heap.get? b = none) : Step Wr ρ F s ρ₁ F₁ { s₁ with heap := h', toks := t } where
  pre := st.pre
  sub := st.sub
  newr := st.newr
  newF := st.newF
  kept := fun b o h1 h2 e => by
    obtain ⟨o', e', k⟩ := st.kept b o h1 h2 e
    exact ⟨o', hk b o' (fun h => by rw [hw b h] at e; cases e) e', k⟩
  alive := fun b o e => by
    obtain ⟨o', e', k⟩ := st.alive b o e
    exact ⟨o', hk b o' (fun h => by rw [hw b h] at e; cases e) e', k⟩
theorem Base.later {wr : List Addr} {h' : Heap} {t : Nat} (B : Base cx ρ F sto s) (hk : ∀ b o, b ∉ wr → s.heap.get? b = some o → h'.get? b = some o)
    (hw : ∀ b ∈ wr, b ∉ ρ ∧ ¬ F b ∧ cx.base.get? b = none) : Base cx ρ F sto { s with heap := h', toks := t } where
  stays := fun b o e => hk b o (fun h => by rw [(hw b h).2.2] at e; cases e) (B.stays b o e)
  rnew := B.rnew
  nodup := B.nodup
  len := B.len
  objs := fun i a vs e1 e2 => by
    obtain ⟨items, ⟨n, ho⟩, q⟩ := B.objs i a vs e1 e2
    refine ⟨items, ⟨n, hk a _ (fun h => (hw a h).1 (List.mem_of_getElem? e1)) ho⟩, q.mono (fun _ x => x) (fun _ _ x => x) fun c o' hc e _ => hk c o' (fun h => (hw c h).2.1 hc) e⟩
  disj := B.disj
  live := fun b hb => by
    obtain ⟨o, ho⟩ := B.live b hb
    exact ⟨o, hk b o (fun h => (hw b h).2.1 hb) ho⟩
  gens := B.gens
  os := B.os
theorem Frame.later {wr : List Addr} {h' : Heap} {t : Nat} (f : Frame cx env ρ F loc s) (hk : ∀ b o, b ∉ wr → s.heap.get? b = some o → h'.get? b = some o)
    (hw : ∀ b ∈ wr, ¬ Own env b ∧ ¬ F b) : Frame cx env ρ F loc { s with heap := h', toks := t } where
  ns := by
    obtain ⟨m, hn, hm⟩ := f.ns
    refine ⟨m, Ns.kept hn fun o ho => ⟨o, hk _ o (fun h => (hw _ h).1 (.inl rfl)) ho, .refl o⟩, fun x v h1 h2 => ?_⟩
    obtain ⟨y, e, r⟩ := hm x v h1 h2
    exact ⟨y, e, r.mono (fun _ x => x) (fun _ _ x => x) fun c o' hc e _ => hk c o' (fun h => (hw c h).2 hc) e⟩
  cell := fun x v h1 h2 => by
    obtain ⟨c, y, e, hc, r⟩ := f.cell x v h1 h2
    exact ⟨c, y, e, IsCell.kept hc fun o ho => ⟨o, hk _ o (fun h => (hw _ h).1 (.inr ⟨x, e⟩)) ho, .refl o⟩, r.mono (fun _ x => x) (fun _ _ x => x) fun c o' hc e _ => hk c o' (fun h => (hw c h).2 hc) e⟩
  cells := fun x h2 => by
    obtain ⟨c, o, e, hc⟩ := f.cells x h2
    exact ⟨c, o, e, IsCell.kept hc fun o ho => ⟨o, hk _ o (fun h => (hw _ h).1 (.inr ⟨x, e⟩)) ho, .refl o⟩⟩
  apart := f.apart
  own := fun b hb => by
    obtain ⟨h1, h2, h3, o, ho⟩ := f.own b hb
    exact ⟨h1, h2, h3, o, hk b o (fun h => (hw b h).1 hb) ho⟩
  lc := f.lc
end

section
variable {cx : Cx} {sc : Scope} {d : Nat} {loc : Loc} {sto : Sto}

def noSet : Expr → Bool
  | .Set .. => false
  | _ => true
theorem notSet_folds {e : Expr} (h : noSet e = true) (env : Env) (x : Value) : foldedSetIterable e env x = pure x := by
  cases e <;> first | rfl | cases h

theorem ws_for {x : Str} {iter : Expr} {body : List Stmt} {p pos : Pos} {Q : Fl → Loc → Sto → Prop}
    (h : WE cx sc d iter loc sto fun a sto₁ => ∃ xs, ItV cx a sto₁ xs ∧ LoopS cx sc d x body xs loc sto₁ Q) (hk : isVar sc x = true := by rfl)
    (hs : noSet iter = true := by rfl) : WS cx sc d (.For (.Name x p) iter body [] pos) loc sto Q := by
  intro env A s ρ F hE hA B f
  refine wpAny_For (wpAny_mono (h env A s ρ F hE hA B f) ?_ fun _ _ x => x) (notSet_folds hs env)
  rintro a s₁ ⟨v, sto₁, ρ₁, F₁, st₁, r₁, B₁, xs, hit, hloop⟩
  refine wpAny_mono (hit A s₁ ρ₁ F₁ a hA.handled B₁ r₁) ?_ fun _ _ x => x
  rintro it s₂ ⟨I, fp, wr, P, St, h₀, tk, rfl, rfl, hkeep, ok, hst⟩
  have f₁ := f.step B st₁
  -- what stands after i turns
  let Inv : Nat → Shared → Prop := fun k s' => ∃ i ρ' F' loc' sto', k = xs.length - i ∧ i ≤ xs.length ∧ Step (Own env) ρ₁ F₁ s₁ ρ' F' s' ∧ Base cx ρ' F' sto' s' ∧ Frame cx env ρ' F' loc' s' ∧
    St i s'.heap ∧ (∀ b ∈ wr, b ∉ ρ' ∧ ¬ F' b) ∧ LoopS cx sc d x body (xs.drop i) loc' sto' Q
  have wrBase : ∀ b ∈ wr, cx.base.get? b = none := fun b hb => by
    cases e : cx.base.get? b with
    | none => rfl
    | some o => have := B₁.stays b o e; rw [ok.fresh b hb] at this; cases this
  have wrOwn : ∀ b ∈ wr, ¬ Own env b := fun b hb ho => by
    obtain ⟨_, _, _, o, e⟩ := f₁.own b ho
    rw [ok.fresh b hb] at e; cases e
  have wrρ : ∀ b ∈ wr, b ∉ ρ₁ := fun b hb hm => by
    obtain ⟨i, hi⟩ := List.getElem?_of_mem hm
    have hlt : i < ρ₁.length := (List.getElem?_eq_some_iff.mp hi).1
    obtain ⟨items, ⟨n, ho⟩, _⟩ := B₁.objs i b (sto₁[i]'(B₁.len ▸ hlt)) hi (List.getElem?_eq_getElem _)
    rw [ok.fresh b hb] at ho; cases ho
  have wrF : ∀ b ∈ wr, ¬ F₁ b := fun b hb hF => by
    obtain ⟨o, ho⟩ := B₁.live b hF
    rw [ok.fresh b hb] at ho; cases ho
  have start : Inv xs.length { s₁ with heap := h₀, toks := tk } := by
    refine ⟨0, ρ₁, F₁, loc, sto₁, rfl, Nat.zero_le _, Step.later (wr := []) Step.refl (fun b o _ e => hkeep b o e) (fun _ h => nomatch h), B₁.later (wr := []) (fun b o _ e => hkeep b o e) (fun _ h => nomatch h),
      f₁.later (wr := []) (fun b o _ e => hkeep b o e) (fun _ h => nomatch h), hst, fun b hb => ⟨wrρ b hb, wrF b hb⟩, hloop⟩
  refine codeAny_forLoop_any Inv ?_ xs.length start
  rintro k s' ⟨i, ρ', F', loc', sto', rfl, hi, st', B', f', hst', hwr, hl⟩
  have hall : ∀ b ∈ wr, b ∉ ρ' ∧ ¬ F' b ∧ cx.base.get? b = none := fun b hb => ⟨(hwr b hb).1, (hwr b hb).2, wrBase b hb⟩
  by_cases hlt : i < xs.length
  · refine ok.walk.item i s' _ _ hlt hst' fun y h' tk' hP hst₂ hk₂ => ?_
    obtain ⟨v', hv', rv⟩ := ok.rel i y hlt hP
    have hgi : xs[i] = v' := by rw [List.getElem?_eq_getElem hlt] at hv'; exact Option.some.inj hv'
    rw [List.drop_eq_getElem_cons hlt, hgi] at hl
    unfold LoopS at hl
    have st₂ : Step (Own env) ρ₁ F₁ s₁ ρ' F' { s' with heap := h', toks := tk' } := st'.later hk₂ ok.fresh
    have B₂ := B'.later (t := tk') hk₂ hall
    have f₂ := f'.later (t := tk') hk₂ fun b hb => ⟨wrOwn b hb, (hwr b hb).2⟩
    refine wpAny_pure (a := ()) ?_
    refine wpAny_assign_Name (store_var hE B₂ f₂ (st₂.vrel B₁ f₁.noF rv) hk fun s₃ st₃ B₃ f₃ => ?_)
    have hA₃ := ((hA.step st₁).step st₂).step st₃
    refine wpAny_mono (hl env A s₃ ρ' F' hE hA₃ B₃ f₃) ?_ fun _ _ x => x.elim
    rintro g s₄ ⟨fl, loc₄, sto₄, ρ₄, F₄, st₄, r₄, B₄, f₄, q₄⟩
    have st₅ : Step (Own env) ρ₁ F₁ s₁ ρ₄ F₄ s₄ := (st₂.trans st₃).trans st₄
    -- the iterator is as it was
    have keepfp : ∀ b ∈ fp, ∀ o, h'.get? b = some o → s₄.heap.get? b = some o := fun b hb o e => by
      have hb' : b ∉ ρ' ∧ ¬ Own env b := by
        rcases ok.prot b hb with h | h
        · exact ⟨(hwr b h).1, wrOwn b h⟩
        · exact ⟨B'.disj b (st'.sub b h), fun ho => (f'.own b ho).2.1 (st'.sub b h)⟩
      obtain ⟨o', e', k'⟩ := (st₃.trans st₄).kept b o hb'.1 hb'.2 e
      rw [k'.same (ok.nd _ _ hst₂ b hb o e)] at e'
      exact e'
    have hst₄ : St (i + 1) s₄.heap := ok.walk.frame _ _ _ hst₂ keepfp
    have hwr₄ : ∀ b ∈ wr, b ∉ ρ₄ ∧ ¬ F₄ b := fun b hb => by
      obtain ⟨o, vs, e, _⟩ := ok.fld _ _ hst₂ b hb
      have st₃₄ := st₃.trans st₄
      refine ⟨fun h => ?_, fun h => ?_⟩
      · rcases st₃₄.newr b h with h | h
        · exact (hwr b hb).1 h
        · have h : h'.get? b = none := h
          rw [h] at e; cases e
      · rcases st₃₄.newF b h with h | h
        · exact (hwr b hb).2 h
        · have h : h'.get? b = none := h
          rw [h] at e; cases e
    cases fl with
    | next =>
      simp only [FlRel] at r₄; subst r₄
      exact ⟨xs.length - (i + 1), by omega, i + 1, ρ₄, F₄, loc₄, sto₄, rfl, hlt, st₅, B₄, f₄, hst₄, hwr₄, q₄⟩
    | cont =>
      simp only [FlRel] at r₄; subst r₄
      exact ⟨xs.length - (i + 1), by omega, i + 1, ρ₄, F₄, loc₄, sto₄, rfl, hlt, st₅, B₄, f₄, hst₄, hwr₄, q₄⟩
    | brk =>
      simp only [FlRel] at r₄; subst r₄
      exact ⟨.next, loc₄, sto₄, ρ₄, F₄, st₁.own.trans st₅, rfl, B₄, f₄, q₄⟩
    | ret r =>
      simp only [FlRel] at r₄
      obtain ⟨z, rfl, rz⟩ := r₄
      exact ⟨.ret r, loc₄, sto₄, ρ₄, F₄, st₁.own.trans st₅, ⟨z, rfl, rz⟩, B₄, f₄, q₄⟩
  · obtain rfl : i = xs.length := by omega
    refine ok.walk.done s' _ _ hst' fun h' tk' hk₂ => ?_
    rw [List.drop_length] at hl
    exact wpAny_execs_nil ⟨.next, loc', sto', ρ', F', st₁.own.trans (st'.later hk₂ ok.fresh), rfl, B'.later hk₂ hall, f'.later hk₂ fun b hb => ⟨wrOwn b hb, (hwr b hb).2⟩, hl⟩

theorem ws_while {test : Expr} {body : List Stmt} {pos : Pos} {Q : Fl → Loc → Sto → Prop} (n : Nat) (h : WhileS cx sc d test body n loc sto Q) : WS cx sc d (.While test body [] pos) loc sto Q := by
  intro env A s ρ F hE hA B f
  refine wpAny_While ?_
  let Inv : Nat → Shared → Prop := fun k s' => ∃ ρ' F' loc' sto', Step (Own env) ρ F s ρ' F' s' ∧ Base cx ρ' F' sto' s' ∧ Frame cx env ρ' F' loc' s' ∧ WhileS cx sc d test body k loc' sto' Q
  refine codeAny_whileLoop Inv ?_ n ⟨ρ, F, loc, sto, .refl, B, f, h⟩
  rintro k s' ⟨ρ', F', loc', sto', st', B', f', hw⟩
  cases k with
  | zero => exact hw.elim
  | succ k =>
    unfold WhileS at hw
    refine wpAny_mono (hw env A s' ρ' F' hE (hA.step st') B' f') ?_ fun _ _ x => x.elim
    rintro c s₁ ⟨sto₁, ρ₁, F₁, st₁, B₁, h₁⟩
    cases c with
    | true =>
      simp only [if_true] at h₁ ⊢
      refine wpAny_mono (h₁ env A s₁ ρ₁ F₁ hE ((hA.step st').step st₁) B₁ (f'.step B' st₁)) ?_ fun _ _ x => x.elim
      rintro g s₄ ⟨fl, loc₄, sto₄, ρ₄, F₄, st₄, r₄, B₄, f₄, q₄⟩
      have st₅ : Step (Own env) ρ F s ρ₄ F₄ s₄ := (st'.trans st₁.own).trans st₄
      cases fl with
      | next => simp only [FlRel] at r₄; subst r₄; exact ⟨k, Nat.lt_succ_self k, ρ₄, F₄, loc₄, sto₄, st₅, B₄, f₄, q₄⟩
      | cont => simp only [FlRel] at r₄; subst r₄; exact ⟨k, Nat.lt_succ_self k, ρ₄, F₄, loc₄, sto₄, st₅, B₄, f₄, q₄⟩
      | brk => simp only [FlRel] at r₄; subst r₄; exact ⟨.next, loc₄, sto₄, ρ₄, F₄, st₅, rfl, B₄, f₄, q₄⟩
      | ret r =>
        simp only [FlRel] at r₄
        obtain ⟨z, rfl, rz⟩ := r₄
        exact ⟨.ret r, loc₄, sto₄, ρ₄, F₄, st₅, ⟨z, rfl, rz⟩, B₄, f₄, q₄⟩
    | false =>
      simp only [Bool.false_eq_true, if_false] at h₁ ⊢
      exact wpAny_execs_nil ⟨.next, loc', sto₁, ρ₁, F₁, st'.trans st₁.own, rfl, B₁, f'.step B' st₁, h₁⟩
end
end Mine

namespace Mine

mutual
def below (k : Nat) : V → Bool
  | .obj n => decide (n < k)
  | .tup vs => belows k vs
  | .lst vs => belows k vs
  | _ => true
def belows (k : Nat) : List V → Bool
  | [] => true
  | v :: vs => below k v && belows k vs
end

mutual
theorem VRel.restrict {F F' : Addr → Prop} {ρ t : List Addr} {h : Heap} (hF : ∀ a, F a → F' a) : ∀ {v : V} {x : Value}, below ρ.length v = true → VRel F (ρ ++ t) h v x → VRel F' ρ h v x
  | .none, _, _, q => q
  | .bool _, _, _, q => q
  | .int _, _, _, q => q
  | .str _, _, _, q => q
  | .obj n, _, b, q => by
    simp only [VRel, below, decide_eq_true_eq] at b q ⊢
    obtain ⟨a, h1, h2⟩ := q
    rw [List.getElem?_append_left b] at h1
    exact ⟨a, h1, h2⟩
  | .raw _, _, _, q => q
  | .tup vs, _, b, q => by
    simp only [VRel, below] at b q ⊢
    obtain ⟨a, items, h1, h2, h3, h4⟩ := q
    exact ⟨a, items, h1, hF _ h2, h3, VRels.restrict hF b h4⟩
  | .lst vs, _, b, q => by
    simp only [VRel, below] at b q ⊢
    obtain ⟨a, items, h1, h2, h3, h4⟩ := q
    exact ⟨a, items, h1, hF _ h2, h3, VRels.restrict hF b h4⟩
  | .rng _ _ _, _, _, q => by
    simp only [VRel] at q ⊢
    obtain ⟨r, t, u, v, h1, h2, h3⟩ := q
    exact ⟨r, t, u, v, h1, hF _ h2, h3⟩
  | .thing _, _, _, q => by
    simp only [VRel] at q ⊢
    obtain ⟨a, o, h1, h2, h3, h4, h5⟩ := q
    exact ⟨a, o, h1, hF _ h2, h3, h4, h5⟩
theorem VRels.restrict {F F' : Addr → Prop} {ρ t : List Addr} {h : Heap} (hF : ∀ a, F a → F' a) : ∀ {v : List V} {x : List Value}, belows ρ.length v = true → VRels F (ρ ++ t) h v x → VRels F' ρ h v x
  | [], _, _, q => q
  | v :: vs, _, b, q => by
    simp only [VRels, belows, Bool.and_eq_true] at b q ⊢
    obtain ⟨y, ys, h1, h2, h3⟩ := q
    exact ⟨y, ys, h1, VRel.restrict hF b.1 h2, VRels.restrict hF b.2 h3⟩
end

/-- a value handed back: a new list is data from now on -/
inductive Froz (k : Nat) (sto : Sto) : V → V → Prop where
  | same {v : V} : below k v = true → Froz k sto v v
  | list {n : Nat} {vs : List V} : k ≤ n → sto[n]? = some vs → belows k vs = true → Froz k sto (.obj n) (.lst vs)

def retOf : Fl → V
  | .ret v => v
  | _ => .none

def retVal : Flow → Value
  | .ret v => v
  | _ => .none

def Ret (k : Nat) (Q : V → Sto → Prop) : Fl → Loc → Sto → Prop :=
  fun fl _ sto' => ∃ v, Froz k sto' (retOf fl) v ∧ (∀ o ∈ sto'.take k, belows k o = true) ∧ Q v (sto'.take k)

/-- a def of the text -/
structure FnIs (cx : Cx) (f : Str) (params : Arguments) (body : List Stmt) (scope : Scope) : Prop where
  at' : ∃ a o pm code doc, cx.mg f = some (.ref a) ∧ cx.base.get? a = some o ∧ o.data = .func (Calls.docDef f params body scope pm code doc) ∧ cx.base.CodeRec code f

theorem fnIs {cx : Cx} {i : Nat} {r : DefRec} (h : (recsOf cx.p)[i]? = some r) : FnIs cx r.name r.params r.body r.scope :=
  ⟨cx.top.fn r (List.mem_of_getElem? h)⟩

def CallF (cx : Cx) (d : Nat) (f : Str) (args : List V) (sto : Sto) (Q : V → Sto → Prop) : Prop :=
  ∃ a o fd, cx.mg f = some (.ref a) ∧ cx.base.get? a = some o ∧ o.data = .func fd ∧ CallV cx d (.ref a) args sto Q

theorem lookup_mem_fst {α : Type} {x : Str} {v : α} : ∀ {l : List (Str × α)}, l.lookup x = some v → x ∈ l.map (·.1)
  | (k, w) :: r, h => by
    rw [List.lookup_cons] at h
    cases hb : x == k with
    | true => rw [beq_iff_eq.mp hb]; exact List.mem_cons_self
    | false => rw [hb] at h; exact List.mem_cons_of_mem _ (lookup_mem_fst h)

theorem bindL_skip {kind : Str → Option NameKind} {x : Str} : ∀ {names : List Str} {xs : List Value} {m : Str → Option Value}, x ∉ names → bindL kind (names.zip xs) m x = m x
  | [], _, _, _ => rfl
  | _ :: _, [], _, _ => rfl
  | n :: names, y :: xs, m, h => by
    simp only [List.zip_cons_cons, bindL]
    rw [bindL_skip (fun q => h (List.mem_cons_of_mem _ q))]
    have : x ≠ n := fun q => h (q ▸ List.mem_cons_self)
    split
    · exact if_neg this
    · rfl
theorem bindC_skip {kind : Str → Option NameKind} {x : Str} : ∀ {names : List Str} {xs : List Value} {m : Str → Option Value}, x ∉ names → bindC kind (names.zip xs) m x = m x
  | [], _, _, _ => rfl
  | _ :: _, [], _, _ => rfl
  | n :: names, y :: xs, m, h => by
    simp only [List.zip_cons_cons, bindC]
    rw [bindC_skip (fun q => h (List.mem_cons_of_mem _ q))]
    have : x ≠ n := fun q => h (q ▸ List.mem_cons_self)
    split
    · rfl
    · exact if_neg this

theorem bindL_get {F : Addr → Prop} {ρ : List Addr} {h : Heap} {kind : Str → Option NameKind} {x : Str} {v : V} (hk : kind x = some .local) : ∀ {names : List Str} {args : List V} {xs : List Value} {m : Str → Option Value},
    names.Nodup → VRels F ρ h args xs → (names.zip args).lookup x = some v → ∃ y, bindL kind (names.zip xs) m x = some y ∧ VRel F ρ h v y
  | [], _, _, _, _, _, e => by simp at e
  | _ :: _, [], _, _, _, _, e => by simp at e
  | n :: names, w :: args, xs, m, nd, r, e => by
    simp only [VRels] at r
    obtain ⟨y, ys, rfl, r1, r2⟩ := r
    obtain ⟨n1, n2⟩ := List.nodup_cons.mp nd
    simp only [List.zip_cons_cons] at e ⊢
    rw [lookup_cons'] at e
    by_cases hx : x = n
    · subst hx
      rw [if_pos rfl] at e; cases e
      refine ⟨y, ?_, r1⟩
      simp only [bindL]
      rw [bindL_skip n1, if_pos hk]; simp
    · rw [if_neg hx] at e
      simp only [bindL]
      exact bindL_get hk n2 r2 e
theorem bindC_get {F : Addr → Prop} {ρ : List Addr} {h : Heap} {kind : Str → Option NameKind} {x : Str} {v : V} (hk : kind x = some .cell) : ∀ {names : List Str} {args : List V} {xs : List Value} {m : Str → Option Value},
    names.Nodup → VRels F ρ h args xs → (names.zip args).lookup x = some v → ∃ y, bindC kind (names.zip xs) m x = some y ∧ VRel F ρ h v y
  | [], _, _, _, _, _, e => by simp at e
  | _ :: _, [], _, _, _, _, e => by simp at e
  | n :: names, w :: args, xs, m, nd, r, e => by
    simp only [VRels] at r
    obtain ⟨y, ys, rfl, r1, r2⟩ := r
    obtain ⟨n1, n2⟩ := List.nodup_cons.mp nd
    simp only [List.zip_cons_cons] at e ⊢
    rw [lookup_cons'] at e
    by_cases hx : x = n
    · subst hx
      rw [if_pos rfl] at e; cases e
      refine ⟨y, ?_, r1⟩
      simp only [bindC]
      rw [bindC_skip n1, if_neg (by rw [hk]; simp)]; simp
    · rw [if_neg hx] at e
      simp only [bindC]
      exact bindC_get hk n2 r2 e

theorem lookup_isSome_of_mem {x : Str} : ∀ {l : List (Str × Addr)}, x ∈ l.map (·.1) → (l.lookup x).isSome = true
  | (k, w) :: r, h => by
    rw [List.lookup_cons]
    cases hb : x == k with
    | true => rfl
    | false =>
      rcases List.mem_cons.mp h with e | h
      · have : x = k := e
        subst this; simp at hb
      · exact lookup_isSome_of_mem h
theorem cellsFrom_mem {x : Str} : ∀ {names : List (Str × NameKind)} {n : Nat} {acc : List (Str × Addr)}, (x ∈ acc.map (·.1) ∨ (x, NameKind.cell) ∈ names) → x ∈ (cellsFrom n names acc).map (·.1)
  | [], _, _, h => by
    rcases h with h | h
    · exact h
    · cases h
  | (y, k) :: r, n, acc, h => by
    unfold cellsFrom
    split
    · refine cellsFrom_mem ?_
      rcases h with h | h
      · exact .inl (List.mem_cons_of_mem _ h)
      · rcases List.mem_cons.mp h with e | h
        · cases e; exact .inl List.mem_cons_self
        · exact .inr h
    · rename_i hk
      refine cellsFrom_mem ?_
      rcases h with h | h
      · exact .inl h
      · rcases List.mem_cons.mp h with e | h
        · cases e; exact absurd rfl hk
        · exact .inr h

theorem Base.lt {cx : Cx} {ρ : List Addr} {F : Addr → Prop} {sto : Sto} {s : Shared} (B : Base cx ρ F sto s) {a : Addr} (h : a ∈ ρ) : ∃ o, s.heap.get? a = some o := by
  obtain ⟨i, hi⟩ := List.getElem?_of_mem h
  have hlt : i < ρ.length := (List.getElem?_eq_some_iff.mp hi).1
  obtain ⟨items, ⟨n, ho⟩, _⟩ := B.objs i a (sto[i]'(B.len ▸ hlt)) hi (List.getElem?_eq_getElem _)
  exact ⟨_, ho⟩

section
variable {cx : Cx} {d : Nat} {sto : Sto}

/-- what stands when a def is entered -/
theorem enter_def {scope : Scope} {args : List V} {names : List Str} {A : Around} {s s₁ : Shared} {ρ : List Addr} {F : Addr → Prop} {xs : List Value} {env : Env} (hA : AOK cx (d + 1) A s.heap) (B : Base cx ρ F sto s) (r : VRels F ρ s.heap args xs)
    (hL : env.locals = s.heap.objs.size) (hsc : env.scope = scope) (hfr : env.frame = some s.heap.objs.size) (hgl : env.globals = mainGlobals) (hbl : env.builtins = builtinsNs) (hcs : env.cells = cellsFrom (s.heap.objs.size + 1) scope.names [])
    (hin : InCallC s env.locals (bindL env.kindOf (names.zip xs) fun _ => none) env.cells (bindC env.kindOf (names.zip xs) fun _ => none) s₁) (hn : names.Nodup) (hk : scope.kind = .function) (hcode : ∃ c o vs, env.code = .ref c ∧ cx.base.get? c = some o ∧ o.data = .fields vs) :
    EnvOK scope env (A.deeper env) ∧ AOK cx d (A.deeper env) s₁.heap ∧ Step NoWr ρ F s ρ F s₁ ∧ Base cx ρ F sto s₁ ∧ Frame cx env ρ F (names.zip args) s₁ ∧ ∀ b, Own env b → s.heap.get? b = none := by
  obtain ⟨h₁, tk, hs₁⟩ := hin.toInCall.same
  have keep := hin.toInCall.keep
  have hE : EnvOK scope env (A.deeper env) := ⟨hsc, hk, hgl, hbl, fun _ => ⟨by rw [hfr, hL], by
    obtain ⟨outer, ho, _⟩ := hA.frames
    exact ⟨outer, by show A.frames.map (env :: ·) = _; rw [ho]; rfl⟩⟩⟩
  have kind : ∀ x, env.kindOf x = scope.names.lookup x := fun x => by unfold Env.kindOf; rw [hsc]
  have nolook : ∀ b, s.heap.objs.size ≤ b → s.heap.get? b = none := fun b hb => by
    cases e : s.heap.get? b with
    | none => rfl
    | some o => exact absurd (Heap.lt_size e) (Nat.not_lt.mpr hb)
  have ownNew : ∀ b, Own env b → s.heap.get? b = none := fun b hb => by
    rcases hb with rfl | ⟨x, hx⟩
    · rw [hL]; exact nolook _ (Nat.le_refl _)
    · have := hin.above x b (mem_of_lookup hx)
      rw [hL] at this
      exact nolook _ (Nat.le_of_lt this)
  have st₁ : Step NoWr ρ F s ρ F s₁ := by
    rw [hs₁]
    exact Step.later (wr := []) Step.refl (fun b o _ e => by have := keep b o e; rw [hs₁] at this; exact this) (fun _ h => nomatch h)
  have B₁ : Base cx ρ F sto s₁ := by
    rw [hs₁]
    exact B.later (wr := []) (fun b o _ e => by have := keep b o e; rw [hs₁] at this; exact this) (fun _ h => nomatch h)
  have r₁ := st₁.vrels B noWrF r
  have f₁ : Frame cx env ρ F (names.zip args) s₁ := by
    refine ⟨⟨_, hin.toInCall.ns, fun x v h1 h2 => bindL_get h2 hn r₁ h1⟩, fun x v h1 h2 => ?_, fun x h2 => ?_, fun x y c h1 h2 => name_of_addr hin.apart (mem_of_lookup h1) (mem_of_lookup h2), fun b hb => ?_, fun x c hx => ?_⟩
    · obtain ⟨y, e, r'⟩ := bindC_get (m := fun _ => none) (kind := env.kindOf) h2 hn r₁ h1
      have hmem : (x, NameKind.cell) ∈ scope.names := by rw [kind] at h2; exact mem_of_lookup h2
      have := lookup_isSome_of_mem (cellsFrom_mem (n := s.heap.objs.size + 1) (acc := []) (.inr hmem))
      rw [← hcs] at this
      obtain ⟨c, hc⟩ := Option.isSome_iff_exists.mp this
      have hcell := hin.cell x c hc
      rw [e] at hcell
      exact ⟨c, y, hc, hcell, r'⟩
    · have hmem : (x, NameKind.cell) ∈ scope.names := by rw [kind] at h2; exact mem_of_lookup h2
      have := lookup_isSome_of_mem (cellsFrom_mem (n := s.heap.objs.size + 1) (acc := []) (.inr hmem))
      rw [← hcs] at this
      obtain ⟨c, hc⟩ := Option.isSome_iff_exists.mp this
      exact ⟨c, _, hc, hin.cell x c hc⟩
    · have hnew := ownNew b hb
      refine ⟨fun hm => ?_, fun hF => ?_, ?_, ?_⟩
      · obtain ⟨o', ho'⟩ := B.lt hm; rw [hnew] at ho'; cases ho'
      · obtain ⟨o', ho'⟩ := B.live b hF; rw [hnew] at ho'; cases ho'
      · cases e : cx.base.get? b with
        | none => rfl
        | some o' => have := B.stays b o' e; rw [hnew] at this; cases this
      · rcases hb with rfl | ⟨x, hx⟩
        · obtain ⟨o', ho', _⟩ := Ns.obj hin.toInCall.ns; exact ⟨o', ho'⟩
        · obtain ⟨o', ho', _⟩ := IsCell.obj (hin.cell x b hx); exact ⟨o', ho'⟩
    · exact Nat.ne_of_gt (hin.above x c (mem_of_lookup hx))
  have hA₁ : AOK cx d (A.deeper env) s₁.heap := by
    obtain ⟨hh, hd, hu, hcs', outer, ho, hff, hdd⟩ := hA.step st₁
    obtain ⟨oL, hoL, hdL⟩ := Ns.obj hin.toInCall.ns
    refine ⟨hh, by show A.depth + 1 + d < _; omega, by show A.units + 3 + 16 * d + 16 < _; omega, fun outer' ho' env' he => ?_, env :: outer, by show A.frames.map (env :: ·) = _; rw [ho]; rfl, ⟨?_, ⟨env.locals, oL, by rw [hfr, hL], ?_, hoL, hdL⟩, hff⟩, fun env' he L' hL' => ?_⟩
    · have ho' : A.frames.map (env :: ·) = some outer' := ho'
      rw [ho] at ho'; cases ho'
      rcases List.mem_cons.mp he with rfl | he
      · exact hcode
      · exact hcs' outer ho env' he
    · rw [hsc, hk]; decide
    · have hnew := ownNew env.locals (.inl rfl)
      cases e : cx.base.get? env.locals with
      | none => rfl
      | some o' => have := B.stays _ o' e; rw [hnew] at this; cases this
    · rcases List.mem_cons.mp he with rfl | he
      · rw [hfr, ← hL] at hL'; cases hL'
        obtain ⟨es, n, e⟩ := Ns.dict hin.toInCall.ns hoL
        exact ⟨oL, es, n, hoL, e⟩
      · exact hdd env' he L' hL'
  exact ⟨hE, hA₁, st₁, B₁, f₁, ownNew⟩

theorem callF_def {f : Str} {params : Arguments} {body : List Stmt} {scope : Scope} {args : List V} {names : List Str} {Q : V → Sto → Prop} (hf : FnIs cx f params body scope)
    (h : WSs cx scope d body (names.zip args) sto (Ret sto.length Q))
    (hb : ∀ pm cd doc xs, xs.length = args.length → bindArgs (Calls.docDef f params body scope pm cd doc) ⟨xs, []⟩ = pure (names.zip xs))
    (hn : names.Nodup := by decide) (hv : (names.all fun x => isVar scope x) = true := by rfl) (hco : scope.isCoroutine = false := by rfl) (hgen : scope.isGenerator = false := by rfl) (hk : scope.kind = .function := by rfl) :
    CallF cx (d + 1) f args sto Q := by
  obtain ⟨a, o, pm, code, doc, e1, e2, e3, e4⟩ := hf.at'
  refine ⟨a, o, _, e1, e2, e3, ?_⟩
  intro A s ρ F xs hA B r
  have hlen := r.length
  refine wpAny_call (codeAny_call_cells (binds := names.zip xs) (body := body) (by have := hA.depth; omega) (B.stays _ _ e2) e3 (cx.top.nolimit.keeps B.stays) (e4.keeps B.stays) rfl (hb pm code doc xs hlen) rfl ?_ ?_ hco hgen hk)
  · intro x hx
    have hx1 : x.1 ∈ names := (List.of_mem_zip (show (x.1, x.2) ∈ names.zip xs from hx)).1
    have hv1 := List.all_eq_true.mp hv x.1 hx1
    unfold isVar at hv1
    split at hv1
    · rename_i hl; exact .inl hl
    · rename_i hl
      exact .inr ⟨hl, lookup_isSome_of_mem (cellsFrom_mem (.inr (mem_of_lookup hl)))⟩
    · cases hv1
  intro s₁ hin
  have hL : (callEnvC (Calls.docDef f params body scope pm code doc) s.heap.objs.size a).locals = s.heap.objs.size := rfl
  have hsc : (callEnvC (Calls.docDef f params body scope pm code doc) s.heap.objs.size a).scope = scope := rfl
  have hfr : (callEnvC (Calls.docDef f params body scope pm code doc) s.heap.objs.size a).frame = some s.heap.objs.size := rfl
  have hgl : (callEnvC (Calls.docDef f params body scope pm code doc) s.heap.objs.size a).globals = mainGlobals := rfl
  have hbl : (callEnvC (Calls.docDef f params body scope pm code doc) s.heap.objs.size a).builtins = builtinsNs := rfl
  have hcs : (callEnvC (Calls.docDef f params body scope pm code doc) s.heap.objs.size a).cells = cellsFrom (s.heap.objs.size + 1) scope.names [] := rfl
  have hco' : (callEnvC (Calls.docDef f params body scope pm code doc) s.heap.objs.size a).code = code := rfl
  generalize callEnvC (Calls.docDef f params body scope pm code doc) s.heap.objs.size a = env at *
  obtain ⟨hE, hA₁, st₁, B₁, f₁, ownNew⟩ := enter_def hA B r hL hsc hfr hgl hbl hcs hin hn hk (by obtain ⟨c, o, vs, t, q1, q2, q3, _⟩ := e4; exact ⟨c, o, vs, hco'.trans q1, q2, q3⟩)
  refine wpAny_mono (h env (A.deeper env) s₁ ρ F hE hA₁ B₁ f₁) ?_ fun _ _ x => x.elim
  rintro g s₂ ⟨fl, loc₂, sto₂, ρ₂, F₂, st₂, r₂, B₂, f₂, v, hv2, hbel, q⟩
  obtain ⟨t, rfl⟩ := st₂.pre
  have nd := B₂.nodup
  have hlenρ : ρ.length = sto.length := B.len
  have tnew : ∀ a ∈ t, a ∉ ρ := fun a ha hb => (List.nodup_append.mp nd).2.2 a hb a ha rfl
  have st₃ : Step (Own env) ρ F s (ρ ++ t) F₂ s₂ := st₁.own.trans st₂
  -- the new lists are data from now on
  have st₄ : Step NoWr ρ F s ρ (fun a => F₂ a ∨ a ∈ t) s₂ := by
    refine ⟨⟨[], by simp⟩, fun a h => .inl (st₃.sub a h), fun a h => .inl h, fun a h => ?_, fun b o hb _ e => ?_, st₃.alive⟩
    · rcases h with h | h
      · exact st₃.newF a h
      · rcases st₃.newr a (List.mem_append_right _ h) with h' | h'
        · exact absurd h' (tnew a h)
        · exact .inr h'
    · exact st₃.kept b o hb (fun ho => by rw [ownNew b ho] at e; cases e) e
  have B₃ : Base cx ρ (fun a => F₂ a ∨ a ∈ t) (sto₂.take sto.length) s₂ := by
    have hl2 : ρ.length + t.length = sto₂.length := by have := B₂.len; rw [List.length_append] at this; exact this
    refine ⟨B₂.stays, fun a h => B₂.rnew a (List.mem_append_left _ h), (List.nodup_append.mp nd).1, by rw [List.length_take]; omega, fun i b vs h1 h2 => ?_, fun b h => ?_, fun b h => ?_, B₂.gens, B₂.os⟩
    · have hi : i < ρ.length := (List.getElem?_eq_some_iff.mp h1).1
      have h2' : sto₂[i]? = some vs := by rw [List.getElem?_take] at h2; split at h2 <;> first | exact h2 | cases h2
      obtain ⟨items, hl, hr⟩ := B₂.objs i b vs (by rw [List.getElem?_append_left hi]; exact h1) h2'
      refine ⟨items, hl, VRels.restrict (fun a h => .inl h) ?_ hr⟩
      rw [hlenρ]
      exact hbel vs (List.mem_of_getElem? h2)
    · rcases h with h | h
      · exact fun hm => B₂.disj b h (List.mem_append_left _ hm)
      · exact tnew b h
    · rcases h with h | h
      · exact B₂.live b h
      · exact B₂.lt (List.mem_append_right _ h)
  have rel : VRel F₂ (ρ ++ t) s₂.heap (retOf fl) (retVal g) := by
    cases fl with
    | next => simp only [FlRel] at r₂; subst r₂; simp [retOf, retVal, VRel]
    | brk => simp only [FlRel] at r₂; subst r₂; simp [retOf, retVal, VRel]
    | cont => simp only [FlRel] at r₂; subst r₂; simp [retOf, retVal, VRel]
    | ret w => simp only [FlRel] at r₂; obtain ⟨x, rfl, rx⟩ := r₂; exact rx
  show PostV cx ρ F s Q (retVal g) s₂
  refine ⟨v, _, ρ, _, st₄, ?_, B₃, q⟩
  generalize retOf fl = u at hv2 rel
  cases hv2 with
  | same hbv => rw [← hlenρ] at hbv; exact VRel.restrict (fun a h => .inl h) hbv rel
  | list hkn hget hbv =>
    rename_i n vs
    simp only [VRel] at rel ⊢
    obtain ⟨b, hb1, hb2⟩ := rel
    obtain ⟨items, hl0, hr⟩ := B₂.objs n b vs hb1 hget
    have hl := hl0.isList
    rw [List.getElem?_append_right (by omega)] at hb1
    rw [← hlenρ] at hbv
    exact ⟨b, items, hb2, .inr (List.mem_of_getElem? hb1), hl, VRels.restrict (fun a h => .inl h) hbv hr⟩
end
end Mine

namespace Mine

section
variable {cx : Cx} {sc : Scope} {d : Nat} {loc : Loc} {sto : Sto} {ρ : List Addr} {F : Addr → Prop} {s : Shared}

theorem keepsStep {Wr : Addr → Prop} {h' : Heap} {t : Nat} (hk : ∀ b o, s.heap.get? b = some o → h'.get? b = some o) : Step Wr ρ F s ρ F { s with heap := h', toks := t } :=
  Step.later (wr := []) Step.refl (fun b o _ e => hk b o e) (fun _ h => nomatch h)
theorem Base.keeps {h' : Heap} {t : Nat} (B : Base cx ρ F sto s) (hk : ∀ b o, s.heap.get? b = some o → h'.get? b = some o) : Base cx ρ F sto { s with heap := h', toks := t } :=
  B.later (wr := []) (fun b o _ e => hk b o e) (fun _ h => nomatch h)
theorem VRel.keeps {h h' : Heap} {v : V} {x : Value} (r : VRel F ρ h v x) (hk : ∀ b o, h.get? b = some o → h'.get? b = some o) : VRel F ρ h' v x := r.mono (fun _ x => x) (fun _ _ x => x) fun a o _ e _ => hk a o e
theorem VRels.keeps {h h' : Heap} {v : List V} {x : List Value} (r : VRels F ρ h v x) (hk : ∀ b o, h.get? b = some o → h'.get? b = some o) : VRels F ρ h' v x := r.mono (fun _ x => x) (fun _ _ x => x) fun a o _ e _ => hk a o e
end

/-! several expressions -/
def noStar : Expr → Bool
  | .Starred .. => false
  | _ => true
theorem starEach_cons {e : Expr} {es : List Expr} {env : Env} (h : noStar e = true) : starEach (e :: es) env = (false, eval e env) :: starEach es env := by
  cases e <;> first | rfl | cases h
def noStars : List Expr → Bool
  | [] => true
  | e :: es => noStar e && noStars es
theorem plain_trees {pos : Pos} {env : Env} : ∀ {es : List Expr}, noStars es = true → (backTo pos (starEach es env)).any (·.1) = false
  | [], _ => rfl
  | e :: es, h => by
    simp only [noStars, Bool.and_eq_true] at h
    rw [starEach_cons h.1]
    show (false || (backTo pos (starEach es env)).any (·.1)) = false
    rw [plain_trees h.2]; rfl

section
variable {cx : Cx} {sc : Scope} {d : Nat} {loc : Loc} {sto : Sto}

theorem wes_nil {Q : List V → Sto → Prop} (q : Q [] sto) : WEs cx sc d [] loc sto Q :=
  fun _ _ _ ρ F _ _ _ B _ => Calls.spliced_nil ⟨[], sto, ρ, F, .refl, by simp [VRels], B, q⟩
theorem wes_cons {e : Expr} {es : List Expr} {Q : List V → Sto → Prop} (h : WE cx sc d e loc sto fun v sto₁ => WEs cx sc d es loc sto₁ fun vs sto₂ => Q (v :: vs) sto₂) (hs : noStar e = true := by rfl) :
    WEs cx sc d (e :: es) loc sto Q := by
  intro env A s ρ F pos hE hA B f
  refine args_cons (wpAny_mono (h env A s ρ F hE hA B f) ?_ fun _ _ x => x) (starEach_cons hs)
  rintro x s₁ ⟨v, sto₁, ρ₁, F₁, st₁, r₁, B₁, h₁⟩
  refine wpAny_mono (h₁ env A s₁ ρ₁ F₁ pos hE (hA.step st₁) B₁ (f.step B st₁)) ?_ fun _ _ x => x
  rintro xs s₂ ⟨vs, sto₂, ρ₂, F₂, st₂, r₂, B₂, h₂⟩
  exact ⟨v :: vs, sto₂, ρ₂, F₂, st₁.trans st₂, by simp only [VRels]; exact ⟨x, xs, rfl, st₂.vrel B₁ noWrF r₁, r₂⟩, B₂, h₂⟩

/-! calls -/
def isGlob (sc : Scope) (x : Str) : Bool := match sc.names.lookup x with | some .globalImplicit => true | _ => false
theorem isGlob_kind {x : Str} {env : Env} (hE : EnvOK sc env A) (h : isGlob sc x = true) : env.kindOf x = some .globalImplicit := by
  unfold Env.kindOf
  rw [hE.scope]
  unfold isGlob at h
  split at h
  · assumption
  · cases h
theorem we_call {f : Str} {p pos : Pos} {e : Expr} {es : List Expr} {Q : V → Sto → Prop} (h : WEs cx sc d (e :: es) loc sto fun vs sto₁ => CallF cx d f vs sto₁ Q)
    (hg : isGlob sc f = true := by rfl) (hd : (f == ("__debug__" : Str)) = false := by decide) (hs : noStars (e :: es) = true := by rfl)
    (hne : (∃ a o fd, cx.mg f = some (.ref a) ∧ cx.base.get? a = some o ∧ o.data = .func fd)) :
    WE cx sc d (.Call (.Name f p) (e :: es) [] pos) loc sto Q := by
  intro env A s ρ F hE hA B fr
  have hkind : env.scope.kind = .function := by rw [hE.scope]; exact hE.kind
  obtain ⟨a, o, fd, e1, e2, e3⟩ := hne
  refine wpAny_Call_NameR (Calls.Name_function_global hkind (isGlob_kind hE hg) (Calls.loadGlobal_global (mg := cx.mg) (by rw [hE.globals]; exact cx.top.g.keeps B.stays) e1 ?_) hd)
  have hs' := hs
  simp only [noStars, Bool.and_eq_true] at hs'
  refine callWith_def e3 (wpAny_mono (h env A s ρ F pos hE hA B fr) ?_ fun _ _ x => x) (starEach_cons hs'.1)
  rintro xs s₁ ⟨vs, sto₁, ρ₁, F₁, st₁, r₁, B₁, a', o', fd', e1', e2', e3', h₁⟩
  rw [e1] at e1'; cases e1'
  refine ⟨B₁.stays _ _ e2, wpAny_mono (h₁ A s₁ ρ₁ F₁ xs (hA.step st₁) B₁ r₁) (fun _ _ p => p.after st₁) fun _ _ x => x⟩

/-- a name of the built-ins -/
def BI (cx : Cx) (x : Str) (v : Value) : Prop := cx.mg x = none ∧ cx.mb x = some v
theorem load_bi {x : Str} {v : Value} {env : Env} {A : Around} {s : Shared} {ρ : List Addr} {F : Addr → Prop} {p : Pos} {E : Value → Shared → Prop} {Q : Value → Shared → Prop} (hb : BI cx x v) (hE : EnvOK sc env A) (B : Base cx ρ F sto s)
    (hg : isGlob sc x = true) (hd : (x == ("__debug__" : Str)) = false) (q : Q v s) : wpAny (model cx.prog cx.w) A (eval (.Name x p) env) Q E s := by
  have hkind : env.scope.kind = .function := by rw [hE.scope]; exact hE.kind
  exact Calls.Name_function_global hkind (isGlob_kind hE hg) (Calls.loadGlobal_builtin (mg := cx.mg) (mb := cx.mb) (by rw [hE.globals]; exact cx.top.g.keeps B.stays) hb.1 (by rw [hE.builtins]; exact cx.top.b.keeps B.stays) hb.2 q) hd
theorem we_bname {x : Str} {v : Value} {p : Pos} {Q : V → Sto → Prop} (hb : BI cx x v) (q : Q (.raw v) sto) (hg : isGlob sc x = true := by rfl) (hd : (x == ("__debug__" : Str)) = false := by decide) : WE cx sc d (.Name x p) loc sto Q :=
  fun _ _ _ _ _ hE _ B _ => load_bi hb hE B hg hd (.imm0 B (by simp [VRel]) q)
theorem we_bcall {x : Str} {id : String} {p pos : Pos} {e : Expr} {es : List Expr} {Q : V → Sto → Prop} (hb : BI cx x (.builtin id)) (h : WEs cx sc d (e :: es) loc sto fun vs sto₁ => CallV cx d (.builtin id) vs sto₁ Q)
    (hg : isGlob sc x = true := by rfl) (hd : (x == ("__debug__" : Str)) = false := by decide) (hs : noStars (e :: es) = true := by rfl) : WE cx sc d (.Call (.Name x p) (e :: es) [] pos) loc sto Q := by
  intro env A s ρ F hE hA B fr
  refine wpAny_Call_NameR (load_bi hb hE B hg hd ?_)
  have hs' := hs
  simp only [noStars, Bool.and_eq_true] at hs'
  refine PyProof.Rows.callWith_builtin1 (wpAny_mono (h env A s ρ F pos hE hA B fr) ?_ fun _ _ x => x) (starEach_cons hs'.1) (plain_trees hs'.2)
  rintro xs s₁ ⟨vs, sto₁, ρ₁, F₁, st₁, r₁, B₁, h₁⟩
  exact wpAny_mono (h₁ A s₁ ρ₁ F₁ xs (hA.step st₁) B₁ r₁) (fun _ _ p => p.after st₁) fun _ _ x => x
theorem we_tcall {x : Str} {T : String} {p pos : Pos} {e : Expr} {es : List Expr} {Q : V → Sto → Prop} (hb : BI cx x (.type T)) (h : WEs cx sc d (e :: es) loc sto fun vs sto₁ => CallV cx d (.type T) vs sto₁ Q)
    (hg : isGlob sc x = true := by rfl) (hd : (x == ("__debug__" : Str)) = false := by decide) (hs : noStars (e :: es) = true := by rfl) : WE cx sc d (.Call (.Name x p) (e :: es) [] pos) loc sto Q := by
  intro env A s ρ F hE hA B fr
  refine wpAny_Call_NameR (load_bi hb hE B hg hd ?_)
  have hs' := hs
  simp only [noStars, Bool.and_eq_true] at hs'
  refine PyProof.Rows.callWith_type1 (wpAny_mono (h env A s ρ F pos hE hA B fr) ?_ fun _ _ x => x) (starEach_cons hs'.1) (plain_trees hs'.2)
  rintro xs s₁ ⟨vs, sto₁, ρ₁, F₁, st₁, r₁, B₁, h₁⟩
  exact wpAny_mono (h₁ A s₁ ρ₁ F₁ xs (hA.step st₁) B₁ r₁) (fun _ _ p => p.after st₁) fun _ _ x => x
end

/-! new lists -/
def PostN (cx : Cx) (ρ : List Addr) (F : Addr → Prop) (s : Shared) (Q : List V → Sto → Prop) : Value → Shared → Prop :=
  fun x s' => ∃ vs sto' ρ' F' a items, x = .ref a ∧ Step NoWr ρ F s ρ' F' s' ∧ s'.heap.PlainList a items ∧ VRels F' ρ' s'.heap vs items.toList ∧ a ∉ ρ' ∧ ¬ F' a ∧ cx.base.get? a = none ∧ s.heap.get? a = none ∧
    Base cx ρ' F' sto' s' ∧ Q vs sto'
/-- an expression that makes a new list -/
def WEN (cx : Cx) (sc : Scope) (d : Nat) (e : Expr) (loc : Loc) (sto : Sto) (Q : List V → Sto → Prop) : Prop :=
  ∀ env A s ρ F, EnvOK sc env A → AOK cx d A s.heap → Base cx ρ F sto s → Frame cx env ρ F loc s →
    wpAny (model cx.prog cx.w) A (eval e env) (PostN cx ρ F s Q) (fun _ _ => False) s

section
variable {cx : Cx} {sc : Scope} {d : Nat} {loc : Loc} {sto : Sto} {ρ : List Addr} {F : Addr → Prop} {s : Shared}

theorem PostN.after {ρ₁ : List Addr} {F₁ : Addr → Prop} {s₁ s' : Shared} {Q : List V → Sto → Prop} {x : Value} (st : Step NoWr ρ F s ρ₁ F₁ s₁) (h : PostN cx ρ₁ F₁ s₁ Q x s') : PostN cx ρ F s Q x s' := by
  obtain ⟨vs, sto', ρ', F', a, items, e, st', hl, r, h1, h2, h3, h4, B, q⟩ := h
  refine ⟨vs, sto', ρ', F', a, items, e, st.trans st', hl, r, h1, h2, h3, ?_, B, q⟩
  cases e : s.heap.get? a with
  | none => rfl
  | some o => obtain ⟨o', e', _⟩ := st.alive a o e; rw [h4] at e'; cases e'

/-- data from now on -/
theorem newData {ρ' : List Addr} {F' : Addr → Prop} {s' : Shared} {sto' : Sto} {vs : List V} {a : Addr} {items : Array Value} (st' : Step NoWr ρ F s ρ' F' s') (hl : s'.heap.IsList a items) (r : VRels F' ρ' s'.heap vs items.toList)
    (h1 : a ∉ ρ') (h4 : s.heap.get? a = none) (B : Base cx ρ' F' sto' s') :
    Step NoWr ρ F s ρ' (fun b => F' b ∨ b = a) s' ∧ VRel (fun b => F' b ∨ b = a) ρ' s'.heap (.lst vs) (.ref a) ∧ Base cx ρ' (fun b => F' b ∨ b = a) sto' s' := by
  obtain ⟨o, ho, hr⟩ := id hl
  have sub : ∀ b, F' b → F' b ∨ b = a := fun b h => .inl h
  refine ⟨⟨st'.pre, fun b h => .inl (st'.sub b h), st'.newr, fun b h => ?_, st'.kept, st'.alive⟩, ?_, ?_⟩
  · rcases h with h | rfl
    · exact st'.newF b h
    · exact .inr h4
  · simp only [VRel]
    exact ⟨a, items, rfl, .inr rfl, hl, r.mono sub (fun _ _ x => x) fun _ _ _ e _ => e⟩
  · refine ⟨B.stays, B.rnew, B.nodup, B.len, fun i b us e1 e2 => ?_, fun b h => ?_, fun b h => ?_, B.gens, B.os⟩
    · obtain ⟨its, hi, hr'⟩ := B.objs i b us e1 e2
      exact ⟨its, hi, hr'.mono sub (fun _ _ x => x) fun _ _ _ e _ => e⟩
    · rcases h with h | rfl
      · exact B.disj b h
      · exact h1
    · rcases h with h | rfl
      · exact B.live b h
      · exact ⟨o, ho⟩
theorem PostN.data {s' : Shared} {Q : V → Sto → Prop} {x : Value} (h : PostN cx ρ F s (fun vs st => Q (.lst vs) st) x s') : PostV cx ρ F s Q x s' := by
  obtain ⟨vs, sto', ρ', F', a, items, rfl, st', hl, r, h1, h2, h3, h4, B, q⟩ := h
  obtain ⟨x1, x2, x3⟩ := newData st' hl.isList r h1 h4 B
  exact ⟨.lst vs, sto', ρ', _, x1, x2, x3, q⟩
theorem WEN.data {e : Expr} {Q : V → Sto → Prop} (h : WEN cx sc d e loc sto fun vs st => Q (.lst vs) st) : WE cx sc d e loc sto Q :=
  fun env A s ρ F hE hA B f => wpAny_mono (h env A s ρ F hE hA B f) (fun _ _ p => p.data) fun _ _ x => x
theorem WEN.mono {e : Expr} {Q Q' : List V → Sto → Prop} (h : WEN cx sc d e loc sto Q) (q : ∀ v st, Q v st → Q' v st) : WEN cx sc d e loc sto Q' :=
  fun env A s ρ F hE hA B f => wpAny_mono (h env A s ρ F hE hA B f) (fun _ _ p => by
    obtain ⟨vs, sto', ρ', F', a, items, e, st', hl, r, h1, h2, h3, h4, B, q'⟩ := p
    exact ⟨vs, sto', ρ', F', a, items, e, st', hl, r, h1, h2, h3, h4, B, q _ _ q'⟩) fun _ _ x => x

/-- a new list becomes a tracked one by its name -/
theorem track {a : Addr} {vs : List V} {items : Array Value} (B : Base cx ρ F sto s) (hl : s.heap.PlainList a items) (r : VRels F ρ s.heap vs items.toList) (h1 : a ∉ ρ) (h2 : ¬ F a) (h3 : cx.base.get? a = none) :
    Base cx (ρ ++ [a]) F (sto ++ [vs]) s where
  stays := B.stays
  rnew := fun b h => by
    rcases List.mem_append.mp h with h | h
    · exact B.rnew b h
    · rw [List.mem_singleton.mp h]; exact h3
  nodup := List.nodup_append.mpr ⟨B.nodup, by simp, fun x hx y hy => by rw [List.mem_singleton.mp hy]; exact fun e => h1 (e ▸ hx)⟩
  len := by simp [B.len]
  objs := fun i b us e1 e2 => by
    have mono : ∀ {us : List V} {xs : List Value}, VRels F ρ s.heap us xs → VRels F (ρ ++ [a]) s.heap us xs := fun q => q.mono (fun _ x => x) (fun n c e => by
      rw [List.getElem?_append_left (List.getElem?_eq_some_iff.mp e).1]; exact e) fun _ _ _ e _ => e
    by_cases hi : i < ρ.length
    · rw [List.getElem?_append_left hi] at e1
      rw [List.getElem?_append_left (B.len ▸ hi)] at e2
      obtain ⟨its, x, y⟩ := B.objs i b us e1 e2
      exact ⟨its, x, mono y⟩
    · have hi' : i = ρ.length := by
        have := (List.getElem?_eq_some_iff.mp e1).1
        simp at this; omega
      subst hi'
      simp at e1
      rw [B.len] at e2
      simp at e2
      subst e1 e2
      exact ⟨items, hl, mono r⟩
  disj := fun b h hm => by
    rcases List.mem_append.mp hm with hm | hm
    · exact B.disj b h hm
    · rw [List.mem_singleton.mp hm] at h; exact h2 h
  live := B.live
  gens := B.gens
  os := B.os

theorem ws_assign_new {x : Str} {e : Expr} {p pos : Pos} {Q : Fl → Loc → Sto → Prop} (h : WEN cx sc d e loc sto fun vs sto₁ => Q .next ((x, .obj sto₁.length) :: loc) (sto₁ ++ [vs])) (hk : isVar sc x = true := by rfl)
    (hn : noComp e = true := by rfl) : WS cx sc d (.Assign [.Name x p] e pos) loc sto Q := by
  intro env A s ρ F hE hA B f
  refine wpAny_Assign_Name (wpAny_mono (h env A s ρ F hE hA B f) ?_ fun _ _ x => x) (swaps_false hn)
  rintro y s₁ ⟨vs, sto₁, ρ₁, F₁, a, items, rfl, st₁, hl, r, h1, h2, h3, h4, B₁, h₁⟩
  have f₁ := f.step B st₁
  have B₂ := track B₁ hl r h1 h2 h3
  have st₂ : Step (Own env) ρ F s (ρ₁ ++ [a]) F₁ s₁ := by
    refine ⟨?_, st₁.sub, fun b hb => ?_, st₁.newF, fun b o h1 h2 e => st₁.kept b o h1 (fun h => h) e, st₁.alive⟩
    · obtain ⟨t, rfl⟩ := st₁.pre; exact ⟨t ++ [a], by simp⟩
    · rcases List.mem_append.mp hb with hb | hb
      · exact st₁.newr b hb
      · rw [List.mem_singleton.mp hb]; exact .inr h4
  have f₂ : Frame cx env (ρ₁ ++ [a]) F₁ loc s₁ := by
    have mono : ∀ {v : V} {z : Value}, VRel F₁ ρ₁ s₁.heap v z → VRel F₁ (ρ₁ ++ [a]) s₁.heap v z := fun q => q.mono (fun _ x => x) (fun n c e => by
      rw [List.getElem?_append_left (List.getElem?_eq_some_iff.mp e).1]; exact e) fun _ _ _ e _ => e
    refine ⟨?_, fun x v q1 q2 => ?_, f₁.cells, f₁.apart, fun b hb => ?_, f₁.lc⟩
    · obtain ⟨m, hn, hm⟩ := f₁.ns
      exact ⟨m, hn, fun x v q1 q2 => let ⟨y, e, q⟩ := hm x v q1 q2; ⟨y, e, mono q⟩⟩
    · obtain ⟨c, y, e, hc, q⟩ := f₁.cell x v q1 q2
      exact ⟨c, y, e, hc, mono q⟩
    · obtain ⟨o1, o2, o3, o, ho⟩ := f₁.own b hb
      refine ⟨fun hm => ?_, o2, o3, o, ho⟩
      rcases List.mem_append.mp hm with hm | hm
      · exact o1 hm
      · obtain ⟨_, _, _, o', ho'⟩ := f.own b hb
        rw [List.mem_singleton.mp hm, h4] at ho'; cases ho'
  refine store_var hE B₂ f₂ (v := .obj sto₁.length) ?_ hk fun s₃ st₃ B₃ f₃ => ⟨.next, _, _, _, F₁, st₂.trans st₃, rfl, B₃, f₃, h₁⟩
  simp only [VRel]
  exact ⟨a, by rw [← B₁.len]; simp, rfl⟩

theorem PostN.new {vs : List V} {xs : List Value} {Q : List V → Sto → Prop} (B : Base cx ρ F sto s) (r : VRels F ρ s.heap vs xs) (q : Q vs sto) :
    PostN cx ρ F s Q (.ref s.heap.objs.size) { s with heap := s.heap.push { cls := .type "list", data := .seq xs.toArray } } := by
  have hk : ∀ b o, s.heap.get? b = some o → (s.heap.push { cls := .type "list", data := .seq xs.toArray }).get? b = some o := fun b o e => Heap.get?_push_of_some _ e
  have nolook : s.heap.get? s.heap.objs.size = none := by
    cases e : s.heap.get? s.heap.objs.size with
    | none => rfl
    | some o => exact absurd (Heap.lt_size e) (Nat.lt_irrefl _)
  refine ⟨vs, sto, ρ, F, s.heap.objs.size, xs.toArray, rfl, keepsStep (t := s.toks) hk, ⟨_, Heap.get?_push_size _ rfl⟩, by simpa using r.keeps hk, fun hm => ?_, fun hF => ?_, ?_, nolook, B.keeps (t := s.toks) hk, q⟩
  · obtain ⟨o, ho⟩ := B.lt hm; rw [nolook] at ho; cases ho
  · obtain ⟨o, ho⟩ := B.live _ hF; rw [nolook] at ho; cases ho
  · cases e : cx.base.get? s.heap.objs.size with
    | none => rfl
    | some o => have := B.stays _ o e; rw [nolook] at this; cases this

theorem PostV.newTup {vs : List V} {xs : List Value} {Q : V → Sto → Prop} (B : Base cx ρ F sto s) (r : VRels F ρ s.heap vs xs) (q : Q (.tup vs) sto) :
    PostV cx ρ F s Q (.ref s.heap.objs.size) { s with heap := s.heap.push { cls := .type "tuple", data := .seq xs.toArray } } := by
  have hk : ∀ b o, s.heap.get? b = some o → (s.heap.push { cls := .type "tuple", data := .seq xs.toArray }).get? b = some o := fun b o e => Heap.get?_push_of_some _ e
  have nolook : s.heap.get? s.heap.objs.size = none := by
    cases e : s.heap.get? s.heap.objs.size with
    | none => rfl
    | some o => exact absurd (Heap.lt_size e) (Nat.lt_irrefl _)
  have hnew : (s.heap.push { cls := .type "tuple", data := .seq xs.toArray }).IsTuple s.heap.objs.size xs.toArray := ⟨_, Heap.get?_push_size _ rfl, rfl, _, rfl⟩
  have B' := B.keeps (t := s.toks) hk
  have sub : ∀ b, F b → F b ∨ b = s.heap.objs.size := fun b h => .inl h
  have st' : Step NoWr ρ F s ρ F { s with heap := s.heap.push { cls := .type "tuple", data := .seq xs.toArray } } := keepsStep (t := s.toks) hk
  refine ⟨.tup vs, sto, ρ, fun b => F b ∨ b = s.heap.objs.size, ⟨st'.pre, sub, st'.newr, fun b h => ?_, st'.kept, st'.alive⟩, ?_, ?_, q⟩
  · rcases h with h | rfl
    · exact .inl h
    · exact .inr nolook
  · simp only [VRel]
    exact ⟨_, xs.toArray, rfl, .inr rfl, hnew, by simpa using (r.keeps hk).mono sub (fun _ _ x => x) fun _ _ _ e _ => e⟩
  · refine ⟨B'.stays, B'.rnew, B'.nodup, B'.len, fun i b us e1 e2 => ?_, fun b h => ?_, fun b h => ?_, B'.gens, B'.os⟩
    · obtain ⟨its, hi, hr'⟩ := B'.objs i b us e1 e2
      exact ⟨its, hi, hr'.mono sub (fun _ _ x => x) fun _ _ _ e _ => e⟩
    · rcases h with h | rfl
      · exact B.disj b h
      · exact fun hm => by obtain ⟨o, ho⟩ := B.lt hm; rw [nolook] at ho; cases ho
    · rcases h with h | rfl
      · exact B'.live b h
      · obtain ⟨o, ho, _⟩ := hnew; exact ⟨o, ho⟩
end

section
variable {cx : Cx} {sc : Scope} {d : Nat} {loc : Loc} {sto : Sto}
theorem wen_list {es : List Expr} {pos : Pos} {Q : List V → Sto → Prop} (h : WEs cx sc d es loc sto fun vs sto₁ => vs.length ≤ sizeLine ∧ Q vs sto₁) : WEN cx sc d (.List es pos) loc sto Q := by
  intro env A s ρ F hE hA B f
  refine List_ (wpAny_mono (h env A s ρ F pos hE hA B f) ?_ fun _ _ x => x)
  rintro xs s₁ ⟨vs, sto₁, ρ₁, F₁, st₁, r₁, B₁, hl, h₁⟩
  exact wpAny_newList (PostN.after st₁ (.new B₁ r₁ h₁)) (by rw [r₁.length]; exact hl)
theorem we_tuple {es : List Expr} {k : Nat} {pos : Pos} {Q : V → Sto → Prop} (h : WEs cx sc d es loc sto fun vs sto₁ => vs.length ≤ sizeLine ∧ Q (.tup vs) sto₁) : WE cx sc d (.Tuple es k pos) loc sto Q := by
  intro env A s ρ F hE hA B f
  refine Tuple_ (wpAny_mono (h env A s ρ F pos hE hA B f) ?_ fun _ _ x => x)
  rintro xs s₁ ⟨vs, sto₁, ρ₁, F₁, st₁, r₁, B₁, hl, h₁⟩
  exact wpAny_newTuple (PostV.after st₁ (.newTup B₁ r₁ h₁)) (by rw [r₁.length]; exact hl)

/-! items -/
def GetV (cx : Cx) (d : Nat) (a b : V) (sto : Sto) (Q : V → Sto → Prop) : Prop :=
  ∀ A s ρ F x y, AOK cx d A s.heap → Base cx ρ F sto s → VRel F ρ s.heap a x → VRel F ρ s.heap b y →
    (∃ T id, s.TypeIs x T ∧ typeLookup (.type T) "__getitem__" = pure (some (.builtin id))) ∧ wpAny (model cx.prog cx.w) A (getItem x y) (PostV cx ρ F s Q) (fun _ _ => False) s
def noSlice : Expr → Bool
  | .Slice .. => false
  | _ => true
theorem we_sub {value index : Expr} {pos : Pos} {Q : V → Sto → Prop} (h : WE cx sc d value loc sto fun a sto₁ => WE cx sc d index loc sto₁ fun b sto₂ => GetV cx d a b sto₂ Q) (hs : noSlice index = true := by rfl) :
    WE cx sc d (.Subscript value index pos) loc sto Q := by
  intro env A s ρ F hE hA B f
  refine Subscript_ (wpAny_mono (h env A s ρ F hE hA B f) ?_ fun _ _ x => x)
  rintro x s₁ ⟨a, sto₁, ρ₁, F₁, st₁, r₁, B₁, h₁⟩
  refine wpAny_mono (h₁ env A s₁ ρ₁ F₁ hE (hA.step st₁) B₁ (f.step B st₁)) ?_ fun _ _ x => x
  rintro y s₂ ⟨b, sto₂, ρ₂, F₂, st₂, r₂, B₂, h₂⟩
  obtain ⟨⟨T, id, hT, hl⟩, hg⟩ := h₂ A s₂ ρ₂ F₂ x y ((hA.step st₁).step st₂) B₂ (st₂.vrel B₁ noWrF r₁) r₂
  exact tail_any hT hl (wpAny_mono hg (fun _ _ p => p.after (st₁.trans st₂)) fun _ _ x => x) (by cases index <;> first | rfl | cases hs)

theorem getItem_list_any {l : Addr} {items : Array Value} {k : Int} {t : Tok} {x : Value} {j : Nat} {A : Around} {s : Shared} {E : Value → Shared → Prop} {Q : Value → Shared → Prop} (hl : s.heap.IsList l items)
    (hlo : -(2 ^ 63) ≤ k) (hhi : k < 2 ^ 63) (hj : seqIndex? k items.size = some j) (hx : items[j]? = some x) (h : Q x s) : wpAny (model cx.prog cx.w) A (getItem (.ref l) (.int k t)) Q E s := by
  by_cases h0 : 0 ≤ k
  · have : j = k.toNat := by
      unfold seqIndex? at hj
      simp only [Int.not_lt.mpr h0, if_false] at hj
      split at hj
      · cases hj; rfl
      · cases hj
    subst this
    exact wpAny_getItem_list hl h0 hhi hx h
  · have h0 : k < 0 := by omega
    have hr : -(items.size : Int) ≤ k ∧ j = (k + items.size).toNat := by
      unfold seqIndex? at hj
      simp only [h0, if_true] at hj
      split at hj
      · rename_i hc
        simp only [Bool.and_eq_true, decide_eq_true_eq] at hc
        cases hj
        exact ⟨by omega, rfl⟩
      · cases hj
    obtain ⟨h1, rfl⟩ := hr
    exact wpAny_getItem_list_neg hl h0 h1 hlo hx h

/-- Python's place of an index -/
theorem get_lst {vs : List V} {k : Int} {j : Nat} {v : V} {Q : V → Sto → Prop} (hb : -(2 ^ 63) ≤ k ∧ k < 2 ^ 63) (hj : seqIndex? k vs.length = some j) (hv : vs[j]? = some v) (q : Q v sto) : GetV cx d (.lst vs) (.int k) sto Q := by
  intro A s ρ F x y hA B r₁ r₂
  simp only [VRel] at r₁ r₂
  obtain ⟨a, items, rfl, ha, hl, r⟩ := r₁
  obtain ⟨t, rfl⟩ := r₂
  refine ⟨⟨"list", _, hl.typeIs, list_getitem_lookup⟩, ?_⟩
  obtain ⟨x, hx, rx⟩ := r.get hv
  have hlen : items.size = vs.length := by rw [← r.length]; simp
  exact getItem_list_any hl hb.1 hb.2 (by rw [hlen]; exact hj) (by simpa using hx) (.imm0 B rx q)
theorem get_obj {n : Nat} {vs : List V} {k : Int} {j : Nat} {v : V} {Q : V → Sto → Prop} (hn : sto[n]? = some vs) (hb : -(2 ^ 63) ≤ k ∧ k < 2 ^ 63) (hj : seqIndex? k vs.length = some j) (hv : vs[j]? = some v) (q : Q v sto) : GetV cx d (.obj n) (.int k) sto Q := by
  intro A s ρ F x y hA B r₁ r₂
  simp only [VRel] at r₁ r₂
  obtain ⟨a, ha, rfl⟩ := r₁
  obtain ⟨t, rfl⟩ := r₂
  obtain ⟨items, hl0, r⟩ := B.objs n a vs ha hn
  have hl := hl0.isList
  refine ⟨⟨"list", _, hl.typeIs, list_getitem_lookup⟩, ?_⟩
  obtain ⟨x, hx, rx⟩ := r.get hv
  have hlen : items.size = vs.length := by rw [← r.length]; simp
  exact getItem_list_any hl hb.1 hb.2 (by rw [hlen]; exact hj) (by simpa using hx) (.imm0 B rx q)
theorem get_tup {vs : List V} {k : Int} {j : Nat} {v : V} {Q : V → Sto → Prop} (hb : -(2 ^ 63) ≤ k ∧ k < 2 ^ 63) (hj : seqIndex? k vs.length = some j) (hv : vs[j]? = some v) (q : Q v sto) : GetV cx d (.tup vs) (.int k) sto Q := by
  intro A s ρ F x y hA B r₁ r₂
  simp only [VRel] at r₁ r₂
  obtain ⟨a, items, rfl, ha, hl, r⟩ := r₁
  obtain ⟨t, rfl⟩ := r₂
  have hl' : IsTup s.heap a items := hl
  refine ⟨⟨"tuple", _, hl'.typeIs, slot_tuple_getitem.lookup⟩, ?_⟩
  obtain ⟨x, hx, rx⟩ := r.get hv
  have hlen : items.size = vs.length := by rw [← r.length]; simp
  exact PyProof.Rows.getItem_tuple hl' hb.1 hb.2 (by rw [hlen]; exact hj) (by simpa using hx) (.imm0 B rx q)

theorem idx_nn {k : Int} {n : Nat} (h0 : 0 ≤ k) (h : k < n) : seqIndex? k n = some k.toNat := seqIndex_of h0 h
end
end Mine

namespace Mine

section
variable {cx : Cx} {sc : Scope} {d : Nat} {loc : Loc} {sto : Sto} {ρ : List Addr} {F : Addr → Prop} {s : Shared}

theorem noneAt (s : Shared) : s.heap.get? s.heap.objs.size = none := by
  cases e : s.heap.get? s.heap.objs.size with
  | none => rfl
  | some o => exact absurd (Heap.lt_size e) (Nat.lt_irrefl _)

/-- a new object that nobody writes -/
theorem PostV.newFr {o : Obj} {v : V} {t : Nat} {Q : V → Sto → Prop} (B : Base cx ρ F sto s) (hfree : o.isFreed = false) (hv : VRel (fun b => F b ∨ b = s.heap.objs.size) ρ (s.heap.push o) v (.ref s.heap.objs.size)) (q : Q v sto) :
    PostV cx ρ F s Q (.ref s.heap.objs.size) { s with heap := s.heap.push o, toks := t } := by
  have hk : ∀ b o', s.heap.get? b = some o' → (s.heap.push o).get? b = some o' := fun b o' e => Heap.get?_push_of_some _ e
  have nolook := noneAt s
  have B' := B.keeps (t := t) hk
  have sub : ∀ b, F b → F b ∨ b = s.heap.objs.size := fun b h => .inl h
  have st' : Step NoWr ρ F s ρ F { s with heap := s.heap.push o, toks := t } := keepsStep hk
  refine ⟨v, sto, ρ, fun b => F b ∨ b = s.heap.objs.size, ⟨st'.pre, sub, st'.newr, fun b h => ?_, st'.kept, st'.alive⟩, hv, ?_, q⟩
  · rcases h with h | rfl
    · exact .inl h
    · exact .inr nolook
  · refine ⟨B'.stays, B'.rnew, B'.nodup, B'.len, fun i b us e1 e2 => ?_, fun b h => ?_, fun b h => ?_, B'.gens, B'.os⟩
    · obtain ⟨its, hi, hr'⟩ := B'.objs i b us e1 e2
      exact ⟨its, hi, hr'.mono sub (fun _ _ x => x) fun _ _ _ e _ => e⟩
    · rcases h with h | rfl
      · exact B.disj b h
      · exact fun hm => by obtain ⟨o, ho⟩ := B.lt hm; rw [nolook] at ho; cases ho
    · rcases h with h | rfl
      · exact B'.live b h
      · exact ⟨o, Heap.get?_push_size _ hfree⟩

/-! going through -/
theorem it_list {a : Addr} {items : Array Value} {vs : List V} {x : Value} {A : Around} (hA : A.handled = none) (B : Base cx ρ F sto s) (hx : x = .ref a) (hF : F a) (hl : s.heap.IsList a items) (r : VRels F ρ s.heap vs items.toList) :
    wpAny (model cx.prog cx.w) A (pyIter x) (fun it s₀ => ∃ I fp wr P St h₀ tk, it = .ref I ∧ s₀ = { s with heap := h₀, toks := tk } ∧ (∀ b o, s.heap.get? b = some o → h₀.get? b = some o) ∧
      IterOK cx A s ρ F I fp wr vs P St ∧ St 0 h₀) (fun _ _ => False) s := by
  subst hx
  refine wpAny_pyIter_list hl ?_
  have hne : a ≠ s.heap.objs.size := fun e => by obtain ⟨o, ho⟩ := B.live a hF; rw [e, noneAt s] at ho; cases ho
  have hlen : items.size = vs.length := by rw [← r.length]; simp
  refine ⟨s.heap.objs.size, [s.heap.objs.size, a], [s.heap.objs.size], fun i v => items[i]? = some v, fun i h => h.IsListIter s.heap.objs.size a i ∧ h.IsList a items, _, s.toks, rfl, rfl, fun b o e => Heap.get?_push_of_some _ e, ?_, ?_⟩
  · refine ⟨hlen ▸ Walks.list hA _ _ hne items, fun b hb => ?_, fun b hb => ?_, fun i h st b hb o e => ?_, fun i h st b hb => ?_, fun i y hi hy => ?_⟩
    · rw [List.mem_singleton.mp hb]; exact noneAt s
    · rcases List.mem_cons.mp hb with rfl | hb
      · exact .inl (by simp)
      · rw [List.mem_singleton.mp hb]; exact .inr hF
    · intro es n q
      rcases List.mem_cons.mp hb with rfl | hb
      · obtain ⟨o', ho', _, hd⟩ := st.1
        rw [e] at ho'; cases ho'; rw [hd] at q; cases q
      · rw [List.mem_singleton.mp hb] at e
        obtain ⟨o', ho', _, n', hd⟩ := st.2
        rw [e] at ho'; cases ho'; rw [hd] at q; cases q
    · rw [List.mem_singleton.mp hb]
      obtain ⟨o', ho', _, hd⟩ := st.1
      exact ⟨o', _, ho', hd⟩
    · obtain ⟨x, hx, rx⟩ := r.get (List.getElem?_eq_getElem hi)
      rw [Array.getElem?_toList, hy] at hx; cases hx
      exact ⟨_, List.getElem?_eq_getElem hi, rx⟩
  · exact ⟨⟨_, Heap.get?_push_size _ rfl, rfl, rfl⟩, hl.push _⟩
theorem it_lst {vs : List V} : ItV cx (.lst vs) sto vs := by
  intro A s ρ F x hA B r
  simp only [VRel] at r
  obtain ⟨a, items, hx, hF, hl, r⟩ := r
  exact it_list hA B hx hF hl r
theorem it_tup {vs : List V} : ItV cx (.tup vs) sto vs := by
  intro A s ρ F x hA B r
  simp only [VRel] at r
  obtain ⟨a, items, rfl, hF, hl, r⟩ := r
  refine wpAny_pyIter_tuple hl ?_
  have hne : a ≠ s.heap.objs.size := fun e => by obtain ⟨o, ho⟩ := B.live a hF; rw [e, noneAt s] at ho; cases ho
  have hlen : items.size = vs.length := by rw [← r.length]; simp
  refine ⟨s.heap.objs.size, [s.heap.objs.size, a], [s.heap.objs.size], fun i v => items[i]? = some v, fun i h => h.IsTupleIter s.heap.objs.size a i ∧ h.IsTuple a items, _, s.toks, rfl, rfl, fun b o e => Heap.get?_push_of_some _ e, ?_, ?_⟩
  · refine ⟨hlen ▸ Walks.tuple hA _ _ hne items, fun b hb => ?_, fun b hb => ?_, fun i h st b hb o e => ?_, fun i h st b hb => ?_, fun i y hi hy => ?_⟩
    · rw [List.mem_singleton.mp hb]; exact noneAt s
    · rcases List.mem_cons.mp hb with rfl | hb
      · exact .inl (by simp)
      · rw [List.mem_singleton.mp hb]; exact .inr hF
    · intro es n q
      rcases List.mem_cons.mp hb with rfl | hb
      · obtain ⟨o', ho', _, hd⟩ := st.1
        rw [e] at ho'; cases ho'; rw [hd] at q; cases q
      · rw [List.mem_singleton.mp hb] at e
        obtain ⟨o', ho', _, n', hd⟩ := st.2
        rw [e] at ho'; cases ho'; rw [hd] at q; cases q
    · rw [List.mem_singleton.mp hb]
      obtain ⟨o', ho', _, hd⟩ := st.1
      exact ⟨o', _, ho', hd⟩
    · obtain ⟨x, hx, rx⟩ := r.get (List.getElem?_eq_getElem hi)
      rw [Array.getElem?_toList, hy] at hx; cases hx
      exact ⟨_, List.getElem?_eq_getElem hi, rx⟩
  · exact ⟨⟨_, Heap.get?_push_size _ rfl, rfl, rfl⟩, hl.push _⟩

/-- a range's numbers -/
def rngV (a b c : Int) : List V := (List.range (Builtin.Range.rangeSize a b c).toNat).map fun (i : Nat) => V.int (a + (i : Int) * c)
theorem it_rng {a b c : Int} (hs : Builtin.Range.small a b c = true) (h0 : 0 ≤ Builtin.Range.rangeSize a b c) : ItV cx (.rng a b c) sto (rngV a b c) := by
  intro A s ρ F x hA B r
  simp only [VRel] at r
  obtain ⟨rr, t, u, v, rfl, hF, hr⟩ := r
  refine wpAny_pyIter_range hr hs ?_
  have hlen : (rngV a b c).length = (Builtin.Range.rangeSize a b c).toNat := by simp [rngV]
  refine ⟨s.heap.objs.size, [s.heap.objs.size], [s.heap.objs.size], _, _, _, s.toks, rfl, rfl, fun b o e => Heap.get?_push_of_some _ e, ⟨hlen ▸ Walks.range hA _ a c (Builtin.Range.rangeSize a b c).toNat, fun b hb => ?_, fun b hb => .inl hb, fun i h st b hb o e => ?_, fun i h st b hb => ?_, fun i y hi hy => ?_⟩, ?_⟩
  · rw [List.mem_singleton.mp hb]; exact noneAt s
  · intro es n q
    rw [List.mem_singleton.mp hb] at e
    have st' : h.get? s.heap.objs.size = some _ := st
    rw [e] at st'; cases st'; cases q
  · rw [List.mem_singleton.mp hb]
    exact ⟨_, _, st, rfl⟩
  · obtain ⟨t, rfl⟩ := hy
    rw [hlen] at hi
    refine ⟨.int (a + (i : Int) * c), ?_, by simp [VRel]⟩
    simp [rngV, hi]
  · have e1 : (a + ((0 : Nat) : Int) * c) = a := by simp
    have e2 : (((rngV a b c).length : Int) - ((0 : Nat) : Int)) = Builtin.Range.rangeSize a b c := by rw [hlen]; omega
    show IsRangeIter _ _ _ _ _
    rw [e1, e2]
    exact Heap.get?_push_size _ rfl
end
end Mine

namespace Mine

/-- v is a list that holds vs -/
inductive LV (sto : Sto) : V → List V → Prop where
  | lst (vs : List V) : LV sto (.lst vs) vs
  | obj {n : Nat} {vs : List V} : sto[n]? = some vs → LV sto (.obj n) vs

section
variable {cx : Cx} {sc : Scope} {d : Nat} {loc : Loc} {sto : Sto} {ρ : List Addr} {F : Addr → Prop} {s : Shared}

theorem LV.is {v : V} {vs : List V} {x : Value} (l : LV sto v vs) (B : Base cx ρ F sto s) (r : VRel F ρ s.heap v x) : ∃ a items, x = .ref a ∧ s.heap.IsList a items ∧ VRels F ρ s.heap vs items.toList := by
  cases l with
  | lst => simp only [VRel] at r; obtain ⟨a, items, h1, _, h2, h3⟩ := r; exact ⟨a, items, h1, h2, h3⟩
  | obj hn => simp only [VRel] at r; obtain ⟨a, h1, rfl⟩ := r; obtain ⟨items, h2, h3⟩ := B.objs _ a vs h1 hn; exact ⟨a, items, rfl, h2.isList, h3⟩

def Op2N (cx : Cx) (d : Nat) (t : Value → Value → Sem Value) (a b : V) (sto : Sto) (Q : List V → Sto → Prop) : Prop :=
  ∀ A s ρ F x y, AOK cx d A s.heap → Base cx ρ F sto s → VRel F ρ s.heap a x → VRel F ρ s.heap b y →
    wpAny (model cx.prog cx.w) A (t x y) (PostN cx ρ F s Q) (fun _ _ => False) s
def CallN (cx : Cx) (d : Nat) (f : Value) (args : List V) (sto : Sto) (Q : List V → Sto → Prop) : Prop :=
  ∀ A s ρ F xs, AOK cx d A s.heap → Base cx ρ F sto s → VRels F ρ s.heap args xs →
    wpAny (model cx.prog cx.w) A (call f xs) (PostN cx ρ F s Q) (fun _ _ => False) s

theorem wen_bin {l r : Expr} {op : Operator} {pos : Pos} {Q : List V → Sto → Prop}
    (h : WE cx sc d l loc sto fun a sto₁ => WE cx sc d r loc sto₁ fun b sto₂ => Op2N cx d (binaryOp op) a b sto₂ Q) : WEN cx sc d (.BinOp l op r pos) loc sto Q := by
  intro env A s ρ F hE hA B f
  refine wpAny_BinOp (wpAny_mono (h env A s ρ F hE hA B f) ?_ fun _ _ x => x)
  rintro x s₁ ⟨a, sto₁, ρ₁, F₁, st₁, r₁, B₁, h₁⟩
  refine wpAny_mono (h₁ env A s₁ ρ₁ F₁ hE (hA.step st₁) B₁ (f.step B st₁)) ?_ fun _ _ x => x
  rintro y s₂ ⟨b, sto₂, ρ₂, F₂, st₂, r₂, B₂, h₂⟩
  exact wpAny_mono (h₂ A s₂ ρ₂ F₂ x y ((hA.step st₁).step st₂) B₂ (st₂.vrel B₁ noWrF r₁) r₂) (fun _ _ p => PostN.after (st₁.trans st₂) p) fun _ _ x => x
theorem wen_tcall {x : Str} {T : String} {p pos : Pos} {e : Expr} {es : List Expr} {Q : List V → Sto → Prop} (hb : BI cx x (.type T)) (h : WEs cx sc d (e :: es) loc sto fun vs sto₁ => CallN cx d (.type T) vs sto₁ Q)
    (hg : isGlob sc x = true := by rfl) (hd : (x == ("__debug__" : Str)) = false := by decide) (hs : noStars (e :: es) = true := by rfl) : WEN cx sc d (.Call (.Name x p) (e :: es) [] pos) loc sto Q := by
  intro env A s ρ F hE hA B fr
  refine wpAny_Call_NameR (load_bi hb hE B hg hd ?_)
  have hs' := hs
  simp only [noStars, Bool.and_eq_true] at hs'
  refine PyProof.Rows.callWith_type1 (wpAny_mono (h env A s ρ F pos hE hA B fr) ?_ fun _ _ x => x) (starEach_cons hs'.1) (plain_trees hs'.2)
  rintro xs s₁ ⟨vs, sto₁, ρ₁, F₁, st₁, r₁, B₁, h₁⟩
  exact wpAny_mono (h₁ A s₁ ρ₁ F₁ xs (hA.step st₁) B₁ r₁) (fun _ _ p => PostN.after st₁ p) fun _ _ x => x
theorem wen_bcall {x : Str} {id : String} {p pos : Pos} {e : Expr} {es : List Expr} {Q : List V → Sto → Prop} (hb : BI cx x (.builtin id)) (h : WEs cx sc d (e :: es) loc sto fun vs sto₁ => CallN cx d (.builtin id) vs sto₁ Q)
    (hg : isGlob sc x = true := by rfl) (hd : (x == ("__debug__" : Str)) = false := by decide) (hs : noStars (e :: es) = true := by rfl) : WEN cx sc d (.Call (.Name x p) (e :: es) [] pos) loc sto Q := by
  intro env A s ρ F hE hA B fr
  refine wpAny_Call_NameR (load_bi hb hE B hg hd ?_)
  have hs' := hs
  simp only [noStars, Bool.and_eq_true] at hs'
  refine PyProof.Rows.callWith_builtin1 (wpAny_mono (h env A s ρ F pos hE hA B fr) ?_ fun _ _ x => x) (starEach_cons hs'.1) (plain_trees hs'.2)
  rintro xs s₁ ⟨vs, sto₁, ρ₁, F₁, st₁, r₁, B₁, h₁⟩
  exact wpAny_mono (h₁ A s₁ ρ₁ F₁ xs (hA.step st₁) B₁ r₁) (fun _ _ p => PostN.after st₁ p) fun _ _ x => x

theorem VRels.one {v : V} {xs : List Value} {h : Heap} (r : VRels F ρ h [v] xs) : ∃ x, xs = [x] ∧ VRel F ρ h v x := by
  simp only [VRels] at r
  obtain ⟨x, ys, rfl, r1, rfl⟩ := r
  exact ⟨x, rfl, r1⟩
theorem VRels.two {v w : V} {xs : List Value} {h : Heap} (r : VRels F ρ h [v, w] xs) : ∃ x y, xs = [x, y] ∧ VRel F ρ h v x ∧ VRel F ρ h w y := by
  simp only [VRels] at r
  obtain ⟨x, ys, rfl, r1, y, zs, rfl, r2, rfl⟩ := r
  exact ⟨x, y, rfl, r1, r2⟩
theorem VRels.three {v w u : V} {xs : List Value} {h : Heap} (r : VRels F ρ h [v, w, u] xs) : ∃ x y z, xs = [x, y, z] ∧ VRel F ρ h v x ∧ VRel F ρ h w y ∧ VRel F ρ h u z := by
  simp only [VRels] at r
  obtain ⟨x, ys, rfl, r1, y, zs, rfl, r2, z, us, rfl, r3, rfl⟩ := r
  exact ⟨x, y, z, rfl, r1, r2, r3⟩

/-! range -/
theorem call_range1 {n : Int} {Q : V → Sto → Prop} (q : Q (.rng 0 n 1) sto) : CallV cx d (.type "range") [.int n] sto Q := by
  intro A s ρ F xs hA B r
  obtain ⟨x, rfl, r1⟩ := r.one
  simp only [VRel] at r1
  obtain ⟨t, rfl⟩ := r1
  exact call_range_1 (.newFr B rfl (by simp only [VRel]; exact ⟨_, _, _, _, rfl, .inr rfl, Heap.get?_push_size _ rfl⟩) q)
theorem call_range2 {a b : Int} {Q : V → Sto → Prop} (q : Q (.rng a b 1) sto) : CallV cx d (.type "range") [.int a, .int b] sto Q := by
  intro A s ρ F xs hA B r
  obtain ⟨x, y, rfl, r1, r2⟩ := r.two
  simp only [VRel] at r1 r2
  obtain ⟨t, rfl⟩ := r1
  obtain ⟨u, rfl⟩ := r2
  exact call_range_2 (.newFr B rfl (by simp only [VRel]; exact ⟨_, _, _, _, rfl, .inr rfl, Heap.get?_push_size _ rfl⟩) q)
theorem call_range3 {a b c : Int} {Q : V → Sto → Prop} (q : c ≠ 0 ∧ Builtin.divisionGoesByPylong (b - a) c = false ∧ Q (.rng a b c) sto) : CallV cx d (.type "range") [.int a, .int b, .int c] sto Q := by
  intro A s ρ F xs hA B r
  obtain ⟨x, y, z, rfl, r1, r2, r3⟩ := r.three
  simp only [VRel] at r1 r2 r3
  obtain ⟨t, rfl⟩ := r1
  obtain ⟨u, rfl⟩ := r2
  obtain ⟨v, rfl⟩ := r3
  exact call_range_3 q.1 (.newFr B rfl (by simp only [VRel]; exact ⟨_, _, _, _, rfl, .inr rfl, Heap.get?_push_size _ rfl⟩) q.2.2) (.inl q.2.1)

/-! len, abs, type, sum -/
theorem call_len {v : V} {vs : List V} {Q : V → Sto → Prop} (l : LV sto v vs) (q : (vs.length : Int) < 2 ^ 63 ∧ Q (.int vs.length) sto) : CallV cx d (.builtin "len") [v] sto Q := by
  intro A s ρ F xs hA B r
  obtain ⟨x, rfl, r1⟩ := r.one
  obtain ⟨a, items, rfl, hl, r2⟩ := l.is B r1
  have hlen : items.size = vs.length := by rw [← r2.length]; simp
  exact len_list hl (by rw [hlen]; exact q.1) (by rw [hlen]; exact .imm B (by simp [VRel]) q.2 _)
theorem call_lent {vs : List V} {Q : V → Sto → Prop} (q : (vs.length : Int) < 2 ^ 63 ∧ Q (.int vs.length) sto) : CallV cx d (.builtin "len") [.tup vs] sto Q := by
  intro A s ρ F xs hA B r
  obtain ⟨x, rfl, r1⟩ := r.one
  simp only [VRel] at r1
  obtain ⟨a, items, rfl, hF, hl, r2⟩ := r1
  have hlen : items.size = vs.length := by rw [← r2.length]; simp
  exact len_tuple hl (by rw [hlen]; exact q.1) (by rw [hlen]; exact .imm B (by simp [VRel]) q.2 _)
theorem call_abs {a : Int} {Q : V → Sto → Prop} (q : Q (.int (a.natAbs : Int)) sto) : CallV cx d (.builtin "abs") [.int a] sto Q := by
  intro A s ρ F xs hA B r
  obtain ⟨x, rfl, r1⟩ := r.one
  simp only [VRel] at r1
  obtain ⟨t, rfl⟩ := r1
  refine call_abs_int fun u tk => ?_
  rw [ite_abs']
  exact .imm B (by simp [VRel]) q _

def typeName : V → Option String
  | .int _ => some "int"
  | .bool _ => some "bool"
  | .str _ => some "str"
  | .none => some "NoneType"
  | .lst _ => some "list"
  | .obj _ => some "list"
  | .tup _ => some "tuple"
  | .rng _ _ _ => some "range"
  | _ => none
theorem call_type {v : V} {T : String} {Q : V → Sto → Prop} (hT : typeName v = some T) (q : Q (.raw (.type T)) sto) : CallV cx d (.type "type") [v] sto Q := by
  intro A s ρ F xs hA B r
  obtain ⟨x, rfl, r1⟩ := r.one
  have key : s.TypeIs x T ∧ (Value.type T == Value.type "builtin_function_or_method") = false := by
    cases v with
    | int i => cases hT; simp only [VRel] at r1; obtain ⟨t, rfl⟩ := r1; exact ⟨rfl, by decide⟩
    | bool b => cases hT; simp only [VRel] at r1; subst r1; exact ⟨rfl, by decide⟩
    | str u => cases hT; simp only [VRel] at r1; obtain ⟨t, rfl⟩ := r1; exact ⟨rfl, by decide⟩
    | none => cases hT; simp only [VRel] at r1; subst r1; exact ⟨rfl, by decide⟩
    | lst vs => cases hT; simp only [VRel] at r1; obtain ⟨a, items, rfl, _, hl, _⟩ := r1; exact ⟨hl.typeIs, by decide⟩
    | obj n =>
      cases hT
      simp only [VRel] at r1
      obtain ⟨a, h1, rfl⟩ := r1
      have hn : n < sto.length := by rw [← B.len]; exact (List.getElem?_eq_some_iff.mp h1).1
      obtain ⟨items, hl0, _⟩ := B.objs n a _ h1 (List.getElem?_eq_getElem hn)
      have hl := hl0.isList
      exact ⟨hl.typeIs, by decide⟩
    | tup vs => cases hT; simp only [VRel] at r1; obtain ⟨a, items, rfl, _, hl, _⟩ := r1; exact ⟨IsTup.typeIs hl, by decide⟩
    | rng a b c => cases hT; simp only [VRel] at r1; obtain ⟨r, t, u, v, rfl, _, h⟩ := r1; exact ⟨⟨_, h, rfl⟩, by decide⟩
    | raw v => cases hT
    | thing T => cases hT
  exact call_type_of key.1 key.2 (.imm0 B (by simp [VRel]) q)

theorem is_raw {a b : Value} {Q : V → Sto → Prop} (hp : plainIs a b = true) (q : Q (.bool (a == b)) sto) : Op2 cx d (compareOp .Is) (.raw a) (.raw b) sto Q := by
  intro A s ρ F x y hA B r₁ r₂
  simp only [VRel] at r₁ r₂
  subst r₁ r₂
  exact wpAny_is_plain hp (.imm0 B (by simp [VRel]) q)
theorem isnot_raw {a b : Value} {Q : V → Sto → Prop} (hp : plainIs a b = true) (q : Q (.bool (!(a == b))) sto) : Op2 cx d (compareOp .IsNot) (.raw a) (.raw b) sto Q := by
  intro A s ρ F x y hA B r₁ r₂
  simp only [VRel] at r₁ r₂
  subst r₁ r₂
  exact wpAny_isNot_plain hp (.imm0 B (by simp [VRel]) q)

theorem preSum_sum : ∀ (ns : List Int) (k : Nat), k ≤ ns.length → preSum (fun i => ns[i]?.getD 0) k = (ns.take k).sum
  | ns, 0, _ => by simp [preSum]
  | ns, k + 1, h => by
    have hk : k < ns.length := by omega
    rw [preSum, preSum_sum ns k (by omega), List.take_succ_eq_append_getElem hk, List.sum_append]
    simp [hk]
theorem call_sum {v : V} {ns : List Int} {Q : V → Sto → Prop} (l : LV sto v (ns.map V.int)) (q : Q (.int ns.sum) sto) : CallV cx d (.builtin "sum") [v] sto Q := by
  intro A s ρ F xs hA B r
  obtain ⟨x, rfl, r1⟩ := r.one
  obtain ⟨a, items, rfl, hl, r2⟩ := l.is B r1
  refine call_sum_walkG (wpAny_pyIter_list hl ?_)
  have hlen : items.size = ns.length := by have := r2.length; simpa using this
  have hne : a ≠ s.heap.objs.size := fun e => by obtain ⟨o, ho, _⟩ := hl; rw [e, noneAt s] at ho; cases ho
  refine ⟨s.heap.objs.size, [s.heap.objs.size, a], [s.heap.objs.size], items.size, fun i v => items[i]? = some v, fun i h => h.IsListIter s.heap.objs.size a i ∧ h.IsList a items, fun i => ns[i]?.getD 0, rfl,
    Walks.list (A := A.in1) hA.handled _ _ hne items, ⟨⟨_, Heap.get?_push_size _ rfl, rfl, rfl⟩, hl.push _⟩, fun b hb => ?_, fun i v hv => ?_, fun h' tk t' hk => ?_⟩
  · rcases List.mem_cons.mp hb with rfl | hb
    · simp [Heap.size_push]
    · rw [List.mem_singleton.mp hb]
      obtain ⟨o, ho, _⟩ := hl
      have := Heap.lt_size ho
      rw [Heap.size_push]
      exact Nat.lt_succ_of_lt this
  · have hi : i < ns.length := by
      have := (Array.getElem?_eq_some_iff.mp hv).1
      omega
    have hg : (ns.map V.int)[i]? = some (V.int ns[i]) := by simp [hi]
    obtain ⟨x, hx, rx⟩ := r2.get hg
    rw [Array.getElem?_toList, hv] at hx; cases hx
    simp only [VRel] at rx
    obtain ⟨t, rfl⟩ := rx
    exact ⟨t, by simp [hi]⟩
  · rw [hlen, preSum_sum ns ns.length (Nat.le_refl _), List.take_length]
    have hk' : ∀ b o, s.heap.get? b = some o → h'.get? b = some o := fun b o e => by
      refine hk b o (fun hm => ?_) (Heap.get?_push_of_some _ e)
      rw [List.mem_singleton.mp hm, noneAt s] at e; cases e
    exact ⟨.int ns.sum, sto, ρ, F, keepsStep hk', by simp [VRel], B.keeps hk', q⟩

/-! lists put together -/
theorem add_ll {v w : V} {vs ws : List V} {Q : List V → Sto → Prop} (l : LV sto v vs) (m : LV sto w ws) (q : vs.length + ws.length ≤ sizeLine ∧ Q (vs ++ ws) sto) : Op2N cx d (binaryOp .Add) v w sto Q := by
  intro A s ρ F x y hA B r₁ r₂
  obtain ⟨a, items, rfl, hl, r3⟩ := l.is B r₁
  obtain ⟨b, items2, rfl, hl2, r4⟩ := m.is B r₂
  obtain ⟨⟨cls, dd, data, sl⟩, ho, hc, n, hd⟩ := id hl
  obtain ⟨⟨cls2, dd2, data2, sl2⟩, ho2, hc2, n2, hd2⟩ := id hl2
  simp only at hc hd hc2 hd2
  subst hc hd hc2 hd2
  have hlen : items.size = vs.length := by rw [← r3.length]; simp
  have hlen2 : items2.size = ws.length := by rw [← r4.length]; simp
  refine concat_meets ⟨_, ho, rfl⟩ ⟨_, ho2, rfl⟩ noFill_list_add seq_list_add PySem.F.slot_list_add PySem.F.entry_list_add (PySem.F.args_list_add_2 _ _) (list_addW a b items items2 n n2 dd dd2 sl sl2 (by omega)) ⟨ho, ho2, ?_⟩
  have e : items ++ items2 = (items.toList ++ items2.toList).toArray := by simp
  rw [e]
  exact PostN.new B (r3.append r4) q.2

/-! slices -/
def pickV (vs : List V) (lo hi st : Option Int) : List V :=
  (sliceRange (sliceBounds lo hi st vs.length).1 (sliceBounds lo hi st vs.length).2.1 (sliceBounds lo hi st vs.length).2.2).filterMap (vs[·]?)
theorem VRels.places {h : Heap} {vs : List V} {xs : List Value} (r : VRels F ρ h vs xs) : ∀ js : List Nat, VRels F ρ h (js.filterMap (vs[·]?)) (js.filterMap (xs[·]?))
  | [] => by simp [VRels]
  | j :: js => by
    have ih := VRels.places r js
    cases hn : vs[j]? with
    | some v =>
      obtain ⟨x, hx, rx⟩ := r.get hn
      simp only [List.filterMap_cons, hn, hx, VRels]
      exact ⟨x, _, rfl, rx, ih⟩
    | none =>
      have hx : xs[j]? = none := by
        rw [List.getElem?_eq_none_iff] at hn ⊢
        rw [r.length]; exact hn
      simp only [List.filterMap_cons, hn, hx]
      exact ih
theorem VRels.pick {h : Heap} {vs : List V} {items : Array Value} (r : VRels F ρ h vs items.toList) (lo hi st : Option Int) : VRels F ρ h (pickV vs lo hi st) (slicePick items lo hi st).toList := by
  have hlen : items.size = vs.length := by rw [← r.length]; simp
  have e : (slicePick items lo hi st).toList = (sliceRange (sliceBounds lo hi st vs.length).1 (sliceBounds lo hi st vs.length).2.1 (sliceBounds lo hi st vs.length).2.2).filterMap (items.toList[·]?) := by
    simp [slicePick, hlen]
  rw [e]
  exact r.places _

def WEo (cx : Cx) (sc : Scope) (d : Nat) (oe : Option Expr) (loc : Loc) (sto : Sto) (Q : Option Int → Sto → Prop) : Prop :=
  ∀ env A s ρ F, EnvOK sc env A → AOK cx d A s.heap → Base cx ρ F sto s → Frame cx env ρ F loc s →
    wpAny (model cx.prog cx.w) A (valueOrNone (evalOpt oe env)) (fun x s' => ∃ k sto' ρ' F', Step NoWr ρ F s ρ' F' s' ∧ IsPart x k ∧ Base cx ρ' F' sto' s' ∧ Q k sto') (fun _ _ => False) s
theorem weo_none {Q : Option Int → Sto → Prop} (q : Q none sto) : WEo cx sc d none loc sto Q :=
  fun _ _ _ ρ F _ _ B _ => wpAny_pure ⟨none, sto, ρ, F, .refl, .none, B, q⟩
theorem weo_some {e : Expr} {Q : Option Int → Sto → Prop} (h : WE cx sc d e loc sto fun v sto₁ => ∃ k, v = .int k ∧ Q (some k) sto₁) : WEo cx sc d (some e) loc sto Q := by
  intro env A s ρ F hE hA B f
  show wpAny _ A (eval e env) _ _ s
  refine wpAny_mono (h env A s ρ F hE hA B f) ?_ fun _ _ x => x
  rintro x s₁ ⟨v, sto₁, ρ₁, F₁, st₁, r₁, B₁, k, rfl, q⟩
  simp only [VRel] at r₁
  obtain ⟨t, rfl⟩ := r₁
  exact ⟨some k, sto₁, ρ₁, F₁, st₁, .int k t, B₁, q⟩

theorem wen_slice {value : Expr} {lo hi st : Option Expr} {p pos : Pos} {Q : List V → Sto → Prop}
    (h : WE cx sc d value loc sto fun v sto₁ => WEo cx sc d lo loc sto₁ fun a sto₂ => WEo cx sc d hi loc sto₂ fun b sto₃ => WEo cx sc d st loc sto₃ fun c sto₄ =>
      ∃ vs, LV sto₄ v vs ∧ c ≠ some 0 ∧ vs.length ≤ sizeLine ∧ Q (pickV vs a b c) sto₄) : WEN cx sc d (.Subscript value (.Slice lo hi st p) pos) loc sto Q := by
  intro env A s ρ F hE hA B f
  refine Subscript_ (wpAny_mono (h env A s ρ F hE hA B f) ?_ fun _ _ x => x)
  rintro x s₁ ⟨v, sto₁, ρ₁, F₁, st₁, r₁, B₁, h₁⟩
  have hA₁ := hA.step st₁
  have f₁ := f.step B st₁
  show wpAny _ A (do
    let l ← valueOrNone (evalOpt lo env)
    let u ← holding [l] (valueOrNone (evalOpt hi env))
    let s ← holding [l, u] (valueOrNone (evalOpt st env))
    newFields "slice" [l, u, s]) _ _ s₁
  refine wpAny_bind (wpAny_mono (h₁ env A s₁ ρ₁ F₁ hE hA₁ B₁ f₁) ?_ fun _ _ x => x)
  rintro vl s₂ ⟨a, sto₂, ρ₂, F₂, st₂, pl, B₂, h₂⟩
  have hA₂ := hA₁.step st₂
  have f₂ := f₁.step B₁ st₂
  refine wpAny_bind (wpAny_holding (wpAny_mono (h₂ env A s₂ ρ₂ F₂ hE hA₂ B₂ f₂) ?_ fun _ _ x => x))
  rintro vu s₃ ⟨b, sto₃, ρ₃, F₃, st₃, pu, B₃, h₃⟩
  have hA₃ := hA₂.step st₃
  have f₃ := f₂.step B₂ st₃
  refine wpAny_bind (wpAny_holding (wpAny_mono (h₃ env A s₃ ρ₃ F₃ hE hA₃ B₃ f₃) ?_ fun _ _ x => x))
  rintro vk s₄ ⟨c, sto₄, ρ₄, F₄, st₄, pk, B₄, vs, lv, hc, hsz, q⟩
  have st₁₄ := (st₂.trans st₃).trans st₄
  have r₄ := st₁₄.vrel B₁ noWrF r₁
  obtain ⟨l, items, rfl, hl, rl⟩ := lv.is B₄ r₄
  refine wpAny_newObj_type ?_
  have hlen : items.size = vs.length := by rw [← rl.length]; simp
  have hk : ∀ b o, s₄.heap.get? b = some o → (s₄.heap.push { cls := .type "slice", data := .fields #[vl, vu, vk] }).get? b = some o := fun b o e => Heap.get?_push_of_some _ e
  have st₅ : Step NoWr ρ F s ρ₄ F₄ { s₄ with heap := s₄.heap.push { cls := .type "slice", data := .fields #[vl, vu, vk] } } := (st₁.trans st₁₄).trans (keepsStep (t := s₄.toks) hk)
  have B₅ := B₄.keeps (t := s₄.toks) hk
  refine tail_any (ops := if st.isNone then [.ref s₄.heap.objs.size, .ref l] else [.ref l, .ref s₄.heap.objs.size]) (Heap.IsList.typeIs (s := { s₄ with heap := s₄.heap.push { cls := .type "slice", data := .fields #[vl, vu, vk] } }) (hl.push _)) list_getitem_lookup
    (wpAny_getItem_list_slice (hl.push _) (Heap.IsSliceOf.new ..) pl pu pk hc ?_ (by omega)) (by cases st <;> rfl)
  have key := PostN.new (Q := Q) (xs := (slicePick items a b c).toList) B₅ ((rl.keeps hk).pick a b c) q
  rw [Array.toArray_toList] at key
  exact PostN.after st₅ key
end
end Mine

namespace Mine

/-! the parts of the given program, by their place in its body -/
def parAt (p : Program) (i : Nat) : Arguments := match p.main.body[i]? with | some (.FunctionDef _ a _ _ _ _ _ _ _ _) => a | _ => ⟨[], [], none, [], [], none, []⟩
def bodyAt (p : Program) (i : Nat) : List Stmt := match p.main.body[i]? with | some (.FunctionDef _ _ b _ _ _ _ _ _ _) => b | _ => []
def scopeAt (p : Program) (i : Nat) : Scope := match p.main.body[i]? with | some (.FunctionDef _ _ _ _ _ _ s _ _ _) => s | _ => p.main.scope
def posAt (p : Program) (i : Nat) : Pos := match p.main.body[i]? with | some (.FunctionDef _ _ _ _ _ _ _ _ _ q) => q | _ => default

theorem VRels.ints {F : Addr → Prop} {ρ : List Addr} {h : Heap} : ∀ {vs : List Value} {ns : List Int}, IntsAre vs ns → VRels F ρ h (ns.map V.int) vs
  | _, _, .nil => by simp [VRels]
  | _, _, .cons n t r => by
    simp only [List.map_cons, VRels]
    exact ⟨_, _, rfl, by simp [VRel], VRels.ints r⟩

def mkCx (prog : Program) (w : World) {p : Program} {loose : List Str} {mean : ExcName → Option Value} {mg mb : Str → Option Value} {s₁ : Shared} (T : Top p loose mean mg mb s₁.heap) : Cx :=
  { prog, w, p, loose, mean, mg, mb, base := s₁.heap, os := s₁.os, top := T }

theorem law_top {prog : Program} {w : World} {p : Program} {loose : List Str} {mean : ExcName → Option Value} {mg mb : Str → Option Value} {s₁ : Shared} {f : Str} {fa a : Addr} {vs : List Value} {ns : List Int}
    (T : Top p loose mean mg mb s₁.heap) (hg : s₁.gens = #[]) (hL : s₁.heap.IsList a vs.toArray) (hI : IntsAre vs ns) (hmg : mg f = some (.ref fa))
    (h : CallF (mkCx prog w T) 40 f [.lst (ns.map V.int)] [] fun v _ => v = .bool true) :
    wpAny (model prog w) callerA (call (.ref fa) [.ref a]) (fun v s' => v = .bool true ∧ (∀ b o, s₁.heap.get? b = some o → s'.heap.get? b = some o) ∧ s'.os = s₁.os ∧ s'.gens = #[]) (fun _ _ => False) s₁ := by
  obtain ⟨fa', o, fd, e1, _, _, hc⟩ := h
  have e1 : mg f = some (.ref fa') := e1
  rw [hmg] at e1; cases e1
  have hA : AOK (mkCx prog w T) 40 callerA s₁.heap := ⟨rfl, by decide +kernel, by decide +kernel, fun outer ho env he => (by cases ho; cases he), [], rfl, trivial, fun _ h => nomatch h⟩
  have B : Base (mkCx prog w T) [] (fun b => b = a) [] s₁ := by
    refine ⟨fun b o e => e, fun _ h => (nomatch h), List.nodup_nil, rfl, fun i b us e1 _ => by simp at e1, fun _ _ h => (nomatch h), fun b hb => ?_, hg, rfl⟩
    subst hb
    obtain ⟨o, ho, _⟩ := hL
    exact ⟨o, ho⟩
  refine wpAny_mono (hc callerA s₁ [] _ [.ref a] hA B ?_) ?_ fun _ _ x => x
  · simp only [VRels, VRel]
    exact ⟨_, _, rfl, ⟨a, vs.toArray, rfl, rfl, hL, by simpa using VRels.ints hI⟩, rfl⟩
  · rintro x s' ⟨v, sto', ρ', F', st, r, B', rfl⟩
    simp only [VRel] at r
    exact ⟨r, B'.stays, B'.os, B'.gens⟩

theorem goodW_true {c : ClaimW} {cl : Str → Option Addr} {mean : ExcName → Option Value} {args : List WData} {s₁ s' : Shared} {v : Value}
    (hv : v = .bool true ∧ (∀ b o, s₁.heap.get? b = some o → s'.heap.get? b = some o) ∧ s'.os = s₁.os ∧ s'.gens = #[])
    (hn : ∀ cls, c.raises args cls = false) (hp : c.post args (.bool true) args = true) : GoodW c cl mean args s₁ (.ok (.ret v)) s' := by
  obtain ⟨rfl, h1, h2, h3⟩ := hv
  exact ⟨.inl ⟨_, .bool true, [], rfl, hn, .bool true, hp, fun _ => ⟨.nil, fun _ h => nomatch h⟩⟩, h1, h2, h3⟩
end Mine

namespace Mine
section
variable {cx : Cx} {sc : Scope} {d : Nat} {loc : Loc} {sto : Sto} {rest : List Stmt} {Q : Fl → Loc → Sto → Prop}

/-- behind a statement -/
def Then (cx : Cx) (sc : Scope) (d : Nat) (rest : List Stmt) (Q : Fl → Loc → Sto → Prop) : Fl → Loc → Sto → Prop :=
  fun fl loc sto => match fl with | .next => WSs cx sc d rest loc sto Q | fl => Q fl loc sto
theorem Then.next (h : WSs cx sc d rest loc sto Q) : Then cx sc d rest Q .next loc sto := h
theorem Then.ret {v : V} (h : Q (.ret v) loc sto) : Then cx sc d rest Q (.ret v) loc sto := h
theorem ss_cons {st : Stmt} (h : WS cx sc d st loc sto (Then cx sc d rest Q)) : WSs cx sc d (st :: rest) loc sto Q := ws_cons h

theorem s_assign {x : Str} {e : Expr} {p pos : Pos} (h : WE cx sc d e loc sto fun v sto₁ => WSs cx sc d rest ((x, v) :: loc) sto₁ Q) (hk : isVar sc x = true := by rfl)
    (hn : noComp e = true := by rfl) : WSs cx sc d (.Assign [.Name x p] e pos :: rest) loc sto Q := ss_cons (ws_assign h hk hn)
theorem s_assign_new {x : Str} {e : Expr} {p pos : Pos} (h : WEN cx sc d e loc sto fun vs sto₁ => WSs cx sc d rest ((x, .obj sto₁.length) :: loc) (sto₁ ++ [vs]) Q) (hk : isVar sc x = true := by rfl)
    (hn : noComp e = true := by rfl) : WSs cx sc d (.Assign [.Name x p] e pos :: rest) loc sto Q := ss_cons (ws_assign_new h hk hn)
theorem s_aug {x : Str} {v : V} {op : Operator} {e : Expr} {p pos : Pos} (hv : loc.lookup x = some v)
    (h : WE cx sc d e loc sto fun b sto₁ => Op2 cx d (inplaceOp op) v b sto₁ fun r sto₂ => WSs cx sc d rest ((x, r) :: loc) sto₂ Q) (hk : isVar sc x = true := by rfl) :
    WSs cx sc d (.AugAssign (.Name x p) op e pos :: rest) loc sto Q := ss_cons (ws_aug hv h hk)
theorem s_return {e : Expr} {pos : Pos} (h : WE cx sc d e loc sto fun v sto₁ => Q (.ret v) loc sto₁) : WSs cx sc d (.Return (some e) pos :: rest) loc sto Q := ss_cons (ws_return h)
theorem s_pass {pos : Pos} (h : WSs cx sc d rest loc sto Q) : WSs cx sc d (.Pass pos :: rest) loc sto Q := ss_cons (ws_pass h)
theorem execs_append {a b : List Stmt} {env : Env} : execs (a ++ b) env = (do match ← execs a env with | .next => execs b env | f => pure f) := by
  induction a with
  | nil => rfl
  | cons st rest ih =>
    rw [List.cons_append, execs_cons, execs_cons, ih]
    simp only [bind_assoc]
    congr 1
    funext f
    cases f <;> first | rfl | simp
theorem wpAny_If_seq {M : Model} {A : Around} {E : Value → Shared → Prop} {s : Shared} {env : Env} {test : Expr} {body orelse rest : List Stmt} {pos : Pos} {Q : Flow → Shared → Prop}
    (h : wpAny M A (isTrue test env (eval test env)) (fun b s₂ => if b then wpAny M A (execs (body ++ rest) env) Q E s₂ else wpAny M A (execs (orelse ++ rest) env) Q E s₂) E s) :
    wpAny M A (execs (.If test body orelse pos :: rest) env) Q E s := fun Γ p hΓ => by
  rw [execs_cons, exec_If]
  simp only [Sem.wp_bind', Sem.wp_cmd_standAt]
  refine Sem.wp_mono M Γ _ (fun b p₂ s₂ h₂ => ?_) (fun _ _ _ h' => h') _ _ (h Γ _ hΓ)
  cases b with
  | true =>
    have h3 := h₂ Γ p₂ hΓ
    rw [execs_append, Sem.wp_bind'] at h3
    exact h3
  | false =>
    have h3 := h₂ Γ p₂ hΓ
    rw [execs_append, Sem.wp_bind'] at h3
    exact h3
theorem s_if {test : Expr} {body orelse : List Stmt} {pos : Pos} (h : WT cx sc d test loc sto fun c sto₁ => if c = true then WSs cx sc d (body ++ rest) loc sto₁ Q else WSs cx sc d (orelse ++ rest) loc sto₁ Q) :
    WSs cx sc d (.If test body orelse pos :: rest) loc sto Q := by
  intro env A s ρ F hE hA B f
  refine wpAny_If_seq (wpAny_mono (h env A s ρ F hE hA B f) ?_ fun _ _ x => x)
  rintro c s₁ ⟨sto₁, ρ₁, F₁, st₁, B₁, h₁⟩
  cases c with
  | true =>
    simp only [if_true] at h₁ ⊢
    exact wpAny_mono (h₁ env A s₁ ρ₁ F₁ hE (hA.step st₁) B₁ (f.step B st₁)) (fun _ _ p => p.after st₁.own) fun _ _ x => x
  | false =>
    simp only [Bool.false_eq_true, if_false] at h₁ ⊢
    exact wpAny_mono (h₁ env A s₁ ρ₁ F₁ hE (hA.step st₁) B₁ (f.step B st₁)) (fun _ _ p => p.after st₁.own) fun _ _ x => x
theorem s_for {x : Str} {iter : Expr} {body : List Stmt} {p pos : Pos}
    (h : WE cx sc d iter loc sto fun a sto₁ => ∃ xs, ItV cx a sto₁ xs ∧ LoopS cx sc d x body xs loc sto₁ (Then cx sc d rest Q)) (hk : isVar sc x = true := by rfl)
    (hs : noSet iter = true := by rfl) : WSs cx sc d (.For (.Name x p) iter body [] pos :: rest) loc sto Q := ss_cons (ws_for h hk hs)
theorem s_while {test : Expr} {body : List Stmt} {pos : Pos} (n : Nat) (h : WhileS cx sc d test body n loc sto (Then cx sc d rest Q)) : WSs cx sc d (.While test body [] pos :: rest) loc sto Q := ss_cons (ws_while n h)

theorem app_nil (h : WSs cx sc d rest loc sto Q) : WSs cx sc d ([] ++ rest) loc sto Q := h
theorem app_cons {st : Stmt} {a : List Stmt} (h : WSs cx sc d (st :: (a ++ rest)) loc sto Q) : WSs cx sc d ((st :: a) ++ rest) loc sto Q := h
def forBody (ss : List Stmt) (i : Nat) : List Stmt := match ss[i]? with | some (.For _ _ b _ _) => b | some (.While _ b _ _) => b | _ => []
def whileTest (ss : List Stmt) (i : Nat) : Expr := match ss[i]? with | some (.While t _ _ _) => t | _ => .Constant .none 0 default

/-- a test whose answer is a proposition -/
theorem wt_split {e : Expr} {c : Bool} {P R : Sto → Prop} (h : WT cx sc d e loc sto fun b sto₁ => b = c ∧ (if c = true then P sto₁ else R sto₁)) :
    WT cx sc d e loc sto fun b sto₁ => if b = true then P sto₁ else R sto₁ := h.mono fun _ _ q => by obtain ⟨rfl, q⟩ := q; exact q

theorem LoopS.nil {x : Str} {body : List Stmt} (h : Q .next loc sto) : LoopS cx sc d x body [] loc sto Q := h
theorem LoopS.cons {x : Str} {body : List Stmt} {v : V} {vs : List V} (h : WSs cx sc d body ((x, v) :: loc) sto fun fl loc' sto' => match fl with
      | .next => LoopS cx sc d x body vs loc' sto' Q
      | .cont => LoopS cx sc d x body vs loc' sto' Q
      | .brk => Q .next loc' sto'
      | .ret r => Q (.ret r) loc' sto') : LoopS cx sc d x body (v :: vs) loc sto Q := h

/-- what is known by the one is known by the other -/
def Sub (loc' loc : Loc) : Prop := ∀ x v, loc'.lookup x = some v → loc.lookup x = some v
theorem Sub.nil {loc : Loc} : Sub [] loc := fun x v h => by simp at h
theorem Sub.cons {k : Str} {u : V} {l loc : Loc} (h1 : loc.lookup k = some u) (h2 : Sub l loc) : Sub ((k, u) :: l) loc := fun x v h => by
  rw [lookup_cons'] at h
  by_cases hx : x = k
  · rw [if_pos hx] at h; cases h; rw [hx]; exact h1
  · rw [if_neg hx] at h; exact h2 x v h
theorem Sub.refl {loc : Loc} : Sub loc loc := fun _ _ h => h
theorem Sub.trans {a b c : Loc} (x : Sub a b) (y : Sub b c) : Sub a c := fun k v h => y k v (x k v h)
theorem Sub.under {k : Str} {u : V} {a b : Loc} (x : Sub a b) : Sub ((k, u) :: a) ((k, u) :: b) := fun y v h => by
  rw [lookup_cons'] at h ⊢
  by_cases hx : y = k
  · rw [if_pos hx] at h ⊢; exact h
  · rw [if_neg hx] at h ⊢; exact x y v h
def Mono (Q : Fl → Loc → Sto → Prop) : Prop := ∀ loc loc' sto, Sub loc' loc → Q .next loc' sto → Q .next loc sto
theorem Then.mono' : Mono (Then cx sc d rest Q) := fun _ _ _ h q => WSs.weaken q h
theorem LoopS.weaken {x : Str} {body : List Stmt} {xs : List V} {loc' : Loc} (hQ : Mono Q) (h : LoopS cx sc d x body xs loc' sto Q) (hl : Sub loc' loc) : LoopS cx sc d x body xs loc sto Q := by
  cases xs with
  | nil => exact hQ _ _ _ hl h
  | cons v vs => exact WSs.weaken (loc' := (x, v) :: loc') h hl.under
theorem WT.weaken {loc' : Loc} {e : Expr} {Q : Bool → Sto → Prop} (h : WT cx sc d e loc' sto Q) (hl : Sub loc' loc) : WT cx sc d e loc sto Q :=
  fun env A s ρ F hE hA B f => h env A s ρ F hE hA B (f.weaken hl)
theorem WhileS.weaken {test : Expr} {body : List Stmt} {n : Nat} {loc' : Loc} (hQ : Mono Q) (h : WhileS cx sc d test body n loc' sto Q) (hl : Sub loc' loc) : WhileS cx sc d test body n loc sto Q := by
  cases n with
  | zero => exact h
  | succ n =>
    unfold WhileS at h ⊢
    refine (WT.weaken h hl).mono fun c st q => ?_
    cases c with
    | true => simp only [if_true] at q ⊢; exact WSs.weaken q hl
    | false => simp only [Bool.false_eq_true, if_false] at q ⊢; exact hQ _ _ _ hl q
theorem WSs.sub {loc' : Loc} {body : List Stmt} (h : WSs cx sc d body loc' sto Q) (hl : Sub loc' loc) : WSs cx sc d body loc sto Q := WSs.weaken h hl

theorem FnIs.ne {f : Str} {params : Arguments} {body : List Stmt} {scope : Scope} (h : FnIs cx f params body scope) : ∃ a o fd, cx.mg f = some (.ref a) ∧ cx.base.get? a = some o ∧ o.data = .func fd := by
  obtain ⟨a, o, _, _, _, e1, e2, e3, _⟩ := h.at'
  exact ⟨a, o, _, e1, e2, e3⟩

theorem if_b {b : Bool} {A B : Prop} (h1 : b = true → A) (h2 : b = false → B) : if b = true then A else B := by
  cases b with
  | true => exact h1 rfl
  | false => exact h2 rfl
theorem if_dec {p : Prop} [Decidable p] {A B : Prop} (h1 : p → A) (h2 : ¬ p → B) : if decide p = true then A else B := by
  by_cases h : p
  · simp [h, h1 h]
  · simp [h, h2 h]
theorem if_ndec {p : Prop} [Decidable p] {A B : Prop} (h1 : ¬ p → A) (h2 : p → B) : if (!decide p) = true then A else B := by
  by_cases h : p
  · simp [h, h2 h]
  · simp [h, h1 h]
theorem if_eq {a b : Int} {A B : Prop} (h1 : a = b → A) (h2 : a ≠ b → B) : if (a == b) = true then A else B := by
  by_cases h : a = b
  · simp [h, h1 h]
  · simp [h, h2 h]
theorem if_ne {a b : Int} {A B : Prop} (h1 : a ≠ b → A) (h2 : a = b → B) : if (a != b) = true then A else B := by
  by_cases h : a = b
  · simp [h, h2 h]
  · simp [h, h1 h]
theorem if_tt {A B : Prop} (h : A) : if true = true then A else B := h
theorem if_ff {A B : Prop} (h : B) : if false = true then A else B := h
theorem if_ntt {A B : Prop} (h : B) : if (!true) = true then A else B := h
theorem if_nff {A B : Prop} (h : A) : if (!false) = true then A else B := h
theorem mulOk_l {a b : Int} (h : a.natAbs < 2 ^ 64) : IntMulOk a b := IntMulOk.of_left (intBits_le h)
theorem mulOk_r {a b : Int} (h : b.natAbs < 2 ^ 64) : IntMulOk a b := IntMulOk.of_right (intBits_le h)

/-- the callers' lists speak of the callers' lists alone -/
def StoOK (sto : Sto) : Prop := ∀ o ∈ sto, belows sto.length o = true
theorem StoOK.nil : StoOK [] := fun _ h => nomatch h
theorem ret_same {v : V} {Q : V → Sto → Prop} (hs : StoOK sto) (hb : below sto.length v = true) (q : Q v sto) : Ret sto.length Q (.ret v) loc sto :=
  ⟨v, .same hb, by rw [List.take_length]; exact hs, by rw [List.take_length]; exact q⟩
theorem ret_under {v : V} {t : Sto} {Q : V → Sto → Prop} (hs : StoOK sto) (hb : below sto.length v = true) (q : Q v sto) : Ret sto.length Q (.ret v) loc (sto ++ t) :=
  ⟨v, .same hb, by rw [List.take_left]; exact hs, by rw [List.take_left]; exact q⟩
theorem ret_list {t : Sto} {n : Nat} {vs : List V} {Q : V → Sto → Prop} (hs : StoOK sto) (hn : sto.length ≤ n) (hv : (sto ++ t)[n]? = some vs) (hb : belows sto.length vs = true) (q : Q (.lst vs) sto) : Ret sto.length Q (.ret (.obj n)) loc (sto ++ t) :=
  ⟨.lst vs, .list hn hv hb, by rw [List.take_left]; exact hs, by rw [List.take_left]; exact q⟩
theorem ret_list0 {t : Sto} {n : Nat} {vs : List V} {Q : V → Sto → Prop} (hv : t[n]? = some vs) (hb : belows 0 vs = true) (q : Q (.lst vs) []) : Ret 0 Q (.ret (.obj n)) loc t :=
  ⟨.lst vs, .list (Nat.zero_le _) hv hb, by simp, by simpa using q⟩
theorem ret_same0 {t : Sto} {v : V} {Q : V → Sto → Prop} (hb : below 0 v = true) (q : Q v []) : Ret 0 Q (.ret v) loc t := ⟨v, .same hb, by simp, by simpa using q⟩
theorem belows_ints {k : Nat} : ∀ (ns : List Int), belows k (ns.map V.int) = true
  | [] => rfl
  | n :: ns => by simp [belows, below, belows_ints ns]
end
end Mine

namespace Mine
section
variable {cx : Cx} {sc : Scope} {d : Nat} {loc : Loc} {sto : Sto} {rest : List Stmt} {Q : Fl → Loc → Sto → Prop}

/-- what a turn must leave -/
def Turn (I : Loc → Sto → Prop) (Q : Fl → Loc → Sto → Prop) : Fl → Loc → Sto → Prop := fun fl loc' sto' => match fl with
  | .next => I loc' sto'
  | .cont => I loc' sto'
  | .brk => Q .next loc' sto'
  | .ret r => Q (.ret r) loc' sto'

theorem Turn.next {I : Loc → Sto → Prop} (h : I loc sto) : Turn I Q .next loc sto := h
theorem Turn.ret {I : Loc → Sto → Prop} {v : V} (h : Q (.ret v) loc sto) : Turn I Q (.ret v) loc sto := h

theorem LoopS.at {x : Str} {body : List Stmt} (xs : List V) (I : Nat → Loc → Sto → Prop)
    (hstep : ∀ i v loc sto, xs[i]? = some v → I i loc sto → WSs cx sc d body ((x, v) :: loc) sto (Turn (I (i + 1)) Q))
    (hend : ∀ loc sto, I xs.length loc sto → Q .next loc sto) (h0 : I 0 loc sto) : LoopS cx sc d x body xs loc sto Q := by
  have key : ∀ (k : Nat) (ys : List V), ys = xs.drop k → k ≤ xs.length → ∀ loc sto, I k loc sto → LoopS cx sc d x body ys loc sto Q := by
    intro k ys
    induction ys generalizing k with
    | nil =>
      intro e hk loc sto h
      have : k = xs.length := by
        have := congrArg List.length e
        simp at this; omega
      subst this
      exact hend _ _ h
    | cons y ys ih =>
      intro e hk loc sto h
      have hk' : k < xs.length := by
        have := congrArg List.length e
        simp at this; omega
      rw [List.drop_eq_getElem_cons hk'] at e
      obtain ⟨rfl, e2⟩ := List.cons.inj e
      refine LoopS.cons ?_
      refine (hstep k xs[k] loc sto (List.getElem?_eq_getElem hk') h).mono fun fl l st q => ?_
      cases fl with
      | next => exact ih (k + 1) e2 hk' _ _ q
      | cont => exact ih (k + 1) e2 hk' _ _ q
      | brk => exact q
      | ret r => exact q
  exact key 0 xs (by simp) (Nat.zero_le _) loc sto h0

theorem rngV_get {a b : Int} {i : Nat} {v : V} (h : (rngV a b 1)[i]? = some v) : v = .int (a + i) ∧ (a + i < b) := by
  unfold rngV at h
  rw [List.getElem?_map] at h
  obtain ⟨j, hj, rfl⟩ := Option.map_eq_some_iff.mp h
  have hlt := (List.getElem?_eq_some_iff.mp hj).1
  simp only [List.length_range] at hlt
  rw [List.getElem?_range hlt] at hj
  cases hj
  rw [rangeSize_one] at hlt
  split at hlt
  · exact ⟨by simp, by omega⟩
  · simp at hlt
theorem rngV_length {a b : Int} : (rngV a b 1).length = (b - a).toNat := by
  unfold rngV
  rw [List.length_map, List.length_range, rangeSize_one]
  split <;> omega
theorem it_rng1 {a b : Int} (ha : -(2 ^ 62) ≤ a ∧ a < 2 ^ 62) (hb : -(2 ^ 62) ≤ b ∧ b < 2 ^ 62) : ItV cx (.rng a b 1) sto (rngV a b 1) :=
  it_rng (small_one ha.1 ha.2 hb.1 hb.2) (by rw [rangeSize_one]; split <;> omega)

/-- a loop over range(n) or range(a, b), by what holds before turn i -/
theorem LoopS.up {x : Str} {body : List Stmt} {a b : Int} (I : Nat → Loc → Sto → Prop)
    (hstep : ∀ (i : Nat) loc sto, a + i < b → I i loc sto → WSs cx sc d body ((x, .int (a + i)) :: loc) sto (Turn (I (i + 1)) Q))
    (hend : ∀ loc sto, I (b - a).toNat loc sto → Q .next loc sto) (h0 : I 0 loc sto) : LoopS cx sc d x body (rngV a b 1) loc sto Q := by
  refine LoopS.at _ I (fun i v loc sto hv h => ?_) (fun loc sto h => hend loc sto (by rwa [rngV_length] at h)) h0
  obtain ⟨rfl, hlt⟩ := rngV_get hv
  exact hstep i loc sto hlt h

theorem isnot_same {a : Value} {Q : V → Sto → Prop} (hp : plainIs a a = true) (q : Q (.bool false) sto) : Op2 cx d (compareOp .IsNot) (.raw a) (.raw a) sto Q := isnot_raw hp (by simpa using q)
theorem is_same {a : Value} {Q : V → Sto → Prop} (hp : plainIs a a = true) (q : Q (.bool true) sto) : Op2 cx d (compareOp .Is) (.raw a) (.raw a) sto Q := is_raw hp (by simpa using q)

/-! what a slice picks -/
theorem pickV_ints (ns : List Int) (lo hi st : Option Int) : ∃ ms : List Int, pickV (ns.map V.int) lo hi st = ms.map V.int := by
  refine ⟨(sliceRange (sliceBounds lo hi st (ns.map V.int).length).1 (sliceBounds lo hi st (ns.map V.int).length).2.1 (sliceBounds lo hi st (ns.map V.int).length).2.2).filterMap (ns[·]?), ?_⟩
  unfold pickV
  generalize sliceRange _ _ _ = js
  induction js with
  | nil => rfl
  | cons j js ih =>
    simp only [List.filterMap_cons, List.getElem?_map]
    cases ns[j]? with
    | none => simpa using ih
    | some n => simpa using ih
theorem range_take {vs : List V} : ∀ k, k ≤ vs.length → (List.range k).filterMap (vs[·]?) = vs.take k
  | 0, _ => by simp
  | k + 1, h => by
    have hk : k < vs.length := by omega
    rw [List.range_succ, List.filterMap_append, range_take k (by omega), List.take_succ_eq_append_getElem hk]
    simp [hk]
theorem pickV_run {vs : List V} {lo hi : Option Int} {a k : Nat} (h1 : (sliceBounds lo hi none vs.length) = ((a : Int), ((a + k : Nat) : Int), 1)) (h2 : a + k ≤ vs.length) : pickV vs lo hi none = (vs.drop a).take k := by
  unfold pickV
  rw [h1]
  have e : sliceRange (a : Int) ((a + k : Nat) : Int) 1 = (List.range k).map (a + ·) := by
    rw [sliceRange_one]; congr 2; omega
  simp only
  rw [e, List.filterMap_map]
  have : ((vs[·]?) ∘ fun x => a + x) = ((vs.drop a)[·]?) := by
    funext j; simp [List.getElem?_drop]
  rw [this]
  exact range_take k (by simp; omega)
theorem pick_upto {vs : List V} {b : Nat} : pickV vs none (some (b : Int)) none = vs.take b := by
  by_cases h : b ≤ vs.length
  · have := pickV_run (vs := vs) (lo := none) (hi := some (b : Int)) (a := 0) (k := b) (by simp [sliceBounds]; omega) (by omega)
    simpa using this
  · have := pickV_run (vs := vs) (lo := none) (hi := some (b : Int)) (a := 0) (k := vs.length) (by simp [sliceBounds]; omega) (by omega)
    rw [this, List.drop_zero, List.take_of_length_le (Nat.le_refl _), List.take_of_length_le (by omega)]
theorem pick_from {vs : List V} {a : Nat} : pickV vs (some (a : Int)) none none = vs.drop a := by
  by_cases h : a ≤ vs.length
  · have := pickV_run (vs := vs) (lo := some (a : Int)) (hi := none) (a := a) (k := vs.length - a) (by simp [sliceBounds]; omega) (by omega)
    rw [this]; exact List.take_of_length_le (by simp)
  · have := pickV_run (vs := vs) (lo := some (a : Int)) (hi := none) (a := vs.length) (k := 0) (by simp [sliceBounds]; omega) (by omega)
    rw [this]; simp; omega
theorem pick_all {vs : List V} : pickV vs none none none = vs := by
  have := pickV_run (vs := vs) (lo := none) (hi := none) (a := 0) (k := vs.length) (by simp [sliceBounds]) (by omega)
  simpa using this
end
end Mine

namespace Mine

/-! comprehensions -/
def relabelS (scope sc : Scope) : Scope :=
  { scope with names := scope.names.map fun (n, k) => if (k == .free && sc.kind == .function && sc.names.lookup n == some .cell) then (n, .cell) else (n, k) }
theorem relabel_eq {scope sc : Scope} {env : Env} (hE : EnvOK sc env A) : relabel scope env = relabelS scope sc := by
  unfold relabel relabelS Env.kindOf
  rw [hE.scope]

/-- the scope of a comprehension whose one variable is x -/
def compOK (scope sc : Scope) (x : Str) : Bool :=
  scope.kind == .function && scope.names.lookup (".0" : Str) == some .local && scope.names.lookup x == some .local &&
    scope.names.all (fun p => p.2 != .cell && (p.2 != .local || (p.1 == (".0" : Str) || p.1 == x) && scope.names.lookup p.1 == some .local) && (p.2 != .free || sc.names.lookup p.1 == some .cell))

def TestS (cx : Cx) (sc : Scope) (d : Nat) : List Expr → Loc → Sto → (Bool → Sto → Prop) → Prop
  | [], _, sto, Q => Q true sto
  | [c], loc, sto, Q => WT cx sc d c loc sto Q
  | _, _, _, _ => False
def CompS (cx : Cx) (sc : Scope) (d : Nat) (x : Str) (ifs : List Expr) (elt : Expr) (loc : Loc) : List V → List V → Sto → (List V → Sto → Prop) → Prop
  | [], acc, sto, Q => Q acc sto
  | v :: vs, acc, sto, Q => TestS cx sc d ifs ((x, v) :: loc) sto fun b sto₁ => if b = true then WE cx sc d elt ((x, v) :: loc) sto₁ fun w sto₂ => CompS cx sc d x ifs elt loc vs (acc ++ [w]) sto₂ Q
      else CompS cx sc d x ifs elt loc vs acc sto₁ Q

def closeGo (cells : List (Str × Addr)) : List (Str × NameKind) → List (Str × Addr) → List (Str × Addr)
  | [], acc => acc
  | (n, k) :: r, acc => if k == .free then closeGo cells r ((n, (cells.lookup n).getD 0) :: acc) else closeGo cells r acc
theorem closeGo_run {env : Env} (f : Str × NameKind → List (Str × Addr) → Sem (ForInStep (List (Str × Addr))))
    (hf : ∀ n k cs, f (n, k) cs = if k == .free then (do let c ← cellOf env n; pure (.yield ((n, c) :: cs))) else pure (.yield cs)) : ∀ (names : List (Str × NameKind)) (acc : List (Str × Addr)),
    (∀ n, (n, NameKind.free) ∈ names → ∃ c, env.cells.lookup n = some c) → forIn names acc f = pure (closeGo env.cells names acc)
  | [], acc, _ => rfl
  | (n, k) :: r, acc, h => by
    rw [List.forIn_cons, hf]
    unfold closeGo
    split
    · rename_i hk
      have hk' : k = .free := by simpa using hk
      obtain ⟨c, hc⟩ := h n (by rw [hk']; exact List.mem_cons_self)
      unfold cellOf
      rw [hc]
      exact closeGo_run f hf r _ fun m hm => h m (List.mem_cons_of_mem _ hm)
    · exact closeGo_run f hf r _ fun m hm => h m (List.mem_cons_of_mem _ hm)
theorem closureFor_eq {scope : Scope} {env : Env} (h : ∀ n, (n, NameKind.free) ∈ scope.names → ∃ c, env.cells.lookup n = some c) : closureFor scope env = pure (closeGo env.cells scope.names []) := by
  simp only [closureFor]
  rw [closeGo_run (env := env) _ (fun n k cs => by cases hk : k == NameKind.free <;> simp) _ _ h]
  rfl
theorem closeGo_mem {cells : List (Str × Addr)} : ∀ {names : List (Str × NameKind)} {acc : List (Str × Addr)} {n : Str} {c : Addr}, (∀ n, (n, NameKind.free) ∈ names → ∃ c, cells.lookup n = some c) →
    (∀ n c, (n, c) ∈ acc → cells.lookup n = some c) → (n, c) ∈ closeGo cells names acc → cells.lookup n = some c
  | [], _, _, _, _, ha, h => ha _ _ h
  | (m, k) :: r, acc, n, c, hn, ha, h => by
    unfold closeGo at h
    split at h
    · rename_i hk
      have hk' : k = .free := by simpa using hk
      obtain ⟨c', hc'⟩ := hn m (by rw [hk']; exact List.mem_cons_self)
      refine closeGo_mem (fun n' h' => hn n' (List.mem_cons_of_mem _ h')) (fun n' c'' h' => ?_) h
      rcases List.mem_cons.mp h' with e | h'
      · cases e; rw [hc']; rfl
      · exact ha _ _ h'
    · exact closeGo_mem (fun n' h' => hn n' (List.mem_cons_of_mem _ h')) ha h
theorem closeGo_keys {cells : List (Str × Addr)} {x : Str} : ∀ {names : List (Str × NameKind)} {acc : List (Str × Addr)}, (x ∈ acc.map (·.1) ∨ (x, NameKind.free) ∈ names) → x ∈ (closeGo cells names acc).map (·.1)
  | [], _, h => by
    rcases h with h | h
    · exact h
    · cases h
  | (y, k) :: r, acc, h => by
    unfold closeGo
    split
    · refine closeGo_keys ?_
      rcases h with h | h
      · exact .inl (List.mem_cons_of_mem _ h)
      · rcases List.mem_cons.mp h with e | h
        · cases e; exact .inl List.mem_cons_self
        · exact .inr h
    · rename_i hk
      refine closeGo_keys ?_
      rcases h with h | h
      · exact .inl h
      · rcases List.mem_cons.mp h with e | h
        · cases e; exact absurd rfl hk
        · exact .inr h

theorem relabel_lookup {sc : Scope} {y : Str} {k : NameKind} : ∀ {names : List (Str × NameKind)},
    (names.map fun (n, k) => if (k == NameKind.free && sc.kind == .function && sc.names.lookup n == some .cell) then (n, NameKind.cell) else (n, k)).lookup y = some k →
      ∃ k₀, names.lookup y = some k₀ ∧ k = (if (k₀ == NameKind.free && sc.kind == .function && sc.names.lookup y == some .cell) then NameKind.cell else k₀)
  | [], h => by simp at h
  | (n, k0) :: r, h => by
    rw [List.map_cons] at h
    dsimp only at h
    by_cases hc : (k0 == NameKind.free && sc.kind == .function && sc.names.lookup n == some .cell) = true
    · rw [if_pos hc, List.lookup_cons] at h
      rw [List.lookup_cons]
      cases hy : y == n with
      | true =>
        have hyn : y = n := by simpa using hy
        subst hyn
        rw [hy] at h; cases h
        exact ⟨k0, rfl, by rw [if_pos hc]⟩
      | false => rw [hy] at h; exact relabel_lookup h
    · rw [if_neg hc, List.lookup_cons] at h
      rw [List.lookup_cons]
      cases hy : y == n with
      | true =>
        have hyn : y = n := by simpa using hy
        subst hyn
        rw [hy] at h; cases h
        exact ⟨k, rfl, by rw [if_neg hc]⟩
      | false => rw [hy] at h; exact relabel_lookup h

section
variable {cx : Cx} {sc scope : Scope} {d : Nat} {loc : Loc} {sto : Sto} {ρ : List Addr} {F : Addr → Prop} {s : Shared} {env : Env} {x : Str}

/-- the frame of a comprehension -/
theorem inner_frame {C : Addr} {m : Str → Option Value} {v : V} {y : Value} (hE : EnvOK sc env A) (hok : compOK scope sc x = true) (h0 : loc.lookup (".0" : Str) = none) (fo : Frame cx env ρ F loc s) (hn : s.heap.Ns C m) (hm : m x = some y) (r : VRel F ρ s.heap v y)
    (c1 : C ∉ ρ) (c2 : ¬ F C) (c3 : cx.base.get? C = none) (c4 : ∀ z c, env.cells.lookup z = some c → c ≠ C) (hfree : ∀ n, (n, NameKind.free) ∈ scope.names → ∃ c, env.cells.lookup n = some c) :
    Frame cx (compEnvC scope (closeGo env.cells scope.names []) C env) ρ F ((x, v) :: loc) s := by
  simp only [compOK, Bool.and_eq_true, List.all_eq_true] at hok
  have look : ∀ z c, (closeGo env.cells scope.names []).lookup z = some c → env.cells.lookup z = some c := fun z c h => closeGo_mem hfree (fun _ _ h => by cases h) (mem_of_lookup h)
  have kinds : ∀ z k, (compEnvC scope (closeGo env.cells scope.names []) C env).kindOf z = some k → ∃ k₀, scope.names.lookup z = some k₀ ∧ k = (if (k₀ == NameKind.free && sc.kind == .function && sc.names.lookup z == some .cell) then NameKind.cell else k₀) := fun z k h => by
    have h : (relabel scope env).names.lookup z = some k := h
    rw [relabel_eq hE] at h
    exact relabel_lookup h
  have cellFree : ∀ z, (compEnvC scope (closeGo env.cells scope.names []) C env).kindOf z = some .cell → (z, NameKind.free) ∈ scope.names ∧ env.kindOf z = some .cell := fun z h => by
    obtain ⟨k₀, e1, e2⟩ := kinds z _ h
    have hmem := mem_of_lookup e1
    have hk := hok.2 _ hmem
    split at e2
    · rename_i hc
      simp only [Bool.and_eq_true, beq_iff_eq] at hc
      rw [hc.1.1] at hmem
      refine ⟨hmem, ?_⟩
      unfold Env.kindOf; rw [hE.scope]; exact hc.2
    · subst e2
      simp at hk
  refine ⟨⟨m, hn, fun z w h1 h2 => ?_⟩, fun z w h1 h2 => ?_, fun z h2 => ?_, fun z z' c h1 h2 => fo.apart z z' c (look _ _ h1) (look _ _ h2), fun b hb => ?_, fun z c h1 => c4 z c (look _ _ h1)⟩
  · -- a variable of its own: x alone
    obtain ⟨k₀, e1, e2⟩ := kinds z _ h2
    have hmem := mem_of_lookup e1
    have hk := hok.2 _ hmem
    have hk₀ : k₀ = .local := by
      split at e2
      · cases e2
      · exact e2.symm
    subst hk₀
    simp at hk
    rw [lookup_cons'] at h1
    rcases hk.1 with hz | hz
    · by_cases hzx : z = x
      · rw [if_pos hzx] at h1; cases h1; rw [hzx]; exact ⟨y, hm, r⟩
      · rw [if_neg hzx, hz, h0] at h1; cases h1
    · rw [if_pos hz] at h1; cases h1; rw [hz]; exact ⟨y, hm, r⟩
  · obtain ⟨hmem, hko⟩ := cellFree z h2
    have hzx : z ≠ x := fun e => by
      obtain ⟨k₀, e1, e2⟩ := kinds z _ h2
      rw [e] at e1
      have := hok.1.2
      simp only [beq_iff_eq] at this
      rw [this] at e1; cases e1
      simp at e2
    rw [lookup_cons', if_neg hzx] at h1
    obtain ⟨c, y', e, hc, r'⟩ := fo.cell z w h1 hko
    have hs := lookup_isSome_of_mem (closeGo_keys (cells := env.cells) (acc := []) (.inr hmem))
    obtain ⟨c', hc'⟩ := Option.isSome_iff_exists.mp hs
    have := look z c' hc'
    rw [e] at this; cases this
    exact ⟨c, y', hc', hc, r'⟩
  · obtain ⟨hmem, hko⟩ := cellFree z h2
    obtain ⟨c, o, e, hc⟩ := fo.cells z hko
    have hs := lookup_isSome_of_mem (closeGo_keys (cells := env.cells) (acc := []) (.inr hmem))
    obtain ⟨c', hc'⟩ := Option.isSome_iff_exists.mp hs
    have := look z c' hc'
    rw [e] at this; cases this
    exact ⟨c, o, hc', hc⟩
  · rcases hb with hb | ⟨z, hz⟩
    · have hb : b = C := hb
      subst hb
      obtain ⟨o, ho, _⟩ := Ns.obj hn
      exact ⟨c1, c2, c3, o, ho⟩
    · exact fo.own b (.inr ⟨z, look z b hz⟩)

theorem comp_env {A : Around} (hE : EnvOK sc env A) {C : Addr} {cl : List (Str × Addr)} (hk : scope.kind = .function) (h0 : scope.names.lookup (".0" : Str) = some .local) : EnvOK (relabelS scope sc) (compEnvC scope cl C env) A :=
  ⟨relabel_eq hE, hk, hE.globals, hE.builtins, fun h => by
    have : (relabelS scope sc).names.lookup (".0" : Str) = some .local := by
      rw [← relabel_eq hE]; exact lookup_relabel_local h0
    rw [this] at h; cases h⟩

theorem tests_run {A : Around} {ifs : List Expr} {Q : Bool → Sto → Prop} (h : TestS cx sc d ifs loc sto Q) (hE : EnvOK sc env A) (hA : AOK cx d A s.heap) (B : Base cx ρ F sto s) (f : Frame cx env ρ F loc s) :
    wpAny (model cx.prog cx.w) A (forIn ifs true fun c r => if r = true then do let ok ← isTrue c env (eval c env); pure (ForInStep.yield ok) else pure (ForInStep.yield r)) (PostB cx ρ F s Q) (fun _ _ => False) s := by
  match ifs, h with
  | [], h => exact wpAny_tests_nil ⟨sto, ρ, F, .refl, B, h⟩
  | [c], h => exact wpAny_tests_one (h env A s ρ F hE hA B f)
end

section
variable {cx : Cx} {sc scope : Scope} {d : Nat} {loc : Loc} {sto : Sto} {ρ : List Addr} {F : Addr → Prop} {s : Shared} {env : Env} {x : Str}

theorem comp_run {A : Around} {elt iter : Expr} {ifs : List Expr} {px pos pos' : Pos} {use : Option (Value → Sem Unit)} {Q : List V → Sto → Prop} {QQ : Value → Shared → Prop}
    (hok : compOK scope sc x = true) (h0 : loc.lookup (".0" : Str) = none) (hs : noSet iter = true)
    (h : WE cx sc d iter loc sto fun a sto₁ => ∃ xs, xs.length ≤ sizeLine ∧ ItV cx a sto₁ xs ∧ CompS cx (relabelS scope sc) d x ifs elt loc xs [] sto₁ Q)
    (hE : EnvOK sc env A) (hA : AOK cx d A s.heap) (B : Base cx ρ F sto s) (f : Frame cx env ρ F loc s)
    (hend : ∀ D C ρ' F' sto' vs items s' fl, Step NoWr ρ F s ρ' F' s' → Base cx ρ' F' sto' s' → s'.heap.PlainList D items → VRels F' ρ' s'.heap vs items.toList → D ∉ ρ' → ¬ F' D → cx.base.get? D = none → s.heap.get? D = none →
      (∃ m, s'.heap.Ns C m) → s.heap.get? C = none → C ∉ ρ' → ¬ F' C → cx.base.get? C = none → C ≠ D → Q vs sto' → compPost (model cx.prog cx.w) A (fun _ _ => False) use QQ (.ref D) C (.ok fl) s') :
    wpAny (model cx.prog cx.w) A (comprehension (.ListComp elt [⟨.Name x px, iter, ifs, 0⟩] scope pos) scope env pos' (newList []) false (eval iter env) use) QQ (fun _ _ => False) s := by
  have hok' := hok
  simp only [compOK, Bool.and_eq_true, List.all_eq_true] at hok'
  obtain ⟨⟨⟨hk1, hk0⟩, hk2⟩, hk3⟩ := hok'
  have hdot : scope.names.lookup (".0" : Str) = some .local := by simpa using hk0
  have hkind : scope.kind = .function := by simpa using hk1
  have hxl : scope.names.lookup x = some .local := by simpa using hk2
  have hfree : ∀ n, (n, NameKind.free) ∈ scope.names → ∃ c, env.cells.lookup n = some c := fun n hn => by
    have := hk3 _ hn
    simp at this
    obtain ⟨c, _, e, _⟩ := f.cells n (by unfold Env.kindOf; rw [hE.scope]; exact this)
    exact ⟨c, e⟩
  have hcellk : ∀ y ∈ scope.names, y.2 ≠ .cell := fun y hy => by
    have := hk3 y hy
    simp only [Bool.and_eq_true, bne_iff_ne, ne_eq] at this
    exact this.1.1
  refine wpAny_comprehension_free (g := ⟨.Name x px, iter, ifs, 0⟩) (gs := []) rfl (notSet_folds hs env) (closureFor_eq hfree) hkind (fun y hy hl => ?_) (wpAny_mono (h env A s ρ F hE hA B f) ?_ fun _ _ x => x)
  · have := hk3 y hy
    simp only [Bool.and_eq_true, bne_iff_ne, ne_eq, Bool.or_eq_true, beq_iff_eq, hl] at this
    rcases this.1.2 with e | e
    · exact absurd trivial e
    · exact e.2
  rintro a s₁ ⟨v₁, sto₁, ρ₁, F₁, st₁, r₁, B₁, xs, hsz, hit, hcomp⟩
  refine wpAny_mono (hit A s₁ ρ₁ F₁ a hA.handled B₁ r₁) ?_ fun _ _ x => x
  rintro it s₂ ⟨I, fp, wr, P, St, h₀, tk, rfl, rfl, hkeep, ok, hst⟩
  have f₁ := f.step B st₁
  have hA₁ := hA.step st₁
  refine wpAny_newObj_type (wpAny_newFunctionEnv hcellk (by intro y hy; simp at hy) (fun h₁ hns₁ hsb₁ => ?_) hkind)
  dsimp only at hns₁ hsb₁ ⊢
  generalize hH2 : h₀.push { cls := .type "list", dict := none, data := .seq ([] : List Value).toArray } = H2 at hns₁ hsb₁ ⊢
  -- the new places
  have lt₁ : ∀ b o, s₁.heap.get? b = some o → b < h₀.objs.size := fun b o e => Heap.lt_size (hkeep b o e)
  have hC : H2.objs.size = h₀.objs.size + 1 := by rw [← hH2, Heap.size_push]
  have nolook : ∀ b, h₀.objs.size ≤ b → s₁.heap.get? b = none := fun b hb => by
    cases e : s₁.heap.get? b with
    | none => rfl
    | some o => exact absurd (lt₁ b o e) (Nat.not_lt.mpr hb)
  have D1 : s₁.heap.get? h₀.objs.size = none := nolook _ (Nat.le_refl _)
  have C1 : s₁.heap.get? H2.objs.size = none := nolook _ (by omega)
  have hCD : H2.objs.size ≠ h₀.objs.size := by omega
  have old : ∀ b o, h₀.get? b = some o → h₁.get? b = some o := fun b o e => hsb₁.extBut b o (by have := Heap.lt_size e; rw [hC]; exact Nat.ne_of_lt (Nat.lt_succ_of_lt this)) (Heap.get?_push_of_some _ (hH2 ▸ Heap.get?_push_of_some _ e))
  have oldest : ∀ b o, s₁.heap.get? b = some o → h₁.get? b = some o := fun b o e => old b o (hkeep b o e)
  have hD1 : h₁.PlainList h₀.objs.size #[] := ⟨_, hsb₁.extBut _ _ (Ne.symm hCD) (Heap.get?_push_of_some _ (hH2 ▸ Heap.get?_push_size _ rfl))⟩
  have ltD : ∀ b o, h₀.get? b = some o → b ≠ h₀.objs.size ∧ b ≠ H2.objs.size := fun b o e => by have := Heap.lt_size e; exact ⟨Nat.ne_of_lt this, by rw [hC]; exact Nat.ne_of_lt (Nat.lt_succ_of_lt this)⟩
  clear hC lt₁ nolook
  generalize h₀.objs.size = D at *
  generalize H2.objs.size = C at *
  -- what is new to s₁ is none of the known
  have newρ : ∀ b, s₁.heap.get? b = none → b ∉ ρ₁ ∧ ¬ F₁ b ∧ cx.base.get? b = none ∧ ¬ Own env b := fun b hb => by
    refine ⟨fun hm => ?_, fun hF => ?_, ?_, fun ho => ?_⟩
    · obtain ⟨o, ho⟩ := B₁.lt hm; rw [hb] at ho; cases ho
    · obtain ⟨o, ho⟩ := B₁.live b hF; rw [hb] at ho; cases ho
    · cases e : cx.base.get? b with
      | none => rfl
      | some o => have := B₁.stays b o e; rw [hb] at this; cases this
    · obtain ⟨_, _, _, o, e⟩ := f₁.own b ho; rw [hb] at e; cases e
  have hDfp : D ∉ fp := fun hm => by
    rcases ok.prot D hm with hw | hF
    · obtain ⟨o, vs, e, _⟩ := ok.fld 0 _ hst D hw
      exact (ltD D o e).1 rfl
    · exact (newρ D D1).2.1 hF
  have hCfp : C ∉ fp := fun hm => by
    rcases ok.prot C hm with hw | hF
    · obtain ⟨o, vs, e, _⟩ := ok.fld 0 _ hst C hw
      exact (ltD C o e).2 rfl
    · exact (newρ C C1).2.1 hF
  have hwfp : ∀ b ∈ wr, b ∈ fp := ok.walk.sub
  have hCw : C ∉ wr := fun h => hCfp (hwfp _ h)
  have hDw : D ∉ wr := fun h => hDfp (hwfp _ h)
  have hst₁ : St 0 h₁ := ok.walk.frame _ _ _ hst fun b _ o e => old b o e
  have hCells : ∀ z c, env.cells.lookup z = some c → c ≠ C := fun z c hz e => (newρ C C1).2.2.2 (.inr ⟨z, e ▸ hz⟩)
  -- what stands before turn i
  let Inv : Nat → Shared → Prop := fun k s' => ∃ i ρ' F' sto' acc items, k = xs.length + 1 - i ∧ i ≤ xs.length ∧ Step NoWr ρ₁ F₁ s₁ ρ' F' s' ∧ Base cx ρ' F' sto' s' ∧ (∃ m, s'.heap.Ns C m) ∧ St i s'.heap ∧
    s'.heap.PlainList D items ∧ VRels F' ρ' s'.heap acc items.toList ∧ acc.length ≤ i ∧ (∀ b, b = C ∨ b = D ∨ b ∈ wr → b ∉ ρ' ∧ ¬ F' b) ∧ CompS cx (relabelS scope sc) d x ifs elt loc (xs.drop i) acc sto' Q
  have fresh1 : ∀ b, b = C ∨ b = D ∨ b ∈ wr → s₁.heap.get? b = none := fun b hb => by
    rcases hb with rfl | rfl | hb
    · exact C1
    · exact D1
    · exact ok.fresh b hb
  have start : Inv (xs.length + 1) { s₁ with heap := h₁, toks := tk + ([] : List (Str × Value)).length } := by
    refine ⟨0, ρ₁, F₁, sto₁, [], #[], rfl, Nat.zero_le _, keepsStep oldest, B₁.keeps oldest, ⟨_, hns₁⟩, hst₁, hD1, by simp [VRels], Nat.le_refl _, fun b hb => ⟨(newρ b (fresh1 b hb)).1, (newρ b (fresh1 b hb)).2.1⟩, hcomp⟩
  have loop : ∀ s', Inv (xs.length + 1) s' → codeAny (model cx.prog cx.w) A (.compLoop (.ListComp elt [⟨.Name x px, iter, ifs, 0⟩] scope pos) 0 (.ref I) (.ref D) (compEnvC scope (closeGo env.cells scope.names []) C env))
      (compPost (model cx.prog cx.w) A (fun _ _ => False) use QQ (.ref D) C) s' := by
    intro s' hs'
    refine codeAny_compLoop_tests Inv ?_ (xs.length + 1) hs'
    rintro k s' ⟨i, ρ', F', sto', acc, items, rfl, hi, st', B', ⟨m', hn'⟩, hst', hl', hr', hacc, hwr, hc⟩
    have hall : ∀ b ∈ wr, b ∉ ρ' ∧ ¬ F' b ∧ cx.base.get? b = none := fun b hb => ⟨(hwr b (.inr (.inr hb))).1, (hwr b (.inr (.inr hb))).2, (newρ b (ok.fresh b hb)).2.2.1⟩
    by_cases hlt : i < xs.length
    · refine ok.walk.item i s' _ _ hlt hst' fun y h' tk' hP hst₂ hk₂ => ?_
      obtain ⟨v', hv', rv⟩ := ok.rel i y hlt hP
      have hgi : xs[i] = v' := by rw [List.getElem?_eq_getElem hlt] at hv'; exact Option.some.inj hv'
      rw [List.drop_eq_getElem_cons hlt, hgi] at hc
      unfold CompS at hc
      have st₂ : Step NoWr ρ₁ F₁ s₁ ρ' F' { s' with heap := h', toks := tk' } := st'.later hk₂ ok.fresh
      have B₂ := B'.later (t := tk') hk₂ hall
      have hn₂ : h'.Ns C m' := Ns.kept hn' fun o ho => ⟨o, hk₂ _ o hCw ho, .refl o⟩
      have hl₂ : h'.PlainList D items := by obtain ⟨n, ho⟩ := hl'; exact ⟨n, hk₂ _ _ hDw ho⟩
      have hr₂ : VRels F' ρ' h' acc items.toList := hr'.mono (fun _ x => x) (fun _ _ x => x) fun c o hc e _ => hk₂ c o (fun hm => (hall c hm).2.1 hc) e
      -- the variable
      have hxk : (compEnvC scope (closeGo env.cells scope.names []) C env).kindOf x = some .local := lookup_relabel_local hxl
      refine wpAny_assign_Name (wpAny_storeName_local hxk hn₂ (fun h₃ hn₃ hs₃ => ?_) (by show (scope.kind == .class || (scope.kind == .module && _)) = false; rw [hkind]; rfl))
      have hCnew := newρ C C1
      have hs₃ : Heap.SameBut C h' h₃ := hs₃
      have hn₃ : h₃.Ns C (fun z => if z = x then some y else m' z) := hn₃
      obtain ⟨o₃, ho₃, hd₃⟩ := Ns.obj hn₃
      have st₃ : Step NoWr ρ₁ F₁ s₁ ρ' F' { s' with heap := h₃, toks := tk' + 1 } := Step.later (wr := [C]) (s₁ := { s' with heap := h', toks := tk' }) (t := tk' + 1) st₂ (fun b o hb e => (hs₃.2 b (fun q => hb (List.mem_singleton.mpr q))).trans e) (fun b hb => by rw [List.mem_singleton.mp hb]; exact C1)
      have B₃ := B₂.sameBut (t := tk' + 1) hs₃ (hwr C (.inl rfl)).1 (hwr C (.inl rfl)).2 hCnew.2.2.1
      have hl₃ : h₃.PlainList D items := by obtain ⟨n, ho⟩ := hl₂; exact ⟨n, (hs₃.2 D (Ne.symm hCD)).trans ho⟩
      have hr₃ : VRels F' ρ' h₃ acc items.toList := hr₂.mono (fun _ x => x) (fun _ _ x => x) fun c o hc e _ => (hs₃.2 c (fun q => (hwr C (.inl rfl)).2 (q ▸ hc))).trans e
      have hst₃ : St (i + 1) h₃ := ok.walk.frame _ _ _ hst₂ fun b hb o e => (hs₃.2 b (fun q => hCfp (q ▸ hb))).trans e
      have fo₃ := f₁.step B₁ st₃
      have rv₃ := st₃.vrel B₁ noWrF rv
      have fi₃ := inner_frame (v := v') (y := y) hE hok h0 fo₃ hn₃ (by simp) rv₃ (hwr C (.inl rfl)).1 (hwr C (.inl rfl)).2 hCnew.2.2.1 hCells hfree
      have hE' := comp_env (scope := scope) (C := C) (cl := closeGo env.cells scope.names []) hE hkind hdot
      -- what an evaluation leaves of the loop's own
      have after : ∀ {ρ₄ F₄ s₄}, Step NoWr ρ' F' { s' with heap := h₃, toks := tk' + 1 } ρ₄ F₄ s₄ → (∃ m, s₄.heap.Ns C m) ∧ St (i + 1) s₄.heap ∧ s₄.heap.PlainList D items ∧ (∀ b, b = C ∨ b = D ∨ b ∈ wr → b ∉ ρ₄ ∧ ¬ F₄ b) := by
        intro ρ₄ F₄ s₄ st₄
        refine ⟨⟨_, Ns.kept hn₃ fun o ho => st₄.kept C o (hwr C (.inl rfl)).1 (fun h => h) ho⟩, ok.walk.frame _ _ _ hst₃ fun b hb o e => ?_, ?_, fun b hb => ?_⟩
        · have hb' : b ∉ ρ' := by
            rcases ok.prot b hb with h | h
            · exact (hwr b (.inr (.inr h))).1
            · exact B'.disj b (st'.sub b h)
          obtain ⟨o', e', k'⟩ := st₄.kept b o hb' (fun h => h) e
          rw [k'.same (ok.nd _ _ hst₃ b hb o e)] at e'
          exact e'
        · obtain ⟨n, ho⟩ := hl₃
          obtain ⟨o', e', k'⟩ := st₄.kept D _ (hwr D (.inr (.inl rfl))).1 (fun h => h) ho
          rw [k'.same (fun es n' q => by cases q)] at e'
          exact ⟨n, e'⟩
        · have hex : ∃ o, h₃.get? b = some o := by
            rcases hb with rfl | rfl | hb
            · exact ⟨o₃, ho₃⟩
            · obtain ⟨n, ho⟩ := hl₃; exact ⟨_, ho⟩
            · obtain ⟨o, _, e, _⟩ := ok.fld _ _ hst₃ b hb; exact ⟨o, e⟩
          obtain ⟨o, ho⟩ := hex
          refine ⟨fun h => ?_, fun h => ?_⟩
          · rcases st₄.newr b h with h | h
            · exact (hwr b hb).1 h
            · have h : h₃.get? b = none := h
              rw [h] at ho; cases ho
          · rcases st₄.newF b h with h | h
            · exact (hwr b hb).2 h
            · have h : h₃.get? b = none := h
              rw [h] at ho; cases ho
      refine wpAny_mono (tests_run hc hE' (hA₁.step st₃) B₃ fi₃) ?_ fun _ _ x => x.elim
      rintro b s₄ ⟨sto₄, ρ₄, F₄, st₄, B₄, h₄⟩
      obtain ⟨hn₄, hst₄, hl₄, hwr₄⟩ := after st₄
      have hr₄ := st₄.vrels B₃ noWrF hr₃
      cases b with
      | false =>
        simp only [Bool.false_eq_true, if_false] at h₄ ⊢
        exact ⟨xs.length + 1 - (i + 1), by omega, i + 1, ρ₄, F₄, sto₄, acc, items, rfl, hlt, st₃.trans st₄, B₄, hn₄, hst₄, hl₄, hr₄, by omega, hwr₄, h₄⟩
      | true =>
        simp only [if_true] at h₄ ⊢
        refine wpAny_mono (h₄ _ A s₄ ρ₄ F₄ hE' ((hA₁.step st₃).step st₄) B₄ (fi₃.step B₃ st₄)) ?_ fun _ _ x => x.elim
        rintro y' s₅ ⟨w, sto₅, ρ₅, F₅, st₅, r₅, B₅, h₅⟩
        obtain ⟨⟨m₅, hn₅⟩, hst₅, hl₅, hwr₅⟩ := after (st₄.trans st₅)
        have hr₅ := st₅.vrels B₄ noWrF hr₄
        have hsize : items.size ≤ sizeLine := by
          have : items.size = acc.length := by rw [← hr₅.length]; simp
          omega
        refine wpAny_list_append_plain hl₅ (fun h₆ hl₆ hs₆ => ?_) hsize
        have hDn := hwr₅ D (.inr (.inl rfl))
        have st₆ : Step NoWr ρ₁ F₁ s₁ ρ₅ F₅ { s₅ with heap := h₆ } := Step.later (wr := [D]) (t := s₅.toks) ((st₃.trans st₄).trans st₅) (fun b o hb e => (hs₆.2 b (fun q => hb (List.mem_singleton.mpr q))).trans e) (fun b hb => by rw [List.mem_singleton.mp hb]; exact D1)
        have B₆ : Base cx ρ₅ F₅ sto₅ { s₅ with heap := h₆ } := B₅.sameBut (t := s₅.toks) hs₆ hDn.1 hDn.2 (newρ D D1).2.2.1
        have vs₆ : ∀ {u z}, VRel F₅ ρ₅ s₅.heap u z → VRel F₅ ρ₅ h₆ u z := fun q => q.sameBut hs₆ hDn.2
        have hr₆ : VRels F₅ ρ₅ h₆ (acc ++ [w]) (items.push y').toList := by
          rw [Array.toList_push]
          refine VRels.append (hr₅.mono (fun _ x => x) (fun _ _ x => x) fun c o hc e _ => (hs₆.2 c (fun q => hDn.2 (q ▸ hc))).trans e) ?_
          simp only [VRels]
          exact ⟨y', [], rfl, vs₆ r₅, rfl⟩
        refine ⟨xs.length + 1 - (i + 1), by omega, i + 1, ρ₅, F₅, sto₅, acc ++ [w], items.push y', rfl, hlt, st₆, B₆, ⟨m₅, hn₅.sameBut hs₆ hCD⟩, ok.walk.frame _ _ _ hst₅ fun b hb o e => (hs₆.2 b (fun q => hDfp (q ▸ hb))).trans e, hl₆, hr₆, by simp; omega, hwr₅, h₅⟩
    · obtain rfl : i = xs.length := by omega
      refine ok.walk.done s' _ _ hst' fun h' tk' hk₂ => ?_
      rw [List.drop_length] at hc
      have st₂ : Step NoWr ρ₁ F₁ s₁ ρ' F' { s' with heap := h', toks := tk' } := st'.later hk₂ ok.fresh
      have B₂ := B'.later (t := tk') hk₂ hall
      have hn₂ : h'.Ns C m' := Ns.kept hn' fun o ho => ⟨o, hk₂ _ o hCw ho, .refl o⟩
      have hl₂ : h'.PlainList D items := by obtain ⟨n, ho⟩ := hl'; exact ⟨n, hk₂ _ _ hDw ho⟩
      have hr₂ : VRels F' ρ' h' acc items.toList := hr'.mono (fun _ x => x) (fun _ _ x => x) fun c o hc e _ => hk₂ c o (fun hm => (hall c hm).2.1 hc) e
      have back : ∀ b, s₁.heap.get? b = none → s.heap.get? b = none := fun b hb => by
        cases e : s.heap.get? b with
        | none => rfl
        | some o => obtain ⟨o', e', _⟩ := st₁.alive b o e; rw [hb] at e'; cases e'
      exact hend D C ρ' F' sto' acc items _ _ (st₁.trans st₂) B₂ hl₂ hr₂ (hwr D (.inr (.inl rfl))).1 (hwr D (.inr (.inl rfl))).2 (newρ D D1).2.2.1 (back D D1) ⟨m', hn₂⟩ (back C C1) (hwr C (.inl rfl)).1 (hwr C (.inl rfl)).2 (newρ C C1).2.2.1 hCD hc
  exact codeAny_compStart_list (loop _ start) (ok.walk.self 0 _ _ _ hst₁ (loop _ start))
end
end Mine

namespace Mine
section
variable {cx : Cx} {sc scope : Scope} {d : Nat} {loc : Loc} {sto : Sto} {ρ : List Addr} {F : Addr → Prop} {s : Shared} {env : Env} {x : Str}

/-- the end of a comprehension lets its own frame go -/
theorem Step.other {Wr : Addr → Prop} {ρ₁ : List Addr} {F₁ : Addr → Prop} {s₁ : Shared} {C : Addr} {h' : Heap} (st : Step Wr ρ F s ρ₁ F₁ s₁) (hs : Heap.SameBut C s₁.heap h') (hC : s.heap.get? C = none) : Step Wr ρ F s ρ₁ F₁ { s₁ with heap := h' } :=
  Step.later (wr := [C]) (t := s₁.toks) st (fun b o hb e => (hs.2 b (fun q => hb (List.mem_singleton.mpr q))).trans e) (fun b hb => by rw [List.mem_singleton.mp hb]; exact hC)
theorem Frame.other {C : Addr} {h' : Heap} (f : Frame cx env ρ F loc s) (hs : Heap.SameBut C s.heap h') (h1 : ¬ Own env C) (h2 : ¬ F C) : Frame cx env ρ F loc { s with heap := h' } :=
  f.later (wr := [C]) (t := s.toks) (fun b o hb e => (hs.2 b (fun q => hb (List.mem_singleton.mpr q))).trans e) (fun b hb => by rw [List.mem_singleton.mp hb]; exact ⟨h1, h2⟩)

theorem wen_comp {elt iter : Expr} {ifs : List Expr} {px pos : Pos} {Q : List V → Sto → Prop}
    (h : WE cx sc d iter loc sto fun a sto₁ => ∃ xs, xs.length ≤ sizeLine ∧ ItV cx a sto₁ xs ∧ CompS cx (relabelS scope sc) d x ifs elt loc xs [] sto₁ Q)
    (hok : compOK scope sc x = true := by rfl) (h0 : loc.lookup (".0" : Str) = none := by rfl) (hs : noSet iter = true := by rfl) :
    WEN cx sc d (.ListComp elt [⟨.Name x px, iter, ifs, 0⟩] scope pos) loc sto Q := by
  intro env A s ρ F hE hA B f
  rw [eval_ListComp]
  refine comp_run hok h0 hs h hE hA B f ?_
  rintro D C ρ' F' sto' vs items s' fl st' B' hl hr d1 d2 d3 d4 ⟨m, hn⟩ c1 c2 c3 c4 hCD q
  refine ⟨m, hn, fun h' hs' => ?_⟩
  refine ⟨vs, sto', ρ', F', D, items, rfl, st'.other hs' c1, ?_, ?_, d1, d2, d3, d4, B'.sameBut (t := s'.toks) hs' c2 c3 c4, q⟩
  · obtain ⟨n, ho⟩ := hl; exact ⟨n, (hs'.2 D (Ne.symm hCD)).trans ho⟩
  · exact hr.mono (fun _ x => x) (fun _ _ x => x) fun c o hc e _ => (hs'.2 c (fun q => c3 (q ▸ hc))).trans e

theorem track_frame (f : Frame cx env ρ F loc s) (a : Addr) (ha : ∀ b, Own env b → b ≠ a) : Frame cx env (ρ ++ [a]) F loc s := by
  have mono : ∀ {v : V} {z : Value}, VRel F ρ s.heap v z → VRel F (ρ ++ [a]) s.heap v z := fun q => q.mono (fun _ x => x) (fun n c e => by
    rw [List.getElem?_append_left (List.getElem?_eq_some_iff.mp e).1]; exact e) fun _ _ _ e _ => e
  refine ⟨?_, fun x v q1 q2 => ?_, f.cells, f.apart, fun b hb => ?_, f.lc⟩
  · obtain ⟨m, hn, hm⟩ := f.ns
    exact ⟨m, hn, fun x v q1 q2 => let ⟨y, e, q⟩ := hm x v q1 q2; ⟨y, e, mono q⟩⟩
  · obtain ⟨c, y, e, hc, q⟩ := f.cell x v q1 q2
    exact ⟨c, y, e, hc, mono q⟩
  · obtain ⟨o1, o2, o3, o, ho⟩ := f.own b hb
    refine ⟨fun hm => ?_, o2, o3, o, ho⟩
    rcases List.mem_append.mp hm with hm | hm
    · exact o1 hm
    · exact ha b hb (List.mem_singleton.mp hm)
/-- a new list, tracked -/
theorem PostN.track {s' : Shared} {Q : List V → Sto → Prop} {x : Value} (f : Frame cx env ρ F loc s) (B : Base cx ρ F sto s) (h : PostN cx ρ F s Q x s') :
    ∃ vs sto' ρ' F', Step (Own env) ρ F s ρ' F' s' ∧ Base cx ρ' F' (sto' ++ [vs]) s' ∧ Frame cx env ρ' F' loc s' ∧ VRel F' ρ' s'.heap (.obj sto'.length) x ∧ Q vs sto' := by
  obtain ⟨vs, sto₁, ρ₁, F₁, a, items, rfl, st₁, hl, r, h1, h2, h3, h4, B₁, h₁⟩ := h
  have f₁ := f.step B st₁
  have B₂ := Mine.track B₁ hl r h1 h2 h3
  refine ⟨vs, sto₁, ρ₁ ++ [a], F₁, ?_, B₂, ?_, ?_, h₁⟩
  · refine ⟨?_, st₁.sub, fun b hb => ?_, st₁.newF, fun b o h1 h2 e => st₁.kept b o h1 (fun h => h) e, st₁.alive⟩
    · obtain ⟨t, rfl⟩ := st₁.pre; exact ⟨t ++ [a], by simp⟩
    · rcases List.mem_append.mp hb with hb | hb
      · exact st₁.newr b hb
      · rw [List.mem_singleton.mp hb]; exact .inr h4
  · have mono : ∀ {v : V} {z : Value}, VRel F₁ ρ₁ s'.heap v z → VRel F₁ (ρ₁ ++ [a]) s'.heap v z := fun q => q.mono (fun _ x => x) (fun n c e => by
      rw [List.getElem?_append_left (List.getElem?_eq_some_iff.mp e).1]; exact e) fun _ _ _ e _ => e
    refine ⟨?_, fun x v q1 q2 => ?_, f₁.cells, f₁.apart, fun b hb => ?_, f₁.lc⟩
    · obtain ⟨m, hn, hm⟩ := f₁.ns
      exact ⟨m, hn, fun x v q1 q2 => let ⟨y, e, q⟩ := hm x v q1 q2; ⟨y, e, mono q⟩⟩
    · obtain ⟨c, y, e, hc, q⟩ := f₁.cell x v q1 q2
      exact ⟨c, y, e, hc, mono q⟩
    · obtain ⟨o1, o2, o3, o, ho⟩ := f₁.own b hb
      refine ⟨fun hm => ?_, o2, o3, o, ho⟩
      rcases List.mem_append.mp hm with hm | hm
      · exact o1 hm
      · obtain ⟨_, _, _, o', ho'⟩ := f.own b hb
        rw [List.mem_singleton.mp hm, h4] at ho'; cases ho'
  · simp only [VRel]
    exact ⟨a, by rw [← B₁.len]; simp, rfl⟩

/-- storing, when a frame of a comprehension is still to be let go -/
theorem store_then {y : Str} {v : V} {z : Value} {A : Around} {C : Addr} {m : Str → Option Value} {ρ' : List Addr} {F' : Addr → Prop} {s' : Shared} {sto' : Sto} {Q : Fl → Loc → Sto → Prop} (hE : EnvOK sc env A) (st' : Step (Own env) ρ F s ρ' F' s')
    (B' : Base cx ρ' F' sto' s') (f' : Frame cx env ρ' F' loc s') (r : VRel F' ρ' s'.heap v z) (hk : isVar sc y = true) (hn : s'.heap.Ns C m) (c1 : s.heap.get? C = none) (c2 : C ∉ ρ') (c3 : ¬ F' C) (c4 : cx.base.get? C = none) (c5 : ¬ Own env C)
    (q : Q .next ((y, v) :: loc) sto') :
    wpAny (model cx.prog cx.w) A (assign (.Name y p) env z) (fun _ s'' => ∃ m, s''.heap.Ns C m ∧ ∀ h', Heap.SameBut C s''.heap h' → PostS cx env ρ F s Q .next { s'' with heap := h' }) (fun _ _ => False) s' := by
  refine wpAny_assign_Name (store_var hE B' f' r hk fun s₃ st₃ B₃ f₃ => ?_)
  refine ⟨m, Ns.kept hn fun o ho => st₃.kept C o c2 c5 ho, fun h' hs' => ?_⟩
  exact ⟨.next, _, sto', ρ', F', (st'.trans st₃).other hs' c1, rfl, B₃.sameBut (t := s₃.toks) hs' c2 c3 c4, f₃.other hs' c5 c3, q⟩

theorem swaps_comp {elt : Expr} {gens : List Comprehension} {pos : Pos} {y : Str} {p : Pos} {n : Nat} : ∃ b, swapsWith (.ListComp elt gens scope pos) (some (.Name y p)) n env = pure b := ⟨_, rfl⟩

theorem ws_assign_comp {y : Str} {elt iter : Expr} {ifs : List Expr} {px pos p spos : Pos} {Q : Fl → Loc → Sto → Prop}
    (h : WE cx sc d iter loc sto fun a sto₁ => ∃ xs, xs.length ≤ sizeLine ∧ ItV cx a sto₁ xs ∧ CompS cx (relabelS scope sc) d x ifs elt loc xs [] sto₁ fun vs sto₂ => Q .next ((y, .lst vs) :: loc) sto₂)
    (hk : isVar sc y = true := by rfl) (hok : compOK scope sc x = true := by rfl) (h0 : loc.lookup (".0" : Str) = none := by rfl) (hs : noSet iter = true := by rfl) :
    WS cx sc d (.Assign [.Name y p] (.ListComp elt [⟨.Name x px, iter, ifs, 0⟩] scope pos) spos) loc sto Q := by
  intro env A s ρ F hE hA B f
  obtain ⟨b, hb⟩ := swaps_comp (env := env) (elt := elt) (gens := [⟨.Name x px, iter, ifs, 0⟩]) (scope := scope) (pos := pos) (y := y) (p := p) (n := spos.line)
  cases b with
  | false =>
    have hw : WE cx sc d (.ListComp elt [⟨.Name x px, iter, ifs, 0⟩] scope pos) loc sto fun v sto₂ => Q .next ((y, v) :: loc) sto₂ := WEN.data (wen_comp h hok h0 hs)
    refine wpAny_Assign_Name (wpAny_mono (hw env A s ρ F hE hA B f) ?_ fun _ _ x => x) hb
    rintro z s₁ ⟨v, sto₁, ρ₁, F₁, st₁, r₁, B₁, h₁⟩
    exact store_var hE B₁ (f.step B st₁) r₁ hk fun s₂ st₂ B₂ f₂ => ⟨.next, _, sto₁, ρ₁, F₁, st₁.own.trans st₂, rfl, B₂, f₂, h₁⟩
  | true =>
    rw [exec_Assign_Name_used _ _ _ _ hb]
    refine wpAny_bind (wpAny_standAt (wpAny_bind ?_))
    show wpAny _ A (do let _ ← comprehension (.ListComp elt [⟨.Name x px, iter, ifs, 0⟩] scope pos) scope env _ (newList []) false (eval iter env) (some (assign (.Name y p) env))) _ _ s
    refine wpAny_bind (comp_run (QQ := fun _ s' => wpAny (model cx.prog cx.w) A (pure () : Sem Unit) (fun _ s₁ => wpAny (model cx.prog cx.w) A (pure Flow.next : Sem Flow) (PostS cx env ρ F s Q) (fun _ _ => False) s₁) (fun _ _ => False) s') hok h0 hs h hE hA B f ?_)
    rintro D C ρ' F' sto' vs items s' fl st' B' hl hr d1 d2 d3 d4 ⟨m, hn⟩ c1 c2 c3 c4 hCD q
    have c5 : ¬ Own env C := fun ho => by obtain ⟨_, _, _, o, e⟩ := f.own C ho; rw [c1] at e; cases e
    obtain ⟨st₂, r₂, B₂⟩ := newData st' hl.isList hr d1 d4 B'
    refine wpAny_mono (store_then (Q := Q) hE st₂.own B₂ (f.step B st₂) r₂ hk hn c1 c2 (fun h => h.elim c3 hCD) c4 c5 q) ?_ fun _ _ x => x
    rintro _ s'' ⟨m'', hn'', h''⟩
    exact ⟨m'', hn'', fun h' hs' => wpAny_pure (wpAny_pure (h'' h' hs'))⟩
theorem ws_assign_comp_new {y : Str} {elt iter : Expr} {ifs : List Expr} {px pos p spos : Pos} {Q : Fl → Loc → Sto → Prop}
    (h : WE cx sc d iter loc sto fun a sto₁ => ∃ xs, xs.length ≤ sizeLine ∧ ItV cx a sto₁ xs ∧ CompS cx (relabelS scope sc) d x ifs elt loc xs [] sto₁ fun vs sto₂ => Q .next ((y, .obj sto₂.length) :: loc) (sto₂ ++ [vs]))
    (hk : isVar sc y = true := by rfl) (hok : compOK scope sc x = true := by rfl) (h0 : loc.lookup (".0" : Str) = none := by rfl) (hs : noSet iter = true := by rfl) :
    WS cx sc d (.Assign [.Name y p] (.ListComp elt [⟨.Name x px, iter, ifs, 0⟩] scope pos) spos) loc sto Q := by
  intro env A s ρ F hE hA B f
  obtain ⟨b, hb⟩ := swaps_comp (env := env) (elt := elt) (gens := [⟨.Name x px, iter, ifs, 0⟩]) (scope := scope) (pos := pos) (y := y) (p := p) (n := spos.line)
  cases b with
  | false =>
    refine wpAny_Assign_Name (wpAny_mono (wen_comp h hok h0 hs env A s ρ F hE hA B f) ?_ fun _ _ x => x) hb
    intro z s₁ hz
    obtain ⟨vs, sto₁, ρ₁, F₁, st₁, B₁, f₁, r₁, h₁⟩ := hz.track f B
    exact store_var hE B₁ f₁ r₁ hk fun s₂ st₂ B₂ f₂ => ⟨.next, _, _, ρ₁, F₁, st₁.trans st₂, rfl, B₂, f₂, h₁⟩
  | true =>
    rw [exec_Assign_Name_used _ _ _ _ hb]
    refine wpAny_bind (wpAny_standAt (wpAny_bind ?_))
    show wpAny _ A (do let _ ← comprehension (.ListComp elt [⟨.Name x px, iter, ifs, 0⟩] scope pos) scope env _ (newList []) false (eval iter env) (some (assign (.Name y p) env))) _ _ s
    refine wpAny_bind (comp_run (QQ := fun _ s' => wpAny (model cx.prog cx.w) A (pure () : Sem Unit) (fun _ s₁ => wpAny (model cx.prog cx.w) A (pure Flow.next : Sem Flow) (PostS cx env ρ F s Q) (fun _ _ => False) s₁) (fun _ _ => False) s') hok h0 hs h hE hA B f ?_)
    rintro D C ρ' F' sto' vs items s' fl st' B' hl hr d1 d2 d3 d4 ⟨m, hn⟩ c1 c2 c3 c4 hCD q
    have c5 : ¬ Own env C := fun ho => by obtain ⟨_, _, _, o, e⟩ := f.own C ho; rw [c1] at e; cases e
    have f' := f.step B st'
    have B₂ := track B' hl hr d1 d2 d3
    have st₂ : Step (Own env) ρ F s (ρ' ++ [D]) F' s' := by
      refine ⟨?_, st'.sub, fun b hb => ?_, st'.newF, fun b o h1 h2 e => st'.kept b o h1 (fun h => h) e, st'.alive⟩
      · obtain ⟨t, rfl⟩ := st'.pre; exact ⟨t ++ [D], by simp⟩
      · rcases List.mem_append.mp hb with hb | hb
        · exact st'.newr b hb
        · rw [List.mem_singleton.mp hb]; exact .inr d4
    have f₂ := track_frame f' D (fun b hb e => by obtain ⟨_, _, _, o, ho⟩ := f.own b hb; rw [e, d4] at ho; cases ho)
    refine wpAny_mono (store_then (Q := Q) (v := .obj sto'.length) hE st₂ B₂ f₂ (by simp only [VRel]; exact ⟨D, by rw [← B'.len]; simp, rfl⟩) hk hn c1 (fun hm => by
      rcases List.mem_append.mp hm with hm | hm
      · exact c2 hm
      · exact hCD (List.mem_singleton.mp hm)) c3 c4 c5 q) ?_ fun _ _ x => x
    rintro _ s'' ⟨m'', hn'', h''⟩
    exact ⟨m'', hn'', fun h' hs' => wpAny_pure (wpAny_pure (h'' h' hs'))⟩
end

section
variable {cx : Cx} {sc scope : Scope} {d : Nat} {loc : Loc} {sto : Sto} {rest : List Stmt} {Q : Fl → Loc → Sto → Prop} {x y : Str} {elt iter : Expr} {ifs : List Expr} {px pos p spos : Pos}
theorem s_comp (h : WE cx sc d iter loc sto fun a sto₁ => ∃ xs, xs.length ≤ sizeLine ∧ ItV cx a sto₁ xs ∧ CompS cx (relabelS scope sc) d x ifs elt loc xs [] sto₁ fun vs sto₂ => WSs cx sc d rest ((y, .lst vs) :: loc) sto₂ Q)
    (hk : isVar sc y = true := by rfl) (hok : compOK scope sc x = true := by rfl) (h0 : loc.lookup (".0" : Str) = none := by rfl) (hs : noSet iter = true := by rfl) :
    WSs cx sc d (.Assign [.Name y p] (.ListComp elt [⟨.Name x px, iter, ifs, 0⟩] scope pos) spos :: rest) loc sto Q := ss_cons (ws_assign_comp h hk hok h0 hs)
theorem s_comp_new (h : WE cx sc d iter loc sto fun a sto₁ => ∃ xs, xs.length ≤ sizeLine ∧ ItV cx a sto₁ xs ∧ CompS cx (relabelS scope sc) d x ifs elt loc xs [] sto₁ fun vs sto₂ => WSs cx sc d rest ((y, .obj sto₂.length) :: loc) (sto₂ ++ [vs]) Q)
    (hk : isVar sc y = true := by rfl) (hok : compOK scope sc x = true := by rfl) (h0 : loc.lookup (".0" : Str) = none := by rfl) (hs : noSet iter = true := by rfl) :
    WSs cx sc d (.Assign [.Name y p] (.ListComp elt [⟨.Name x px, iter, ifs, 0⟩] scope pos) spos :: rest) loc sto Q := ss_cons (ws_assign_comp_new h hk hok h0 hs)

theorem TestS.mono {ifs : List Expr} {Q Q' : Bool → Sto → Prop} (h : TestS cx sc d ifs loc sto Q) (q : ∀ b st, Q b st → Q' b st) : TestS cx sc d ifs loc sto Q' := by
  match ifs, h with
  | [], h => exact q _ _ h
  | [c], h => exact WT.mono h q

/-- a comprehension by what holds before turn i -/
theorem CompS.at {Q : List V → Sto → Prop} (xs : List V) (I : Nat → List V → Sto → Prop)
    (hstep : ∀ i v acc sto, xs[i]? = some v → I i acc sto → TestS cx sc d ifs ((x, v) :: loc) sto fun b sto₁ => if b = true then WE cx sc d elt ((x, v) :: loc) sto₁ fun w sto₂ => I (i + 1) (acc ++ [w]) sto₂ else I (i + 1) acc sto₁)
    (hend : ∀ acc sto, I xs.length acc sto → Q acc sto) (h0 : I 0 [] sto) : CompS cx sc d x ifs elt loc xs [] sto Q := by
  have key : ∀ (k : Nat) (ys : List V), ys = xs.drop k → k ≤ xs.length → ∀ acc sto, I k acc sto → CompS cx sc d x ifs elt loc ys acc sto Q := by
    intro k ys
    induction ys generalizing k with
    | nil =>
      intro e hk acc sto h
      have : k = xs.length := by
        have := congrArg List.length e
        simp at this; omega
      subst this
      exact hend _ _ h
    | cons y ys ih =>
      intro e hk acc sto h
      have hk' : k < xs.length := by
        have := congrArg List.length e
        simp at this; omega
      rw [List.drop_eq_getElem_cons hk'] at e
      obtain ⟨rfl, e2⟩ := List.cons.inj e
      unfold CompS
      refine (hstep k xs[k] acc sto (List.getElem?_eq_getElem hk') h).mono fun b st q => ?_
      cases b with
      | true => simp only [if_true] at q ⊢; exact q.mono fun w st₂ q₂ => ih (k + 1) e2 hk' _ _ q₂
      | false => simp only [Bool.false_eq_true, if_false] at q ⊢; exact ih (k + 1) e2 hk' _ _ q
  exact key 0 xs (by simp) (Nat.zero_le _) [] sto h0
/-- over range(a, b), no test: the elements one by one -/
theorem CompS.up {Q : List V → Sto → Prop} {a b : Int} (I : Nat → List V → Sto → Prop)
    (hstep : ∀ (i : Nat) acc sto, a + i < b → I i acc sto → WE cx sc d elt ((x, .int (a + i)) :: loc) sto fun w sto₂ => I (i + 1) (acc ++ [w]) sto₂)
    (hend : ∀ acc sto, I (b - a).toNat acc sto → Q acc sto) (h0 : I 0 [] sto) : CompS cx sc d x [] elt loc (rngV a b 1) [] sto Q := by
  refine CompS.at _ I (fun i v acc sto hv h => ?_) (fun acc sto h => hend acc sto (by rwa [rngV_length] at h)) h0
  obtain ⟨rfl, hlt⟩ := rngV_get hv
  exact hstep i acc sto hlt h
/-- a pure comprehension: the elements are f of the turn's number -/
theorem CompS.map {Q : List V → Sto → Prop} {a b : Int} (g : Nat → V) (h : ∀ i : Nat, a + i < b → ∀ R : V → Sto → Prop, R (g i) sto → WE cx sc d elt ((x, .int (a + i)) :: loc) sto R)
    (hend : Q ((List.range (b - a).toNat).map g) sto) : CompS cx sc d x [] elt loc (rngV a b 1) [] sto Q := by
  refine CompS.up (fun i acc st => st = sto ∧ acc = (List.range i).map g) ?_ ?_ ⟨rfl, rfl⟩
  · rintro i acc st hi ⟨rfl, rfl⟩
    exact h i hi _ ⟨rfl, by rw [List.range_succ, List.map_append]; rfl⟩
  · rintro acc st ⟨rfl, rfl⟩
    exact hend
end
end Mine

namespace Mine

/-! exceptions that a def raises and its caller's own try takes -/
def SeenBy (cx : Cx) (B : Heap) (s : Shared) : Prop :=
  (∀ b o, s.heap.get? b = some o → B.get? b = some o ∨ ∃ es n, o.data = .dict es n) ∧ ∀ b o, cx.base.get? b = some o → B.get? b = some o
def Raised (cx : Cx) (A : Around) (s : Shared) (cls : String) (e : Value) (s' : Shared) : Prop :=
  ∃ ea a0 B outer, e = .ref ea ∧ A.frames = some outer ∧ Heap.FlyingW B outer ea (.type cls) a0 s'.heap ∧ SeenBy cx B s ∧ s.heap.UpToSlots s'.heap ∧ s'.gens = s.gens ∧ s'.os = s.os

section
variable {cx : Cx} {sc : Scope} {d : Nat} {loc : Loc} {sto : Sto} {ρ : List Addr} {F : Addr → Prop} {s s' : Shared} {env : Env}

theorem seen_kept {B h' : Heap} (g : SeenBy cx B s) (hB : B.StaysIn h') (hu : s.heap.UpToSlots h') {b : Addr} {o : Obj} (e : s.heap.get? b = some o) : ∃ o', h'.get? b = some o' ∧ Kept1 o o' := by
  rcases g.1 b o e with q | ⟨es, n, q⟩
  · exact ⟨o, hB b o q, .refl o⟩
  · obtain ⟨sl, e'⟩ := hu b o e (fun vs q' => by rw [q] at q'; cases q')
    exact ⟨_, e', .inr ⟨⟨es, n, q⟩, sl, rfl⟩⟩
theorem seen_back {B : Heap} (b : Base cx ρ F sto s) (g : SeenBy cx B s) (hB : B.StaysIn s'.heap) (hu : s.heap.UpToSlots s'.heap) (h1 : s'.gens = s.gens) (h2 : s'.os = s.os) : Step NoWr ρ F s ρ F s' ∧ Base cx ρ F sto s' := by
  have exact' : ∀ a o, s.heap.get? a = some o → (∀ es n, o.data ≠ .dict es n) → s'.heap.get? a = some o := fun a o e hd => by
    obtain ⟨o', e', k⟩ := seen_kept g hB hu e
    rw [k.same hd] at e'; exact e'
  refine ⟨⟨⟨[], by simp⟩, fun _ h => h, fun _ h => .inl h, fun _ h => .inl h, fun c o _ _ e => seen_kept g hB hu e, fun c o e => ?_⟩,
    ⟨fun c o e => hB c o (g.2 c o e), b.rnew, b.nodup, b.len, fun i a vs e1 e2 => ?_, b.disj, fun a ha => ?_, h1.trans b.gens, h2.trans b.os⟩⟩
  · obtain ⟨o', e', k⟩ := seen_kept g hB hu e
    exact ⟨o', e', fun h vs q => h vs (k.data ▸ q), fun h => by rw [k.data]; exact h⟩
  · obtain ⟨items, ⟨n, ho⟩, r⟩ := b.objs i a vs e1 e2
    exact ⟨items, ⟨n, exact' a _ ho (fun es n q => by cases q)⟩, r.mono (fun _ x => x) (fun _ _ x => x) fun c o _ e hd => exact' c o e hd⟩
  · obtain ⟨o, ho⟩ := b.live a ha
    obtain ⟨o', e', _⟩ := seen_kept g hB hu ho
    exact ⟨o', e'⟩
end

/-- an operation that raises -/
def Op2X (cx : Cx) (d : Nat) (t : Value → Value → Sem Value) (a b : V) (sto : Sto) (cls : String) : Prop :=
  ∀ A s ρ F x y, AOK cx d A s.heap → Base cx ρ F sto s → VRel F ρ s.heap a x → VRel F ρ s.heap b y →
    wpAny (model cx.prog cx.w) A (t x y) (fun _ _ => False) (fun e s' => ∃ ea h' tk, e = .ref ea ∧ s' = { s with heap := h', toks := tk } ∧ Heap.NewExc s.heap h' ea cls) s
def NX (cx : Cx) (sc : Scope) (d : Nat) (body : List Stmt) (loc : Loc) (sto : Sto) (cls : String) : Prop :=
  ∀ env A s ρ F, EnvOK sc env A → AOK cx d A s.heap → Base cx ρ F sto s → Frame cx env ρ F loc s →
    wpAny (model cx.prog cx.w) A (execs body env) (fun _ _ => False) (fun e s' => ∃ ea h' tk, e = .ref ea ∧ s' = { s with heap := h', toks := tk } ∧ Heap.NewExc s.heap h' ea cls) s
def CallX (cx : Cx) (d : Nat) (f : Str) (args : List V) (sto : Sto) (cls : String) : Prop :=
  ∃ a o fd, cx.mg f = some (.ref a) ∧ cx.base.get? a = some o ∧ o.data = .func fd ∧ ∀ A s ρ F xs, AOK cx d A s.heap → Base cx ρ F sto s → VRels F ρ s.heap args xs →
    wpAny (model cx.prog cx.w) A (call (.ref a) xs) (fun _ _ => False) (Raised cx A s cls) s
def XE (cx : Cx) (sc : Scope) (d : Nat) (e : Expr) (loc : Loc) (sto : Sto) (cls : String) (Q : Sto → Prop) : Prop :=
  ∀ env A s ρ F, EnvOK sc env A → AOK cx d A s.heap → Base cx ρ F sto s → Frame cx env ρ F loc s →
    wpAny (model cx.prog cx.w) A (eval e env) (fun _ _ => False) (fun e s' => ∃ sto₁ ρ₁ F₁ s₁, Step NoWr ρ F s ρ₁ F₁ s₁ ∧ Base cx ρ₁ F₁ sto₁ s₁ ∧ Raised cx A s₁ cls e s' ∧ Q sto₁) s

section
variable {cx : Cx} {sc : Scope} {d : Nat} {loc : Loc} {sto : Sto}

/-- «a op= b» raises -/
theorem nx_aug {x y : Str} {v w : V} {op : Operator} {p q pos : Pos} {rest : List Stmt} {cls : String} (hv : loc.lookup x = some v) (hw : loc.lookup y = some w) (h : Op2X cx d (inplaceOp op) v w sto cls)
    (hk : isVar sc x = true := by rfl) (hk' : isVar sc y = true := by rfl) (hd : (y == ("__debug__" : Str)) = false := by decide) : NX cx sc d (.AugAssign (.Name x p) op (.Name y q) pos :: rest) loc sto cls := by
  intro env A s ρ F hE hA B f
  refine wpAny_execs_cons (wpAny_AugAssign_Name (load_var hE f hv hk fun z r => wpAny_Name (load_var hE f hw hk' fun z' r' => ?_) hd))
  exact wpAny_mono (h A s ρ F z z' hA B r r') (fun _ _ x => x.elim) fun _ _ x => x

theorem callX_def {f : Str} {params : Arguments} {body : List Stmt} {scope : Scope} {args : List V} {names : List Str} {cls : String} (hf : FnIs cx f params body scope)
    (h : NX cx scope d body (names.zip args) sto cls)
    (hb : ∀ pm cd doc xs, xs.length = args.length → bindArgs (Calls.docDef f params body scope pm cd doc) ⟨xs, []⟩ = pure (names.zip xs))
    (hn : names.Nodup := by decide) (hv : (names.all fun x => isVar scope x) = true := by rfl) (hco : scope.isCoroutine = false := by rfl) (hgen : scope.isGenerator = false := by rfl) (hk : scope.kind = .function := by rfl) :
    CallX cx (d + 1) f args sto cls := by
  obtain ⟨a, o, pm, code, doc, e1, e2, e3, e4⟩ := hf.at'
  refine ⟨a, o, _, e1, e2, e3, ?_⟩
  intro A s ρ F xs hA B r
  have hlen := r.length
  refine wpAny_call (codeAny_call_cells (binds := names.zip xs) (body := body) (by have := hA.depth; omega) (B.stays _ _ e2) e3 (cx.top.nolimit.keeps B.stays) (e4.keeps B.stays) rfl (hb pm code doc xs hlen) rfl ?_ ?_ hco hgen hk)
  · intro x hx
    have hx1 : x.1 ∈ names := (List.of_mem_zip (show (x.1, x.2) ∈ names.zip xs from hx)).1
    have hv1 := List.all_eq_true.mp hv x.1 hx1
    unfold isVar at hv1
    split at hv1
    · rename_i hl; exact .inl hl
    · rename_i hl
      exact .inr ⟨hl, lookup_isSome_of_mem (cellsFrom_mem (.inr (mem_of_lookup hl)))⟩
    · cases hv1
  intro s₁ hin
  have hL : (callEnvC (Calls.docDef f params body scope pm code doc) s.heap.objs.size a).locals = s.heap.objs.size := rfl
  have hsc : (callEnvC (Calls.docDef f params body scope pm code doc) s.heap.objs.size a).scope = scope := rfl
  have hfr : (callEnvC (Calls.docDef f params body scope pm code doc) s.heap.objs.size a).frame = some s.heap.objs.size := rfl
  have hgl : (callEnvC (Calls.docDef f params body scope pm code doc) s.heap.objs.size a).globals = mainGlobals := rfl
  have hbl : (callEnvC (Calls.docDef f params body scope pm code doc) s.heap.objs.size a).builtins = builtinsNs := rfl
  have hcs : (callEnvC (Calls.docDef f params body scope pm code doc) s.heap.objs.size a).cells = cellsFrom (s.heap.objs.size + 1) scope.names [] := rfl
  have hco' : (callEnvC (Calls.docDef f params body scope pm code doc) s.heap.objs.size a).code = code := rfl
  generalize callEnvC (Calls.docDef f params body scope pm code doc) s.heap.objs.size a = env at *
  obtain ⟨hE, hA₁, st₁, B₁, f₁, ownNew⟩ := enter_def hA B r hL hsc hfr hgl hbl hcs hin hn hk (by obtain ⟨c, o, vs, t, q1, q2, q3, _⟩ := e4; exact ⟨c, o, vs, hco'.trans q1, q2, q3⟩)
  obtain ⟨h₁, tk₁, hs₁⟩ := hin.toInCall.same
  have keep := hin.toInCall.keep
  refine wpAny_mono (h env (A.deeper env) s₁ ρ F hE hA₁ B₁ f₁) (fun _ _ x => x.elim) ?_
  rintro e s₂ ⟨ea, h₂, tk₂, rfl, rfl, hx⟩
  obtain ⟨outer, ho, hff, hdd⟩ := hA.frames
  have hfrs : (A.deeper env).frames = some (env :: outer) := by show A.frames.map (env :: ·) = _; rw [ho]; rfl
  obtain ⟨outer', ho', hff', hdd'⟩ := hA₁.frames
  rw [hfrs] at ho'; cases ho'
  -- all but the frames
  have hin' : ∀ en ∈ (env :: outer), ∀ b, en.frame = some b → b ∈ (env :: outer).filterMap (·.frame) := fun en he b hb => List.mem_filterMap.mpr ⟨en, he, hb⟩
  generalize hBd : hideAll s₁.heap ((env :: outer).filterMap (·.frame)) = Bh
  have hBs : Bh.StaysIn s₁.heap := fun b o q => by rw [← hBd] at q; exact of_hideAll _ q
  have hFB : s₁.heap.FunFrames Bh (env :: outer) := by rw [← hBd]; exact funFrames_hide hff' hin'
  obtain ⟨ob, tp, he, hcls, hd⟩ := hx.there
  have hen : Bh.get? ea = none := by
    cases q : Bh.get? ea with
    | none => rfl
    | some o' => have := hBs _ _ q; rw [hx.new] at this; cases this
  refine wpAny_leaving_firstW (base := Bh) (a0 := tp) hfrs (hFB.of_keeps fun b o hb _ => ⟨o, hx.keeps b o hb, rfl⟩) (by rw [hfr]) he (fun b o hb => hx.keeps b o (hBs b o hb)) hen hd rfl rfl fun h' hLW => ?_
  obtain ⟨k1, ⟨_, _, k2⟩, k3, k4⟩ := hLW
  refine ⟨ea, tp, Bh, outer, rfl, ho, ⟨k1, hen, k2, by rw [← hcls]; exact k3⟩, ⟨fun b o e => ?_, fun b o e => ?_⟩, ?_, by rw [hs₁], by rw [hs₁]⟩
  · by_cases hm : b ∈ (env :: outer).filterMap (·.frame)
    · obtain ⟨en, he', hf'⟩ := List.mem_filterMap.mp hm
      rcases List.mem_cons.mp he' with rfl | he'
      · exfalso
        rw [hfr] at hf'; cases hf'
        have := ownNew en.locals (.inl rfl)
        rw [hL, e] at this; cases this
      · obtain ⟨o', es, n, e', d'⟩ := hdd en he' b hf'
        rw [e] at e'; cases e'
        exact .inr ⟨es, n, d'⟩
    · exact .inl (by rw [← hBd]; exact hideAll_get _ (keep b o e) hm)
  · rw [← hBd]
    refine hideAll_get _ (B₁.stays b o e) fun hm => ?_
    rw [(hff'.mem hm).1] at e; cases e
  · refine Heap.UpToSlots.trans (Heap.UpToSlots.of_keeps fun b o e => ?_) k4
    exact hx.keeps b o (keep b o e)

theorem xe_call {f : Str} {p pos : Pos} {e : Expr} {es : List Expr} {cls : String} {Q : Sto → Prop} (h : WEs cx sc d (e :: es) loc sto fun vs sto₁ => CallX cx d f vs sto₁ cls ∧ Q sto₁)
    (hne : (∃ a o fd, cx.mg f = some (.ref a) ∧ cx.base.get? a = some o ∧ o.data = .func fd)) (hg : isGlob sc f = true := by rfl) (hd : (f == ("__debug__" : Str)) = false := by decide) (hs : noStars (e :: es) = true := by rfl) :
    XE cx sc d (.Call (.Name f p) (e :: es) [] pos) loc sto cls Q := by
  intro env A s ρ F hE hA B fr
  have hkind : env.scope.kind = .function := by rw [hE.scope]; exact hE.kind
  obtain ⟨a, o, fd, e1, e2, e3⟩ := hne
  refine wpAny_Call_NameR (Calls.Name_function_global hkind (isGlob_kind hE hg) (Calls.loadGlobal_global (mg := cx.mg) (by rw [hE.globals]; exact cx.top.g.keeps B.stays) e1 ?_) hd)
  have hs' := hs
  simp only [noStars, Bool.and_eq_true] at hs'
  refine callWith_def e3 (wpAny_mono (h env A s ρ F pos hE hA B fr) ?_ fun _ _ x => x.elim) (starEach_cons hs'.1)
  rintro xs s₁ ⟨vs, sto₁, ρ₁, F₁, st₁, r₁, B₁, ⟨a', o', fd', e1', e2', e3', h₁⟩, q⟩
  rw [e1] at e1'; cases e1'
  exact ⟨B₁.stays _ _ e2, wpAny_mono (h₁ A s₁ ρ₁ F₁ xs (hA.step st₁) B₁ r₁) (fun _ _ x => x) fun e' s' hr => ⟨sto₁, ρ₁, F₁, s₁, st₁, B₁, hr, q⟩⟩

/-! the clauses -/
def Hand (cx : Cx) (sc : Scope) (hs : List ExceptHandler) (cls : String) (loc : Loc) (sto : Sto) (Q : Fl → Loc → Sto → Prop) : Prop :=
  ∀ env A s ρ F ea a0 B outer s', EnvOK sc env A → A.frames = some (env :: outer) → env.frame = some env.locals → Base cx ρ F sto s → Frame cx env ρ F loc s → SeenBy cx B s → Heap.FlyingW B (env :: outer) ea (.type cls) a0 s'.heap →
    s.heap.UpToSlots s'.heap → s'.gens = s.gens → s'.os = s.os → wpAny (model cx.prog cx.w) A (handleBy (.ref ea) env hs) (PostS cx env ρ F s Q) (fun _ _ => False) s'

def constFl : List Stmt → Option Fl
  | [.Pass _] => some .next
  | [.Return (some (.Constant (.bool b) _ _)) _] => some (.ret (.bool b))
  | [.Return (some (.Constant (.str u) _ _)) _] => some (.ret (.str u))
  | _ => none

theorem load_bi' {x : Str} {v : Value} {env : Env} {A : Around} {s : Shared} {A' : Around} {p : Pos} {E : Value → Shared → Prop} {Q : Value → Shared → Prop} (hb : BI cx x v) (hE : EnvOK sc env A') (hst : ∀ b o, cx.base.get? b = some o → s.heap.get? b = some o)
    (hg : isGlob sc x = true) (hd : (x == ("__debug__" : Str)) = false) (q : Q v s) : wpAny (model cx.prog cx.w) A (eval (.Name x p) env) Q E s := by
  have hkind : env.scope.kind = .function := by rw [hE.scope]; exact hE.kind
  exact Calls.Name_function_global hkind (isGlob_kind hE hg) (Calls.loadGlobal_builtin (mg := cx.mg) (mb := cx.mb) (by rw [hE.globals]; exact cx.top.g.keeps hst) hb.1 (by rw [hE.builtins]; exact cx.top.b.keeps hst) hb.2 q) hd

theorem const_run {body : List Stmt} {fl : Fl} {env : Env} {A : Around} {s : Shared} {E : Value → Shared → Prop} {Q : Flow → Shared → Prop} (h : constFl body = some fl) (q : ∀ F ρ f t, FlRel F ρ s.heap fl f → Q f { s with toks := t }) :
    wpAny (model cx.prog cx.w) A (execs body env) Q E s := by
  unfold constFl at h
  split at h
  · cases h
    exact wpAny_execs_cons (wpAny_Pass (wpAny_execs_nil (q NoWr [] _ s.toks rfl)))
  · cases h
    exact wpAny_execs_cons (wpAny_Return_some (wpAny_Constant_bool (q NoWr [] _ s.toks ⟨_, rfl, by simp [VRel]⟩)))
  · cases h
    exact wpAny_execs_cons (wpAny_Return_some (Calls.Constant_str (q NoWr [] _ _ ⟨_, rfl, by simp [VRel]⟩)))
  · cases h

theorem constFl_rel {body : List Stmt} {fl : Fl} {F F' : Addr → Prop} {ρ ρ' : List Addr} {h h' : Heap} {f : Flow} (hc : constFl body = some fl) (r : FlRel F ρ h fl f) : FlRel F' ρ' h' fl f := by
  unfold constFl at hc
  split at hc <;> first | cases hc | skip
  · exact r
  · simp only [FlRel, VRel] at r ⊢; exact r
  · simp only [FlRel, VRel] at r ⊢; exact r

theorem hand_hit {x : Str} {T cls : String} {body : List Stmt} {fl : Fl} {np pos : Pos} {rest : List ExceptHandler} {Q : Fl → Loc → Sto → Prop} (hb : BI cx x (.type T)) (hc : constFl body = some fl) (q : Q fl loc sto)
    (hexc : isSubtype (.type T) (.type "BaseException") = pure true) (hnt : isSubtype (.type ((Manifest.find? T).elim "type" fun y => y.metatype)) (.type "tuple") = pure false) (hsub : isSubtype (.type cls) (.type T) = pure true)
    (hg : isGlob sc x = true := by rfl) (hd : (x == ("__debug__" : Str)) = false := by decide) : Hand cx sc (.ExceptHandler (some (.Name x np)) none body pos :: rest) cls loc sto Q := by
  intro env A s ρ F ea a0 B outer s' hE hfr hf b fr g hfl hu h1 h2
  obtain ⟨b₀, suite, rfl⟩ : ∃ b₀ suite, body = b₀ :: suite := by
    cases body with
    | nil => cases hc
    | cons b₀ suite => exact ⟨b₀, suite, rfl⟩
  obtain ⟨ob, hob, hobc⟩ := hfl.there
  refine wpAny_handleBy_builtin (X := cls) (T := T) (b := true) hexc hnt hsub (load_bi' hb hE (fun c o e => hfl.1 c o (g.2 c o e)) hg hd ⟨rfl, ⟨ob, hob, hobc⟩, ?_⟩)
  refine lands_againW hfl fun h₆ hfl₆ hu₆ => ?_
  refine const_run hc fun F' ρ' f t r => ?_
  obtain ⟨st, b'⟩ := seen_back (s' := { s' with heap := h₆, toks := t }) b g hfl₆.1 (hu.trans hu₆) h1 h2
  exact ⟨fl, loc, sto, ρ, F, st.own, constFl_rel hc r, b', fr.step b st, q⟩
theorem hand_miss {x : Str} {T cls : String} {b₀ : Stmt} {suite : List Stmt} {np pos : Pos} {rest : List ExceptHandler} {Q : Fl → Loc → Sto → Prop} (hb : BI cx x (.type T)) (h : Hand cx sc rest cls loc sto Q)
    (hexc : isSubtype (.type T) (.type "BaseException") = pure true) (hnt : isSubtype (.type ((Manifest.find? T).elim "type" fun y => y.metatype)) (.type "tuple") = pure false) (hsub : isSubtype (.type cls) (.type T) = pure false)
    (hg : isGlob sc x = true := by rfl) (hd : (x == ("__debug__" : Str)) = false := by decide) : Hand cx sc (.ExceptHandler (some (.Name x np)) none (b₀ :: suite) pos :: rest) cls loc sto Q := by
  intro env A s ρ F ea a0 B outer s' hE hfr hf b fr g hfl hu h1 h2
  obtain ⟨ob, hob, hobc⟩ := hfl.there
  exact wpAny_handleBy_builtin (X := cls) (T := T) (b := false) hexc hnt hsub (load_bi' hb hE (fun c o e => hfl.1 c o (g.2 c o e)) hg hd ⟨rfl, ⟨ob, hob, hobc⟩, h env A s ρ F ea a0 B outer s' hE hfr hf b fr g hfl hu h1 h2⟩)

theorem ws_try {call : Expr} {more : List Stmt} {h₀ : ExceptHandler} {hs : List ExceptHandler} {cls : String} {p pos : Pos} {Q : Fl → Loc → Sto → Prop} (h : XE cx sc d call loc sto cls fun sto₁ => Hand cx sc (h₀ :: hs) cls loc sto₁ Q)
    (hn : noComp call = true := by rfl) (hdot : sc.names.lookup (".0" : Str) = none := by rfl) : WS cx sc d (.Try (.Expr call p :: more) (h₀ :: hs) [] [] pos) loc sto Q := by
  intro env A s ρ F hE hA B f
  obtain ⟨hf, outer, hfr⟩ := hE.top hdot
  have hi : interactive env = false := by
    unfold interactive; rw [hE.scope, hE.kind]; rfl
  refine wpAny_Try_except (wpAny_execs_cons (wpAny_Expr (wpAny_mono (h env A s ρ F hE hA B f) (fun _ _ x => x.elim) ?_) hi (swaps_false hn)))
  rintro e s' ⟨sto₁, ρ₁, F₁, s₁, st₁, B₁, ⟨ea, a0, Bh, outer', rfl, ho', hfl, g, hu, h1, h2⟩, hh⟩
  rw [hfr] at ho'; cases ho'
  refine wpAny_looks_onW hfr hf hfl fun h₄ hheld hu₄ => ?_
  refine wpAny_landsW hheld fun h₅ hfl₅ hu₅ => ?_
  exact wpAny_mono (hh env A s₁ ρ₁ F₁ ea a0 Bh outer { s' with heap := h₅ } hE hfr hf B₁ (f.step B st₁) g hfl₅ ((hu.trans hu₄).trans hu₅) h1 h2) (fun _ _ p => p.after st₁.own) fun _ _ x => x
theorem s_try {call : Expr} {more rest : List Stmt} {h₀ : ExceptHandler} {hs : List ExceptHandler} {cls : String} {p pos : Pos} {Q : Fl → Loc → Sto → Prop} (h : XE cx sc d call loc sto cls fun sto₁ => Hand cx sc (h₀ :: hs) cls loc sto₁ (Then cx sc d rest Q))
    (hn : noComp call = true := by rfl) (hdot : sc.names.lookup (".0" : Str) = none := by rfl) : WSs cx sc d (.Try (.Expr call p :: more) (h₀ :: hs) [] [] pos :: rest) loc sto Q := ss_cons (ws_try h hn hdot)
end
end Mine

namespace Mine

/-! writing tracked lists -/
section
variable {cx : Cx} {sc : Scope} {d : Nat} {loc : Loc} {sto : Sto} {ρ : List Addr} {F : Addr → Prop} {s : Shared} {env : Env}

theorem Base.write {n : Nat} {a : Addr} {h' : Heap} {items : Array Value} {vs : List V} (B : Base cx ρ F sto s) (hn : ρ[n]? = some a) (hs : Heap.SameBut a s.heap h') (hl : h'.PlainList a items) (r : VRels F ρ s.heap vs items.toList) (t : Nat) :
    Base cx ρ F (sto.set n vs) { s with heap := h', toks := t } := by
  have ha : a ∈ ρ := List.mem_of_getElem? hn
  have hF : ¬ F a := fun h => B.disj a h ha
  have mono : ∀ {us xs}, VRels F ρ s.heap us xs → VRels F ρ h' us xs := fun q => q.mono (fun _ x => x) (fun _ _ x => x) fun c o hc e _ => (hs.2 c (fun q => hF (q ▸ hc))).trans e
  refine ⟨fun b o e => ?_, B.rnew, B.nodup, by rw [List.length_set]; exact B.len, fun i b us e1 e2 => ?_, B.disj, fun b hb => ?_, B.gens, B.os⟩
  · have : b ≠ a := fun q => by rw [q, B.rnew a ha] at e; cases e
    exact (hs.2 b this).trans (B.stays b o e)
  · by_cases hi : i = n
    · subst hi
      rw [hn] at e1; cases e1
      have hlt : i < sto.length := by rw [← B.len]; exact (List.getElem?_eq_some_iff.mp hn).1
      rw [List.getElem?_set_self hlt] at e2; cases e2
      exact ⟨items, hl, mono r⟩
    · rw [List.getElem?_set_ne (fun q => hi q.symm)] at e2
      obtain ⟨its, ⟨k, ho⟩, q⟩ := B.objs i b us e1 e2
      have hb : b ≠ a := fun q => hi (by
        subst q
        obtain ⟨h1, h2⟩ := List.getElem?_eq_some_iff.mp e1
        obtain ⟨h3, h4⟩ := List.getElem?_eq_some_iff.mp hn
        rcases Nat.lt_trichotomy i n with q | q | q
        · exact absurd (h2.trans h4.symm) (List.pairwise_iff_getElem.mp B.nodup i n h1 h3 q)
        · exact q
        · exact absurd (h4.trans h2.symm) (List.pairwise_iff_getElem.mp B.nodup n i h3 h1 q))
      exact ⟨its, ⟨k, (hs.2 b hb).trans ho⟩, mono q⟩
  · obtain ⟨o, ho⟩ := B.live b hb
    exact ⟨o, (hs.2 b (fun q => hF (q ▸ hb))).trans ho⟩
theorem Step.write {Wr : Addr → Prop} {n : Nat} {a : Addr} {h' : Heap} {items its : Array Value} (hn : ρ[n]? = some a) (hs : Heap.SameBut a s.heap h') (h0 : s.heap.PlainList a its) (hl : h'.PlainList a items) (t : Nat) :
    Step Wr ρ F s ρ F { s with heap := h', toks := t } := by
  have ha : a ∈ ρ := List.mem_of_getElem? hn
  refine ⟨⟨[], by simp⟩, fun _ h => h, fun _ h => .inl h, fun _ h => .inl h, fun b o hb _ e => ⟨o, (hs.2 b (fun q => hb (q ▸ ha))).trans e, .refl o⟩, fun b o e => ?_⟩
  by_cases hb : b = a
  · subst hb
    obtain ⟨k, ho⟩ := hl
    refine ⟨_, ho, fun _ vs q => (by cases q), fun h => ?_⟩
    obtain ⟨k', ho'⟩ := h0
    rw [e] at ho'; cases ho'
    obtain ⟨es, m, q⟩ := h
    cases q
  · exact ⟨o, (hs.2 b hb).trans e, fun h => h, fun h => h⟩
theorem PostV.write {n : Nat} {a : Addr} {h' : Heap} {items its : Array Value} {vs : List V} {v : V} {x : Value} {Q : V → Sto → Prop} (B : Base cx ρ F sto s) (hn : ρ[n]? = some a) (hs : Heap.SameBut a s.heap h') (h0 : s.heap.PlainList a its) (hl : h'.PlainList a items)
    (r : VRels F ρ s.heap vs items.toList) (rv : VRel F ρ s.heap v x) (q : Q v (sto.set n vs)) (t : Nat) : PostV cx ρ F s Q x { s with heap := h', toks := t } :=
  ⟨v, sto.set n vs, ρ, F, .write hn hs h0 hl t, rv.sameBut hs (fun h => B.disj a h (List.mem_of_getElem? hn)), B.write hn hs hl r t, q⟩

theorem VRels.set {h : Heap} : ∀ {vs : List V} {xs : List Value} {v : V} {x : Value} (k : Nat), VRels F ρ h vs xs → VRel F ρ h v x → VRels F ρ h (vs.set k v) (xs.set k x)
  | [], _, _, _, _, q, _ => by simp only [VRels] at q; subst q; simp [VRels]
  | w :: vs, _, v, x, k, q, r => by
    simp only [VRels] at q
    obtain ⟨y, ys, rfl, h2, h3⟩ := q
    cases k with
    | zero => simp only [List.set_cons_zero, VRels]; exact ⟨x, ys, rfl, r, h3⟩
    | succ k => simp only [List.set_cons_succ, VRels]; exact ⟨y, _, rfl, h2, VRels.set k h3 r⟩
theorem VRels.erase {h : Heap} : ∀ {vs : List V} {xs : List Value} (k : Nat), VRels F ρ h vs xs → VRels F ρ h (vs.eraseIdx k) (xs.eraseIdx k)
  | [], _, _, q => by simp only [VRels] at q; subst q; simp [VRels]
  | w :: vs, _, k, q => by
    simp only [VRels] at q
    obtain ⟨y, ys, rfl, h2, h3⟩ := q
    cases k with
    | zero => simpa using h3
    | succ k => simp only [List.eraseIdx_cons_succ, VRels]; exact ⟨y, _, rfl, h2, VRels.erase k h3⟩

theorem call_append {n : Nat} {vs : List V} {v : V} {Q : V → Sto → Prop} (hn : sto[n]? = some vs) (q : vs.length ≤ sizeLine ∧ Q .none (sto.set n (vs ++ [v]))) : CallV cx d (.builtin "list.append") [.obj n, v] sto Q := by
  intro A s ρ F xs hA B r
  obtain ⟨x, y, rfl, r1, r2⟩ := r.two
  simp only [VRel] at r1
  obtain ⟨a, ha, rfl⟩ := r1
  obtain ⟨items, hl, r3⟩ := B.objs n a vs ha hn
  have hlen : items.size = vs.length := by rw [← r3.length]; simp
  refine wpAny_list_append_plain hl (fun h' hl' hs => ?_) (by omega)
  refine PostV.write (t := s.toks) B ha hs hl hl' (vs := vs ++ [v]) ?_ (by simp [VRel]) q.2
  rw [Array.toList_push]
  exact r3.append (by simp only [VRels]; exact ⟨y, [], rfl, r2, rfl⟩)

theorem seqIndex_nn {k n : Nat} (h : k < n) : seqIndex? (k : Int) n = some k := by
  unfold seqIndex?
  have : ¬ ((k : Int) < 0) := by omega
  simp [this]
  omega
set_option maxRecDepth 4000 in
theorem call_pop {n k : Nat} {vs : List V} {v : V} {Q : V → Sto → Prop} (hn : sto[n]? = some vs) (hv : vs[k]? = some v) (hz : vs.length ≤ sizeLine) (q : Q v (sto.set n (vs.eraseIdx k))) : CallV cx d (.builtin "list.pop") [.obj n, .int k] sto Q := by
  intro A s ρ F xs hA B r
  obtain ⟨x, y, rfl, r1, r2⟩ := r.two
  simp only [VRel] at r1 r2
  obtain ⟨a, ha, rfl⟩ := r1
  obtain ⟨u, rfl⟩ := r2
  obtain ⟨items, hl, r3⟩ := B.objs n a vs ha hn
  have hlen : items.size = vs.length := by rw [← r3.length]; simp
  obtain ⟨y, hy, ry⟩ := r3.get hv
  rw [Array.getElem?_toList] at hy
  have hk : k < items.size := (Array.getElem?_eq_some_iff.mp hy).1
  obtain ⟨c, ho⟩ := id hl
  have hz' : items.size ≤ sizeLine := by omega
  have hsl : sizeLine < 2 ^ 63 := by simp [sizeLine]
  have hm : ∀ o : Obj, o = { cls := .type "list", data := .seq items c } → ∃ c', Obj.mapSeq (fun xs => xs.eraseIdxIfInBounds k) o = { cls := .type "list", data := .seq (items.eraseIdxIfInBounds k) c' } := fun o e => by subst e; exact ⟨_, rfl⟩
  obtain ⟨c', hc'⟩ := hm _ rfl
  have hfit : Builtin.List.listFitsIndex (k : Int) = true := fitsIndex_of (Int.natCast_nonneg k) (by omega)
  have hix := seqIndex_nn hk
  generalize hi : (k : Int) = i at hfit hix ⊢
  have hmeet := @PySem.MeetsSeq.list_pop_at a items c i u k y hfit hix hy hz'
  refine call_meets (rest := [.int i u]) PySem.F.slot_list_pop hl.isList.typeIs PySem.F.entry_list_pop (PySem.F.args_list_pop_2 _ _) hmeet ?_
  refine ⟨ho, ?_⟩
  refine PostV.write (t := s.toks) (items := items.eraseIdxIfInBounds k) B ha (Heap.SameBut.update ..) hl ⟨c', ?_⟩ (vs := vs.eraseIdx k) ?_ ry q
  · rw [Heap.get?_update_self _ ho (by rw [hc']; rfl), hc']
  · have : (items.eraseIdxIfInBounds k).toList = items.toList.eraseIdx k := by
      unfold Array.eraseIdxIfInBounds
      rw [dif_pos hk]
      simp
    rw [this]
    exact r3.erase k

/-- a method of a tracked list -/
theorem we_lmeth {x name : Str} {id : String} {px apos pos : Pos} {e : Expr} {es : List Expr} {n : Nat} {Q : V → Sto → Prop} (hx : loc.lookup x = some (.obj n)) (slot : Slot "list" name id) (hty : typeOf (.builtin id) = pure (.type "method_descriptor"))
    (h : WEs cx sc d (e :: es) loc sto fun vs sto₁ => CallV cx d (.builtin id) (.obj n :: vs) sto₁ Q)
    (hk : isVar sc x = true := by rfl) (hd : (x == ("__debug__" : Str)) = false := by decide) (hline : (apos.endLine == pos.line) = true := by rfl) (hs : noStars (e :: es) = true := by rfl) (hfew : es.length < 20 := by decide) :
    WE cx sc d (.Call (.Attribute (.Name x px) name apos) (e :: es) [] pos) loc sto Q := by
  intro env A s ρ F hE hA B f
  have hpl : ∀ (es : List Expr), noStars es = true → ((backTo pos (starEach es env)).all fun x => !x.1) = true := by
    intro es
    induction es with
    | nil => intro _; rfl
    | cons e es ih =>
      intro h
      simp only [noStars, Bool.and_eq_true] at h
      rw [starEach_cons h.1]
      show (true && (backTo pos (starEach es env)).all fun x => !x.1) = true
      rw [ih h.2]; rfl
  refine wpAny_Call_method (T := "list") (id := id) rfl ?_ hline PySem.F.plainAttrs_list slot hty ?_
  · rw [hpl _ hs]
    show decide ((e :: es).length + 0 + 0 < 30) = true
    simp; omega
  refine wpAny_Name (load_var hE f hx hk fun y r => ?_) hd
  simp only [VRel] at r
  obtain ⟨a, ha, rfl⟩ := r
  have hlt : n < sto.length := by rw [← B.len]; exact (List.getElem?_eq_some_iff.mp ha).1
  obtain ⟨items, hl, _⟩ := B.objs n a _ ha (List.getElem?_eq_getElem hlt)
  refine ⟨hl.isList.typeIs, fun b hb => ?_, ?_⟩
  · cases hb
    obtain ⟨c, ho⟩ := hl
    exact ⟨_, ho, rfl⟩
  have hs' := hs
  simp only [noStars, Bool.and_eq_true] at hs'
  have hh := h env A s ρ F pos hE hA B f
  have hp := plain_trees (pos := pos) (env := env) hs
  rw [starEach_cons hs'.1] at hh hp ⊢
  refine Calls.callWith_builtin hp (Calls.evalArgs_plain (x := eval e env) (rest := backTo pos (starEach es env)) (wpAny_mono hh ?_ fun _ _ x => x))
  rintro xs s₁ ⟨vs, sto₁, ρ₁, F₁, st₁, r₁, B₁, h₁⟩
  refine wpAny_mono (h₁ A s₁ ρ₁ F₁ (.ref a :: xs) (hA.step st₁) B₁ ?_) (fun _ _ p => p.after st₁) fun _ _ x => x
  simp only [VRels, VRel]
  exact ⟨_, _, rfl, ⟨a, st₁.getr _ _ ha, rfl⟩, r₁⟩

theorem we_append {x : Str} {px apos pos : Pos} {e : Expr} {n : Nat} {Q : V → Sto → Prop} (hx : loc.lookup x = some (.obj n)) (h : WE cx sc d e loc sto fun v sto₁ => ∃ vs, sto₁[n]? = some vs ∧ vs.length ≤ sizeLine ∧ Q .none (sto₁.set n (vs ++ [v])))
    (hk : isVar sc x = true := by rfl) (hd : (x == ("__debug__" : Str)) = false := by decide) (hline : (apos.endLine == pos.line) = true := by rfl) (hs : noStar e = true := by rfl) :
    WE cx sc d (.Call (.Attribute (.Name x px) "append" apos) [e] [] pos) loc sto Q :=
  we_lmeth hx slot_list_append type_list_append (wes_cons (h.mono fun v st q => wes_nil (by obtain ⟨vs, h1, h2, h3⟩ := q; exact call_append h1 ⟨h2, h3⟩)) hs) hk hd hline (by simp [noStars, hs])
theorem we_pop {x : Str} {px apos pos : Pos} {e : Expr} {n : Nat} {Q : V → Sto → Prop} (hx : loc.lookup x = some (.obj n)) (h : WE cx sc d e loc sto fun v sto₁ => ∃ vs k w, v = .int (k : Nat) ∧ sto₁[n]? = some vs ∧ vs[k]? = some w ∧ vs.length ≤ sizeLine ∧ Q w (sto₁.set n (vs.eraseIdx k)))
    (hk : isVar sc x = true := by rfl) (hd : (x == ("__debug__" : Str)) = false := by decide) (hline : (apos.endLine == pos.line) = true := by rfl) (hs : noStar e = true := by rfl) :
    WE cx sc d (.Call (.Attribute (.Name x px) "pop" apos) [e] [] pos) loc sto Q :=
  we_lmeth hx PySem.F.slot_list_pop PySem.F.type_list_pop (wes_cons (h.mono fun v st q => wes_nil (by obtain ⟨vs, k, w, rfl, h1, h2, h3, h4⟩ := q; exact call_pop h1 h2 h3 h4)) hs) hk hd hline (by simp [noStars, hs])

theorem ws_expr {e : Expr} {pos : Pos} {Q : Fl → Loc → Sto → Prop} (h : WE cx sc d e loc sto fun _ sto₁ => Q .next loc sto₁) (hn : noComp e = true := by rfl) : WS cx sc d (.Expr e pos) loc sto Q := by
  intro env A s ρ F hE hA B f
  have hi : interactive env = false := by
    unfold interactive; rw [hE.scope, hE.kind]; rfl
  refine wpAny_Expr_any (wpAny_mono (h env A s ρ F hE hA B f) ?_ fun _ _ x => x) hi (swaps_false hn)
  rintro y s₁ ⟨v, sto₁, ρ₁, F₁, st₁, r₁, B₁, h₁⟩
  exact ⟨.next, loc, sto₁, ρ₁, F₁, st₁.own, rfl, B₁, f.step B st₁, h₁⟩
theorem s_expr {e : Expr} {pos : Pos} {rest : List Stmt} {Q : Fl → Loc → Sto → Prop} (h : WE cx sc d e loc sto fun _ sto₁ => WSs cx sc d rest loc sto₁ Q) (hn : noComp e = true := by rfl) : WSs cx sc d (.Expr e pos :: rest) loc sto Q := ss_cons (ws_expr h hn)

theorem tr_l {v : V} {vs : List V} {Q : Bool → Sto → Prop} (l : LV sto v vs) (q : (vs.length : Int) < 2 ^ 63 ∧ Q (!vs.isEmpty) sto) : TrV cx d v sto Q := by
  intro A s ρ F x hA B r
  obtain ⟨a, items, rfl, hl, r2⟩ := l.is B r
  have hlen : items.size = vs.length := by rw [← r2.length]; simp
  have he : items.isEmpty = vs.isEmpty := by
    cases vs with
    | nil => simp at hlen; simp [hlen]
    | cons v vs => rw [List.length_cons] at hlen; simp [Array.isEmpty]; intro h; simp [h] at hlen
  exact wpAny_truthy_list hl (by rw [hlen]; exact q.1) (by rw [he]; exact ⟨sto, ρ, F, keepsStep (fun _ _ e => e), B.keeps (fun _ _ e => e), q.2⟩)

theorem all_eq {ns ms : List Int} (h : ns.length = ms.length) : (List.range ns.length).all (fun j => ns[j]?.getD 0 == ms[j]?.getD 0) = (ns == ms) := by
  rw [Bool.eq_iff_iff]
  simp only [List.all_eq_true, List.mem_range, beq_iff_eq]
  constructor
  · intro q
    refine List.ext_getElem h fun i h1 h2 => ?_
    have := q i h1
    simpa [h1, h2] using this
  · rintro rfl j _; rfl
theorem AOK.units' {A : Around} {h : Heap} (a : AOK cx d A h) : A.units < cLine := by have := a.units; omega
theorem eq_ll {v w : V} {ns ms : List Int} {Q : V → Sto → Prop} (l : LV sto v (ns.map V.int)) (m : LV sto w (ms.map V.int)) (q : Q (.bool (ns == ms)) sto) : Op2 cx d (compareOp .Eq) v w sto Q := by
  intro A s ρ F x y hA B r₁ r₂
  obtain ⟨a, items, rfl, hl, r3⟩ := l.is B r₁
  obtain ⟨b, items2, rfl, hl2, r4⟩ := m.is B r₂
  have e1 : items.size = ns.length := by have := r3.length; simpa using this
  have e2 : items2.size = ms.length := by have := r4.length; simpa using this
  by_cases hlen : ns.length = ms.length
  · refine PySem.SeqAt.eq_listAt (e := fun j => ns[j]?.getD 0 == ms[j]?.getD 0) hl hl2 (by omega) hA.units' (fun j h1 h2 => ?_) ?_
    · obtain ⟨x, hx, rx⟩ := r3.get (i := j) (v := .int ns[j]) (by simp)
      obtain ⟨y, hy, ry⟩ := r4.get (i := j) (v := .int ms[j]) (by simp)
      simp only [VRel] at rx ry
      obtain ⟨t, rfl⟩ := rx
      obtain ⟨u, rfl⟩ := ry
      rw [Array.getElem?_toList, Array.getElem?_eq_getElem h1] at hx
      rw [Array.getElem?_toList, Array.getElem?_eq_getElem h2] at hy
      rw [Option.some.inj hx, Option.some.inj hy]
      have a1 : ns[j]?.getD 0 = ns[j] := by simp [show j < ns.length by omega]
      have a2 : ms[j]?.getD 0 = ms[j] := by simp [show j < ms.length by omega]
      simp only [a1, a2]
      exact PySem.SeqAt.EqAt.int_int _ _ _ _
    · rw [e1, all_eq hlen]
      exact .imm0 B (by simp [VRel]) q
  · refine PySem.SeqAt.eq_list_lengthsAt hl hl2 (by simp; omega) hA.units' ?_
    have : (ns == ms) = false := by
      simp only [beq_eq_false_iff_ne]; intro e; exact hlen (by rw [e])
    rw [this] at q
    exact .imm0 B (by simp [VRel]) q
theorem ne_ll {v w : V} {ns ms : List Int} {Q : V → Sto → Prop} (l : LV sto v (ns.map V.int)) (m : LV sto w (ms.map V.int)) (q : Q (.bool (ns != ms)) sto) : Op2 cx d (compareOp .NotEq) v w sto Q := by
  intro A s ρ F x y hA B r₁ r₂
  obtain ⟨a, items, rfl, hl, r3⟩ := l.is B r₁
  obtain ⟨b, items2, rfl, hl2, r4⟩ := m.is B r₂
  have e1 : items.size = ns.length := by have := r3.length; simpa using this
  have e2 : items2.size = ms.length := by have := r4.length; simpa using this
  by_cases hlen : ns.length = ms.length
  · refine PySem.SeqAt.RcNeAt.lists (e := fun j => ns[j]?.getD 0 == ms[j]?.getD 0) hl hl2 (by omega) hA.units' (fun j h1 h2 => ?_) _ _ _ _ ?_
    · obtain ⟨x, hx, rx⟩ := r3.get (i := j) (v := .int ns[j]) (by simp)
      obtain ⟨y, hy, ry⟩ := r4.get (i := j) (v := .int ms[j]) (by simp)
      simp only [VRel] at rx ry
      obtain ⟨t, rfl⟩ := rx
      obtain ⟨u, rfl⟩ := ry
      rw [Array.getElem?_toList, Array.getElem?_eq_getElem h1] at hx
      rw [Array.getElem?_toList, Array.getElem?_eq_getElem h2] at hy
      rw [Option.some.inj hx, Option.some.inj hy]
      have a1 : ns[j]?.getD 0 = ns[j] := by simp [show j < ns.length by omega]
      have a2 : ms[j]?.getD 0 = ms[j] := by simp [show j < ms.length by omega]
      simp only [a1, a2]
      exact PySem.SeqAt.EqAt.int_int _ _ _ _
    · rw [e1, all_eq hlen]
      exact .imm0 B (by simp [VRel, bne]) q
  · refine PySem.SeqAt.RcNeAt.lists_lengths hl hl2 (by simp; omega) hA.units' _ _ _ _ ?_
    have : (ns != ms) = true := by
      simp only [bne_iff_ne]; intro e; exact hlen (by rw [e])
    rw [this] at q
    exact .imm0 B (by simp [VRel]) q

/-- list(range(a, b)) -/
theorem call_list_rng {a b : Int} {Q : List V → Sto → Prop} (ha : -(2 ^ 62) ≤ a ∧ a < 2 ^ 62) (hb : -(2 ^ 62) ≤ b ∧ b < 2 ^ 62) (hn : (b - a).toNat ≤ 2 ^ 24) (q : Q (rngV a b 1) sto) : CallN cx d (.type "list") [.rng a b 1] sto Q := by
  intro A s ρ F xs hA B r
  obtain ⟨x, rfl, r1⟩ := r.one
  simp only [VRel] at r1
  obtain ⟨r, t, u, v, rfl, hF, hr⟩ := r1
  have hsz : Builtin.Range.rangeSize a b 1 = (b - a).toNat := by rw [rangeSize_one]; split <;> omega
  refine call_list_range hA.handled hr (small_one ha.1 ha.2 hb.1 hb.2) hsz hn fun h' tk acc c hk hD hI => ?_
  have hfresh := noneAt s
  refine ⟨rngV a b 1, sto, ρ, F, s.heap.objs.size, acc, rfl, keepsStep hk, ⟨c, hD⟩, ?_, fun hm => ?_, fun hm => ?_, ?_, hfresh, B.keeps hk, q⟩
  · refine VRels.of_get (by rw [rngV_length]; have := hI.1; simpa using this) fun i v x h1 h2 => ?_
    obtain ⟨rfl, hlt⟩ := rngV_get h1
    rw [Array.getElem?_toList] at h2
    obtain ⟨t, rfl⟩ := hI.2 i x h2
    simp [VRel]
  · obtain ⟨i, hi⟩ := List.getElem?_of_mem hm
    have hlt : i < sto.length := by rw [← B.len]; exact (List.getElem?_eq_some_iff.mp hi).1
    obtain ⟨its, ⟨k, ho⟩, _⟩ := B.objs i _ _ hi (List.getElem?_eq_getElem hlt)
    rw [hfresh] at ho; cases ho
  · obtain ⟨o, ho⟩ := B.live _ hm
    rw [hfresh] at ho; cases ho
  · cases e : cx.base.get? s.heap.objs.size with
    | none => rfl
    | some o => have := B.stays _ _ e; rw [hfresh] at this; cases this
end

/-! operations that raise -/
section
variable {cx : Cx} {sc : Scope} {d : Nat} {loc : Loc} {sto : Sto}
theorem x_ifdiv {a : Int} : Op2X cx d (inplaceOp .FloorDiv) (.int a) (.int 0) sto "ZeroDivisionError" := by
  intro A s ρ F x y hA B r₁ r₂
  simp only [VRel] at r₁ r₂
  obtain ⟨t, rfl⟩ := r₁
  obtain ⟨u, rfl⟩ := r₂
  exact ifloordiv_int_or hA.handled (fun _ h' tk e hx => ⟨e, h', tk, rfl, rfl, hx⟩) (fun h => absurd rfl h) (fun h => absurd rfl h)
theorem x_imod {a : Int} : Op2X cx d (inplaceOp .Mod) (.int a) (.int 0) sto "ZeroDivisionError" := by
  intro A s ρ F x y hA B r₁ r₂
  simp only [VRel] at r₁ r₂
  obtain ⟨t, rfl⟩ := r₁
  obtain ⟨u, rfl⟩ := r₂
  exact imod_int_or hA.handled (fun _ h' tk e hx => ⟨e, h', tk, rfl, rfl, hx⟩) (fun h => absurd rfl h)
theorem x_irshift {a n : Int} (hn : n < 0) : Op2X cx d (inplaceOp .RShift) (.int a) (.int n) sto "ValueError" := by
  intro A s ρ F x y hA B r₁ r₂
  simp only [VRel] at r₁ r₂
  obtain ⟨t, rfl⟩ := r₁
  obtain ⟨u, rfl⟩ := r₂
  exact irshift_int_or hA.handled (fun _ h' tk e hx => ⟨e, h', tk, rfl, rfl, hx⟩) (fun h => absurd hn (by omega))

theorem sub_refl_Z : isSubtype (.type "ZeroDivisionError") (.type "ZeroDivisionError") = pure true := by rw [isSubtype_type]; kernel_rfl
theorem sub_refl_V : isSubtype (.type "ValueError") (.type "ValueError") = pure true := by rw [isSubtype_type]; kernel_rfl
theorem sub_refl_T : isSubtype (.type "TypeError") (.type "TypeError") = pure true := by rw [isSubtype_type]; kernel_rfl
theorem hand_Z {body : List Stmt} {fl : Fl} {np pos : Pos} {rest : List ExceptHandler} {Q : Fl → Loc → Sto → Prop} (hb : BI cx "ZeroDivisionError" (.type "ZeroDivisionError")) (hc : constFl body = some fl) (q : Q fl loc sto) (hg : isGlob sc "ZeroDivisionError" = true := by rfl) :
    Hand cx sc (.ExceptHandler (some (.Name "ZeroDivisionError" np)) none body pos :: rest) "ZeroDivisionError" loc sto Q := hand_hit hb hc q PySem.F.isExc_ZeroDivisionError PySem.F.notTuple_ZeroDivisionError sub_refl_Z hg
theorem hand_V {body : List Stmt} {fl : Fl} {np pos : Pos} {rest : List ExceptHandler} {Q : Fl → Loc → Sto → Prop} (hb : BI cx "ValueError" (.type "ValueError")) (hc : constFl body = some fl) (q : Q fl loc sto) (hg : isGlob sc "ValueError" = true := by rfl) :
    Hand cx sc (.ExceptHandler (some (.Name "ValueError" np)) none body pos :: rest) "ValueError" loc sto Q := hand_hit hb hc q PySem.F.isExc_ValueError PySem.F.notTuple_ValueError sub_refl_V hg
theorem hand_T {body : List Stmt} {fl : Fl} {np pos : Pos} {rest : List ExceptHandler} {Q : Fl → Loc → Sto → Prop} (hb : BI cx "TypeError" (.type "TypeError")) (hc : constFl body = some fl) (q : Q fl loc sto) (hg : isGlob sc "TypeError" = true := by rfl) :
    Hand cx sc (.ExceptHandler (some (.Name "TypeError" np)) none body pos :: rest) "TypeError" loc sto Q := hand_hit hb hc q PySem.F.isExc_TypeError PySem.F.notTuple_TypeError sub_refl_T hg
end
end Mine

namespace Mine
section
variable {cx : Cx} {sc : Scope} {d : Nat} {loc : Loc} {sto : Sto} {rest : List Stmt} {Q : Fl → Loc → Sto → Prop}

/-- a while loop by what holds with k turns in hand -/
theorem WhileS.by {test : Expr} {body : List Stmt} (I : Nat → Loc → Sto → Prop)
    (h : ∀ k loc sto, I k loc sto → WT cx sc d test loc sto fun c st => if c = true then WSs cx sc d body loc st (Turn (fun l s => ∃ j, j < k ∧ I j l s) Q) else Q .next loc st) :
    ∀ (n k : Nat) (loc : Loc) (sto : Sto), k < n → I k loc sto → WhileS cx sc d test body n loc sto Q
  | 0, _, _, _, hk, _ => absurd hk (Nat.not_lt_zero _)
  | n + 1, k, loc, sto, hk, hi => by
    unfold WhileS
    refine (h k loc sto hi).mono fun c st q => ?_
    cases c with
    | false => exact q
    | true =>
      simp only [if_true] at q ⊢
      refine WSs.mono q fun fl l s r => ?_
      cases fl with
      | next => obtain ⟨j, hj, r⟩ := r; exact WhileS.by I h n j l s (by omega) r
      | cont => obtain ⟨j, hj, r⟩ := r; exact WhileS.by I h n j l s (by omega) r
      | brk => exact r
      | ret v => exact r

/-- sum(xs[k::n]) of ints is an int -/
theorem we_sumslice {xs k : Str} {px pk p0 ps pos pf : Pos} {st : Int} {stp : Pos} {ns : List Int} {i : Int} {Q : V → Sto → Prop} (hb : BI cx "sum" (.builtin "sum")) (hx : loc.lookup xs = some (.lst (ns.map V.int))) (hk : loc.lookup k = some (.int i)) (hl : ns.length ≤ 63) (hst : st ≠ 0)
    (q : ∀ n, Q (.int n) sto) (h1 : isVar sc xs = true := by rfl) (h2 : isVar sc k = true := by rfl) (h3 : isGlob sc "sum" = true := by rfl) (h4 : (xs == ("__debug__" : Str)) = false := by decide) (h5 : (k == ("__debug__" : Str)) = false := by decide) :
    WE cx sc d (.Call (.Name "sum" pf) [.Subscript (.Name xs px) (.Slice (some (.Name k pk)) none (some (.Constant (.int st) 0 stp)) p0) ps] [] pos) loc sto Q := by
  refine we_bcall hb ?_ h3 (by decide) rfl
  refine wes_cons ?_ rfl
  refine WEN.data (wen_slice ?_)
  refine we_name hx ?_ h1 h4
  refine weo_some (we_name hk ?_ h2 h5)
  refine ⟨_, rfl, ?_⟩
  refine weo_none ?_
  refine weo_some (we_int ?_)
  refine ⟨_, rfl, ?_⟩
  refine ⟨_, .lst _, by simpa using hst, by simp [sizeLine]; omega, ?_⟩
  obtain ⟨ms, hms⟩ := pickV_ints ns (some i) none (some st)
  rw [hms]
  refine wes_nil ?_
  exact call_sum (.lst _) (q _)
end
end Mine

namespace Mine
section
variable {cx : Cx} {sc : Scope} {d : Nat} {loc : Loc} {sto : Sto} {ρ : List Addr} {F : Addr → Prop} {s : Shared} {env : Env}

/-! a list a number of times -/
theorem VRels.rep {h : Heap} {vs : List V} {xs : List Value} (r : VRels F ρ h vs xs) : ∀ k : Nat, VRels F ρ h (List.replicate k vs).flatten (List.replicate k xs).flatten
  | 0 => by simp [VRels]
  | k + 1 => by
    rw [List.replicate_succ, List.replicate_succ, List.flatten_cons, List.flatten_cons]
    exact r.append (VRels.rep r k)
theorem mul_lst {v : V} {vs : List V} {x : Int} {Q : List V → Sto → Prop} (l : LV sto v vs) (q : -(2 ^ 63 : Int) ≤ x ∧ x < 2 ^ 63 ∧ vs.length * x.toNat ≤ 2 ^ 24 ∧ Q (List.replicate x.toNat vs).flatten sto) : Op2N cx d (binaryOp .Mult) v (.int x) sto Q := by
  intro A s ρ F y z hA B r₁ r₂
  obtain ⟨a, items, rfl, hl, r3⟩ := l.is B r₁
  simp only [VRel] at r₂
  obtain ⟨u, rfl⟩ := r₂
  obtain ⟨⟨cls, dd, data, sl⟩, ho, hc, n, hd⟩ := id hl
  simp only at hc hd
  subst hc hd
  have hlen : items.size = vs.length := by rw [← r3.length]; simp
  have hsz : items.size * x.toNat ≤ 2 ^ 24 := by rw [hlen]; exact q.2.2.1
  obtain ⟨q1, q2, _, q3⟩ := q
  refine wpAny_binaryOp_repeat_ref (T := "list") (U := "int") (by decide) ⟨_, ho, rfl⟩ (fun s' => typeIs_int s' x u) noFill_list_mul PySem.F.fills_int_mul PySem.F.slot_int_rmul repeat_list PySem.F.slot_int_index.lookup
    (call_meets PySem.F.slot_int_rmul (typeIs_int s x u) PySem.F.entry_int_rmul (PySem.F.args_int_rmul_2 _ _) (lm_int_rmul_list_any x u a items n dd sl)
      ⟨ho, rfl, ⟨_, ho, rfl⟩, call_meets PySem.F.slot_list_mul ⟨_, ho, rfl⟩ PySem.F.entry_list_mul (PySem.F.args_list_mul_2 _ _)
        (lm_list_mul_any a items n dd sl x u (by simp [Builtin.List.listFitsIndex]; omega) (by omega) (by simp [Builtin.List.listTooLong, sizeLine]; omega)) ⟨ho, ?_⟩⟩)
  rw [listMul_foldl_if]
  exact PostN.new B (r3.rep _) q3

/-! writing an item -/
theorem ws_set {x : Str} {value index : Expr} {px p pos : Pos} {n : Nat} {Q : Fl → Loc → Sto → Prop} (hx : loc.lookup x = some (.obj n))
    (h : WE cx sc d value loc sto fun v sto₁ => WE cx sc d index loc sto₁ fun i sto₂ => ∃ (k : Nat) (vs : List V), i = .int k ∧ sto₂[n]? = some vs ∧ k < vs.length ∧ vs.length < 2 ^ 62 ∧ Q .next loc (sto₂.set n (vs.set k v)))
    (hk : isVar sc x = true := by rfl) (hd : (x == ("__debug__" : Str)) = false := by decide) (hn : noComp value = true := by rfl) : WS cx sc d (.Assign [.Subscript (.Name x px) index p] value pos) loc sto Q := by
  intro env A s ρ F hE hA B f
  refine wpAny_Assign_Subscript (wpAny_mono (h env A s ρ F hE hA B f) ?_ fun _ _ x => x) (swaps_false hn)
  rintro y s₁ ⟨v, sto₁, ρ₁, F₁, st₁, r₁, B₁, h₁⟩
  have f₁ := f.step B st₁
  refine wpAny_Name (load_var hE f₁ hx hk fun z rz => ?_) hd
  simp only [VRel] at rz
  obtain ⟨a, ha, rfl⟩ := rz
  refine wpAny_mono (h₁ env A s₁ ρ₁ F₁ hE (hA.step st₁) B₁ f₁) ?_ fun _ _ x => x
  rintro i s₂ ⟨iv, sto₂, ρ₂, F₂, st₂, r₂, B₂, k, vs, rfl, hvs, hkl, hb, q⟩
  simp only [VRel] at r₂
  obtain ⟨t, rfl⟩ := r₂
  have ha₂ := st₂.getr _ _ ha
  obtain ⟨items, hl, r3⟩ := B₂.objs n a vs ha₂ hvs
  obtain ⟨c, ho⟩ := id hl
  have hlen : items.size = vs.length := by rw [← r3.length]; simp
  have rv := st₂.vrel B₁ noWrF r₁
  have hm : ∀ o : Obj, o = { cls := .type "list", data := .seq items c } → ∃ c', Obj.mapSeq (fun xs => xs.setIfInBounds k y) o = { cls := .type "list", data := .seq (items.setIfInBounds k y) c' } := fun o e => by subst e; exact ⟨_, rfl⟩
  obtain ⟨c', hc'⟩ := hm _ rfl
  have hl' : (s₂.heap.update a (Obj.mapSeq (fun xs => xs.setIfInBounds k y))).PlainList a (items.setIfInBounds k y) := ⟨c', by rw [Heap.get?_update_self _ ho (by rw [hc']; rfl), hc']⟩
  have hsb : Heap.SameBut a s₂.heap (s₂.heap.update a (Obj.mapSeq (fun xs => xs.setIfInBounds k y))) := Heap.SameBut.update ..
  have rs : VRels F₂ ρ₂ s₂.heap (vs.set k v) (items.setIfInBounds k y).toList := by
    rw [Array.toList_setIfInBounds]; exact r3.set k rv
  refine ki_setAt (n := c) ho (by omega) (by omega) (by omega) ?_
  have st₃ : Step (Own env) ρ₂ F₂ s₂ ρ₂ F₂ { s₂ with heap := s₂.heap.update a (Obj.mapSeq (fun xs => xs.setIfInBounds k y)), toks := s₂.toks } := .write ha₂ hsb hl hl' s₂.toks
  have st₃' : Step NoWr ρ₂ F₂ s₂ ρ₂ F₂ { s₂ with heap := s₂.heap.update a (Obj.mapSeq (fun xs => xs.setIfInBounds k y)), toks := s₂.toks } := .write ha₂ hsb hl hl' s₂.toks
  exact ⟨.next, loc, _, ρ₂, F₂, (st₁.trans st₂).own.trans st₃, rfl, B₂.write ha₂ hsb hl' rs s₂.toks, (f₁.step B₁ st₂).step B₂ st₃', q⟩
theorem s_set {x : Str} {value index : Expr} {px p pos : Pos} {n : Nat} {rest : List Stmt} {Q : Fl → Loc → Sto → Prop} (hx : loc.lookup x = some (.obj n))
    (h : WE cx sc d value loc sto fun v sto₁ => WE cx sc d index loc sto₁ fun i sto₂ => ∃ (k : Nat) (vs : List V), i = .int k ∧ sto₂[n]? = some vs ∧ k < vs.length ∧ vs.length < 2 ^ 62 ∧ WSs cx sc d rest loc (sto₂.set n (vs.set k v)) Q)
    (hk : isVar sc x = true := by rfl) (hd : (x == ("__debug__" : Str)) = false := by decide) (hn : noComp value = true := by rfl) : WSs cx sc d (.Assign [.Subscript (.Name x px) index p] value pos :: rest) loc sto Q := ss_cons (ws_set hx h hk hd hn)

/-! equal things -/
inductive Same (sto : Sto) : Nat → V → V → Prop where
  | int (n : Nat) (i : Int) : Same sto n (.int i) (.int i)
  | list {n : Nat} {v w : V} {vs ws : List V} : LV sto v vs → LV sto w ws → vs.length = ws.length → (∀ (j : Nat) (x y : V), vs[j]? = some x → ws[j]? = some y → Same sto n x y) → Same sto (n + 1) v w
  | tup {n : Nat} {vs ws : List V} : vs.length = ws.length → (∀ (j : Nat) (x y : V), vs[j]? = some x → ws[j]? = some y → Same sto n x y) → Same sto (n + 1) (.tup vs) (.tup ws)
theorem in1_units {A : Around} : A.in1.units ≤ A.units + 4 := by
  unfold Around.in1
  simp
theorem all_true {n : Nat} : (List.range n).all (fun _ => true) = true := by simp
theorem Same.at {n : Nat} {v w : V} (h : Same sto n v w) : ∀ {A : Around} {s : Shared} {ρ : List Addr} {F : Addr → Prop} {x y : Value}, A.units + 4 * n < cLine → Base cx ρ F sto s → VRel F ρ s.heap v x → VRel F ρ s.heap w y → PySem.SeqAt.EqAt A s x y true := by
  induction h with
  | int n i =>
    intro A s ρ F x y hu B r₁ r₂
    simp only [VRel] at r₁ r₂
    obtain ⟨t, rfl⟩ := r₁
    obtain ⟨u, rfl⟩ := r₂
    have := PySem.SeqAt.EqAt.int_int (A := A) (s := s) i t i u
    rwa [beq_self_eq_true] at this
  | list l m hlen _ ih =>
    intro A s ρ F x y hu B r₁ r₂
    obtain ⟨a, items, rfl, hl, r3⟩ := l.is B r₁
    obtain ⟨b, items2, rfl, hl2, r4⟩ := m.is B r₂
    have e1 := r3.length
    have e2 := r4.length
    by_cases hab : a = b
    · subst hab; exact .same _
    · refine .of_refs hab ?_
      have := PySem.SeqAt.RcAt.lists (A := A) (e := fun _ => true) hl hl2 (by simp at e1 e2; omega) (by omega) (fun j h1 h2 => ?_)
      · rwa [all_true] at this
      · simp at e1 e2
        obtain ⟨x, hx, rx⟩ := r3.get (List.getElem?_eq_getElem (by omega : j < _))
        obtain ⟨y, hy, ry⟩ := r4.get (List.getElem?_eq_getElem (by omega : j < _))
        rw [Array.getElem?_toList, Array.getElem?_eq_getElem h1] at hx
        rw [Array.getElem?_toList, Array.getElem?_eq_getElem h2] at hy
        rw [Option.some.inj hx, Option.some.inj hy]
        have := in1_units (A := A)
        exact ih j _ _ (List.getElem?_eq_getElem _) (List.getElem?_eq_getElem _) (by omega) B rx ry
  | tup hlen _ ih =>
    intro A s ρ F x y hu B r₁ r₂
    simp only [VRel] at r₁ r₂
    obtain ⟨a, items, rfl, _, hl, r3⟩ := r₁
    obtain ⟨b, items2, rfl, _, hl2, r4⟩ := r₂
    have e1 := r3.length
    have e2 := r4.length
    by_cases hab : a = b
    · subst hab; exact .same _
    · refine .of_refs hab ?_
      have := PySem.SeqAt.RcAt.tuples (A := A) (e := fun _ => true) hl hl2 (by omega) (fun j h1 h2 => ?_)
      · rw [all_true] at this
        have he : items.size = items2.size := by simp at e1 e2; omega
        simpa [he] using this
      · simp at e1 e2
        obtain ⟨x, hx, rx⟩ := r3.get (List.getElem?_eq_getElem (by omega : j < _))
        obtain ⟨y, hy, ry⟩ := r4.get (List.getElem?_eq_getElem (by omega : j < _))
        rw [Array.getElem?_toList, Array.getElem?_eq_getElem h1] at hx
        rw [Array.getElem?_toList, Array.getElem?_eq_getElem h2] at hy
        rw [Option.some.inj hx, Option.some.inj hy]
        have := in1_units (A := A)
        exact ih j _ _ (List.getElem?_eq_getElem _) (List.getElem?_eq_getElem _) (by omega) B rx ry
theorem Same.ints {v w : V} {ns : List Int} {n : Nat} (l : LV sto v (ns.map V.int)) (m : LV sto w (ns.map V.int)) : Same sto (n + 1) v w :=
  .list l m rfl fun j x y h1 h2 => by
    rw [h1] at h2; cases h2
    rw [List.getElem?_map] at h1
    obtain ⟨i, _, rfl⟩ := Option.map_eq_some_iff.mp h1
    exact .int _ _
/-- two lists of equal things -/
theorem eq_same {v w : V} {vs ws : List V} {Q : V → Sto → Prop} (l : LV sto v vs) (m : LV sto w ws) (hlen : vs.length = ws.length) (h : ∀ (j : Nat) (x y : V), vs[j]? = some x → ws[j]? = some y → Same sto 2 x y) (q : Q (.bool true) sto) : Op2 cx d (compareOp .Eq) v w sto Q := by
  intro A s ρ F x y hA B r₁ r₂
  obtain ⟨a, items, rfl, hl, r3⟩ := l.is B r₁
  obtain ⟨b, items2, rfl, hl2, r4⟩ := m.is B r₂
  have e1 := r3.length
  have e2 := r4.length
  have hu := hA.units
  refine PySem.SeqAt.eq_listAt (e := fun _ => true) hl hl2 (by simp at e1 e2; omega) hA.units' (fun j h1 h2 => ?_) ?_
  · simp at e1 e2
    obtain ⟨x, hx, rx⟩ := r3.get (List.getElem?_eq_getElem (by omega : j < _))
    obtain ⟨y, hy, ry⟩ := r4.get (List.getElem?_eq_getElem (by omega : j < _))
    rw [Array.getElem?_toList, Array.getElem?_eq_getElem h1] at hx
    rw [Array.getElem?_toList, Array.getElem?_eq_getElem h2] at hy
    rw [Option.some.inj hx, Option.some.inj hy]
    have := in1_units (A := A)
    exact (h j _ _ (List.getElem?_eq_getElem _) (List.getElem?_eq_getElem _)).at (by omega) B rx ry
  · rw [all_true]
    exact .imm0 B (by simp [VRel]) q

/-! truth values as numbers -/
def bi (b : Bool) : Int := if b = true then 1 else 0
theorem isub_ib {a : Int} {b : Bool} {Q : V → Sto → Prop} (q : Q (.int (a - bi b)) sto) : Op2 cx d (inplaceOp .Sub) (.int a) (.bool b) sto Q := by
  intro A s ρ F x y hA B r₁ r₂
  simp only [VRel] at r₁ r₂
  obtain ⟨t, rfl⟩ := r₁
  subst r₂
  exact PySem.IntBool.isub_int_bool (.imm B (by simp [VRel]; rfl) q _)
theorem isub_bb {a b : Bool} {Q : V → Sto → Prop} (q : Q (.int (bi a - bi b)) sto) : Op2 cx d (inplaceOp .Sub) (.bool a) (.bool b) sto Q := by
  intro A s ρ F x y hA B r₁ r₂
  simp only [VRel] at r₁ r₂
  subst r₁ r₂
  exact PyProof.Rows.isub_bool (.imm B (by simp [VRel]; rfl) q _)
theorem imul_ib {a : Int} {b : Bool} {Q : V → Sto → Prop} (q : Q (.int (a * bi b)) sto) : Op2 cx d (inplaceOp .Mult) (.int a) (.bool b) sto Q := by
  intro A s ρ F x y hA B r₁ r₂
  simp only [VRel] at r₁ r₂
  obtain ⟨t, rfl⟩ := r₁
  subst r₂
  exact PySem.IntBool.imul_int_bool (.imm B (by simp [VRel]; rfl) q _)
theorem imul_bi {a : Bool} {b : Int} {Q : V → Sto → Prop} (q : Q (.int (bi a * b)) sto) : Op2 cx d (inplaceOp .Mult) (.bool a) (.int b) sto Q := by
  intro A s ρ F x y hA B r₁ r₂
  simp only [VRel] at r₁ r₂
  obtain ⟨t, rfl⟩ := r₂
  subst r₁
  exact PySem.IntBool.imul_bool_int (.imm B (by simp [VRel]; rfl) q _)
theorem imul_bb {a b : Bool} {Q : V → Sto → Prop} (q : Q (.int (bi a * bi b)) sto) : Op2 cx d (inplaceOp .Mult) (.bool a) (.bool b) sto Q := by
  intro A s ρ F x y hA B r₁ r₂
  simp only [VRel] at r₁ r₂
  subst r₁ r₂
  exact PyProof.Rows.imul_bool (.imm B (by simp [VRel]; rfl) q _)

/-! factors of some length -/
theorem bits_lt {a : Int} {k : Nat} (h : a.natAbs < 2 ^ k) : Builtin.Int.intBits a ≤ k := by
  unfold Builtin.Int.intBits
  split
  · exact Nat.zero_le _
  · rename_i h0
    have h0 : a.natAbs ≠ 0 := by
      intro h1; exact h0 (by simp [Int.natAbs_eq_zero.mp h1])
    have := (Nat.log2_lt h0).mpr h
    omega
theorem mulOk_b {a b : Int} {k m : Nat} (ha : a.natAbs < 2 ^ k) (hb : b.natAbs < 2 ^ m) (h : k + m ≤ 2 ^ 20) : IntMulOk a b := by
  unfold IntMulOk
  have h1 := bits_lt ha
  have h2 := bits_lt hb
  have : Builtin.Int.intTooBig ((Builtin.Int.intBits a : Int) + (Builtin.Int.intBits b : Int)) = false := by
    unfold Builtin.Int.intTooBig bitsLine
    simp only [decide_eq_false_iff_not]
    omega
  simp [this]
end
end Mine

namespace Mine
/-- a row of n numbers told by a function -/
def rowV (n : Nat) (f : Nat → Int) : List V := (List.range n).map fun t => V.int (f t)
def at0 (l : List Int) (t : Nat) : Int := l[t]?.getD 0
theorem rowV_len {n : Nat} {f : Nat → Int} : (rowV n f).length = n := by simp [rowV]
theorem rowV_get {n i : Nat} {f : Nat → Int} (h : i < n) : (rowV n f)[i]? = some (.int (f i)) := by simp [rowV, h]
theorem rowV_congr {n : Nat} {f g : Nat → Int} (h : ∀ t, t < n → f t = g t) : rowV n f = rowV n g := by
  unfold rowV
  refine List.map_congr_left fun t ht => ?_
  rw [h t (by simpa using ht)]
theorem rowV_ints {n : Nat} {f : Nat → Int} : rowV n f = ((List.range n).map f).map V.int := by simp [rowV]
theorem ints_rowV (l : List Int) : l.map V.int = rowV l.length (at0 l) := by
  refine List.ext_getElem (by simp [rowV]) fun i h1 h2 => ?_
  simp at h1
  simp [rowV, at0, h1]
theorem rowV_set {n i : Nat} {f : Nat → Int} {v : Int} : (rowV n f).set i (.int v) = rowV n (fun t => if t = i then v else f t) := by
  refine List.ext_getElem (by simp [rowV]) fun j h1 h2 => ?_
  rw [List.getElem_set]
  simp only [rowV, List.getElem_map, List.getElem_range]
  by_cases h : i = j
  · simp [h]
  · rw [if_neg h, if_neg (fun e => h e.symm)]
theorem rowV_zero {n : Nat} : (List.replicate n [V.int 0]).flatten = rowV n (fun _ => 0) := by
  induction n with
  | zero => rfl
  | succ n ih =>
    rw [List.replicate_succ', List.flatten_append, ih]
    simp [rowV, List.range_succ]
theorem at0_map {n : Nat} {f : Nat → Int} {t : Nat} : at0 ((List.range n).map f) t = if t < n then f t else 0 := by
  unfold at0
  by_cases h : t < n
  · simp [h]
  · simp [h]
section
variable {cx : Cx} {sc : Scope} {d : Nat} {loc : Loc} {sto : Sto}
theorem get_row {m n i : Nat} {f : Nat → Int} {k : Int} {Q : V → Sto → Prop} (hm : sto[m]? = some (rowV n f)) (hk : k = (i : Int)) (hi : i < n) (hn : n < 2 ^ 62) (q : Q (.int (f i)) sto) : GetV cx d (.obj m) (.int k) sto Q := by
  subst hk
  exact get_obj (j := i) hm (by omega) (by rw [rowV_len]; exact seqIndex_nn hi) (rowV_get hi) q
theorem get_rowl {n i : Nat} {f : Nat → Int} {k : Int} {Q : V → Sto → Prop} (hk : k = (i : Int)) (hi : i < n) (hn : n < 2 ^ 62) (q : Q (.int (f i)) sto) : GetV cx d (.lst (rowV n f)) (.int k) sto Q := by
  subst hk
  exact get_lst (j := i) (by omega) (by rw [rowV_len]; exact seqIndex_nn hi) (rowV_get hi) q
theorem get_ints {l : List Int} {i : Nat} {k : Int} {Q : V → Sto → Prop} (hk : k = (i : Int)) (hi : i < l.length) (hn : l.length < 2 ^ 62) (q : Q (.int (at0 l i)) sto) : GetV cx d (.lst (l.map V.int)) (.int k) sto Q := by
  rw [ints_rowV]
  exact get_rowl hk hi hn q
/-- out[i] = v of a tracked row -/
theorem s_setrow {x : Str} {value index : Expr} {px p pos : Pos} {m : Nat} {rest : List Stmt} {Q : Fl → Loc → Sto → Prop} (hx : loc.lookup x = some (.obj m))
    (h : WE cx sc d value loc sto fun v sto₁ => WE cx sc d index loc sto₁ fun i sto₂ => ∃ (n : Nat) (f : Nat → Int) (k : Nat) (w : Int), v = .int w ∧ i = .int k ∧ sto₂[m]? = some (rowV n f) ∧ k < n ∧ n < 2 ^ 62 ∧ WSs cx sc d rest loc (sto₂.set m (rowV n (fun t => if t = k then w else f t))) Q)
    (hk : isVar sc x = true := by rfl) (hd : (x == ("__debug__" : Str)) = false := by decide) (hn : noComp value = true := by rfl) : WSs cx sc d (.Assign [.Subscript (.Name x px) index p] value pos :: rest) loc sto Q :=
  s_set hx (h.mono fun v st q => q.mono fun i st₂ q₂ => by
    obtain ⟨n, f, k, w, rfl, rfl, h1, h2, h3, h4⟩ := q₂
    exact ⟨k, _, rfl, h1, by rw [rowV_len]; exact h2, by rw [rowV_len]; exact h3, by rw [rowV_set]; exact h4⟩) hk hd hn
/-- sum(xs[e::n]) of ints is an int -/
theorem we_sumfrom {xs : Str} {lo : Expr} {px p0 ps pos pf : Pos} {st : Int} {stp : Pos} {ns : List Int} {Q : V → Sto → Prop} (hb : BI cx "sum" (.builtin "sum")) (hx : loc.lookup xs = some (.lst (ns.map V.int))) (hl : ns.length ≤ 63) (hst : st ≠ 0)
    (h : WE cx sc d lo loc sto fun v st => ∃ i, v = .int i ∧ ∀ n, Q (.int n) st) (h1 : isVar sc xs = true := by rfl) (h3 : isGlob sc "sum" = true := by rfl) (h4 : (xs == ("__debug__" : Str)) = false := by decide) :
    WE cx sc d (.Call (.Name "sum" pf) [.Subscript (.Name xs px) (.Slice (some lo) none (some (.Constant (.int st) 0 stp)) p0) ps] [] pos) loc sto Q := by
  refine we_bcall hb ?_ h3 (by decide) rfl
  refine wes_cons ?_ rfl
  refine WEN.data (wen_slice ?_)
  refine we_name hx ?_ h1 h4
  refine weo_some (h.mono fun v sto₁ hv => ?_)
  obtain ⟨i, rfl, q⟩ := hv
  refine ⟨i, rfl, ?_⟩
  refine weo_none ?_
  refine weo_some (we_int ?_)
  refine ⟨_, rfl, ?_⟩
  refine ⟨_, .lst _, by simpa using hst, by simp [sizeLine]; omega, ?_⟩
  obtain ⟨ms, hms⟩ := pickV_ints ns (some i) none (some st)
  rw [hms]
  refine wes_nil ?_
  exact call_sum (.lst _) (q _)
end
end Mine

namespace Mine
section
variable {cx : Cx} {sc : Scope} {d : Nat} {loc : Loc} {sto : Sto} {ρ : List Addr} {F : Addr → Prop} {s : Shared} {env : Env}
theorem swapped_two {x y : Str} {p1 p2 tp vp : Pos} {k k2 : Nat} {e1 e2 : Expr} {A : Around} (hE : EnvOK sc env A) (hx : sc.names.lookup x = some .local) (hy : sc.names.lookup y = some .local) (hxy : x ≠ y) (hl : p1.line = p2.line)
    (s1 : noStar e1 = true) (s2 : noStar e2 = true) (hf : (foldedForSure 8 e1 && foldedForSure 8 e2) = false) (hc : (constantsAlone 8 e1 && constantsAlone 8 e2) = false) :
    swappedStores [.Tuple [.Name x p1, .Name y p2] k tp] (.Tuple [e1, e2] k2 vp) env = pure (some [x, y]) := by
  have hbk : env.blockKind = .function := by unfold Env.blockKind; rw [hE.scope, hE.kind]; try rfl
  have h1 : env.kindOf x = some .local := by unfold Env.kindOf; rw [hE.scope]; exact hx
  have h2 : env.kindOf y = some .local := by unfold Env.kindOf; rw [hE.scope]; exact hy
  have hst : ([e1, e2].any fun | .Starred .. => true | _ => false) = false := by
    have one : ∀ e : Expr, noStar e = true → (match e with | .Starred .. => true | _ => false) = false := fun e h => by
      cases e <;> first | rfl | exact absurd h (by simp [noStar])
    simp only [List.any_cons, List.any_nil, one e1 s1, one e2 s2]
    rfl
  unfold swappedStores
  simp only [List.length_cons, List.length_nil, hbk]
  rw [if_neg (by decide), if_neg (by intro hh; exact Bool.false_ne_true (hst.symm.trans hh))]
  have hd : ([x, y] : List Str).eraseDups = [x, y] := by
    simp [List.eraseDups_cons, hxy, Ne.symm hxy, bne_iff_ne]
  simp [h1, h2, hl, Expr.pos, hd, List.all_cons, hf, hc]

/-- x, y = (e1, e2) -/
theorem s_swap {x y : Str} {p1 p2 tp vp pos : Pos} {k k2 : Nat} {e1 e2 : Expr} {rest : List Stmt} {Q : Fl → Loc → Sto → Prop}
    (h : WE cx sc d e1 loc sto fun v sto₁ => WE cx sc d e2 loc sto₁ fun w sto₂ => WSs cx sc d rest ((x, v) :: (y, w) :: loc) sto₂ Q)
    (hx : sc.names.lookup x = some .local := by rfl) (hy : sc.names.lookup y = some .local := by rfl) (hxy : x ≠ y := by decide) (hl : p1.line = p2.line := by rfl)
    (s1 : noStar e1 = true := by rfl) (s2 : noStar e2 = true := by rfl) (hf : (foldedForSure 8 e1 && foldedForSure 8 e2) = false := by rfl) (hc : (constantsAlone 8 e1 && constantsAlone 8 e2) = false := by rfl) :
    WSs cx sc d (.Assign [.Tuple [.Name x p1, .Name y p2] k tp] (.Tuple [e1, e2] k2 vp) pos :: rest) loc sto Q := by
  refine ss_cons ?_
  intro env A s ρ F hE hA B f
  have h' : WE cx sc d (.Tuple [e1, e2] k2 vp) loc sto fun t sto₂ => ∃ v w, t = .tup [v, w] ∧ WSs cx sc d rest ((x, v) :: (y, w) :: loc) sto₂ Q :=
    we_tuple (wes_cons (h.mono fun v sto₁ q => wes_cons (q.mono fun w sto₂ q₂ => wes_nil ⟨by simp [sizeLine], v, w, rfl, q₂⟩) s2) s1)
  refine Assign_Tuple_swapped (names := [x, y]) (wpAny_mono (h' env A s ρ F hE hA B f) ?_ fun _ _ x => x) rfl (swapped_two hE hx hy hxy hl s1 s2 hf hc)
  rintro z s₁ ⟨t, sto₁, ρ₁, F₁, st₁, r₁, B₁, v, w, rfl, q⟩
  simp only [VRel] at r₁
  obtain ⟨a, items, rfl, hF, ht, r₂⟩ := r₁
  have hsz : items.size = 2 := by have := r₂.length; simpa using this
  rw [show ([x, y] : List Str).length = items.size from hsz.symm]
  refine unpackItems_tuple hA.handled ht fun h₂ he => ?_
  have hk : ∀ b o, s₁.heap.get? b = some o → h₂.get? b = some o := fun b o e => he b o (Nat.ne_of_lt (Heap.lt_size e)) e
  obtain ⟨xv, yv, hi, rx, ry⟩ := r₂.two
  rw [hi]
  have st₂ : Step NoWr ρ₁ F₁ s₁ ρ₁ F₁ { s₁ with heap := h₂, toks := s₁.toks } := keepsStep hk
  have B₂ : Base cx ρ₁ F₁ sto₁ { s₁ with heap := h₂, toks := s₁.toks } := B₁.keeps hk
  have f₂ := (f.step B st₁).step B₁ st₂
  have hvx : isVar sc x = true := by unfold isVar; rw [hx]
  have hvy : isVar sc y = true := by unfold isVar; rw [hy]
  show wpAny _ A (do holding [xv] (bindName env y yv); (do holding [] (bindName env x xv); pure ())) _ _ _
  refine wpAny_bind (wpAny_holding (wpAny_bindName (store_var hE B₂ f₂ (ry.keeps hk) hvy fun s₃ st₃ B₃ f₃ => ?_)))
  have rx₃ := st₃.vrel B₂ (fun b hb hF => by
    have := (f₂.own b hb).2.1
    exact this hF) (rx.keeps hk)
  refine wpAny_bind (wpAny_holding (wpAny_bindName (store_var hE B₃ f₃ rx₃ hvx fun s₄ st₄ B₄ f₄ => wpAny_pure ?_)))
  exact ⟨.next, _, _, ρ₁, F₁, (st₁.trans st₂).own.trans (st₃.trans st₄), rfl, B₄, f₄, q⟩
end
end Mine

namespace Mine
def upto (a : Int) (n : Nat) : List Int := (List.range n).map fun i : Nat => a + (i : Int)
section
variable {cx : Cx} {sc : Scope} {d : Nat} {loc : Loc} {sto : Sto} {ifs : List Expr} {elt : Expr} {x : Str}
/-- a comprehension over a range with a pure test -/
theorem CompS.filt {a b : Int} {Q : List V → Sto → Prop} (P : Int → Bool) (g : Int → Int) (htest : ∀ i : Nat, a + i < b → ∀ R : Bool → Sto → Prop, R (P (a + i)) sto → TestS cx sc d ifs ((x, .int (a + i)) :: loc) sto R)
    (helt : ∀ i : Nat, a + i < b → P (a + i) = true → ∀ R : V → Sto → Prop, R (.int (g (a + i))) sto → WE cx sc d elt ((x, .int (a + i)) :: loc) sto R)
    (hend : Q ((((upto a (b - a).toNat).filter P).map g).map V.int) sto) : CompS cx sc d x ifs elt loc (rngV a b 1) [] sto Q := by
  refine CompS.at _ (fun i acc st => st = sto ∧ acc = (((upto a i).filter P).map g).map V.int) ?_ ?_ ⟨rfl, rfl⟩
  · rintro i v acc st hv ⟨rfl, rfl⟩
    obtain ⟨rfl, hlt⟩ := rngV_get hv
    refine htest i hlt _ ?_
    have hup : upto a (i + 1) = upto a i ++ [a + (i : Int)] := by simp [upto, List.range_succ]
    rw [hup, List.filter_append]
    refine if_b (fun hp => ?_) (fun hp => ?_)
    · refine helt i hlt hp _ ⟨rfl, ?_⟩
      simp [hp]
    · refine ⟨rfl, ?_⟩
      simp [hp]
  · rintro acc st ⟨rfl, rfl⟩
    rw [rngV_length]
    exact hend
end
end Mine

namespace Mine
section
variable {cx : Cx} {sc : Scope} {d : Nat} {loc : Loc} {sto : Sto} {ρ : List Addr} {F : Addr → Prop} {s : Shared} {env : Env}
theorem main_run {A : Around} {E : Value → Shared → Prop} {Q : Bool → Shared → Prop} (hc : ∃ c o vs, env.code = .ref c ∧ s.heap.get? c = some o ∧ o.data = .fields vs) (h : ∀ b, Q b s) : wpAny (model cx.prog cx.w) A (inMainModule env) Q E s := by
  obtain ⟨c, o, vs, e, ho, hd⟩ := hc
  unfold inMainModule
  try dsimp only
  rw [e]
  split
  · exact wpAny_pure (h _)
  · refine wpAny_bind (wpAny_fieldsOf ho hd ?_)
    split
    · exact wpAny_bind (wpAny_askSetting (wpAny_pure (h _)))
    · exact wpAny_pure (h _)

/-- {e} of an int -/
theorem we_set1 {e : Expr} {pos : Pos} {Q : V → Sto → Prop} (h : WE cx sc d e loc sto fun v st => ∃ i, v = .int i ∧ Q (.thing "set") st)
    (hdot : sc.names.lookup (".0" : Str) = none := by rfl) (hst : noStar e = true := by rfl) : WE cx sc d (.Set [e] 0 pos) loc sto Q := by
  intro env A s ρ F hE hA B f
  obtain ⟨hf, outer, hfr⟩ := hE.top hdot
  obtain ⟨c, o, vs, hc1, hc2, hc3⟩ := hA.codes _ hfr env List.mem_cons_self
  rw [arm_eval_Set]
  refine wpAny_bind (wpAny_standAt ?_)
  refine wpAny_bind (main_run ⟨c, o, vs, hc1, B.stays _ _ hc2, hc3⟩ fun b => ?_)
  rw [starEach_cons hst]
  refine kds_core (ts := (evalEach [e] env).map fun t => do let v ← t; standAt pos; pure v) rfl rfl (Nat.le_of_ble_eq_true rfl) rfl fun led => ?_
  refine kds_all pos [e] _ _ ?_
  have hfresh := noneAt s
  have hk : ∀ b o, s.heap.get? b = some o → (s.heap.push { cls := .type "set", dict := none, data := .set #[] 0 (.fresh 0 0 led) }).get? b = some o := fun b o e => Heap.get?_push_of_some _ e
  have st₁ : Step NoWr ρ F s ρ F { s with heap := s.heap.push { cls := .type "set", dict := none, data := .set #[] 0 (.fresh 0 0 led) }, toks := s.toks } := keepsStep hk
  have B₁ : Base cx ρ F sto { s with heap := s.heap.push { cls := .type "set", dict := none, data := .set #[] 0 (.fresh 0 0 led) }, toks := s.toks } := B.keeps hk
  have hD : (s.heap.push { cls := .type "set", dict := none, data := .set #[] 0 (.fresh 0 0 led) }).get? s.heap.objs.size = some { cls := .type "set", dict := none, data := .set #[] 0 (.fresh 0 0 led) } := Heap.get?_push_size _ rfl
  have hDρ : s.heap.objs.size ∉ ρ := fun hm => by obtain ⟨o', ho'⟩ := B.lt hm; rw [hfresh] at ho'; cases ho'
  show wpAny _ A (eval e env) _ _ { s with heap := s.heap.push { cls := .type "set", dict := none, data := .set #[] 0 (.fresh 0 0 led) }, toks := s.toks }
  refine wpAny_mono (h env A _ ρ F hE (hA.step st₁) B₁ (f.step B st₁)) ?_ fun _ _ x => x
  rintro x s₂ ⟨v, sto₂, ρ₂, F₂, st₂, r₂, B₂, i, rfl, q⟩
  simp only [VRel] at r₂
  obtain ⟨t, rfl⟩ := r₂
  obtain ⟨o₂, ho₂, k₂⟩ := st₂.kept s.heap.objs.size _ hDρ (fun h => h) hD
  rw [k₂.same (fun es n q => by cases q)] at ho₂
  have hS : s₂.heap.SetOf (PySem.intKind cx.prog cx.w) s.heap.objs.size (fun _ => false) 0 := (setObjOf_fresh led).setOf ho₂ (by decide)
  show wpAny _ A (setAdd s.heap.objs.size (.int i t)) _ _ s₂
  unfold setAdd
  refine wpAny_holding (wpAny_bind ((PySem.intKind cx.prog cx.w).pyHash (intKind_is _ _ i t) ?_))
  refine wpAny_setAddHashed_of (s := { s₂ with toks := s₂.toks + 1 }) (intKind_is _ _ i t) rfl hS (by decide) fun h' hsb hS' => ?_
  refine kds_fill_nil rfl ?_
  obtain ⟨o₃, es₃, ep₃, t₃, ho₃, hex₃, hd₃, _⟩ := hS'
  have hDF : ¬ F s.heap.objs.size := fun hF => by obtain ⟨o', ho'⟩ := B.live _ hF; rw [hfresh] at ho'; cases ho'
  have hDρ₂ : s.heap.objs.size ∉ ρ₂ := fun hm => by
    rcases st₂.newr _ hm with h | h
    · exact hDρ h
    · rw [hD] at h; cases h
  have hDF₂ : ¬ F₂ s.heap.objs.size := fun hm => by
    rcases st₂.newF _ hm with h | h
    · exact hDF h
    · rw [hD] at h; cases h
  have hbase : cx.base.get? s.heap.objs.size = none := by
    cases e : cx.base.get? s.heap.objs.size with
    | none => rfl
    | some o => have := B.stays _ _ e; rw [hfresh] at this; cases this
  have hsb : Heap.SameBut s.heap.objs.size s₂.heap h' := hsb
  have st₃ : Step NoWr ρ F s ρ₂ F₂ { s₂ with heap := h', toks := s₂.toks + 1 } := Step.later (wr := [s.heap.objs.size]) (st₁.trans st₂) (fun b o hb e => (hsb.2 b (fun q => hb (List.mem_singleton.mpr q))).trans e) (fun b hb => by rw [List.mem_singleton.mp hb]; exact hfresh)
  have B₃ : Base cx ρ₂ F₂ sto₂ { s₂ with heap := h', toks := s₂.toks + 1 } := B₂.sameBut hsb hDρ₂ hDF₂ hbase
  have sub : ∀ b, F₂ b → F₂ b ∨ b = s.heap.objs.size := fun b h => .inl h
  refine ⟨.thing "set", sto₂, ρ₂, fun b => F₂ b ∨ b = s.heap.objs.size, ⟨st₃.pre, fun b h => .inl (st₃.sub b h), st₃.newr, fun b h => ?_, st₃.kept, st₃.alive⟩, ?_, ?_, q⟩
  · rcases h with h | rfl
    · exact st₃.newF b h
    · exact .inr hfresh
  · simp only [VRel]
    exact ⟨_, o₃, rfl, .inr rfl, ho₃, hex₃.1, es₃, ep₃, t₃, hd₃⟩
  · refine ⟨B₃.stays, B₃.rnew, B₃.nodup, B₃.len, fun i b us e1 e2 => ?_, fun b h => ?_, fun b h => ?_, B₃.gens, B₃.os⟩
    · obtain ⟨its, hi, hr'⟩ := B₃.objs i b us e1 e2
      exact ⟨its, hi, hr'.mono sub (fun _ _ x => x) fun _ _ _ e _ => e⟩
    · rcases h with h | rfl
      · exact B₃.disj b h
      · exact hDρ₂
    · rcases h with h | rfl
      · exact B₃.live b h
      · exact ⟨o₃, ho₃⟩
end
end Mine

namespace Mine
section
variable {cx : Cx} {sc : Scope} {d : Nat} {loc : Loc} {sto : Sto}
theorem ne_ss {a b : Str} {Q : V → Sto → Prop} (q : Q (.bool (a.cps.toList != b.cps.toList)) sto) : Op2 cx d (compareOp .NotEq) (.str a) (.str b) sto Q := by
  intro A s ρ F x y hA B r₁ r₂
  simp only [VRel] at r₁ r₂
  obtain ⟨t, rfl⟩ := r₁
  obtain ⟨u, rfl⟩ := r₂
  exact P.ne_str (.imm0 B (by simp [VRel]) q)
theorem eq_ss {a b : Str} {Q : V → Sto → Prop} (q : Q (.bool (a.cps.toList == b.cps.toList)) sto) : Op2 cx d (compareOp .Eq) (.str a) (.str b) sto Q := by
  intro A s ρ F x y hA B r₁ r₂
  simp only [VRel] at r₁ r₂
  obtain ⟨t, rfl⟩ := r₁
  obtain ⟨u, rfl⟩ := r₂
  exact P.eq_str (.imm0 B (by simp [VRel]) q)
theorem ne_ss_same {a : Str} {Q : V → Sto → Prop} (q : Q (.bool false) sto) : Op2 cx d (compareOp .NotEq) (.str a) (.str a) sto Q := ne_ss (by simpa using q)
theorem sub_TV : isSubtype (.type "TypeError") (.type "ValueError") = pure false := by rw [isSubtype_type]; kernel_rfl
theorem sub_TZ : isSubtype (.type "TypeError") (.type "ZeroDivisionError") = pure false := by rw [isSubtype_type]; kernel_rfl
theorem hand_notV {b₀ : Stmt} {suite : List Stmt} {np pos : Pos} {rest : List ExceptHandler} {Q : Fl → Loc → Sto → Prop} (hb : BI cx "ValueError" (.type "ValueError")) (h : Hand cx sc rest "TypeError" loc sto Q) (hg : isGlob sc "ValueError" = true := by rfl) :
    Hand cx sc (.ExceptHandler (some (.Name "ValueError" np)) none (b₀ :: suite) pos :: rest) "TypeError" loc sto Q := hand_miss hb h PySem.F.isExc_ValueError PySem.F.notTuple_ValueError sub_TV hg
theorem hand_notZ {b₀ : Stmt} {suite : List Stmt} {np pos : Pos} {rest : List ExceptHandler} {Q : Fl → Loc → Sto → Prop} (hb : BI cx "ZeroDivisionError" (.type "ZeroDivisionError")) (h : Hand cx sc rest "TypeError" loc sto Q) (hg : isGlob sc "ZeroDivisionError" = true := by rfl) :
    Hand cx sc (.ExceptHandler (some (.Name "ZeroDivisionError" np)) none (b₀ :: suite) pos :: rest) "TypeError" loc sto Q := hand_miss hb h PySem.F.isExc_ZeroDivisionError PySem.F.notTuple_ZeroDivisionError sub_TZ hg
theorem idx_neg1 {n : Nat} (h : 0 < n) : seqIndex? (-1) n = some (n - 1) := by
  rw [PySem.MeetsSeq.seqIndex_neg (by omega) (by omega)]; congr 1; omega
end
end Mine

namespace Mine
theorem VRels.intsAre {F : Addr → Prop} {ρ : List Addr} {h : Heap} : ∀ {ns : List Int} {xs : List Value}, VRels F ρ h (ns.map V.int) xs → IntsAre xs ns
  | [], _, q => by simp only [List.map_nil, VRels] at q; subst q; exact .nil
  | n :: ns, _, q => by
    simp only [List.map_cons, VRels] at q
    obtain ⟨y, ys, rfl, h1, h2⟩ := q
    simp only [VRel] at h1
    obtain ⟨t, rfl⟩ := h1
    exact .cons n t (VRels.intsAre h2)
section
variable {cx : Cx} {sc : Scope} {d : Nat} {loc : Loc} {sto : Sto}
theorem call_min {v : V} {ns : List Int} {Q : V → Sto → Prop} (l : LV sto v (ns.map V.int)) (hne : 0 < ns.length) (q : ∀ M, M ∈ ns → (∀ a, a ∈ ns → M ≤ a) → Q (.int M) sto) : CallV cx d (.builtin "min") [v] sto Q := by
  intro A s ρ F xs hA B r
  obtain ⟨x, rfl, r1⟩ := r.one
  obtain ⟨a, items, rfl, hl, r2⟩ := l.is B r1
  have hi := r2.intsAre
  have hnums := hi.numsOf
  have hlen : items.size = ns.length := by have := r2.length; simpa using this
  obtain ⟨ys, rfl⟩ := AllInts.items (vs := items) (by have := hi.allInts; simpa using this)
  rw [nums_intItems] at hnums
  have hsz : ys.size = ns.length := by simpa [intItems] using hlen
  refine min_intList hA.handled hl (by omega) fun v h' tk hv hk => ?_
  obtain ⟨t, rfl⟩ := intItems_at hv
  obtain ⟨h1, h2⟩ := argBest_lt (numAt ys) (ys.size - 1)
  refine ⟨.int _, sto, ρ, F, keepsStep hk, by simp only [VRel]; exact ⟨t, rfl⟩, B.keeps hk, q _ ?_ fun a ha => ?_⟩
  · rw [numAt_eq, hnums]; exact getD_mem (by omega)
  · obtain ⟨j, hj, rfl⟩ := mem_getD ha
    have := h2 j (by omega)
    rw [numAt_eq ys j, hnums] at this
    exact this
theorem idx_prev {i n : Nat} (hi : i < n) : ∃ j, j < n ∧ seqIndex? ((i : Int) - 1) n = some j := by
  cases i with
  | zero => exact ⟨n - 1, by omega, idx_neg1 (by omega)⟩
  | succ i => exact ⟨i, by omega, by rw [show ((i + 1 : Nat) : Int) - 1 = (i : Nat) by omega]; exact seqIndex_nn (by omega)⟩
/-- items of a list that is told by a function -/
def tabV (n : Nat) (g : Nat → V) : List V := (List.range n).map g
theorem tabV_len {n : Nat} {g : Nat → V} : (tabV n g).length = n := by simp [tabV]
theorem tabV_get {n i : Nat} {g : Nat → V} (h : i < n) : (tabV n g)[i]? = some (g i) := by simp [tabV, h]
theorem tabV_snoc {n : Nat} {g : Nat → V} : tabV n g ++ [g n] = tabV (n + 1) g := by simp [tabV, List.range_succ]
theorem rowV_tab {n : Nat} {f : Nat → Int} : rowV n f = tabV n fun t => V.int (f t) := rfl
theorem tabV_set {n i : Nat} {g : Nat → V} {v : V} : (tabV n g).set i v = tabV n (fun t => if t = i then v else g t) := by
  refine List.ext_getElem (by simp [tabV]) fun j h1 h2 => ?_
  simp only [tabV, List.getElem_set, List.getElem_map, List.getElem_range]
  by_cases h : i = j
  · simp [h]
  · simp [h, Ne.symm h]
theorem get_tab {m n i : Nat} {g : Nat → V} {k : Int} {Q : V → Sto → Prop} (hm : sto[m]? = some (tabV n g)) (hk : k = (i : Int)) (hi : i < n) (hn : n < 2 ^ 62) (q : Q (g i) sto) : GetV cx d (.obj m) (.int k) sto Q := by
  subst hk
  exact get_obj hm (by omega) (by rw [tabV_len]; exact seqIndex_nn hi) (tabV_get hi) q
theorem get_tabl {n i : Nat} {g : Nat → V} {k : Int} {Q : V → Sto → Prop} (hk : k = (i : Int)) (hi : i < n) (hn : n < 2 ^ 62) (q : Q (g i) sto) : GetV cx d (.lst (tabV n g)) (.int k) sto Q := by
  subst hk
  exact get_lst (by omega) (by rw [tabV_len]; exact seqIndex_nn hi) (tabV_get hi) q
mutual
theorem below_mono {k : Nat} : ∀ {v : V}, below 0 v = true → below k v = true
  | .none, _ => rfl
  | .bool _, _ => rfl
  | .int _, _ => rfl
  | .str _, _ => rfl
  | .obj n, h => by simp [below] at h
  | .raw _, _ => rfl
  | .tup vs, h => by simp only [below] at h ⊢; exact belows_mono h
  | .lst vs, h => by simp only [below] at h ⊢; exact belows_mono h
  | .rng _ _ _, _ => rfl
  | .thing _, _ => rfl
theorem belows_mono {k : Nat} : ∀ {vs : List V}, belows 0 vs = true → belows k vs = true
  | [], _ => rfl
  | v :: vs, h => by
    simp only [belows, Bool.and_eq_true] at h ⊢
    exact ⟨below_mono h.1, belows_mono h.2⟩
end
/-- tracked lists that hold no tracked list -/
def Flat (sto : Sto) : Prop := ∀ o ∈ sto, belows 0 o = true
theorem Flat.ok (h : Flat sto) : StoOK sto := fun o ho => belows_mono (h o ho)
theorem Flat.nil : Flat [] := fun _ h => nomatch h
theorem Flat.snoc {o : List V} (h : Flat sto) (ho : belows 0 o = true) : Flat (sto ++ [o]) := fun x hx => by
  rcases List.mem_append.mp hx with hx | hx
  · exact h x hx
  · rw [List.mem_singleton.mp hx]; exact ho
theorem Flat.set {o : List V} {n : Nat} (h : Flat sto) (ho : belows 0 o = true) : Flat (sto.set n o) := fun x hx => by
  rcases List.mem_or_eq_of_mem_set hx with hx | hx
  · exact h x hx
  · rw [hx]; exact ho
theorem belows_all {k : Nat} : ∀ {vs : List V}, (∀ v ∈ vs, below k v = true) → belows k vs = true
  | [], _ => rfl
  | v :: vs, h => by simp only [belows, Bool.and_eq_true]; exact ⟨h v List.mem_cons_self, belows_all fun u hu => h u (List.mem_cons_of_mem _ hu)⟩
theorem belows_tab {k n : Nat} {g : Nat → V} (h : ∀ i, i < n → below k (g i) = true) : belows k (tabV n g) = true :=
  belows_all fun v hv => by
    obtain ⟨i, hi, rfl⟩ := List.mem_map.mp hv
    exact h i (List.mem_range.mp hi)
theorem belows_row {k n : Nat} {f : Nat → Int} : belows k (rowV n f) = true := belows_tab fun _ _ => rfl
theorem set_last {l : Sto} {x y : List V} : (l ++ [x]).set l.length y = l ++ [y] := by simp
theorem get_last {l : Sto} {x : List V} : (l ++ [x])[l.length]? = some x := by simp
theorem get_fore {l t : Sto} {n : Nat} {x : List V} (h : l[n]? = some x) : (l ++ t)[n]? = some x := by
  rw [List.getElem?_append_left (List.getElem?_eq_some_iff.mp h).1]; exact h
theorem rowV_take {n k : Nat} {f : Nat → Int} (h : k ≤ n) : (rowV n f).take k = rowV k f := by
  refine List.ext_getElem (by simp [rowV]; omega) fun i h1 h2 => by simp [rowV]
theorem rowV_drop {n k : Nat} {f : Nat → Int} : (rowV n f).drop k = rowV (n - k) (fun t => f (k + t)) := by
  refine List.ext_getElem (by simp [rowV]) fun i h1 h2 => by simp [rowV]
end
theorem natAbs_mul_lt {a b : Int} {k m : Nat} (ha : a.natAbs < 2 ^ k) (hb : b.natAbs < 2 ^ m) : (a * b).natAbs < 2 ^ (k + m) := by
  rw [Int.natAbs_mul, Nat.pow_add]; exact Nat.mul_lt_mul'' ha hb
end Mine

namespace Mine
section
variable {cx : Cx} {sc : Scope} {d : Nat} {loc : Loc} {sto : Sto}
/-! sorted, in -/
theorem call_sorted {v : V} {ns : List Int} {Q : V → Sto → Prop} (l : LV sto v (ns.map V.int)) (h64 : ns.length < 64) (q : Q (.lst ((sortI ns).map V.int)) sto) : CallV cx d (.builtin "sorted") [v] sto Q := by
  intro A s ρ F xs hA B r
  obtain ⟨x, rfl, r1⟩ := r.one
  obtain ⟨a, ⟨items⟩, rfl, hl, r2⟩ := l.is B r1
  have hi := r2.intsAre
  have hlen : items.length = ns.length := IntsAre.length hi
  refine sorted_ints (vs := items) hl hi (by rw [hlen]; exact h64) fun out ns' a1 a2 a3 => ?_
  have e : ns' = sortI ns := eq_sortI a2 a3
  subst e
  obtain ⟨c, he⟩ := sortedAll_at s.heap items out
  have hk : ∀ b o, s.heap.get? b = some o → (sortedAll s.heap items out).get? b = some o := fun _ _ => sortedAll_old
  have hfresh : s.heap.get? (s.heap.objs.size + 1) = none := by
    cases e : s.heap.get? (s.heap.objs.size + 1) with
    | none => rfl
    | some o => exact absurd (Heap.lt_size e) (Nat.not_lt.mpr (Nat.le_succ _))
  have st : Step NoWr ρ F s ρ F { s with heap := sortedAll s.heap items out, toks := s.toks } := keepsStep hk
  have B' : Base cx ρ F sto { s with heap := sortedAll s.heap items out, toks := s.toks } := B.keeps hk
  obtain ⟨x1, x2, x3⟩ := newData st ⟨_, he, rfl, c, rfl⟩ (VRels.ints a1) (fun hm => by obtain ⟨o, ho⟩ := B.lt hm; rw [hfresh] at ho; cases ho) hfresh B'
  exact ⟨_, sto, ρ, _, x1, x2, x3, q⟩
theorem any_ints {k : Int} : ∀ {xs : List Value} {ns : List Int}, IntsAre xs ns → (xs.any fun y => match y with | .int a _ => a == k | _ => false) = ns.any (· == k)
  | _, _, .nil => rfl
  | _, _, .cons n t r => by simp only [List.any_cons, any_ints r]
theorem in_tup {k : Int} {ns : List Int} {Q : V → Sto → Prop} (q : Q (.bool (ns.any (· == k))) sto) : Op2 cx d (compareOp .In) (.int k) (.tup (ns.map V.int)) sto Q := by
  intro A s ρ F x y hA B r₁ r₂
  simp only [VRel] at r₁ r₂
  obtain ⟨t, rfl⟩ := r₁
  obtain ⟨a, ⟨items⟩, rfl, _, hl, r2⟩ := r₂
  have hi := r2.intsAre
  refine PySem.SeqAt.in_tupleAt (fun y => match y with | .int a _ => a == k | _ => false) hl (fun y hy => ?_) (.imm0 B (v := .bool (ns.any (· == k))) ?_ q)
  · have : ∀ {xs : List Value} {ns : List Int}, IntsAre xs ns → y ∈ xs → ∃ n t, y = .int n t := by
      intro xs ns h
      induction h with
      | nil => intro h; cases h
      | cons n t r ih => intro h; rcases List.mem_cons.mp h with rfl | h; exact ⟨n, t, rfl⟩; exact ih h
    obtain ⟨n, u, rfl⟩ := this hi (by simpa using hy)
    exact PySem.SeqAt.EqAt.int_int n u k t
  · have := any_ints (k := k) hi
    simp only [VRel, Value.bool.injEq]
    rw [← this]
    simp

/-! iterators that are made by the loop's head -/
def WEI (cx : Cx) (sc : Scope) (d : Nat) (e : Expr) (loc : Loc) (sto : Sto) (R : List V → Sto → Prop) : Prop :=
  ∀ env A s ρ F, EnvOK sc env A → AOK cx d A s.heap → Base cx ρ F sto s → Frame cx env ρ F loc s →
    wpAny (model cx.prog cx.w) A (eval e env) (fun a s₂ => ∃ sto₁ ρ₁ F₁ s₁ xs, Step NoWr ρ F s ρ₁ F₁ s₁ ∧ Base cx ρ₁ F₁ sto₁ s₁ ∧
      wpAny (model cx.prog cx.w) A (pyIter a) (fun it s₀ => ∃ I fp wr P St h₀ tk, it = .ref I ∧ s₀ = { s₁ with heap := h₀, toks := tk } ∧ (∀ b o, s₁.heap.get? b = some o → h₀.get? b = some o) ∧
        IterOK cx A s₁ ρ₁ F₁ I fp wr xs P St ∧ St 0 h₀) (fun _ _ => False) s₂ ∧ R xs sto₁) (fun _ _ => False) s
theorem ws_forI {x : Str} {iter : Expr} {body : List Stmt} {p pos : Pos} {Q : Fl → Loc → Sto → Prop}
    (h : WEI cx sc d iter loc sto fun xs sto₁ => LoopS cx sc d x body xs loc sto₁ Q) (hk : isVar sc x = true := by rfl)
    (hs : noSet iter = true := by rfl) : WS cx sc d (.For (.Name x p) iter body [] pos) loc sto Q := by
  intro env A s ρ F hE hA B f
  refine wpAny_For (wpAny_mono (h env A s ρ F hE hA B f) ?_ fun _ _ x => x) (notSet_folds hs env)
  rintro a s₂' ⟨sto₁, ρ₁, F₁, s₁, xs, st₁, B₁, hit, hloop⟩
  refine wpAny_mono hit ?_ fun _ _ x => x
  rintro it s₂ ⟨I, fp, wr, P, St, h₀, tk, rfl, rfl, hkeep, ok, hst⟩
  have f₁ := f.step B st₁
  -- what stands after i turns
  let Inv : Nat → Shared → Prop := fun k s' => ∃ i ρ' F' loc' sto', k = xs.length - i ∧ i ≤ xs.length ∧ Step (Own env) ρ₁ F₁ s₁ ρ' F' s' ∧ Base cx ρ' F' sto' s' ∧ Frame cx env ρ' F' loc' s' ∧
    St i s'.heap ∧ (∀ b ∈ wr, b ∉ ρ' ∧ ¬ F' b) ∧ LoopS cx sc d x body (xs.drop i) loc' sto' Q
  have wrBase : ∀ b ∈ wr, cx.base.get? b = none := fun b hb => by
    cases e : cx.base.get? b with
    | none => rfl
    | some o => have := B₁.stays b o e; rw [ok.fresh b hb] at this; cases this
  have wrOwn : ∀ b ∈ wr, ¬ Own env b := fun b hb ho => by
    obtain ⟨_, _, _, o, e⟩ := f₁.own b ho
    rw [ok.fresh b hb] at e; cases e
  have wrρ : ∀ b ∈ wr, b ∉ ρ₁ := fun b hb hm => by
    obtain ⟨i, hi⟩ := List.getElem?_of_mem hm
    have hlt : i < ρ₁.length := (List.getElem?_eq_some_iff.mp hi).1
    obtain ⟨items, ⟨n, ho⟩, _⟩ := B₁.objs i b (sto₁[i]'(B₁.len ▸ hlt)) hi (List.getElem?_eq_getElem _)
    rw [ok.fresh b hb] at ho; cases ho
  have wrF : ∀ b ∈ wr, ¬ F₁ b := fun b hb hF => by
    obtain ⟨o, ho⟩ := B₁.live b hF
    rw [ok.fresh b hb] at ho; cases ho
  have start : Inv xs.length { s₁ with heap := h₀, toks := tk } := by
    refine ⟨0, ρ₁, F₁, loc, sto₁, rfl, Nat.zero_le _, Step.later (wr := []) Step.refl (fun b o _ e => hkeep b o e) (fun _ h => nomatch h), B₁.later (wr := []) (fun b o _ e => hkeep b o e) (fun _ h => nomatch h),
      f₁.later (wr := []) (fun b o _ e => hkeep b o e) (fun _ h => nomatch h), hst, fun b hb => ⟨wrρ b hb, wrF b hb⟩, hloop⟩
  refine codeAny_forLoop_any Inv ?_ xs.length start
  rintro k s' ⟨i, ρ', F', loc', sto', rfl, hi, st', B', f', hst', hwr, hl⟩
  have hall : ∀ b ∈ wr, b ∉ ρ' ∧ ¬ F' b ∧ cx.base.get? b = none := fun b hb => ⟨(hwr b hb).1, (hwr b hb).2, wrBase b hb⟩
  by_cases hlt : i < xs.length
  · refine ok.walk.item i s' _ _ hlt hst' fun y h' tk' hP hst₂ hk₂ => ?_
    obtain ⟨v', hv', rv⟩ := ok.rel i y hlt hP
    have hgi : xs[i] = v' := by rw [List.getElem?_eq_getElem hlt] at hv'; exact Option.some.inj hv'
    rw [List.drop_eq_getElem_cons hlt, hgi] at hl
    unfold LoopS at hl
    have st₂ : Step (Own env) ρ₁ F₁ s₁ ρ' F' { s' with heap := h', toks := tk' } := st'.later hk₂ ok.fresh
    have B₂ := B'.later (t := tk') hk₂ hall
    have f₂ := f'.later (t := tk') hk₂ fun b hb => ⟨wrOwn b hb, (hwr b hb).2⟩
    refine wpAny_pure (a := ()) ?_
    refine wpAny_assign_Name (store_var hE B₂ f₂ (st₂.vrel B₁ f₁.noF rv) hk fun s₃ st₃ B₃ f₃ => ?_)
    have hA₃ := ((hA.step st₁).step st₂).step st₃
    refine wpAny_mono (hl env A s₃ ρ' F' hE hA₃ B₃ f₃) ?_ fun _ _ x => x.elim
    rintro g s₄ ⟨fl, loc₄, sto₄, ρ₄, F₄, st₄, r₄, B₄, f₄, q₄⟩
    have st₅ : Step (Own env) ρ₁ F₁ s₁ ρ₄ F₄ s₄ := (st₂.trans st₃).trans st₄
    -- the iterator is as it was
    have keepfp : ∀ b ∈ fp, ∀ o, h'.get? b = some o → s₄.heap.get? b = some o := fun b hb o e => by
      have hb' : b ∉ ρ' ∧ ¬ Own env b := by
        rcases ok.prot b hb with h | h
        · exact ⟨(hwr b h).1, wrOwn b h⟩
        · exact ⟨B'.disj b (st'.sub b h), fun ho => (f'.own b ho).2.1 (st'.sub b h)⟩
      obtain ⟨o', e', k'⟩ := (st₃.trans st₄).kept b o hb'.1 hb'.2 e
      rw [k'.same (ok.nd _ _ hst₂ b hb o e)] at e'
      exact e'
    have hst₄ : St (i + 1) s₄.heap := ok.walk.frame _ _ _ hst₂ keepfp
    have hwr₄ : ∀ b ∈ wr, b ∉ ρ₄ ∧ ¬ F₄ b := fun b hb => by
      obtain ⟨o, vs, e, _⟩ := ok.fld _ _ hst₂ b hb
      have st₃₄ := st₃.trans st₄
      refine ⟨fun h => ?_, fun h => ?_⟩
      · rcases st₃₄.newr b h with h | h
        · exact (hwr b hb).1 h
        · have h : h'.get? b = none := h
          rw [h] at e; cases e
      · rcases st₃₄.newF b h with h | h
        · exact (hwr b hb).2 h
        · have h : h'.get? b = none := h
          rw [h] at e; cases e
    cases fl with
    | next =>
      simp only [FlRel] at r₄; subst r₄
      exact ⟨xs.length - (i + 1), by omega, i + 1, ρ₄, F₄, loc₄, sto₄, rfl, hlt, st₅, B₄, f₄, hst₄, hwr₄, q₄⟩
    | cont =>
      simp only [FlRel] at r₄; subst r₄
      exact ⟨xs.length - (i + 1), by omega, i + 1, ρ₄, F₄, loc₄, sto₄, rfl, hlt, st₅, B₄, f₄, hst₄, hwr₄, q₄⟩
    | brk =>
      simp only [FlRel] at r₄; subst r₄
      exact ⟨.next, loc₄, sto₄, ρ₄, F₄, st₁.own.trans st₅, rfl, B₄, f₄, q₄⟩
    | ret r =>
      simp only [FlRel] at r₄
      obtain ⟨z, rfl, rz⟩ := r₄
      exact ⟨.ret r, loc₄, sto₄, ρ₄, F₄, st₁.own.trans st₅, ⟨z, rfl, rz⟩, B₄, f₄, q₄⟩
  · obtain rfl : i = xs.length := by omega
    refine ok.walk.done s' _ _ hst' fun h' tk' hk₂ => ?_
    rw [List.drop_length] at hl
    exact wpAny_execs_nil ⟨.next, loc', sto', ρ', F', st₁.own.trans (st'.later hk₂ ok.fresh), rfl, B'.later hk₂ hall, f'.later hk₂ fun b hb => ⟨wrOwn b hb, (hwr b hb).2⟩, hl⟩

theorem s_forI {x : Str} {iter : Expr} {body rest : List Stmt} {p pos : Pos} {Q : Fl → Loc → Sto → Prop}
    (h : WEI cx sc d iter loc sto fun xs sto₁ => LoopS cx sc d x body xs loc sto₁ (Then cx sc d rest Q)) (hk : isVar sc x = true := by rfl)
    (hs : noSet iter = true := by rfl) : WSs cx sc d (.For (.Name x p) iter body [] pos :: rest) loc sto Q := ss_cons (ws_forI h hk hs)
theorem rev_get {vs : List V} {i : Nat} (h : i < vs.length) : vs.reverse[i]? = vs[vs.length - 1 - i]? := by
  rw [List.getElem?_reverse h]
theorem wei_rev {x : Str} {p pos : Pos} {e : Expr} {R : List V → Sto → Prop} (hb : BI cx x (.type "reversed")) (h : WE cx sc d e loc sto fun v sto₁ => ∃ vs, v = .lst vs ∧ R vs.reverse sto₁)
    (hg : isGlob sc x = true := by rfl) (hd : (x == ("__debug__" : Str)) = false := by decide) (hs : noStars [e] = true := by rfl) : WEI cx sc d (.Call (.Name x p) [e] [] pos) loc sto R := by
  intro env A s ρ F hE hA B fr
  refine wpAny_Call_NameR (load_bi hb hE B hg hd ?_)
  have hs' := hs
  simp only [noStars, Bool.and_eq_true] at hs'
  have h' : WEs cx sc d [e] loc sto fun us sto₁ => ∃ vs, us = [.lst vs] ∧ R vs.reverse sto₁ :=
    wes_cons (h.mono fun v st q => wes_nil (by obtain ⟨vs, rfl, q⟩ := q; exact ⟨vs, rfl, q⟩)) hs'.1
  refine PyProof.Rows.callWith_type1 (wpAny_mono (h' env A s ρ F pos hE hA B fr) ?_ fun _ _ x => x) (starEach_cons hs'.1) (plain_trees rfl)
  rintro xs s₁ ⟨us, sto₁, ρ₁, F₁, st₁, r₁, B₁, vs, rfl, q⟩
  obtain ⟨y, rfl, r2⟩ := r₁.one
  simp only [VRel] at r2
  obtain ⟨a, items, rfl, hF, hl, r⟩ := r2
  refine call_reversed_list hl ?_
  have hne : a ≠ s₁.heap.objs.size := fun e => by obtain ⟨o, ho⟩ := B₁.live a hF; rw [e, noneAt s₁] at ho; cases ho
  have hlen : items.size = vs.length := by rw [← r.length]; simp
  have hit : (s₁.heap.push (revObj a ((items.size : Int) - 1))).IsRevIter s₁.heap.objs.size a ((items.size : Int) - 1) := ⟨_, Heap.get?_push_size _ rfl, rfl, rfl⟩
  refine ⟨sto₁, ρ₁, F₁, s₁, vs.reverse, st₁, B₁, wpAny_pyIter_revIter (s := { s₁ with heap := s₁.heap.push (revObj a ((items.size : Int) - 1)) }) hit ?_, q⟩
  refine ⟨s₁.heap.objs.size, [s₁.heap.objs.size, a], [s₁.heap.objs.size], fun i v => items[items.size - 1 - i]? = some v, fun i h => i ≤ items.size ∧ h.IsRevIter s₁.heap.objs.size a ((items.size : Int) - 1 - (i : Int)) ∧ h.IsList a items, _, s₁.toks, rfl, rfl, fun b o e => Heap.get?_push_of_some _ e, ?_, ?_⟩
  · have hW := Walks.listRev (prog := cx.prog) (w := cx.w) hA.handled s₁.heap.objs.size a hne items
    refine ⟨by rw [List.length_reverse, ← hlen]; exact hW, fun b hb => ?_, fun b hb => ?_, fun i h st b hb o e => ?_, fun i h st b hb => ?_, fun i y hi hy => ?_⟩
    · rw [List.mem_singleton.mp hb]; exact noneAt s₁
    · rcases List.mem_cons.mp hb with rfl | hb
      · exact .inl (by simp)
      · rw [List.mem_singleton.mp hb]; exact .inr hF
    · intro es n q
      rcases List.mem_cons.mp hb with rfl | hb
      · obtain ⟨o', ho', _, hd⟩ := st.2.1
        rw [e] at ho'; cases ho'; rw [hd] at q; cases q
      · rw [List.mem_singleton.mp hb] at e
        obtain ⟨o', ho', _, n', hd⟩ := st.2.2
        rw [e] at ho'; cases ho'; rw [hd] at q; cases q
    · rw [List.mem_singleton.mp hb]
      obtain ⟨o', ho', _, hd⟩ := st.2.1
      exact ⟨o', _, ho', hd⟩
    · rw [List.length_reverse] at hi
      rw [rev_get hi]
      have hlt : vs.length - 1 - i < vs.length := by omega
      obtain ⟨x, hx, rx⟩ := r.get (List.getElem?_eq_getElem hlt)
      rw [Array.getElem?_toList, ← hlen, hy] at hx; cases hx
      exact ⟨_, List.getElem?_eq_getElem hlt, rx⟩
  · exact ⟨Nat.zero_le _, by simpa using hit, hl.push _⟩
end

/-! a def whose first part makes lists that its second part only reads -/
section
variable {cx : Cx} {d : Nat} {sto : Sto}
def FrozL (k : Nat) (sto : Sto) (loc loc' : Loc) : Prop := ∀ x v', loc'.lookup x = some v' → ∃ v, loc.lookup x = some v ∧ Froz k sto v v'
theorem FrozL.nil {k : Nat} {sto : Sto} {loc : Loc} : FrozL k sto loc [] := fun x v' h => by simp at h
theorem FrozL.cons {k : Nat} {sto : Sto} {loc l : Loc} {x : Str} {v v' : V} (h1 : loc.lookup x = some v) (h2 : Froz k sto v v') (h3 : FrozL k sto loc l) : FrozL k sto loc ((x, v') :: l) := fun y w h => by
  rw [lookup_cons'] at h
  by_cases hx : y = x
  · rw [if_pos hx] at h; cases h; rw [hx]; exact ⟨v, h1, h2⟩
  · rw [if_neg hx] at h; exact h3 y w h
def Mid (cx : Cx) (sc : Scope) (d : Nat) (rest : List Stmt) (k : Nat) (Q : V → Sto → Prop) : Fl → Loc → Sto → Prop := fun fl loc sto => match fl with
  | .next => (∀ o ∈ sto.take k, belows k o = true) ∧ ∃ loc', FrozL k sto loc loc' ∧ WSs cx sc d rest loc' (sto.take k) (Ret k Q)
  | fl => Ret k Q fl loc sto
/-- the new lists are data from now on -/
theorem freeze {ρ t : List Addr} {F F₂ : Addr → Prop} {s s₂ : Shared} {sto₂ : Sto} {env : Env} {Wr : Addr → Prop} (B : Base cx ρ F sto s) (st₃ : Step Wr ρ F s (ρ ++ t) F₂ s₂) (B₂ : Base cx (ρ ++ t) F₂ sto₂ s₂) (hbel : ∀ o ∈ sto₂.take sto.length, belows sto.length o = true) :
    Step Wr ρ F s ρ (fun a => F₂ a ∨ a ∈ t) s₂ ∧ Base cx ρ (fun a => F₂ a ∨ a ∈ t) (sto₂.take sto.length) s₂ ∧
    (∀ v v' x, Froz sto.length sto₂ v v' → VRel F₂ (ρ ++ t) s₂.heap v x → VRel (fun a => F₂ a ∨ a ∈ t) ρ s₂.heap v' x) ∧
    (∀ loc loc', Frame cx env (ρ ++ t) F₂ loc s₂ → FrozL sto.length sto₂ loc loc' → Frame cx env ρ (fun a => F₂ a ∨ a ∈ t) loc' s₂) := by
  have nd := B₂.nodup
  have hlenρ : ρ.length = sto.length := B.len
  have tnew : ∀ a ∈ t, a ∉ ρ := fun a ha hb => (List.nodup_append.mp nd).2.2 a hb a ha rfl
  have key : ∀ v v' x, Froz sto.length sto₂ v v' → VRel F₂ (ρ ++ t) s₂.heap v x → VRel (fun a => F₂ a ∨ a ∈ t) ρ s₂.heap v' x := by
    intro v v' x hv rel
    cases hv with
    | same hbv => rw [← hlenρ] at hbv; exact VRel.restrict (fun a h => .inl h) hbv rel
    | list hkn hget hbv =>
      rename_i n vs
      simp only [VRel] at rel ⊢
      obtain ⟨b, hb1, hb2⟩ := rel
      obtain ⟨items, hl0, hr⟩ := B₂.objs n b vs hb1 hget
      have hl := hl0.isList
      rw [List.getElem?_append_right (by omega)] at hb1
      rw [← hlenρ] at hbv
      exact ⟨b, items, hb2, .inr (List.mem_of_getElem? hb1), hl, VRels.restrict (fun a h => .inl h) hbv hr⟩
  refine ⟨?_, ?_, key, fun loc loc' f hf => ?_⟩
  · refine ⟨⟨[], by simp⟩, fun a h => .inl (st₃.sub a h), fun a h => .inl h, fun a h => ?_, st₃.kept, st₃.alive⟩
    rcases h with h | h
    · exact st₃.newF a h
    · rcases st₃.newr a (List.mem_append_right _ h) with h' | h'
      · exact absurd h' (tnew a h)
      · exact .inr h'
  · have hl2 : ρ.length + t.length = sto₂.length := by have := B₂.len; rw [List.length_append] at this; exact this
    refine ⟨B₂.stays, fun a h => B₂.rnew a (List.mem_append_left _ h), (List.nodup_append.mp nd).1, by rw [List.length_take]; omega, fun i b vs h1 h2 => ?_, fun b h => ?_, fun b h => ?_, B₂.gens, B₂.os⟩
    · have hi : i < ρ.length := (List.getElem?_eq_some_iff.mp h1).1
      have h2' : sto₂[i]? = some vs := by rw [List.getElem?_take] at h2; split at h2 <;> first | exact h2 | cases h2
      obtain ⟨items, hl, hr⟩ := B₂.objs i b vs (by rw [List.getElem?_append_left hi]; exact h1) h2'
      refine ⟨items, hl, VRels.restrict (fun a h => .inl h) ?_ hr⟩
      rw [hlenρ]
      exact hbel vs (List.mem_of_getElem? h2)
    · rcases h with h | h
      · exact fun hm => B₂.disj b h (List.mem_append_left _ hm)
      · exact tnew b h
    · rcases h with h | h
      · exact B₂.live b h
      · exact B₂.lt (List.mem_append_right _ h)
  · refine ⟨?_, fun x v h1 h2 => ?_, f.cells, f.apart, fun b hb => ?_, f.lc⟩
    · obtain ⟨m, hn, hm⟩ := f.ns
      refine ⟨m, hn, fun x v h1 h2 => ?_⟩
      obtain ⟨w, hw, fw⟩ := hf x v h1
      obtain ⟨y, e, q⟩ := hm x w hw h2
      exact ⟨y, e, key _ _ _ fw q⟩
    · obtain ⟨w, hw, fw⟩ := hf x v h1
      obtain ⟨c, y, e, hc, q⟩ := f.cell x w hw h2
      exact ⟨c, y, e, hc, key _ _ _ fw q⟩
    · obtain ⟨h1, h2, h3, h4⟩ := f.own b hb
      refine ⟨fun h => h1 (List.mem_append_left _ h), fun h => ?_, h3, h4⟩
      rcases h with h | h
      · exact h2 h
      · exact h1 (List.mem_append_right _ h)
theorem callF_two {f : Str} {params : Arguments} {body fst snd : List Stmt} {scope : Scope} {args : List V} {names : List Str} {Q : V → Sto → Prop} (hf : FnIs cx f params body scope) (hbody : body = fst ++ snd)
    (h : WSs cx scope d fst (names.zip args) sto (Mid cx scope d snd sto.length Q))
    (hb : ∀ pm cd doc xs, xs.length = args.length → bindArgs (Calls.docDef f params body scope pm cd doc) ⟨xs, []⟩ = pure (names.zip xs))
    (hn : names.Nodup := by decide) (hv : (names.all fun x => isVar scope x) = true := by rfl) (hco : scope.isCoroutine = false := by rfl) (hgen : scope.isGenerator = false := by rfl) (hk : scope.kind = .function := by rfl) :
    CallF cx (d + 1) f args sto Q := by
  obtain ⟨a, o, pm, code, doc, e1, e2, e3, e4⟩ := hf.at'
  refine ⟨a, o, _, e1, e2, e3, ?_⟩
  intro A s ρ F xs hA B r
  have hlen := r.length
  refine wpAny_call (codeAny_call_cells (binds := names.zip xs) (body := body) (by have := hA.depth; omega) (B.stays _ _ e2) e3 (cx.top.nolimit.keeps B.stays) (e4.keeps B.stays) rfl (hb pm code doc xs hlen) rfl ?_ ?_ hco hgen hk)
  · intro x hx
    have hx1 : x.1 ∈ names := (List.of_mem_zip (show (x.1, x.2) ∈ names.zip xs from hx)).1
    have hv1 := List.all_eq_true.mp hv x.1 hx1
    unfold isVar at hv1
    split at hv1
    · rename_i hl; exact .inl hl
    · rename_i hl
      exact .inr ⟨hl, lookup_isSome_of_mem (cellsFrom_mem (.inr (mem_of_lookup hl)))⟩
    · cases hv1
  intro s₁ hin
  have hL : (callEnvC (Calls.docDef f params body scope pm code doc) s.heap.objs.size a).locals = s.heap.objs.size := rfl
  have hsc : (callEnvC (Calls.docDef f params body scope pm code doc) s.heap.objs.size a).scope = scope := rfl
  have hfr : (callEnvC (Calls.docDef f params body scope pm code doc) s.heap.objs.size a).frame = some s.heap.objs.size := rfl
  have hgl : (callEnvC (Calls.docDef f params body scope pm code doc) s.heap.objs.size a).globals = mainGlobals := rfl
  have hbl : (callEnvC (Calls.docDef f params body scope pm code doc) s.heap.objs.size a).builtins = builtinsNs := rfl
  have hcs : (callEnvC (Calls.docDef f params body scope pm code doc) s.heap.objs.size a).cells = cellsFrom (s.heap.objs.size + 1) scope.names [] := rfl
  have hco' : (callEnvC (Calls.docDef f params body scope pm code doc) s.heap.objs.size a).code = code := rfl
  generalize callEnvC (Calls.docDef f params body scope pm code doc) s.heap.objs.size a = env at *
  obtain ⟨hE, hA₁, st₁, B₁, f₁, ownNew⟩ := enter_def hA B r hL hsc hfr hgl hbl hcs hin hn hk (by obtain ⟨c, o, vs, t, q1, q2, q3, _⟩ := e4; exact ⟨c, o, vs, hco'.trans q1, q2, q3⟩)
  subst hbody
  rw [execs_append]
  have done : ∀ (fl : Fl) (g : Flow) (s₂ : Shared) (loc₂ : Loc) (sto₂ : Sto) (ρ₂ : List Addr) (F₂ : Addr → Prop), Step (Own env) ρ F s₁ ρ₂ F₂ s₂ → FlRel F₂ ρ₂ s₂.heap fl g → Base cx ρ₂ F₂ sto₂ s₂ → Ret sto.length Q fl loc₂ sto₂ → PostV cx ρ F s Q (retVal g) s₂ := by
    rintro fl g s₂ loc₂ sto₂ ρ₂ F₂ st₂ r₂ B₂ ⟨v, hv2, hbel, q⟩
    obtain ⟨t, rfl⟩ := st₂.pre
    have st₃ : Step (Own env) ρ F s (ρ ++ t) F₂ s₂ := st₁.own.trans st₂
    obtain ⟨z1, z2, z3, _⟩ := freeze (env := env) B st₃ B₂ hbel
    have rel : VRel F₂ (ρ ++ t) s₂.heap (retOf fl) (retVal g) := by
      cases fl with
      | next => simp only [FlRel] at r₂; subst r₂; simp [retOf, retVal, VRel]
      | brk => simp only [FlRel] at r₂; subst r₂; simp [retOf, retVal, VRel]
      | cont => simp only [FlRel] at r₂; subst r₂; simp [retOf, retVal, VRel]
      | ret w => simp only [FlRel] at r₂; obtain ⟨x, rfl, rx⟩ := r₂; exact rx
    refine ⟨v, _, ρ, _, ⟨z1.pre, z1.sub, z1.newr, z1.newF, fun b o hb _ e => z1.kept b o hb (fun ho => by rw [ownNew b ho] at e; cases e) e, z1.alive⟩, z3 _ _ _ hv2 rel, z2, q⟩
  refine wpAny_bind (wpAny_mono (h env (A.deeper env) s₁ ρ F hE hA₁ B₁ f₁) ?_ fun _ _ x => x.elim)
  rintro g s₂ ⟨fl, loc₂, sto₂, ρ₂, F₂, st₂, r₂, B₂, f₂, hm⟩
  cases fl with
  | next =>
    simp only [FlRel] at r₂; subst r₂
    obtain ⟨hbel, loc', hfz, hw⟩ := hm
    obtain ⟨t, rfl⟩ := st₂.pre
    obtain ⟨z1, z2, _, z4⟩ := freeze (env := env) B₁ st₂ B₂ hbel
    refine wpAny_mono (hw env (A.deeper env) s₂ ρ _ hE (hA₁.step z1) z2 (z4 _ _ f₂ hfz)) ?_ fun _ _ x => x.elim
    rintro g s₃ ⟨fl, loc₃, sto₃, ρ₃, F₃, st₃, r₃, B₃, f₃, hr⟩
    exact done fl g s₃ loc₃ sto₃ ρ₃ F₃ (z1.trans st₃) r₃ B₃ hr
  | brk => simp only [FlRel] at r₂; subst r₂; exact wpAny_pure (done .brk _ s₂ loc₂ sto₂ ρ₂ F₂ st₂ rfl B₂ hm)
  | cont => simp only [FlRel] at r₂; subst r₂; exact wpAny_pure (done .cont _ s₂ loc₂ sto₂ ρ₂ F₂ st₂ rfl B₂ hm)
  | ret w =>
    simp only [FlRel] at r₂
    obtain ⟨x, rfl, rx⟩ := r₂
    exact wpAny_pure (done (.ret w) _ s₂ loc₂ sto₂ ρ₂ F₂ st₂ ⟨x, rfl, rx⟩ B₂ hm)
end
end Mine

namespace Mine
section
variable {cx : Cx} {sc : Scope} {d : Nat} {loc : Loc} {sto : Sto} {ρ : List Addr} {F : Addr → Prop} {s : Shared}
/-! new lists, tracked where they are made -/
theorem PostN.trackV {s' : Shared} {Q : V → Sto → Prop} {x : Value} (h : PostN cx ρ F s (fun vs st => Q (.obj st.length) (st ++ [vs])) x s') : PostV cx ρ F s Q x s' := by
  obtain ⟨vs, sto', ρ', F', a, items, rfl, st', hl, r, h1, h2, h3, h4, B, q⟩ := h
  obtain ⟨t, rfl⟩ := st'.pre
  refine ⟨.obj sto'.length, sto' ++ [vs], (ρ ++ t) ++ [a], F', ⟨⟨t ++ [a], by simp⟩, st'.sub, fun b hb => ?_, st'.newF, st'.kept, st'.alive⟩, ?_, Mine.track B hl r h1 h2 h3, q⟩
  · rcases List.mem_append.mp hb with hb | hb
    · exact st'.newr b hb
    · rw [List.mem_singleton.mp hb]; exact .inr h4
  · simp only [VRel]
    refine ⟨a, ?_, rfl⟩
    rw [← B.len]; simp
theorem WEN.track {e : Expr} {Q : V → Sto → Prop} (h : WEN cx sc d e loc sto fun vs st => Q (.obj st.length) (st ++ [vs])) : WE cx sc d e loc sto Q :=
  fun env A s ρ F hE hA B f => wpAny_mono (h env A s ρ F hE hA B f) (fun _ _ p => p.trackV) fun _ _ x => x
theorem Op2N.track {t : Value → Value → Sem Value} {a b : V} {Q : V → Sto → Prop} (h : Op2N cx d t a b sto fun vs st => Q (.obj st.length) (st ++ [vs])) : Op2 cx d t a b sto Q :=
  fun A s ρ F x y hA B r₁ r₂ => wpAny_mono (h A s ρ F x y hA B r₁ r₂) (fun _ _ p => p.trackV) fun _ _ x => x

/-! writing an item of what an expression tells -/
theorem swaps_sub {value o i : Expr} {p : Pos} {n : Nat} {env : Env} : swapsWith value (some (.Subscript o i p)) n env = pure false := by
  cases value <;> rfl
theorem ws_setE {value obj index : Expr} {p pos : Pos} {Q : Fl → Loc → Sto → Prop}
    (h : WE cx sc d value loc sto fun v sto₁ => WE cx sc d obj loc sto₁ fun o sto₂ => WE cx sc d index loc sto₂ fun i sto₃ => ∃ (n k : Nat) (vs : List V), o = .obj n ∧ i = .int k ∧ sto₃[n]? = some vs ∧ k < vs.length ∧ vs.length < 2 ^ 62 ∧ Q .next loc (sto₃.set n (vs.set k v))) :
    WS cx sc d (.Assign [.Subscript obj index p] value pos) loc sto Q := by
  intro env A s ρ F hE hA B f
  refine wpAny_Assign_Subscript (wpAny_mono (h env A s ρ F hE hA B f) ?_ fun _ _ x => x) swaps_sub
  rintro y s₀ ⟨v, sto₀, ρ₀, F₀, st₀, r₀, B₀, h₀⟩
  have f₀ := f.step B st₀
  refine wpAny_mono (h₀ env A s₀ ρ₀ F₀ hE (hA.step st₀) B₀ f₀) ?_ fun _ _ x => x
  rintro z s₁ ⟨ov, sto₁, ρ₁, F₁, st₁, rz, B₁, h₁⟩
  have f₁ := f₀.step B₀ st₁
  refine wpAny_mono (h₁ env A s₁ ρ₁ F₁ hE ((hA.step st₀).step st₁) B₁ f₁) ?_ fun _ _ x => x
  rintro i s₂ ⟨iv, sto₂, ρ₂, F₂, st₂, r₂, B₂, n, k, vs, rfl, rfl, hvs, hkl, hb, q⟩
  simp only [VRel] at rz
  obtain ⟨a, ha, rfl⟩ := rz
  simp only [VRel] at r₂
  obtain ⟨t, rfl⟩ := r₂
  have ha₂ := st₂.getr _ _ ha
  obtain ⟨items, hl, r3⟩ := B₂.objs n a vs ha₂ hvs
  obtain ⟨c, ho⟩ := id hl
  have hlen : items.size = vs.length := by rw [← r3.length]; simp
  have rv := st₂.vrel B₁ noWrF (st₁.vrel B₀ noWrF r₀)
  have hm : ∀ o : Obj, o = { cls := .type "list", data := .seq items c } → ∃ c', Obj.mapSeq (fun xs => xs.setIfInBounds k y) o = { cls := .type "list", data := .seq (items.setIfInBounds k y) c' } := fun o e => by subst e; exact ⟨_, rfl⟩
  obtain ⟨c', hc'⟩ := hm _ rfl
  have hl' : (s₂.heap.update a (Obj.mapSeq (fun xs => xs.setIfInBounds k y))).PlainList a (items.setIfInBounds k y) := ⟨c', by rw [Heap.get?_update_self _ ho (by rw [hc']; rfl), hc']⟩
  have hsb : Heap.SameBut a s₂.heap (s₂.heap.update a (Obj.mapSeq (fun xs => xs.setIfInBounds k y))) := Heap.SameBut.update ..
  have rs : VRels F₂ ρ₂ s₂.heap (vs.set k v) (items.setIfInBounds k y).toList := by
    rw [Array.toList_setIfInBounds]; exact r3.set k rv
  refine ki_setAt (n := c) ho (by omega) (by omega) (by omega) ?_
  have st₃ : Step (Own env) ρ₂ F₂ s₂ ρ₂ F₂ { s₂ with heap := s₂.heap.update a (Obj.mapSeq (fun xs => xs.setIfInBounds k y)), toks := s₂.toks } := .write ha₂ hsb hl hl' s₂.toks
  have st₃' : Step NoWr ρ₂ F₂ s₂ ρ₂ F₂ { s₂ with heap := s₂.heap.update a (Obj.mapSeq (fun xs => xs.setIfInBounds k y)), toks := s₂.toks } := .write ha₂ hsb hl hl' s₂.toks
  exact ⟨.next, loc, _, ρ₂, F₂, ((st₀.trans st₁).trans st₂).own.trans st₃, rfl, B₂.write ha₂ hsb hl' rs s₂.toks, (f₁.step B₁ st₂).step B₂ st₃', q⟩
theorem s_setE {value obj index : Expr} {p pos : Pos} {rest : List Stmt} {Q : Fl → Loc → Sto → Prop}
    (h : WE cx sc d value loc sto fun v sto₁ => WE cx sc d obj loc sto₁ fun o sto₂ => WE cx sc d index loc sto₂ fun i sto₃ => ∃ (n k : Nat) (vs : List V), o = .obj n ∧ i = .int k ∧ sto₃[n]? = some vs ∧ k < vs.length ∧ vs.length < 2 ^ 62 ∧ WSs cx sc d rest loc (sto₃.set n (vs.set k v)) Q) :
    WSs cx sc d (.Assign [.Subscript obj index p] value pos :: rest) loc sto Q := ss_cons (ws_setE h)

/-! is -/
theorem obj_ne {n m : Nat} {a b : Addr} (B : Base cx ρ F sto s) (ha : ρ[n]? = some a) (hb : ρ[m]? = some b) (h : n ≠ m) : a ≠ b := fun e => by
  subst e
  have h1 := (List.getElem?_eq_some_iff.mp ha)
  have h2 := (List.getElem?_eq_some_iff.mp hb)
  obtain ⟨l1, e1⟩ := h1
  obtain ⟨l2, e2⟩ := h2
  have hp := List.pairwise_iff_getElem.mp B.nodup
  rcases Nat.lt_or_gt_of_ne h with hlt | hlt
  · exact hp n m l1 l2 hlt (e1.trans e2.symm)
  · exact hp m n l2 l1 hlt (e2.trans e1.symm)
theorem is_obj {n m : Nat} {Q : V → Sto → Prop} (hn : n < sto.length) (hm : m < sto.length) (q : Q (.bool (decide (n = m))) sto) : Op2 cx d (compareOp .Is) (.obj n) (.obj m) sto Q := by
  intro A s ρ F x y hA B r₁ r₂
  simp only [VRel] at r₁ r₂
  obtain ⟨a, ha, rfl⟩ := r₁
  obtain ⟨b, hb, rfl⟩ := r₂
  obtain ⟨ia, ⟨na, hoa⟩, _⟩ := B.objs n a _ ha (List.getElem?_eq_getElem hn)
  obtain ⟨ib, ⟨nb, hob⟩, _⟩ := B.objs m b _ hb (List.getElem?_eq_getElem hm)
  by_cases h : n = m
  · subst h
    rw [ha] at hb; cases hb
    rw [decide_eq_true rfl] at q
    exact wpAny_is_ref_self (.imm0 B (by simp [VRel]) q)
  · rw [decide_eq_false h] at q
    exact wpAny_is_ref_other (obj_ne B ha hb h) hoa hob (by simp) (.imm0 B (by simp [VRel]) q)
theorem isnot_obj {n m : Nat} {Q : V → Sto → Prop} (hn : n < sto.length) (hm : m < sto.length) (q : Q (.bool (!decide (n = m))) sto) : Op2 cx d (compareOp .IsNot) (.obj n) (.obj m) sto Q := by
  intro A s ρ F x y hA B r₁ r₂
  simp only [VRel] at r₁ r₂
  obtain ⟨a, ha, rfl⟩ := r₁
  obtain ⟨b, hb, rfl⟩ := r₂
  obtain ⟨ia, ⟨na, hoa⟩, _⟩ := B.objs n a _ ha (List.getElem?_eq_getElem hn)
  obtain ⟨ib, ⟨nb, hob⟩, _⟩ := B.objs m b _ hb (List.getElem?_eq_getElem hm)
  by_cases h : n = m
  · subst h
    rw [ha] at hb; cases hb
    rw [decide_eq_true rfl] at q
    exact wpAny_isNot_ref_self (.imm0 B (by simp [VRel]) q)
  · rw [decide_eq_false h] at q
    exact wpAny_isNot_ref_other (obj_ne B ha hb h) hoa hob (by simp) (.imm0 B (by simp [VRel]) q)

/-! tuple(list) -/
theorem call_tuple {v : V} {vs : List V} {Q : V → Sto → Prop} (l : LV sto v vs) (hz : vs.length ≤ sizeLine) (q : Q (.tup vs) sto) : CallV cx d (.type "tuple") [v] sto Q := by
  intro A s ρ F xs hA B r
  obtain ⟨x, rfl, r1⟩ := r.one
  obtain ⟨a, items, rfl, hl, r2⟩ := l.is B r1
  have hlen : items.size = vs.length := by have := r2.length; simpa using this
  refine call_tuple_list hl (fun h' hk => ?_) (by omega)
  have st : Step NoWr ρ F s ρ F { s with heap := h', toks := s.toks } := keepsStep hk
  have B' : Base cx ρ F sto { s with heap := h', toks := s.toks } := B.keeps hk
  have r3 : VRels F ρ h' vs items.toList := r2.keeps hk
  have hk2 : ∀ b o, h'.get? b = some o → (h'.push { cls := .type "tuple", data := .seq items }).get? b = some o := fun b o e => Heap.get?_push_of_some _ e
  refine PostV.after st (PostV.newFr (s := { s with heap := h', toks := s.toks }) B' rfl ?_ q)
  simp only [VRel]
  exact ⟨_, items, rfl, .inr rfl, ⟨_, Heap.get?_push_size _ rfl, rfl, _, rfl⟩, (r3.keeps hk2).mono (fun _ h => .inl h) (fun _ _ x => x) fun _ _ _ e _ => e⟩
end

/-! a call that keeps what it made -/
section
variable {cx : Cx} {d : Nat} {sto : Sto}
def Keep (Q : V → Sto → Prop) : Fl → Loc → Sto → Prop := fun fl _ sto' => Q (retOf fl) sto'
theorem callF_keep {f : Str} {params : Arguments} {body : List Stmt} {scope : Scope} {args : List V} {names : List Str} {Q : V → Sto → Prop} (hf : FnIs cx f params body scope)
    (h : WSs cx scope d body (names.zip args) sto (Keep Q))
    (hb : ∀ pm cd doc xs, xs.length = args.length → bindArgs (Calls.docDef f params body scope pm cd doc) ⟨xs, []⟩ = pure (names.zip xs))
    (hn : names.Nodup := by decide) (hv : (names.all fun x => isVar scope x) = true := by rfl) (hco : scope.isCoroutine = false := by rfl) (hgen : scope.isGenerator = false := by rfl) (hk : scope.kind = .function := by rfl) :
    CallF cx (d + 1) f args sto Q := by
  obtain ⟨a, o, pm, code, doc, e1, e2, e3, e4⟩ := hf.at'
  refine ⟨a, o, _, e1, e2, e3, ?_⟩
  intro A s ρ F xs hA B r
  have hlen := r.length
  refine wpAny_call (codeAny_call_cells (binds := names.zip xs) (body := body) (by have := hA.depth; omega) (B.stays _ _ e2) e3 (cx.top.nolimit.keeps B.stays) (e4.keeps B.stays) rfl (hb pm code doc xs hlen) rfl ?_ ?_ hco hgen hk)
  · intro x hx
    have hx1 : x.1 ∈ names := (List.of_mem_zip (show (x.1, x.2) ∈ names.zip xs from hx)).1
    have hv1 := List.all_eq_true.mp hv x.1 hx1
    unfold isVar at hv1
    split at hv1
    · rename_i hl; exact .inl hl
    · rename_i hl
      exact .inr ⟨hl, lookup_isSome_of_mem (cellsFrom_mem (.inr (mem_of_lookup hl)))⟩
    · cases hv1
  intro s₁ hin
  have hL : (callEnvC (Calls.docDef f params body scope pm code doc) s.heap.objs.size a).locals = s.heap.objs.size := rfl
  have hsc : (callEnvC (Calls.docDef f params body scope pm code doc) s.heap.objs.size a).scope = scope := rfl
  have hfr : (callEnvC (Calls.docDef f params body scope pm code doc) s.heap.objs.size a).frame = some s.heap.objs.size := rfl
  have hgl : (callEnvC (Calls.docDef f params body scope pm code doc) s.heap.objs.size a).globals = mainGlobals := rfl
  have hbl : (callEnvC (Calls.docDef f params body scope pm code doc) s.heap.objs.size a).builtins = builtinsNs := rfl
  have hcs : (callEnvC (Calls.docDef f params body scope pm code doc) s.heap.objs.size a).cells = cellsFrom (s.heap.objs.size + 1) scope.names [] := rfl
  have hco' : (callEnvC (Calls.docDef f params body scope pm code doc) s.heap.objs.size a).code = code := rfl
  generalize callEnvC (Calls.docDef f params body scope pm code doc) s.heap.objs.size a = env at *
  obtain ⟨hE, hA₁, st₁, B₁, f₁, ownNew⟩ := enter_def hA B r hL hsc hfr hgl hbl hcs hin hn hk (by obtain ⟨c, o, vs, t, q1, q2, q3, _⟩ := e4; exact ⟨c, o, vs, hco'.trans q1, q2, q3⟩)
  refine wpAny_mono (h env (A.deeper env) s₁ ρ F hE hA₁ B₁ f₁) ?_ fun _ _ x => x.elim
  rintro g s₂ ⟨fl, loc₂, sto₂, ρ₂, F₂, st₂, r₂, B₂, f₂, q⟩
  have st₃ : Step (Own env) ρ F s ρ₂ F₂ s₂ := st₁.own.trans st₂
  have st₄ : Step NoWr ρ F s ρ₂ F₂ s₂ := ⟨st₃.pre, st₃.sub, st₃.newr, st₃.newF, fun b o hb _ e => st₃.kept b o hb (fun ho => by rw [ownNew b ho] at e; cases e) e, st₃.alive⟩
  have rel : VRel F₂ ρ₂ s₂.heap (retOf fl) (retVal g) := by
    cases fl with
    | next => simp only [FlRel] at r₂; subst r₂; simp [retOf, retVal, VRel]
    | brk => simp only [FlRel] at r₂; subst r₂; simp [retOf, retVal, VRel]
    | cont => simp only [FlRel] at r₂; subst r₂; simp [retOf, retVal, VRel]
    | ret w => simp only [FlRel] at r₂; obtain ⟨x, rfl, rx⟩ := r₂; exact rx
  exact ⟨_, _, ρ₂, F₂, st₄, rel, B₂, q⟩
end
end Mine

namespace Mine
open PySem.AutoSeq1 in
theorem d_limul_b (l : Addr) (items : Array Value) (n : Nat) : Meets (Builtin.«list.__imul__» ⟨[.ref l, .bool true], []⟩) (fun _ R s => s.heap.get? l = some { cls := .type "list", dict := none, data := .seq items n, slots := #[] } ∧ R (.ok (.ret (.ref l))) s) :=
  .of_wp fun prog w A R s h => by
    obtain ⟨hp, g, d, tk, os⟩ := s; obtain ⟨hl, h⟩ := h
    wp_walk using wpAny_loadPart' hl
    exact ⟨_, rfl, h⟩
open PySem.AutoSeq1 in
theorem d_lmul_b (l : Addr) (items : Array Value) (n : Nat) (hs : items.size ≤ 2 ^ 24) : Meets (Builtin.«list.__mul__» ⟨[.ref l, .bool true], []⟩) (fun _ R s => s.heap.get? l = some { cls := .type "list", dict := none, data := .seq items n, slots := #[] } ∧
    R (.ok (.ret (.ref s.heap.objs.size))) { s with heap := s.heap.push { cls := .type "list", data := .seq items } }) :=
  .of_wp fun prog w A R s h => by
    obtain ⟨hp, g, d, tk, os⟩ := s; obtain ⟨hl, h⟩ := h
    wp_walk using wpAny_loadPart' hl
    rw [if_neg (by simp; omega)]
    wp_walk using wpAny_loadPart' hl
    rw [if_neg (by simp [Builtin.List.listTooLong, sizeLine]; omega)]
    wp_walk using wpAny_loadPart' hl
    have e : (List.foldl (fun x1 x2 => x1 ++ x2) #[] (List.replicate (if items.isEmpty = true then 0 else (if true = true then (1 : Int) else 0).toNat) items)) = items := by
      by_cases h0 : items.isEmpty = true
      · rw [if_pos h0]; simp at h0; simp [h0]
      · rw [if_neg h0]; simp
    rw [e, if_neg (by rw [sizeLine_eq]; omega)]
    wp_walk using wpAny_loadPart' hl
    exact ⟨_, rfl, h⟩
theorem d_rmul_bl (b : Bool) (l : Addr) (c : Value) (dd : Option Addr) (items : Array Value) (n : Nat) (sl : Array (Option Value)) : Meets (Builtin.«int.__rmul__» ⟨[.bool b, .ref l], []⟩) (fun _ R s => s.heap.get? l = some { cls := c, dict := dd, data := .seq items n, slots := sl } ∧ R (.ok (.ret .notImplemented)) s) :=
  .of_wp fun prog w A R s h => by
    obtain ⟨hp, g, d, tk, os⟩ := s; obtain ⟨hl, h⟩ := h
    wp_walk
    exact ⟨_, rfl, h⟩
theorem d_mul_bl (b : Bool) (l : Addr) (c : Value) (dd : Option Addr) (items : Array Value) (n : Nat) (sl : Array (Option Value)) : Meets (Builtin.«int.__mul__» ⟨[.bool b, .ref l], []⟩) (fun _ R s => s.heap.get? l = some { cls := c, dict := dd, data := .seq items n, slots := sl } ∧ R (.ok (.ret .notImplemented)) s) :=
  .of_wp fun prog w A R s h => by
    obtain ⟨hp, g, d, tk, os⟩ := s; obtain ⟨hl, h⟩ := h
    wp_walk
    exact ⟨_, rfl, h⟩
theorem d_rmul_il (a : Int) (t : Tok) (l : Addr) (c : Value) (dd : Option Addr) (items : Array Value) (n : Nat) (sl : Array (Option Value)) : Meets (Builtin.«int.__rmul__» ⟨[.int a t, .ref l], []⟩) (fun _ R s => s.heap.get? l = some { cls := c, dict := dd, data := .seq items n, slots := sl } ∧ R (.ok (.ret .notImplemented)) s) :=
  .of_wp fun prog w A R s h => by
    obtain ⟨hp, g, d, tk, os⟩ := s; obtain ⟨hl, h⟩ := h
    wp_walk
    exact ⟨_, rfl, h⟩
theorem d_rmul_is (a : Int) (t : Tok) (l : Addr) (c : Value) (dd : Option Addr) (es : Array (Int × Value)) (n : Nat) (tb : SetTable) (sl : Array (Option Value)) : Meets (Builtin.«int.__rmul__» ⟨[.int a t, .ref l], []⟩) (fun _ R s => s.heap.get? l = some { cls := c, dict := dd, data := .set es n tb, slots := sl } ∧ R (.ok (.ret .notImplemented)) s) :=
  .of_wp fun prog w A R s h => by
    obtain ⟨hp, g, d, tk, os⟩ := s; obtain ⟨hl, h⟩ := h
    wp_walk
    exact ⟨_, rfl, h⟩
theorem d_rmul_bs (b : Bool) (l : Addr) (c : Value) (dd : Option Addr) (es : Array (Int × Value)) (n : Nat) (tb : SetTable) (sl : Array (Option Value)) : Meets (Builtin.«int.__rmul__» ⟨[.bool b, .ref l], []⟩) (fun _ R s => s.heap.get? l = some { cls := c, dict := dd, data := .set es n tb, slots := sl } ∧ R (.ok (.ret .notImplemented)) s) :=
  .of_wp fun prog w A R s h => by
    obtain ⟨hp, g, d, tk, os⟩ := s; obtain ⟨hl, h⟩ := h
    wp_walk
    exact ⟨_, rfl, h⟩
theorem d_rmul_in (a : Int) (t : Tok) : Meets (Builtin.«int.__rmul__» ⟨[.int a t, .none], []⟩) (fun _ R s => R (.ok (.ret .notImplemented)) s) :=
  .of_wp fun prog w A R s h => by
    obtain ⟨hp, g, d, tk, os⟩ := s
    wp_walk
    exact ⟨_, rfl, h⟩
theorem d_rmul_bn (b : Bool) : Meets (Builtin.«int.__rmul__» ⟨[.bool b, .none], []⟩) (fun _ R s => R (.ok (.ret .notImplemented)) s) :=
  .of_wp fun prog w A R s h => by
    obtain ⟨hp, g, d, tk, os⟩ := s
    wp_walk
    exact ⟨_, rfl, h⟩
open PySem.AutoSeq1 in
theorem d_tmul_b (l : Addr) (dd : Option Addr) (items : Array Value) (n : Nat) (sl : Array (Option Value)) : Meets (Builtin.«tuple.__mul__» ⟨[.ref l, .bool true], []⟩) (fun _ R s => s.heap.get? l = some { cls := .type "tuple", dict := dd, data := .seq items n, slots := sl } ∧ R (.ok (.ret (.ref l))) s) :=
  .of_wp fun prog w A R s h => by
    obtain ⟨hp, g, d, tk, os⟩ := s; obtain ⟨hl, h⟩ := h
    wp_walk using wpAny_loadPart' hl
    exact ⟨_, rfl, h⟩
open PySem.AutoSeq1 in
theorem d_tmul_same (x : Int) (t : Tok) (l : Addr) (dd : Option Addr) (items : Array Value) (n : Nat) (sl : Array (Option Value)) (hx : -(2 ^ 63) ≤ x ∧ x < 2 ^ 63) (hc1 : (items.isEmpty || x == 1) = true) : Meets (Builtin.«tuple.__mul__» ⟨[.ref l, .int x t], []⟩) (fun _ R s => s.heap.get? l = some { cls := .type "tuple", dict := dd, data := .seq items n, slots := sl } ∧ R (.ok (.ret (.ref l))) s) :=
  .of_wp fun prog w A R s h => by
    obtain ⟨hp, g, d, tk, os⟩ := s; obtain ⟨hl, h⟩ := h
    wp_walk using wpAny_loadPart' hl
    rw [if_neg (by simp; omega)]
    wp_walk using wpAny_loadPart' hl
    exact ⟨_, rfl, h⟩
open PySem.AutoSeq1 in
theorem d_tmul_none (x : Int) (t : Tok) (l : Addr) (dd : Option Addr) (items : Array Value) (n : Nat) (sl : Array (Option Value)) (hx : -(2 ^ 63) ≤ x ∧ x < 2 ^ 63) (hc1 : ¬(items.isEmpty || x == 1) = true) (hc2 : (decide (x ≤ 0) || items.isEmpty) = true) : Meets (Builtin.«tuple.__mul__» ⟨[.ref l, .int x t], []⟩)
    (fun _ R s => s.heap.get? l = some { cls := .type "tuple", dict := dd, data := .seq items n, slots := sl } ∧ R (.ok (.ret (.ref s.heap.objs.size))) { s with heap := s.heap.push { cls := .type "tuple", data := .seq #[] } }) :=
  .of_wp fun prog w A R s h => by
    obtain ⟨hp, g, d, tk, os⟩ := s; obtain ⟨hl, h⟩ := h
    wp_walk using wpAny_loadPart' hl
    rw [if_neg (by simp; omega)]
    wp_walk using wpAny_loadPart' hl
    exact ⟨_, rfl, h⟩
open PySem.AutoSeq1 in
theorem d_tmul_more (x : Int) (t : Tok) (l : Addr) (dd : Option Addr) (items : Array Value) (n : Nat) (sl : Array (Option Value)) (hk : 2 ≤ x) (hk2 : x < 100) (hne : items.isEmpty = false) (hs : items.size ≤ 2 ^ 16) : Meets (Builtin.«tuple.__mul__» ⟨[.ref l, .int x t], []⟩)
    (fun _ R s => s.heap.get? l = some { cls := .type "tuple", dict := dd, data := .seq items n, slots := sl } ∧ R (.ok (.ret (.ref s.heap.objs.size))) { s with heap := s.heap.push { cls := .type "tuple", data := .seq (List.foldl (fun x1 x2 => x1 ++ x2) #[] (List.replicate x.toNat items)) } }) :=
  .of_wp fun prog w A R s h => by
    obtain ⟨hp, g, d, tk, os⟩ := s; obtain ⟨hl, h⟩ := h
    have hm : items.size * x.toNat ≤ 2 ^ 16 * 100 := Nat.mul_le_mul hs (by omega)
    have hmi : (items.size : Int) * x = ((items.size * x.toNat : Nat) : Int) := by rw [Int.natCast_mul, Int.toNat_of_nonneg (by omega)]
    have hj : (List.foldl (fun x1 x2 => x1 ++ x2) #[] (List.replicate x.toNat items)).size ≤ 2 ^ 16 * 100 := by
      rw [PySem.AutoListH.size_joined, Nat.mul_comm]; simpa using hm
    wp_walk using wpAny_loadPart' hl
    rw [if_neg (by simp; omega)]
    wp_walk using wpAny_loadPart' hl
    rw [if_neg (by rw [hne]; simp; omega)]
    wp_walk using wpAny_loadPart' hl
    rw [if_neg (by rw [hne]; simp; omega)]
    wp_walk using wpAny_loadPart' hl
    rw [if_neg (by rw [hmi]; omega)]
    wp_walk using wpAny_loadPart' hl
    rw [if_neg (by rw [hmi]; simp only [Builtin.Tuple.tupleTooMany, decide_eq_true_eq, sizeLine_eq]; omega)]
    wp_walk using wpAny_loadPart' hl
    rw [if_neg (by rw [sizeLine_eq]; omega)]
    wp_walk using wpAny_loadPart' hl
    exact ⟨_, rfl, h⟩
end Mine

namespace Mine
theorem fi_list : fillsInplaceSlot (.type "list") "mul" false = pure false := by
  unfold fillsInplaceSlot
  show (typeLookup (.type "list") (dunderI "mul") >>= fun fi => pure (fi.isSome && !isSeqSlot fi)) = pure false
  rw [PySem.F.slot_list_imul.lookup]
  show (pure (true && !isSeqSlot (some (.builtin "list.__imul__"))) : Sem Bool) = pure false
  rw [show isSeqSlot (some (.builtin "list.__imul__")) = true by decide +kernel]; rfl
theorem fi_no {T : String} (h : typeLookup (.type T) (dunderI "mul") = pure none) : fillsInplaceSlot (.type T) "mul" false = pure false := by
  unfold fillsInplaceSlot
  show (typeLookup (.type T) (dunderI "mul") >>= fun fi => pure (fi.isSome && !isSeqSlot fi)) = pure false
  rw [h]; rfl
theorem ss_list : seqSlot? (.type "list") (dunderI "mul") = pure (some (.builtin "list.__imul__")) := PySem.seqSlot_of PySem.F.slot_list_imul.lookup (by decide +kernel)
theorem ss_no {T : String} (h : typeLookup (.type T) (dunderI "mul") = pure none) : seqSlot? (.type T) (dunderI "mul") = pure none := by
  unfold seqSlot?
  rw [h]; rfl
theorem ni_tuple : typeLookup (.type "tuple") (dunderI "mul") = pure none := by rw [typeLookup_type, builtinLookup_eq_fast]; kernel_rfl
theorem ni_int : typeLookup (.type "int") (dunderI "mul") = pure none := by rw [typeLookup_type, builtinLookup_eq_fast]; kernel_rfl
theorem ni_bool : typeLookup (.type "bool") (dunderI "mul") = pure none := by rw [typeLookup_type, builtinLookup_eq_fast]; kernel_rfl
theorem ni_none' : typeLookup (.type "NoneType") (dunderI "mul") = pure none := by rw [typeLookup_type, builtinLookup_eq_fast]; kernel_rfl
theorem ni_set' : typeLookup (.type "set") (dunderI "mul") = pure none := by rw [typeLookup_type, builtinLookup_eq_fast]; kernel_rfl
theorem rep_tuple : seqRepeat? (.type "tuple") = pure (some (.builtin "tuple.__mul__")) := by
  unfold seqRepeat? seqSlot?
  rw [typeLookup_type, typeLookup_type, builtinLookup_eq_fast]; kernel_rfl
theorem rep_bool : seqRepeat? (.type "bool") = pure none := by
  unfold seqRepeat? seqSlot?
  rw [typeLookup_type, typeLookup_type, builtinLookup_eq_fast]; kernel_rfl
theorem rep_none : seqRepeat? (.type "NoneType") = pure none := by
  unfold seqRepeat? seqSlot?
  rw [typeLookup_type, typeLookup_type, builtinLookup_eq_fast]; kernel_rfl
theorem rep_set : seqRepeat? (.type "set") = pure none := by
  unfold seqRepeat? seqSlot?
  rw [typeLookup_type, typeLookup_type, builtinLookup_eq_fast]; kernel_rfl
theorem st_int : hasSequenceTable (.type "int") = pure false := by unfold hasSequenceTable; kernel_rfl
theorem st_bool : hasSequenceTable (.type "bool") = pure false := by unfold hasSequenceTable; kernel_rfl
theorem nf_tuple_mul : fillsNumberSlot (.type "tuple") "mul" = pure false := by
  unfold fillsNumberSlot
  show (typeLookup (.type "tuple") (dunder "mul") >>= fun f => typeLookup (.type "tuple") (dunderR "mul") >>= fun r => pure ((f.isSome && !isSeqSlot f) || (r.isSome && !isSeqSlot r))) = pure false
  rw [typeLookup_type, typeLookup_type, builtinLookup_eq_fast]; kernel_rfl
theorem nf_none_mul : fillsNumberSlot (.type "NoneType") "mul" = pure false := by
  unfold fillsNumberSlot
  show (typeLookup (.type "NoneType") (dunder "mul") >>= fun f => typeLookup (.type "NoneType") (dunderR "mul") >>= fun r => pure ((f.isSome && !isSeqSlot f) || (r.isSome && !isSeqSlot r))) = pure false
  rw [typeLookup_type, typeLookup_type, builtinLookup_eq_fast]; kernel_rfl
theorem nf_set_mul : fillsNumberSlot (.type "set") "mul" = pure false := by
  unfold fillsNumberSlot
  show (typeLookup (.type "set") (dunder "mul") >>= fun f => typeLookup (.type "set") (dunderR "mul") >>= fun r => pure ((f.isSome && !isSeqSlot f) || (r.isSome && !isSeqSlot r))) = pure false
  rw [typeLookup_type, typeLookup_type, builtinLookup_eq_fast]; kernel_rfl
theorem nf_str_mul : fillsNumberSlot (.type "str") "mul" = pure false := by
  unfold fillsNumberSlot
  show (typeLookup (.type "str") (dunder "mul") >>= fun f => typeLookup (.type "str") (dunderR "mul") >>= fun r => pure ((f.isSome && !isSeqSlot f) || (r.isSome && !isSeqSlot r))) = pure false
  rw [typeLookup_type, typeLookup_type, builtinLookup_eq_fast]; kernel_rfl
theorem ix_none : typeLookup (.type "NoneType") "__index__" = pure none := by rw [typeLookup_type, builtinLookup_eq_fast]; kernel_rfl
theorem ix_str : typeLookup (.type "str") "__index__" = pure none := by rw [typeLookup_type, builtinLookup_eq_fast]; kernel_rfl
theorem ix_list : typeLookup (.type "list") "__index__" = pure none := by rw [typeLookup_type, builtinLookup_eq_fast]; kernel_rfl
section
variable {prog : Program} {w : World} {A : Around} {E : Value → Shared → Prop} {s : Shared}
/-- a list by a count, in place -/
theorem ip_list {a n : Value} {U idr : String} {ix : Value} {Q : Value → Shared → Prop} (hTU : (Value.type "list" == Value.type U) = false) (ha : s.TypeIs a "list") (hn : ∀ s' : Shared, s'.TypeIs n U)
    (hfU : fillsNumberSlot (.type U) "mul" = pure true) (hr : Slot U (dunderR "mul") idr) (hix : typeLookup (.type U) "__index__" = pure (some ix))
    (hc : wpAny (model prog w) A (call (.builtin idr) [n, a]) (fun v s' => v = .notImplemented ∧ wpAny (model prog w) A (call (.builtin "list.__imul__") [a, n]) Q E s') E s) : wpAny (model prog w) A (inplaceOp .Mult a n) Q E s := by
  unfold inplaceOp
  try with_reducible refine wpAny_holding ?_
  refine wpAny_bind (wpAny_typeOf ha (wpAny_bind (wpAny_of_eq fi_list ?_)))
  show wpAny _ A (if false = true then _ else _) _ _ s
  rw [if_neg Bool.false_ne_true]
  refine wpAny_bind (wpAny_binaryOp1_right_declines (nm := "mul") hTU ha (hn s) noFill_list_mul hfU hr (wpAny_mono hc (fun v s' h' => ⟨h'.1, ?_⟩) fun _ _ e => e))
  refine wpAny_bind (wpAny_of_eq ss_list ?_)
  unfold sequenceRepeat
  refine wpAny_bind (wpAny_specialOf (hn s') hix ?_)
  exact wpAny_bind (wpAny_rule h'.2)
/-- a tuple by a count -/
theorem ip_tuple {a n : Value} {U idr : String} {ix : Value} {Q : Value → Shared → Prop} (hTU : (Value.type "tuple" == Value.type U) = false) (ha : s.TypeIs a "tuple") (hn : ∀ s' : Shared, s'.TypeIs n U)
    (hfU : fillsNumberSlot (.type U) "mul" = pure true) (hr : Slot U (dunderR "mul") idr) (hix : typeLookup (.type U) "__index__" = pure (some ix))
    (hc : wpAny (model prog w) A (call (.builtin idr) [n, a]) (fun v s' => v = .notImplemented ∧ wpAny (model prog w) A (call (.builtin "tuple.__mul__") [a, n]) Q E s') E s) : wpAny (model prog w) A (inplaceOp .Mult a n) Q E s := by
  unfold inplaceOp
  try with_reducible refine wpAny_holding ?_
  refine wpAny_bind (wpAny_typeOf ha (wpAny_bind (wpAny_of_eq (fi_no ni_tuple) ?_)))
  show wpAny _ A (if false = true then _ else _) _ _ s
  rw [if_neg Bool.false_ne_true]
  refine wpAny_bind (wpAny_binaryOp1_right_declines (nm := "mul") hTU ha (hn s) nf_tuple_mul hfU hr (wpAny_mono hc (fun v s' h' => ⟨h'.1, ?_⟩) fun _ _ e => e))
  refine wpAny_bind (wpAny_of_eq (ss_no ni_tuple) ?_)
  refine wpAny_bind (wpAny_of_eq rep_tuple ?_)
  unfold sequenceRepeat
  refine wpAny_bind (wpAny_specialOf (hn s') hix ?_)
  exact wpAny_bind (wpAny_rule h'.2)
/-- a count by a list: a new list -/
theorem ip_count {a n : Value} {U idl : String} {ix : Value} {Q : Value → Shared → Prop} (hUT : (Value.type U == Value.type "list") = false) (hn : ∀ s' : Shared, s'.TypeIs n U) (ha : s.TypeIs a "list")
    (hni : typeLookup (.type U) (dunderI "mul") = pure none) (hfU : fillsNumberSlot (.type U) "mul" = pure true) (hl : Slot U (dunder "mul") idl) (hnoU : seqRepeat? (.type U) = pure none) (hst : hasSequenceTable (.type U) = pure false) (hix : typeLookup (.type U) "__index__" = pure (some ix))
    (hc : wpAny (model prog w) A (call (.builtin idl) [n, a]) (fun v s' => v = .notImplemented ∧ s'.TypeIs a "list" ∧ wpAny (model prog w) A (call (.builtin "list.__mul__") [a, n]) Q E s') E s) : wpAny (model prog w) A (inplaceOp .Mult n a) Q E s := by
  unfold inplaceOp
  try with_reducible refine wpAny_holding ?_
  refine wpAny_bind (wpAny_typeOf (hn s) (wpAny_bind (wpAny_of_eq (fi_no hni) ?_)))
  show wpAny _ A (if false = true then _ else _) _ _ s
  rw [if_neg Bool.false_ne_true]
  refine wpAny_bind (lm_binaryOp1_left_declines (nm := "mul") hUT (hn s) ha hfU noFill_list_mul hl (wpAny_mono hc (fun v s' h' => ⟨h'.1, ?_⟩) fun _ _ e => e))
  refine wpAny_bind (wpAny_of_eq (ss_no hni) ?_)
  refine wpAny_bind (wpAny_of_eq hnoU ?_)
  refine wpAny_bind (wpAny_typeOf h'.2.1 ?_)
  refine wpAny_bind (wpAny_of_eq repeat_list ?_)
  refine wpAny_bind (wpAny_of_eq hst ?_)
  show wpAny _ A (if (!false) = true then _ else _) _ _ _
  rw [if_pos (show (!false) = true from rfl)]
  refine wpAny_bind (wpAny_rule ?_)
  unfold sequenceRepeat
  refine wpAny_bind (wpAny_specialOf (hn s') hix ?_)
  exact wpAny_bind (wpAny_rule h'.2.2)
end
end Mine

namespace Mine
/-- a count: an int, or True -/
inductive Cnt : V → Int → Prop where
  | int (c : Int) : Cnt (.int c) c
  | tt : Cnt (.bool true) 1
def rep {α : Type} (c : Int) (vs : List α) : List α := (List.replicate c.toNat vs).flatten
theorem rep_one {α : Type} {vs : List α} : rep 1 vs = vs := by simp [rep]
theorem rep_nil {α : Type} {c : Int} : rep c ([] : List α) = [] := by simp [rep]
theorem rep_neg {α : Type} {c : Int} {vs : List α} (h : c < 1) : rep c vs = [] := by
  unfold rep; rw [show c.toNat = 0 by omega]; rfl
theorem rep_len {α : Type} {c : Int} {vs : List α} : (rep c vs).length = vs.length * c.toNat := by
  simp [rep, List.length_flatten, Nat.mul_comm]
theorem joined (xs : Array Value) : ∀ (k : Nat) (acc : Array Value), (List.foldl (fun x1 x2 => x1 ++ x2) acc (List.replicate k xs)).toList = acc.toList ++ (List.replicate k xs.toList).flatten
  | 0, acc => by simp
  | k + 1, acc => by rw [List.replicate_succ, List.foldl_cons, joined xs k]; simp [List.replicate_succ]
theorem set_self {sto : Sto} {n : Nat} {vs : List V} (h : sto[n]? = some vs) : sto.set n vs = sto := by
  obtain ⟨hl, e⟩ := List.getElem?_eq_some_iff.mp h
  refine List.ext_getElem (by simp) fun i h1 h2 => ?_
  rw [List.getElem_set]
  split
  · rename_i h; subst h; exact e.symm
  · rfl
section
variable {cx : Cx} {sc : Scope} {d : Nat} {loc : Loc} {sto : Sto}
theorem VRels.rep' {F : Addr → Prop} {ρ : List Addr} {h : Heap} {vs : List V} {xs : List Value} (r : VRels F ρ h vs xs) (c : Int) : VRels F ρ h (Mine.rep c vs) (Mine.rep c xs) := VRels.rep r c.toNat
/-- a tracked list by a count, in place -/
theorem imul_obj {n : Nat} {vs : List V} {v : V} {c : Int} {Q : V → Sto → Prop} (hc : Cnt v c) (hn : sto[n]? = some vs) (hb : -(2 ^ 63) ≤ c ∧ c < 2 ^ 63) (hz : vs.length * c.toNat ≤ 2 ^ 24) (hz1 : vs.length ≤ 2 ^ 24) (q : Q (.obj n) (sto.set n (rep c vs))) :
    Op2 cx d (inplaceOp .Mult) (.obj n) v sto Q := by
  intro A s ρ F x y hA B r₁ r₂
  simp only [VRel] at r₁
  obtain ⟨a, ha, rfl⟩ := r₁
  obtain ⟨items, hl, r3⟩ := B.objs n a vs ha hn
  obtain ⟨k, ho⟩ := id hl
  have hlen : items.size = vs.length := by rw [← r3.length]; simp
  cases hc with
  | tt =>
    simp only [VRel] at r₂; subst r₂
    rw [rep_one, set_self hn] at q
    exact ip_list (U := "bool") (by decide) ⟨_, ho, rfl⟩ (fun _ => rfl) PySem.F.fills_bool_mul PySem.F.slot_bool_rmul PySem.F.slot_bool_index.lookup
      (call_meets PySem.F.slot_bool_rmul (T := "bool") rfl PySem.F.entry_int_rmul (PySem.F.args_int_rmul_2 _ _) (d_rmul_bl true a _ _ items k _)
        ⟨ho, rfl, call_meets PySem.F.slot_list_imul ⟨_, ho, rfl⟩ PySem.F.entry_list_imul (PySem.F.args_list_imul_2 _ _) (d_limul_b a items k) ⟨ho, .imm0 B (by simp only [VRel]; exact ⟨a, ha, rfl⟩) q⟩⟩)
  | int c =>
    simp only [VRel] at r₂; obtain ⟨t, rfl⟩ := r₂
    refine ip_list (U := "int") (by decide) ⟨_, ho, rfl⟩ (fun s' => typeIs_int s' c t) PySem.F.fills_int_mul PySem.F.slot_int_rmul PySem.F.slot_int_index.lookup
      (call_meets PySem.F.slot_int_rmul (typeIs_int s c t) PySem.F.entry_int_rmul (PySem.F.args_int_rmul_2 _ _) (d_rmul_il c t a _ _ items k _) ⟨ho, rfl, ?_⟩)
    have hfit : ¬(!Builtin.List.listFitsIndex c) = true := by simp [Builtin.List.listFitsIndex]; omega
    by_cases h1 : (items.size == 0 || c == 1) = true
    · have e : rep c vs = vs := by
        rcases (Bool.or_eq_true _ _).mp h1 with h | h
        · have : vs = [] := List.eq_nil_of_length_eq_zero (by have := beq_iff_eq.mp h; omega)
          rw [this, rep_nil]
        · rw [beq_iff_eq.mp h, rep_one]
      rw [e, set_self hn] at q
      exact call_meets PySem.F.slot_list_imul ⟨_, ho, rfl⟩ PySem.F.entry_list_imul (PySem.F.args_list_imul_2 _ _) (AutoSeq1.list___imul___list_int_1 a items k c t hfit h1) ⟨ho, .imm0 B (by simp only [VRel]; exact ⟨a, ha, rfl⟩) q⟩
    · by_cases h2 : c < 1
      · rw [rep_neg h2] at q
        have hm : ∀ o : Obj, o = { cls := .type "list", data := .seq items k } → ∃ c', Obj.mapSeq (fun _ => #[]) o = { cls := .type "list", data := .seq #[] c' } := fun o e => by subst e; exact ⟨_, rfl⟩
        obtain ⟨c', hc'⟩ := hm _ rfl
        have hl' : (s.heap.update a (Obj.mapSeq fun _ => #[])).PlainList a #[] := ⟨c', by rw [Heap.get?_update_self _ ho (by rw [hc']; rfl), hc']⟩
        exact call_meets PySem.F.slot_list_imul ⟨_, ho, rfl⟩ PySem.F.entry_list_imul (PySem.F.args_list_imul_2 _ _) (AutoSeq1.list___imul___list_int_2 a items k c t hfit h1 h2 (by rw [sizeLine_eq]; omega))
          ⟨ho, PostV.write (t := s.toks) B ha (Heap.SameBut.update ..) hl hl' (vs := []) (by simp [VRels]) (by simp only [VRel]; exact ⟨a, ha, rfl⟩) q⟩
      · have hm : ∀ o : Obj, o = { cls := .type "list", data := .seq items k } → ∃ c', Obj.mapSeq (fun xs => List.foldl (fun x1 x2 => x1 ++ x2) #[] (List.replicate c.toNat xs)) o = { cls := .type "list", data := .seq (List.foldl (fun x1 x2 => x1 ++ x2) #[] (List.replicate c.toNat items)) c' } := fun o e => by subst e; exact ⟨_, rfl⟩
        obtain ⟨c', hc'⟩ := hm _ rfl
        have hl' : (s.heap.update a (Obj.mapSeq fun xs => List.foldl (fun x1 x2 => x1 ++ x2) #[] (List.replicate c.toNat xs))).PlainList a (List.foldl (fun x1 x2 => x1 ++ x2) #[] (List.replicate c.toNat items)) := ⟨c', by rw [Heap.get?_update_self _ ho (by rw [hc']; rfl), hc']⟩
        rw [← hlen] at hz hz1
        exact call_meets PySem.F.slot_list_imul ⟨_, ho, rfl⟩ PySem.F.entry_list_imul (PySem.F.args_list_imul_2 _ _) (AutoSeq1.list___imul___list_int_5 a items k c t hfit h1 h2 (by omega) (by simp [Builtin.List.listTooLong, sizeLine]; omega) (by rw [sizeLine_eq]; omega))
          ⟨ho, PostV.write (t := s.toks) B ha (Heap.SameBut.update ..) hl hl' (vs := rep c vs) (by rw [joined]; exact VRels.rep' r3 c) (by simp only [VRel]; exact ⟨a, ha, rfl⟩) q⟩
/-- a count by a tracked list: a new list -/
theorem imul_cnt {n : Nat} {vs : List V} {v : V} {c : Int} {Q : List V → Sto → Prop} (hc : Cnt v c) (hn : sto[n]? = some vs) (hb : -(2 ^ 63) ≤ c ∧ c < 2 ^ 63) (hz : vs.length * c.toNat ≤ 2 ^ 24) (hz1 : vs.length ≤ 2 ^ 24) (q : Q (rep c vs) sto) :
    Op2N cx d (inplaceOp .Mult) v (.obj n) sto Q := by
  intro A s ρ F x y hA B r₁ r₂
  simp only [VRel] at r₂
  obtain ⟨a, ha, rfl⟩ := r₂
  obtain ⟨items, hl, r3⟩ := B.objs n a vs ha hn
  obtain ⟨k, ho⟩ := id hl
  have hlen : items.size = vs.length := by rw [← r3.length]; simp
  cases hc with
  | tt =>
    simp only [VRel] at r₁; subst r₁
    rw [rep_one] at q
    have e : s.heap.push { cls := .type "list", data := .seq items } = s.heap.push { cls := .type "list", data := .seq items.toList.toArray } := by simp
    refine ip_count (U := "bool") (by decide) (fun _ => rfl) ⟨_, ho, rfl⟩ ni_bool PySem.F.fills_bool_mul PySem.F.slot_bool_mul rep_bool st_bool PySem.F.slot_bool_index.lookup
      (call_meets PySem.F.slot_bool_mul (T := "bool") rfl PySem.F.entry_int_mul (PySem.F.args_int_mul_2 _ _) (d_mul_bl true a _ _ items k _)
        ⟨ho, rfl, ⟨_, ho, rfl⟩, call_meets PySem.F.slot_list_mul ⟨_, ho, rfl⟩ PySem.F.entry_list_mul (PySem.F.args_list_mul_2 _ _) (d_lmul_b a items k (by omega)) ⟨ho, ?_⟩⟩)
    rw [e]
    exact PostN.new B r3 q
  | int c =>
    simp only [VRel] at r₁; obtain ⟨t, rfl⟩ := r₁
    have e2 : (List.foldl (fun x1 x2 => x1 ++ x2) #[] (List.replicate (if items.isEmpty = true then 0 else c.toNat) items)) = (rep c items.toList).toArray := by
      apply Array.ext'
      rw [joined]
      by_cases h0 : items.isEmpty = true
      · rw [if_pos h0]
        have : items.toList = [] := by simpa using h0
        rw [this, rep_nil]; simp
      · rw [if_neg h0]; simp [rep]
    rw [← hlen] at hz hz1
    refine ip_count (U := "int") (by decide) (fun s' => typeIs_int s' c t) ⟨_, ho, rfl⟩ ni_int PySem.F.fills_int_mul PySem.F.slot_int_mul lm_noRepeat_int st_int PySem.F.slot_int_index.lookup
      (call_meets PySem.F.slot_int_mul (typeIs_int s c t) PySem.F.entry_int_mul (PySem.F.args_int_mul_2 _ _) (int___mul___int_list c t a items k)
        ⟨ho, rfl, ⟨_, ho, rfl⟩, call_meets PySem.F.slot_list_mul ⟨_, ho, rfl⟩ PySem.F.entry_list_mul (PySem.F.args_list_mul_2 _ _)
          (AutoListH.list___mul___list_int_3 a items k c t (by simp [Builtin.List.listFitsIndex]; omega) (by omega) (by simp [Builtin.List.listTooLong, sizeLine]; omega)) ⟨ho, ?_⟩⟩)
    rw [e2]
    exact PostN.new B (VRels.rep' r3 c) q
/-- a tuple by a count -/
theorem imul_tup {vs : List V} {v : V} {c : Int} {Q : V → Sto → Prop} (hc : Cnt v c) (hb : -100 < c ∧ c < 100) (hz1 : vs.length ≤ 2 ^ 16) (q : Q (.tup (rep c vs)) sto) :
    Op2 cx d (inplaceOp .Mult) (.tup vs) v sto Q := by
  intro A s ρ F x y hA B r₁ r₂
  have r₁' := r₁
  simp only [VRel] at r₁
  obtain ⟨a, items, rfl, hF, ⟨⟨cls, dd, data, sl⟩, ho, hcl, k, hd⟩, r3⟩ := r₁
  simp only at hcl hd; subst hcl hd
  have hlen : items.size = vs.length := by rw [← r3.length]; simp
  cases hc with
  | tt =>
    simp only [VRel] at r₂; subst r₂
    rw [rep_one] at q
    exact ip_tuple (U := "bool") (by decide) ⟨_, ho, rfl⟩ (fun _ => rfl) PySem.F.fills_bool_mul PySem.F.slot_bool_rmul PySem.F.slot_bool_index.lookup
      (call_meets PySem.F.slot_bool_rmul (T := "bool") rfl PySem.F.entry_int_rmul (PySem.F.args_int_rmul_2 _ _) (d_rmul_bl true a _ _ items k _)
        ⟨ho, rfl, call_meets PySem.F.slot_tuple_mul ⟨_, ho, rfl⟩ PySem.F.entry_tuple_mul (PySem.F.args_tuple_mul_2 _ _) (d_tmul_b a _ items k _) ⟨ho, .imm0 B r₁' q⟩⟩)
  | int c =>
    simp only [VRel] at r₂; obtain ⟨t, rfl⟩ := r₂
    refine ip_tuple (U := "int") (by decide) ⟨_, ho, rfl⟩ (fun s' => typeIs_int s' c t) PySem.F.fills_int_mul PySem.F.slot_int_rmul PySem.F.slot_int_index.lookup
      (call_meets PySem.F.slot_int_rmul (typeIs_int s c t) PySem.F.entry_int_rmul (PySem.F.args_int_rmul_2 _ _) (d_rmul_il c t a _ _ items k _) ⟨ho, rfl, ?_⟩)
    by_cases h1 : (items.isEmpty || c == 1) = true
    · have e : rep c vs = vs := by
        rcases (Bool.or_eq_true _ _).mp h1 with h | h
        · have : vs = [] := List.eq_nil_of_length_eq_zero (by simp at h; rw [← hlen, h]; rfl)
          rw [this, rep_nil]
        · rw [beq_iff_eq.mp h, rep_one]
      rw [e] at q
      exact call_meets PySem.F.slot_tuple_mul ⟨_, ho, rfl⟩ PySem.F.entry_tuple_mul (PySem.F.args_tuple_mul_2 _ _) (d_tmul_same c t a _ items k _ (by omega) h1) ⟨ho, .imm0 B r₁' q⟩
    · by_cases h2 : c ≤ 0
      · rw [rep_neg (by omega)] at q
        refine call_meets PySem.F.slot_tuple_mul ⟨_, ho, rfl⟩ PySem.F.entry_tuple_mul (PySem.F.args_tuple_mul_2 _ _) (d_tmul_none c t a _ items k _ (by omega) h1 (by simp [h2])) ⟨ho, ?_⟩
        exact PostV.newTup (xs := []) (vs := []) B (by simp [VRels]) q
      · have hne : items.isEmpty = false := by
          cases e : items.isEmpty with
          | false => rfl
          | true => rw [e] at h1; simp at h1
        have hc1 : c ≠ 1 := fun e => by rw [e] at h1; simp at h1
        refine call_meets PySem.F.slot_tuple_mul ⟨_, ho, rfl⟩ PySem.F.entry_tuple_mul (PySem.F.args_tuple_mul_2 _ _) (d_tmul_more c t a _ items k _ (by omega) (by omega) hne (by omega)) ⟨ho, ?_⟩
        have e2 : (List.foldl (fun x1 x2 => x1 ++ x2) #[] (List.replicate c.toNat items)) = (rep c items.toList).toArray := by
          apply Array.ext'
          rw [joined]; simp [rep]
        rw [e2]
        exact PostV.newTup B (VRels.rep' r3 c) q
/-- int by a count -/
theorem mul_cnt {a : Int} {v : V} {c : Int} {Q : V → Sto → Prop} (hc : Cnt v c) (ha : a.natAbs < 2 ^ 64) (q : Q (.int (a * c)) sto) : Op2 cx d (binaryOp .Mult) (.int a) v sto Q := by
  cases hc with
  | int => exact mul_ii ⟨mulOk_l ha, q⟩
  | tt =>
    intro A s ρ F x y hA B r₁ r₂
    simp only [VRel] at r₁ r₂
    obtain ⟨t, rfl⟩ := r₁
    subst r₂
    exact PySem.IntBool.mul_int_bool (.imm B (by simp [VRel]) q _)
end
end Mine

namespace Mine
section
variable {prog : Program} {w : World} {A : Around} {E : Value → Shared → Prop} {s : Shared}
theorem b1_no {a b : Value} {T U nm : String} {Q : Option Value → Shared → Prop} (ha : s.TypeIs a T) (hb : s.TypeIs b U)
    (hfT : fillsNumberSlot (.type T) nm = pure false) (hfU : fillsNumberSlot (.type U) nm = pure false) (q : Q none s) : wpAny (model prog w) A (binaryOp1 nm a b) Q E s := by
  simp only [binaryOp1]
  refine wpAny_bind (wpAny_typeOf ha (wpAny_bind (wpAny_typeOf hb (wpAny_bind (wpAny_of_eq hfT ?_)))))
  cases hTU : (Value.type T == Value.type U) with
  | true =>
    simp only [if_true, pure_bind, Bool.and_false, Bool.false_and, Bool.false_eq_true, if_false]
    exact wpAny_pure q
  | false =>
    simp only [Bool.false_eq_true, if_false]
    refine wpAny_bind (wpAny_of_eq hfU ?_)
    simp only [pure_bind, Bool.and_false, Bool.false_and, Bool.false_eq_true, if_false]
    exact wpAny_pure q
def XPostM (s : Shared) : Value → Shared → Prop := fun e s' => ∃ ea h' tk, e = .ref ea ∧ s' = { s with heap := h', toks := tk } ∧ Heap.NewExc s.heap h' ea "TypeError"
theorem ip_list_x {a n : Value} {U : String} (ha : s.TypeIs a "list") (hn : s.TypeIs n U) (hfU : fillsNumberSlot (.type U) "mul" = pure false) (hix : typeLookup (.type U) "__index__" = pure none)
    (hU : (Value.type U == Value.type "builtin_function_or_method") = false) (hh : A.handled = none) (hm : ((s!"can't multiply sequence by non-int of type '{shownName U}'" : String) : Str).length ≤ sizeLine) :
    wpAny (model prog w) A (inplaceOp .Mult a n) (fun _ _ => False) (XPostM s) s := by
  unfold inplaceOp
  try with_reducible refine wpAny_holding ?_
  refine wpAny_bind (wpAny_typeOf ha (wpAny_bind (wpAny_of_eq fi_list ?_)))
  show wpAny _ A (if false = true then _ else _) _ _ s
  rw [if_neg Bool.false_ne_true]
  refine wpAny_bind (b1_no ha hn noFill_list_mul hfU ?_)
  refine wpAny_bind (wpAny_of_eq ss_list ?_)
  unfold sequenceRepeat
  refine wpAny_bind (wpAny_specialOf hn hix ?_)
  show wpAny _ A (if true = true then _ else _) _ _ _
  rw [if_pos rfl]
  refine wpAny_bind (wpAny_rule (wpAny_bind (wpAny_typeNameOf' hn hU ?_)))
  first
  | exact wpAny_raiseTypeError hh (fun h' tk e hx => ⟨e, h', tk, rfl, rfl, hx⟩) hm
  | exact wpAny_bind (wpAny_raiseTypeError hh (fun h' tk e hx => ⟨e, h', tk, rfl, rfl, hx⟩) hm)
theorem ip_odd_x {a n : Value} {T U idr : String} (hTU : (Value.type T == Value.type U) = false) (ha : s.TypeIs a T) (hn : s.TypeIs n U) (hni : typeLookup (.type T) (dunderI "mul") = pure none) (hfT : fillsNumberSlot (.type T) "mul" = pure false) (hfU : fillsNumberSlot (.type U) "mul" = pure true)
    (hr : Slot U (dunderR "mul") idr) (hrT : seqRepeat? (.type T) = pure none) (hrU : seqRepeat? (.type U) = pure none)
    (hT : (Value.type T == Value.type "builtin_function_or_method") = false) (hU : (Value.type U == Value.type "builtin_function_or_method") = false) (hh : A.handled = none)
    (hm : ((s!"unsupported operand type(s) for {(match Operator.Mult with | .Pow => "**=" | _ => (Operator.info .Mult).1 ++ "=" : String)}: '{shownName T}' and '{shownName U}'" : String) : Str).length ≤ sizeLine)
    (hc : wpAny (model prog w) A (call (.builtin idr) [n, a]) (fun v s' => v = .notImplemented ∧ s' = s) (fun _ _ => False) s) :
    wpAny (model prog w) A (inplaceOp .Mult a n) (fun _ _ => False) (XPostM s) s := by
  unfold inplaceOp
  try with_reducible refine wpAny_holding ?_
  refine wpAny_bind (wpAny_typeOf ha (wpAny_bind (wpAny_of_eq (fi_no hni) ?_)))
  show wpAny _ A (if false = true then _ else _) _ _ s
  rw [if_neg Bool.false_ne_true]
  refine wpAny_bind (wpAny_binaryOp1_right_declines (nm := "mul") hTU ha hn hfT hfU hr (wpAny_mono hc (fun v s' h' => ⟨h'.1, ?_⟩) fun _ _ e => e.elim))
  rw [h'.2]
  refine wpAny_bind (wpAny_of_eq (ss_no hni) ?_)
  refine wpAny_bind (wpAny_of_eq hrT ?_)
  refine wpAny_bind (wpAny_typeOf hn ?_)
  refine wpAny_bind (wpAny_of_eq hrU ?_)
  unfold binopTypeError
  refine wpAny_bind (wpAny_rule (wpAny_bind (wpAny_typeNameOf' ha hT (wpAny_bind (wpAny_typeNameOf' hn hU ?_)))))
  exact wpAny_raiseTypeError hh (fun h' tk e hx => ⟨e, h', tk, rfl, rfl, hx⟩) hm
end
theorem mm_none : ((s!"can't multiply sequence by non-int of type '{shownName "NoneType"}'" : String) : Str).length ≤ sizeLine := by rw [PySem.ofString_length, PySem.sizeLine_eq]; decide +kernel
theorem mm_str : ((s!"can't multiply sequence by non-int of type '{shownName "str"}'" : String) : Str).length ≤ sizeLine := by rw [PySem.ofString_length, PySem.sizeLine_eq]; decide +kernel
theorem mm_list : ((s!"can't multiply sequence by non-int of type '{shownName "list"}'" : String) : Str).length ≤ sizeLine := by rw [PySem.ofString_length, PySem.sizeLine_eq]; decide +kernel
theorem mm_ni : ((s!"unsupported operand type(s) for {(match Operator.Mult with | .Pow => "**=" | _ => (Operator.info .Mult).1 ++ "=" : String)}: '{shownName "NoneType"}' and '{shownName "int"}'" : String) : Str).length ≤ sizeLine := by rw [PySem.ofString_length, PySem.sizeLine_eq]; decide +kernel
theorem mm_nb : ((s!"unsupported operand type(s) for {(match Operator.Mult with | .Pow => "**=" | _ => (Operator.info .Mult).1 ++ "=" : String)}: '{shownName "NoneType"}' and '{shownName "bool"}'" : String) : Str).length ≤ sizeLine := by rw [PySem.ofString_length, PySem.sizeLine_eq]; decide +kernel
theorem mm_si : ((s!"unsupported operand type(s) for {(match Operator.Mult with | .Pow => "**=" | _ => (Operator.info .Mult).1 ++ "=" : String)}: '{shownName "set"}' and '{shownName "int"}'" : String) : Str).length ≤ sizeLine := by rw [PySem.ofString_length, PySem.sizeLine_eq]; decide +kernel
theorem mm_sb : ((s!"unsupported operand type(s) for {(match Operator.Mult with | .Pow => "**=" | _ => (Operator.info .Mult).1 ++ "=" : String)}: '{shownName "set"}' and '{shownName "bool"}'" : String) : Str).length ≤ sizeLine := by rw [PySem.ofString_length, PySem.sizeLine_eq]; decide +kernel
/-- what no count is -/
inductive NoCnt (sto : Sto) : V → Prop where
  | none : NoCnt sto .none
  | str (u : Str) : NoCnt sto (.str u)
  | list {v : V} {vs : List V} : LV sto v vs → NoCnt sto v
section
variable {cx : Cx} {d : Nat} {sto : Sto}
theorem x_lmul {v u : V} {vs : List V} (l : LV sto v vs) (h : NoCnt sto u) : Op2X cx d (inplaceOp .Mult) v u sto "TypeError" := by
  intro A s ρ F x y hA B r₁ r₂
  obtain ⟨a, items, rfl, hl, _⟩ := l.is B r₁
  cases h with
  | none =>
    simp only [VRel] at r₂; subst r₂
    exact ip_list_x (U := "NoneType") hl.typeIs rfl nf_none_mul ix_none (by decide) hA.handled mm_none
  | str u =>
    simp only [VRel] at r₂; obtain ⟨t, rfl⟩ := r₂
    exact ip_list_x (U := "str") hl.typeIs (typeIs_str s u t) nf_str_mul ix_str (by decide) hA.handled mm_str
  | list lv =>
    obtain ⟨b, items2, rfl, hl2, _⟩ := lv.is B r₂
    exact ip_list_x (U := "list") hl.typeIs hl2.typeIs noFill_list_mul ix_list (by decide) hA.handled mm_list
theorem x_nmul {v : V} {c : Int} (hc : Cnt v c) : Op2X cx d (inplaceOp .Mult) .none v sto "TypeError" := by
  intro A s ρ F x y hA B r₁ r₂
  simp only [VRel] at r₁; subst r₁
  cases hc with
  | int c =>
    simp only [VRel] at r₂; obtain ⟨t, rfl⟩ := r₂
    exact ip_odd_x (T := "NoneType") (U := "int") (idr := "int.__rmul__") (by decide) rfl (typeIs_int s c t) ni_none' nf_none_mul PySem.F.fills_int_mul PySem.F.slot_int_rmul rep_none lm_noRepeat_int (by decide) (by decide) hA.handled mm_ni
      (call_meets PySem.F.slot_int_rmul (typeIs_int s c t) PySem.F.entry_int_rmul (PySem.F.args_int_rmul_2 _ _) (d_rmul_in c t) ⟨rfl, rfl⟩)
  | tt =>
    simp only [VRel] at r₂; subst r₂
    exact ip_odd_x (T := "NoneType") (U := "bool") (idr := "int.__rmul__") (by decide) rfl rfl ni_none' nf_none_mul PySem.F.fills_bool_mul PySem.F.slot_bool_rmul rep_none rep_bool (by decide) (by decide) hA.handled mm_nb
      (call_meets PySem.F.slot_bool_rmul (T := "bool") rfl PySem.F.entry_int_rmul (PySem.F.args_int_rmul_2 _ _) (d_rmul_bn true) ⟨rfl, rfl⟩)
theorem x_smul {v : V} {c : Int} (hc : Cnt v c) : Op2X cx d (inplaceOp .Mult) (.thing "set") v sto "TypeError" := by
  intro A s ρ F x y hA B r₁ r₂
  simp only [VRel] at r₁
  obtain ⟨l, ⟨cls, dd, data, sl⟩, rfl, _, ho, hcl, es, n, tb, hd⟩ := r₁
  simp only at hcl hd; subst hcl hd
  have hy : s.TypeIs (.ref l) "set" := ⟨_, ho, rfl⟩
  cases hc with
  | int c =>
    simp only [VRel] at r₂; obtain ⟨t, rfl⟩ := r₂
    exact ip_odd_x (T := "set") (U := "int") (idr := "int.__rmul__") (by decide) hy (typeIs_int s c t) ni_set' nf_set_mul PySem.F.fills_int_mul PySem.F.slot_int_rmul rep_set lm_noRepeat_int (by decide) (by decide) hA.handled mm_si
      (call_meets PySem.F.slot_int_rmul (typeIs_int s c t) PySem.F.entry_int_rmul (PySem.F.args_int_rmul_2 _ _) (d_rmul_is c t l _ _ es n tb _) ⟨ho, rfl, rfl⟩)
  | tt =>
    simp only [VRel] at r₂; subst r₂
    exact ip_odd_x (T := "set") (U := "bool") (idr := "int.__rmul__") (by decide) hy rfl ni_set' nf_set_mul PySem.F.fills_bool_mul PySem.F.slot_bool_rmul rep_set rep_bool (by decide) (by decide) hA.handled mm_sb
      (call_meets PySem.F.slot_bool_rmul (T := "bool") rfl PySem.F.entry_int_rmul (PySem.F.args_int_rmul_2 _ _) (d_rmul_bs true l _ _ es n tb _) ⟨ho, rfl, rfl⟩)
end
end Mine

namespace Mine
namespace A06
theorem map_rep {α β : Type} {c : Int} {vs : List α} (f : α → β) : (rep c vs).map f = rep c (vs.map f) := by
  simp [rep, List.map_flatten]
theorem rep_mem {α : Type} {c : Int} {vs : List α} {x : α} (h : x ∈ rep c vs) : x ∈ vs := by
  unfold rep at h
  obtain ⟨l, hl, hx⟩ := List.mem_flatten.mp h
  rw [(List.mem_replicate.mp hl).2] at hx
  exact hx
theorem rep_get {α : Type} {vs : List α} : ∀ {k p : Nat}, p < vs.length * k → (List.replicate k vs).flatten[p]? = vs[p % vs.length]?
  | 0, p, h => by simp at h
  | k + 1, p, h => by
    rw [List.replicate_succ, List.flatten_cons]
    by_cases hp : p < vs.length
    · rw [List.getElem?_append_left hp, Nat.mod_eq_of_lt hp]
    · rw [List.getElem?_append_right (by omega), rep_get (by rw [Nat.mul_succ] at h; omega), ← Nat.mod_eq_sub_mod (by omega)]
/-- the row that a comprehension by remainders makes -/
theorem rep_comp {xs : List Int} {c b : Int} (hb : b = (xs.length : Int) * c) : (List.range b.toNat).map (fun p => V.int (at0 xs (p % xs.length))) = (rep c xs).map V.int := by
  have hlen : b.toNat = xs.length * c.toNat := by
    by_cases h : 0 ≤ c
    · rw [hb]
      obtain ⟨k, rfl⟩ : ∃ k : Nat, c = k := ⟨c.toNat, by omega⟩
      rw [← Int.natCast_mul, Int.toNat_natCast, Int.toNat_natCast]
    · rw [show c.toNat = 0 by omega, Nat.mul_zero]
      have : b ≤ 0 := by rw [hb]; exact Int.mul_nonpos_of_nonneg_of_nonpos (by omega) (by omega)
      omega
  rw [hlen]
  refine List.ext_getElem (by rw [List.length_map, List.length_map, rep_len, List.length_range]) fun p h1 h2 => ?_
  simp only [List.length_map, List.length_range] at h1
  have hg := rep_get (vs := xs) (k := c.toNat) (p := p) h1
  have hpos : 0 < xs.length := by
    rcases Nat.eq_zero_or_pos xs.length with h | h
    · rw [h, Nat.zero_mul] at h1; omega
    · exact h
  have hm : p % xs.length < xs.length := Nat.mod_lt _ hpos
  simp only [List.getElem_map, List.getElem_range]
  congr 1
  have hl : p < (rep c xs).length := by rw [rep_len]; exact h1
  have h3 : (rep c xs)[p]? = some ((rep c xs)[p]'hl) := List.getElem?_eq_getElem hl
  rw [show (rep c xs)[p]? = xs[p % xs.length]? from hg] at h3
  simp only [at0, h3, Option.getD_some]
def ci (c : List Nat) : List Int := c.map fun t => ((t : Nat) : Int)
theorem ci_len {c : List Nat} : (ci c).length = c.length := by simp [ci]
theorem ci_at {c : List Nat} {p : Nat} : at0 (ci c) p = ((c[p]?.getD 0 : Nat) : Int) := by
  simp only [at0, ci, List.getElem?_map]
  cases c[p]? <;> rfl
theorem ci_rep {c : List Nat} {k : Int} : ci (rep k c) = rep k (ci c) := map_rep _
def up {α : Type} (f : Nat → α) (i : Nat) (v : α) : Nat → α := fun t => if t = i then v else f t
theorem up_at {α : Type} {f : Nat → α} {i : Nat} {v : α} : up f i v i = v := by simp [up]
theorem up_ne {α : Type} {f : Nat → α} {i j : Nat} {v : α} (h : j ≠ i) : up f i v j = f j := by simp [up, h]
theorem tab_up {n i : Nat} {g : Nat → V} {v : V} : (tabV n g).set i v = tabV n (up g i v) := tabV_set
theorem tab_map {α : Type} {n i : Nat} {f : Nat → α} {v : α} (g : α → V) : tabV n (up (fun t => g (f t)) i (g v)) = tabV n fun t => g (up f i v t) := by
  unfold tabV up
  refine List.map_congr_left fun t _ => ?_
  split <;> rfl
theorem row_up {n i : Nat} {f : Nat → Int} {v : Int} : (rowV n f).set i (.int v) = rowV n (up f i v) := rowV_set
structure St (r : Nat → List Int) (a o : Nat → Nat) (C : Nat → List Nat) (m : Nat) (nm : Nat → Nat) (sto : Sto) : Prop where
  inn : ∀ i, i < 3 → sto[i]? = some ((r i).map V.int)
  s3 : sto[3]? = some (tabV 3 V.obj)
  row : ∀ i, i < 3 → sto[a i]? = some ((r i).map V.int)
  s7 : sto[7]? = some (tabV 3 fun i => .obj (a i))
  out : ∀ j, j < 3 → sto[o j]? = some ((C (nm j)).map V.obj)
  s11 : sto[11]? = some (tabV 3 fun j => .obj (o j))
  s12 : sto[12]? = some (tabV m fun k => .lst ((ci (C k)).map V.int))
  s13 : sto[13]? = some (rowV 3 fun j => ((nm j : Nat) : Int))
  len : 14 ≤ sto.length
  aS : ∀ i, i < 3 → 4 ≤ a i ∧ a i ≠ 7 ∧ a i ≠ 11 ∧ a i ≠ 12 ∧ a i ≠ 13 ∧ a i < sto.length
  oS : ∀ i, i < 3 → 4 ≤ o i ∧ o i ≠ 7 ∧ o i ≠ 11 ∧ o i ≠ 12 ∧ o i ≠ 13 ∧ o i < sto.length
  aa : ∀ i k, i < 3 → k < 3 → a i = a k → i = k
  ao : ∀ i j, i < 3 → j < 3 → a i ≠ o j
  al : ∀ j k, j < 3 → k < 3 → (o j = o k ↔ nm j = nm k)
  nmC : ∀ j, j < 3 → nm j < m
  sm : ∀ k, k < m → (C k).length ≤ 24 ∧ ∀ t ∈ C k, t < 3
  rl : ∀ i, i < 3 → (r i).length ≤ 24
theorem gne {l : Sto} {n k : Nat} {v : List V} (h : n ≠ k) : (l.set k v)[n]? = l[n]? := List.getElem?_set_ne (Ne.symm h)
theorem geq {l : Sto} {k : Nat} {v : List V} (h : k < l.length) : (l.set k v)[k]? = some v := by simp [h]
theorem gap {l t : Sto} {n : Nat} {x : List V} (h : l[n]? = some x) : (l ++ t)[n]? = some x := get_fore h
variable {r : Nat → List Int} {a o : Nat → Nat} {C : Nat → List Nat} {m : Nat} {nm : Nat → Nat} {sto : Sto}
/-- an inner list made longer in place, and the row that is told of it made anew -/
theorem St.k0 (h : St r a o C m nm sto) {i : Nat} (hi : i < 3) {R : List Int} (hR : R.length ≤ 24) :
    St (up r i R) (up a i sto.length) o C m nm (((sto.set i (R.map V.int)) ++ [R.map V.int]).set 7 ((tabV 3 fun i => .obj (a i)).set i (.obj sto.length))) := by
  have hl := h.len
  have fore : ∀ n x, n ≠ 7 → n ≠ i → sto[n]? = some x → (((sto.set i (R.map V.int)) ++ [R.map V.int]).set 7 ((tabV 3 fun i => .obj (a i)).set i (.obj sto.length)))[n]? = some x := fun n x h7 hni hx => by
    rw [gne h7]; exact gap (by rw [gne hni]; exact hx)
  have ati : (((sto.set i (R.map V.int)) ++ [R.map V.int]).set 7 ((tabV 3 fun i => .obj (a i)).set i (.obj sto.length)))[i]? = some (R.map V.int) := by
    rw [gne (by omega)]; exact gap (geq (by omega))
  have atn : (((sto.set i (R.map V.int)) ++ [R.map V.int]).set 7 ((tabV 3 fun i => .obj (a i)).set i (.obj sto.length)))[sto.length]? = some (R.map V.int) := by
    rw [gne (by omega)]; rw [List.getElem?_append_right (by simp)]; simp
  refine ⟨fun k hk => ?_, fore _ _ (by omega) (by omega) h.s3, fun k hk => ?_, ?_, fun j hj => ?_, fore _ _ (by omega) (by omega) h.s11, fore _ _ (by omega) (by omega) h.s12, fore _ _ (by omega) (by omega) h.s13, by simp; omega, fun k hk => ?_, fun k hk => ?_, fun k j hk hj e => ?_, fun k j hk hj => ?_, h.al, h.nmC, h.sm, fun k hk => ?_⟩
  · by_cases e : k = i
    · subst e; rw [up_at]; exact ati
    · rw [up_ne e]; exact fore _ _ (by omega) e (h.inn k hk)
  · by_cases e : k = i
    · subst e; rw [up_at, up_at]; exact atn
    · rw [up_ne e, up_ne e]
      have := h.aS k hk
      exact fore _ _ (by omega) (by omega) (h.row k hk)
  · rw [geq (by first | omega | (simp; omega)), tab_up, tab_map]
  · have := h.oS j hj
    exact fore _ _ (by omega) (by omega) (h.out j hj)
  · simp only [List.length_set, List.length_append, List.length_singleton]
    by_cases e : k = i
    · subst e; rw [up_at]; omega
    · rw [up_ne e]; have := h.aS k hk; omega
  · simp only [List.length_set, List.length_append, List.length_singleton]
    have := h.oS k hk; omega
  · by_cases e1 : k = i <;> by_cases e2 : j = i
    · rw [e1, e2]
    · rw [e1, up_at, up_ne e2] at e; have := h.aS j hj; omega
    · rw [e2, up_at, up_ne e1] at e; have := h.aS k hk; omega
    · rw [up_ne e1, up_ne e2] at e; exact h.aa k j hk hj e
  · by_cases e1 : k = i
    · rw [e1, up_at]; have := h.oS j hj; omega
    · rw [up_ne e1]; exact h.ao k j hk hj
  · by_cases e1 : k = i
    · rw [e1, up_at]; exact hR
    · rw [up_ne e1]; exact h.rl k hk
/-- an outer list made longer in place, and its cells made anew -/
theorem St.k1 (h : St r a o C m nm sto) {j : Nat} (hj : j < 3) {R : List Nat} (hR : R.length ≤ 24 ∧ ∀ t ∈ R, t < 3) :
    St r a o (up C (nm j) R) m nm ((sto.set (o j) (R.map V.obj)).set 12 ((tabV m fun k => .lst ((ci (C k)).map V.int)).set (nm j) (.lst ((ci R).map V.int)))) := by
  have hl := h.len
  have ho := h.oS j hj
  have fore : ∀ n x, n ≠ 12 → n ≠ o j → sto[n]? = some x → ((sto.set (o j) (R.map V.obj)).set 12 ((tabV m fun k => .lst ((ci (C k)).map V.int)).set (nm j) (.lst ((ci R).map V.int))))[n]? = some x := fun n x h7 hni hx => by
    rw [gne h7, gne hni]; exact hx
  refine ⟨fun k hk => fore _ _ (by omega) (by omega) (h.inn k hk), fore _ _ (by omega) (by omega) h.s3, fun k hk => fore _ _ (h.aS k hk).2.2.2.1 (h.ao k j hk hj) (h.row k hk), fore _ _ (by omega) (by omega) h.s7, fun k hk => ?_, fore _ _ (by omega) (by omega) h.s11, ?_, fore _ _ (by omega) (by omega) h.s13, by simp; omega, fun k hk => by simp only [List.length_set]; exact h.aS k hk, fun k hk => by simp only [List.length_set]; exact h.oS k hk, h.aa, h.ao, h.al, h.nmC, fun k hk => ?_, h.rl⟩
  · by_cases e : o k = o j
    · rw [e, gne (by omega), geq (by omega), (h.al k j hk hj).mp e, up_at]
    · rw [up_ne (fun q => e ((h.al k j hk hj).mpr q))]
      exact fore _ _ (h.oS k hk).2.2.2.1 e (h.out k hk)
  · rw [geq (by first | omega | (simp; omega)), tab_up]
    exact congrArg some (tab_map (f := C) (fun c => .lst ((ci c).map V.int)))
  · by_cases e : k = nm j
    · rw [e, up_at]; exact hR
    · rw [up_ne e]; exact h.sm k hk
/-- a number written through an outer list's place, and in the row -/
theorem St.k2 (h : St r a o C m nm sto) {t : Nat} (ht : t < 3) {R : List Int} (hR : R.length ≤ 24) : St (up r t R) a o C m nm ((sto.set t (R.map V.int)).set (a t) (R.map V.int)) := by
  have hl := h.len
  have ha := h.aS t ht
  have fore : ∀ n x, n ≠ a t → n ≠ t → sto[n]? = some x → ((sto.set t (R.map V.int)).set (a t) (R.map V.int))[n]? = some x := fun n x h7 hni hx => by
    rw [gne h7, gne hni]; exact hx
  refine ⟨fun k hk => ?_, fore _ _ (by omega) (by omega) h.s3, fun k hk => ?_, fore _ _ (by omega) (by omega) h.s7, fun k hk => ?_, fore _ _ (by omega) (by omega) h.s11, fore _ _ (by omega) (by omega) h.s12, fore _ _ (by omega) (by omega) h.s13, by simp; omega, fun k hk => by simp only [List.length_set]; exact h.aS k hk, fun k hk => by simp only [List.length_set]; exact h.oS k hk, h.aa, h.ao, h.al, h.nmC, h.sm, fun k hk => ?_⟩
  · by_cases e : k = t
    · rw [e, up_at, gne (by omega), geq (by omega)]
    · rw [up_ne e]; exact fore _ _ (by omega) e (h.inn k hk)
  · by_cases e : k = t
    · rw [e, up_at, geq (by first | omega | (simp; omega))]
    · rw [up_ne e]; have := h.aS k hk; exact fore _ _ (fun q => e (h.aa k t hk ht q)) (by omega) (h.row k hk)
  · have := h.oS k hk; exact fore _ _ (fun q => h.ao t k ht hk q.symm) (by omega) (h.out k hk)
  · by_cases e : k = t
    · rw [e, up_at]; exact hR
    · rw [up_ne e]; exact h.rl k hk
/-- a name given to a new outer list -/
theorem St.k3 (h : St r a o C m nm sto) {i : Nat} {R : List Nat} (hR : R.length ≤ 24 ∧ ∀ t ∈ R, t < 3) :
    St r a (up o i sto.length) (up C m R) (m + 1) (up nm i m) ((((sto ++ [R.map V.obj]).set 11 ((tabV 3 fun j => .obj (o j)).set i (.obj sto.length))).set 12 ((tabV m fun k => .lst ((ci (C k)).map V.int)) ++ [.lst ((ci R).map V.int)])).set 13 ((rowV 3 fun j => ((nm j : Nat) : Int)).set i (.int ((m : Nat) : Int)))) := by
  have hl := h.len
  have fore : ∀ n x, n ≠ 11 → n ≠ 12 → n ≠ 13 → (sto ++ [R.map V.obj])[n]? = some x → ((((sto ++ [R.map V.obj]).set 11 ((tabV 3 fun j => .obj (o j)).set i (.obj sto.length))).set 12 ((tabV m fun k => .lst ((ci (C k)).map V.int)) ++ [.lst ((ci R).map V.int)])).set 13 ((rowV 3 fun j => ((nm j : Nat) : Int)).set i (.int ((m : Nat) : Int))))[n]? = some x := fun n x h1 h2 h3 hx => by
    rw [gne h3, gne h2, gne h1]; exact hx
  have hlen : ((((sto ++ [R.map V.obj]).set 11 ((tabV 3 fun j => .obj (o j)).set i (.obj sto.length))).set 12 ((tabV m fun k => .lst ((ci (C k)).map V.int)) ++ [.lst ((ci R).map V.int)])).set 13 ((rowV 3 fun j => ((nm j : Nat) : Int)).set i (.int ((m : Nat) : Int)))).length = sto.length + 1 := by simp
  refine ⟨fun k hk => fore _ _ (by omega) (by omega) (by omega) (gap (h.inn k hk)), fore _ _ (by omega) (by omega) (by omega) (gap h.s3), fun k hk => ?_, fore _ _ (by omega) (by omega) (by omega) (gap h.s7), fun k hk => ?_, ?_, ?_, ?_, by rw [hlen]; omega, fun k hk => ?_, fun k hk => ?_, h.aa, fun k j hk hj => ?_, fun k j hk hj => ?_, fun k hk => ?_, fun k hk => ?_, h.rl⟩
  · have := h.aS k hk; exact fore _ _ (by omega) (by omega) (by omega) (gap (h.row k hk))
  · by_cases e : k = i
    · rw [e, up_at, up_at, up_at]
      exact fore _ _ (by omega) (by omega) (by omega) get_last
    · rw [up_ne e, up_ne e, up_ne (by have := h.nmC k hk; omega)]
      have := h.oS k hk; exact fore _ _ (by omega) (by omega) (by omega) (gap (h.out k hk))
  · rw [gne (by omega), gne (by omega), geq (by first | omega | (simp; omega)), tab_up, tab_map]
  · rw [gne (by omega), geq (by first | omega | (simp; omega))]
    have : ∀ k, k < m → up C m R k = C k := fun k hk => up_ne (by omega)
    unfold tabV
    rw [List.range_succ, List.map_append, List.map_singleton, up_at]
    congr 2
    exact List.map_congr_left fun k hk => by rw [this k (List.mem_range.mp hk)]
  · rw [geq (by first | omega | (simp; omega)), row_up]
    congr 1
    refine rowV_congr fun t _ => ?_
    unfold up; split <;> rfl
  · rw [hlen]; have := h.aS k hk; omega
  · rw [hlen]
    by_cases e : k = i
    · rw [e, up_at]; omega
    · rw [up_ne e]; have := h.oS k hk; omega
  · by_cases e : j = i
    · rw [e, up_at]; have := h.aS k hk; omega
    · rw [up_ne e]; exact h.ao k j hk hj
  · by_cases e1 : k = i <;> by_cases e2 : j = i
    · rw [e1, e2]; simp
    · rw [e1, up_at, up_at, up_ne e2, up_ne e2]; have := h.oS j hj; have := h.nmC j hj; omega
    · rw [e2, up_at, up_at, up_ne e1, up_ne e1]; have := h.oS k hk; have := h.nmC k hk; omega
    · rw [up_ne e1, up_ne e2, up_ne e1, up_ne e2]; exact h.al k j hk hj
  · by_cases e : k = i
    · rw [e, up_at]; omega
    · rw [up_ne e]; have := h.nmC k hk; omega
  · by_cases e : k = m
    · rw [e, up_at]; exact hR
    · rw [up_ne e]; exact h.sm k (by omega)
/-- a name given to another's list -/
theorem St.k4 (h : St r a o C m nm sto) {i j : Nat} (hi : i < 3) (hj : j < 3) :
    St r a (up o i (o j)) C m (up nm i (nm j)) ((sto.set 11 ((tabV 3 fun j => .obj (o j)).set i (.obj (o j)))).set 13 ((rowV 3 fun j => ((nm j : Nat) : Int)).set i (.int ((nm j : Nat) : Int)))) := by
  have hl := h.len
  have fore : ∀ n x, n ≠ 11 → n ≠ 13 → sto[n]? = some x → ((sto.set 11 ((tabV 3 fun j => .obj (o j)).set i (.obj (o j)))).set 13 ((rowV 3 fun j => ((nm j : Nat) : Int)).set i (.int ((nm j : Nat) : Int))))[n]? = some x := fun n x h1 h3 hx => by
    rw [gne h3, gne h1]; exact hx
  refine ⟨fun k hk => fore _ _ (by omega) (by omega) (h.inn k hk), fore _ _ (by omega) (by omega) h.s3, fun k hk => ?_, fore _ _ (by omega) (by omega) h.s7, fun k hk => ?_, ?_, fore _ _ (by omega) (by omega) h.s12, ?_, by simp; omega, fun k hk => by simp only [List.length_set]; exact h.aS k hk, fun k hk => ?_, h.aa, fun k l hk hl => ?_, fun k l hk hl => ?_, fun k hk => ?_, h.sm, h.rl⟩
  · have := h.aS k hk; exact fore _ _ (by omega) (by omega) (h.row k hk)
  · by_cases e : k = i
    · rw [e, up_at, up_at]; have := h.oS j hj; exact fore _ _ (by omega) (by omega) (h.out j hj)
    · rw [up_ne e, up_ne e]; have := h.oS k hk; exact fore _ _ (by omega) (by omega) (h.out k hk)
  · rw [gne (by omega), geq (by first | omega | (simp; omega)), tab_up, tab_map]
  · rw [geq (by first | omega | (simp; omega)), row_up]
    congr 1
    refine rowV_congr fun t _ => ?_
    unfold up; split <;> rfl
  · simp only [List.length_set]
    by_cases e : k = i
    · rw [e, up_at]; exact h.oS j hj
    · rw [up_ne e]; exact h.oS k hk
  · by_cases e : l = i
    · rw [e, up_at]; exact h.ao k j hk hj
    · rw [up_ne e]; exact h.ao k l hk hl
  · by_cases e1 : k = i <;> by_cases e2 : l = i
    · rw [e1, e2]; simp
    · rw [e1, up_at, up_at, up_ne e2, up_ne e2]; exact h.al j l hj hl
    · rw [e2, up_at, up_at, up_ne e1, up_ne e1]; exact h.al k j hk hj
    · rw [up_ne e1, up_ne e2, up_ne e1, up_ne e2]; exact h.al k l hk hl
  · by_cases e : k = i
    · rw [e, up_at]; exact h.nmC j hj
    · rw [up_ne e]; exact h.nmC k hk
end A06
end Mine

namespace Mine
local macro_rules | `(tactic| walk_at "x") => `(tactic| first
  | (with_reducible refine we_int ?_)
  | (with_reducible refine we_bool ?_)
  | (with_reducible refine we_none ?_)
  | (with_reducible refine we_str ?_)
  | (with_reducible refine we_bin ?_)
  | (with_reducible refine we_un ?_)
  | (with_reducible refine add_ii ?_)
  | (with_reducible refine sub_ii ?_)
  | (with_reducible refine neg_i ?_)
  | (with_reducible refine lt_ii ?_)
  | (with_reducible refine gt_ii ?_)
  | (with_reducible refine le_ii ?_)
  | (with_reducible refine ge_ii ?_)
  | (with_reducible refine eq_ii ?_)
  | (with_reducible refine ne_ii ?_)
  | (with_reducible refine iadd_ii ?_)
  | ((with_reducible show WE _ _ _ (Expr.Name _ _) _ _ _); refine we_name (by rfl) ?_)
  | (with_reducible refine wes_nil ?_)
  | ((with_reducible show WEs _ _ _ (_ :: _) _ _ _); refine wes_cons ?_)
  | ((with_reducible show WT _ _ _ (Expr.Compare _ [_] [_] _) _ _ _); refine wt_cmp ?_)
  | ((with_reducible show WE _ _ _ (Expr.Compare _ [_] [_] _) _ _ _); refine we_cmp ?_)
  | (with_reducible refine we_ifexp ?_)
  | (with_reducible refine wt_not ?_)
  | (with_reducible refine wt_and ?_)
  | (with_reducible refine wt_and_nil ?_)
  | (with_reducible refine wt_or ?_)
  | (with_reducible refine wt_or_nil ?_)
  | (with_reducible refine weo_none ?_)
  | (with_reducible refine weo_some ?_)
  | ((with_reducible show ∃ c, V.int _ = V.int c ∧ _); refine ⟨_, rfl, ?_⟩)
  | ((with_reducible show WE _ _ _ (Expr.Subscript _ (Expr.Slice _ _ _ _) _) _ _ _); refine WEN.data (wen_slice ?_))
  | ((with_reducible show WE _ _ _ (Expr.Subscript _ _ _) _ _ _); refine we_sub ?_)
  | ((with_reducible show ∃ c, V.bool _ = V.bool c ∧ _); refine ⟨_, rfl, ?_⟩))
local macro_rules | `(tactic| walk_at "i") => `(tactic| first
  | (with_reducible refine if_dec (fun _ => ?_) (fun _ => ?_))
  | (with_reducible refine if_ndec (fun _ => ?_) (fun _ => ?_))
  | (with_reducible refine if_eq (fun _ => ?_) (fun _ => ?_))
  | (with_reducible refine if_ne (fun _ => ?_) (fun _ => ?_))
  | (with_reducible refine if_tt ?_)
  | (with_reducible refine if_ff ?_)
  | (with_reducible refine if_ntt ?_)
  | (with_reducible refine if_nff ?_))
local macro_rules | `(tactic| walk_at "s") => `(tactic| first
  | ((with_reducible show WSs _ _ _ (Stmt.Assign [Expr.Name _ _] _ _ :: _) _ _ _); refine s_assign ?_)
  | ((with_reducible show WSs _ _ _ (Stmt.AugAssign (Expr.Name _ _) _ _ _ :: _) _ _ _); refine s_aug (by rfl) ?_)
  | (with_reducible refine s_return ?_)
  | (with_reducible refine s_if ?_)
  | (with_reducible refine app_nil ?_)
  | (with_reducible refine app_cons ?_))
local macro_rules | `(tactic| walk_at "e") => `(tactic| first | walk_at "x" | walk_at "s" | walk_at "i")
local macro_rules | `(tactic| walk_at "sub") => `(tactic| repeat' (first | exact Sub.nil | refine Sub.cons (by rfl) ?_))
namespace A06
abbrev P := PySem.Challenge.pw_dm0220_06
structure Env (cx : Cx) : Prop where
  h1 : FnIs cx "imul" (parAt P 1) (bodyAt P 1) (scopeAt P 1)
  h3 : FnIs cx "_law_refused" (parAt P 3) (bodyAt P 3) (scopeAt P 3)
  h4 : FnIs cx "_law_same" (parAt P 4) (bodyAt P 4) (scopeAt P 4)
  h5 : FnIs cx "law" (parAt P 5) (bodyAt P 5) (scopeAt P 5)
  range : BI cx "range" (.type "range")
  list : BI cx "list" (.type "list")
  tuple : BI cx "tuple" (.type "tuple")
  len : BI cx "len" (.builtin "len")
  sum : BI cx "sum" (.builtin "sum")
  abs : BI cx "abs" (.builtin "abs")
  type : BI cx "type" (.type "type")
  te : BI cx "TypeError" (.type "TypeError")

variable {cx : Cx} {d : Nat} {sto : Sto} {Q : V → Sto → Prop}
theorem fmodN {a : Nat} (b : Nat) (c : Int) (h : c = b) : (a : Int).fmod c = ((a % b : Nat) : Int) := by subst h; rw [Int.fmod_eq_emod_of_nonneg _ (by omega)]; rfl
theorem fdivN {a : Nat} (b : Nat) (c : Int) (h : c = b) : (a : Int).fdiv c = ((a / b : Nat) : Int) := by subst h; rw [Int.fdiv_eq_ediv_of_nonneg _ (by omega)]; rfl
theorem ne_bb {a b : Bool} {Q : V → Sto → Prop} (q : Q (.bool (a != b)) sto) : Op2 cx d (compareOp .NotEq) (.bool a) (.bool b) sto Q := by
  intro A s ρ F x y hA B r₁ r₂
  simp only [VRel] at r₁ r₂
  subst r₁ r₂
  exact PyProof.Rows.ne_bool (.imm0 B (by simp [VRel]) q)
theorem imul_v (H : Env cx) {v w : V} (ho : Op2 cx d (inplaceOp .Mult) v w sto Q) : CallF cx (d + 1) "imul" [v, w] sto Q := by
  refine callF_keep (names := ["a", "b"]) H.h1 ?_ ?_
  · conv => arg 4; whnf
    refine s_aug (by rfl) ?_
    repeat walk_at "x"
    intro A s ρ F x y hA B r₁ r₂
    refine wpAny_mono (ho A s ρ F x y hA B r₁ r₂) (fun _ _ p => p.mono fun v st q => ?_) fun _ _ x => x
    refine s_return ?_
    repeat walk_at "x"
    exact q
  · intro pm cd doc xs h
    match xs, h with
    | [x, y], _ => rfl
theorem imul_x {v w : V} (H : Env cx) (h : Op2X cx d (inplaceOp .Mult) v w sto "TypeError") : CallX cx (d + 1) "imul" [v, w] sto "TypeError" := by
  refine callX_def (names := ["a", "b"]) H.h1 ?_ ?_
  · conv => arg 4; whnf
    exact nx_aug (by rfl) (by rfl) h
  · intro pm cd doc xs h
    match xs, h with
    | [x, y], _ => rfl
theorem refused_ok {v w : V} (H : Env cx) (h : Op2X cx d (inplaceOp .Mult) v w sto "TypeError") (q : Q (.bool true) sto) : CallF cx (d + 2) "_law_refused" [v, w] sto Q := by
  refine callF_keep (names := ["a", "b"]) H.h3 ?_ ?_
  · conv => arg 4; whnf
    refine s_try (cls := "TypeError") ?_
    refine xe_call ?_ H.h1.ne
    repeat walk_at "e"
    refine ⟨imul_x H h, ?_⟩
    refine hand_T H.te rfl ?_
    exact Then.ret q
  · intro pm cd doc xs h
    match xs, h with
    | [x, y], _ => rfl
variable {r : Nat → List Int} {a o : Nat → Nat} {C : Nat → List Nat} {m : Nat} {nm : Nat → Nat}
theorem lv_of {n : Nat} {vs : List V} (h : sto[n]? = some vs) : n < sto.length := (List.getElem?_eq_some_iff.mp h).1
theorem obj_map {c : List Nat} {p : Nat} (h : p < c.length) : (c.map V.obj)[p]? = some (.obj (c[p]?.getD 0)) := by simp [h]
theorem get_objs {n i : Nat} {c : List Nat} {k : Int} {Q : V → Sto → Prop} (hn : sto[n]? = some (c.map V.obj)) (hk : k = (i : Int)) (hi : i < c.length) (hl : c.length < 2 ^ 62) (q : Q (.obj (c[i]?.getD 0)) sto) : GetV cx d (.obj n) (.int k) sto Q := by
  subst hk
  exact get_obj hn (by omega) (by rw [List.length_map]; exact seqIndex_nn hi) (obj_map hi) q
theorem mem_at {c : List Nat} {p : Nat} (h : p < c.length) : c[p]?.getD 0 ∈ c := by simp [h]
def SL : Loc := [("outer", .obj 11), ("names", .obj 13), ("cells", .obj 12), ("inner", .obj 3), ("rows", .obj 7)]
theorem same_ok (H : Env cx) (h : St r a o C m nm sto) (hm : m < 2 ^ 60) (q : Q (.bool true) sto) : CallF cx (d + 1) "_law_same" [.obj 11, .obj 13, .obj 12, .obj 3, .obj 7] sto Q := by
  have hlen := h.len
  refine callF_keep (names := ["outer", "names", "cells", "inner", "rows"]) H.h4 ?_ ?_
  · conv => arg 4; whnf
    refine s_for ?_
    refine we_tcall H.range ?_
    repeat walk_at "e"
    refine call_range1 ?_
    refine ⟨_, it_rng1 (by decide) (by decide), ?_⟩
    refine LoopS.up (fun i loc st => st = sto ∧ Sub SL loc) ?_ ?_ ⟨rfl, by (try unfold SL); walk_at "sub"⟩
    · rintro i loc st hi ⟨rfl, hsub⟩
      refine WSs.sub (loc' := ("i", .int (0 + (i : Int))) :: SL) ?_ hsub.under
      rw [Int.zero_add] at hi ⊢
      unfold SL
      conv => arg 4; whnf
      refine s_if ?_
      refine wt_or ?_
      refine wt_cmp ?_
      refine we_tcall H.type ?_
      repeat walk_at "x"
      refine get_tab h.s3 (i := i) rfl (by omega) (by decide) ?_
      repeat walk_at "x"
      refine call_type rfl ?_
      refine we_bname H.list ?_
      refine isnot_same rfl ?_
      repeat walk_at "x"
      refine if_ff ?_
      repeat walk_at "x"
      refine get_tab h.s3 (i := i) rfl (by omega) (by decide) ?_
      repeat walk_at "x"
      refine get_tab h.s7 (i := i) rfl (by omega) (by decide) ?_
      refine ne_ll (.obj (h.inn i (by omega))) (.obj (h.row i (by omega))) ?_
      rw [bne_self_eq_false]
      repeat walk_at "x"
      refine if_ff ?_
      repeat walk_at "x"
      refine if_ff ?_
      exact app_nil (ws_nil (Turn.next ⟨rfl, by (try unfold SL); walk_at "sub"⟩))
    rintro loc st ⟨rfl, hsub⟩
    refine Then.next (WSs.sub ?_ hsub)
    unfold SL
    refine s_for ?_
    refine we_tcall H.range ?_
    repeat walk_at "e"
    refine call_range1 ?_
    refine ⟨_, it_rng1 (by decide) (by decide), ?_⟩
    refine LoopS.up (fun j loc st' => st' = st ∧ Sub SL loc) ?_ ?_ ⟨rfl, by (try unfold SL); walk_at "sub"⟩
    · rintro j loc st' hj ⟨rfl, hsub⟩
      refine WSs.sub (loc' := ("j", .int (0 + (j : Int))) :: SL) ?_ hsub.under
      rw [Int.zero_add] at hj ⊢
      unfold SL
      have hj3 : j < 3 := by omega
      have hc := h.sm (nm j) (h.nmC j hj3)
      have hout := h.out j hj3
      conv => arg 4; whnf
      repeat walk_at "e"
      refine get_row h.s13 (i := j) rfl hj3 (by decide) ?_
      refine get_tab h.s12 (i := nm j) rfl (h.nmC j hj3) (by omega) ?_
      generalize hcg : C (nm j) = c at hc hout
      refine s_if ?_
      refine wt_or ?_
      refine wt_cmp ?_
      refine we_tcall H.type ?_
      repeat walk_at "x"
      refine get_tab h.s11 (i := j) rfl hj3 (by decide) ?_
      repeat walk_at "x"
      refine call_type rfl ?_
      refine we_bname H.list ?_
      refine isnot_same rfl ?_
      repeat walk_at "x"
      refine if_ff ?_
      repeat walk_at "x"
      refine we_bcall H.len ?_
      repeat walk_at "x"
      refine get_tab h.s11 (i := j) rfl hj3 (by decide) ?_
      repeat walk_at "x"
      refine call_len (.obj hout) ⟨by simp; omega, ?_⟩
      refine we_bcall H.len ?_
      repeat walk_at "x"
      refine call_len (.lst _) ⟨by simp [ci]; omega, ?_⟩
      rw [List.length_map, List.length_map, ci_len]
      repeat walk_at "x"
      refine if_ne (fun h => absurd rfl h) (fun _ => ?_)
      repeat walk_at "x"
      refine if_ff ?_
      refine app_nil ?_
      refine s_for ?_
      refine we_tcall H.range ?_
      refine wes_cons ?_
      refine we_bcall H.len ?_
      repeat walk_at "x"
      refine call_len (.lst _) ⟨by simp [ci]; omega, ?_⟩
      rw [List.length_map, ci_len]
      repeat walk_at "x"
      refine call_range1 ?_
      refine ⟨_, it_rng1 (by decide) (by omega), ?_⟩
      refine LoopS.up (fun p loc st => st = st' ∧ Sub (("told", .lst ((ci c).map V.int)) :: ("j", .int (j : Int)) :: SL) loc) ?_ ?_ ⟨rfl, by (try unfold SL); walk_at "sub"⟩
      · rintro p loc st hp ⟨rfl, hsub⟩
        refine WSs.sub (loc' := ("p", .int (0 + (p : Int))) :: ("told", .lst ((ci c).map V.int)) :: ("j", .int (j : Int)) :: SL) ?_ hsub.under
        rw [Int.zero_add] at hp ⊢
        unfold SL
        have hpc : p < c.length := by omega
        have ht := hc.2 _ (mem_at hpc)
        conv => arg 4; whnf
        refine s_if ?_
        repeat walk_at "x"
        refine get_tab h.s11 (i := j) rfl hj3 (by decide) ?_
        repeat walk_at "x"
        refine get_objs hout rfl hpc (by omega) ?_
        repeat walk_at "x"
        refine get_ints (l := ci c) (i := p) rfl (by rw [ci_len]; exact hpc) (by rw [ci_len]; omega) ?_
        rw [ci_at]
        refine get_tab h.s3 (i := c[p]?.getD 0) rfl ht (by decide) ?_
        refine isnot_obj (by omega) (by omega) ?_
        rw [decide_eq_true rfl]
        repeat walk_at "x"
        refine if_ff ?_
        exact app_nil (ws_nil (Turn.next ⟨rfl, by (try unfold SL); walk_at "sub"⟩))
      rintro loc st ⟨rfl, hsub⟩
      refine Then.next (WSs.sub ?_ hsub)
      unfold SL
      refine s_for ?_
      refine we_tcall H.range ?_
      repeat walk_at "e"
      refine call_range1 ?_
      refine ⟨_, it_rng1 (by decide) (by omega), ?_⟩
      refine LoopS.up (fun k loc st' => st' = st ∧ Sub (("j", .int (j : Int)) :: SL) loc) ?_ ?_ ⟨rfl, by (try unfold SL); walk_at "sub"⟩
      · rintro k loc st' hk ⟨rfl, hsub⟩
        refine WSs.sub (loc' := ("k", .int (0 + (k : Int))) :: ("j", .int (j : Int)) :: SL) ?_ hsub.under
        rw [Int.zero_add] at hk ⊢
        unfold SL
        have hk3 : k < 3 := by omega
        have ho1 := h.oS j hj3
        have ho2 := h.oS k hk3
        have hal := h.al k j hk3 hj3
        conv => arg 4; whnf
        refine s_if ?_
        refine wt_cmp ?_
        refine we_cmp ?_
        repeat walk_at "x"
        refine get_tab h.s11 (i := k) rfl hk3 (by decide) ?_
        repeat walk_at "x"
        refine get_tab h.s11 (i := j) rfl hj3 (by decide) ?_
        refine is_obj (by omega) (by omega) ?_
        refine we_cmp ?_
        repeat walk_at "x"
        refine get_row h.s13 (i := k) rfl hk3 (by decide) ?_
        repeat walk_at "x"
        refine get_row h.s13 (i := j) rfl hj3 (by decide) ?_
        repeat walk_at "x"
        refine ne_bb ?_
        have e : (decide (o k = o j) != (((nm k : Nat) : Int) == ((nm j : Nat) : Int))) = false := by
          by_cases q : nm k = nm j
          · rw [decide_eq_true (hal.mpr q), q]; simp
          · rw [decide_eq_false (fun z => q (hal.mp z))]
            have : (((nm k : Nat) : Int) == ((nm j : Nat) : Int)) = false := by rw [beq_eq_false_iff_ne]; omega
            rw [this]; rfl
        rw [e]
        repeat walk_at "x"
        refine if_ff ?_
        exact app_nil (ws_nil (Turn.next ⟨rfl, by (try unfold SL); walk_at "sub"⟩))
      · rintro loc st' ⟨rfl, hsub⟩
        exact Then.next (ws_nil (Turn.next ⟨rfl, Sub.trans (by (try unfold SL); walk_at "sub") hsub⟩))
    · rintro loc st' ⟨rfl, hsub⟩
      refine Then.next ?_
      repeat walk_at "e"
      exact q
  · intro pm cd doc xs h
    match xs, h with
    | [x, y, z, u, v], _ => rfl

def thenB (ss : List Stmt) (i : Nat) : List Stmt := match ss[i]? with | some (.If _ b _ _) => b | _ => []
def elseB (ss : List Stmt) (i : Nat) : List Stmt := match ss[i]? with | some (.If _ _ b _) => b | _ => []
abbrev B := forBody (bodyAt P 5) 6
abbrev E1 := elseB B 9
abbrev E2 := elseB E1 0
abbrev E3 := elseB E2 0
abbrev E4 := elseB E3 0
abbrev E5 := elseB E4 0
def BL (D : V) : Loc := [("inner", .obj 3), ("rows", .obj 7), ("outer", .obj 11), ("cells", .obj 12), ("names", .obj 13), ("deeds", D)]
def KL (D : V) (i j : Nat) (cv : V) (place : Nat) (c mo : List Nat) (step : Nat) : Loc := [("i", .int (i : Int)), ("j", .int (j : Int)), ("count", cv), ("place", .int (place : Int)), ("told", .lst ((ci c).map V.int)), ("more", .lst ((ci mo).map V.int)), ("step", .int (step : Int)),
  ("inner", .obj 3), ("rows", .obj 7), ("outer", .obj 11), ("cells", .obj 12), ("names", .obj 13), ("deeds", D)]
theorem get_intsO {n i : Nat} {l : List Int} {k : Int} {Q : V → Sto → Prop} (hn : sto[n]? = some (l.map V.int)) (hk : k = (i : Int)) (hi : i < l.length) (hl : l.length < 2 ^ 62) (q : Q (.int (at0 l i)) sto) : GetV cx d (.obj n) (.int k) sto Q :=
  get_row (f := at0 l) (by rw [hn, ints_rowV]) hk hi hl q
theorem prod_small {n : Nat} {c : Int} (hn : n ≤ 24) (hc : c ≤ 3) : n * c.toNat ≤ 2 ^ 24 := Nat.le_trans (Nat.mul_le_mul hn (show c.toNat ≤ 3 by omega)) (by decide)
theorem rep_small {α : Type} {l : List α} {c : Int} (h : (l.length : Int) * c ≤ 24) : (rep c l).length ≤ 24 := by
  rw [rep_len]
  by_cases hc : 0 ≤ c
  · obtain ⟨k, rfl⟩ : ∃ k : Nat, c = k := ⟨c.toNat, by omega⟩
    rw [Int.toNat_natCast]
    rw [← Int.natCast_mul] at h
    omega
  · rw [show c.toNat = 0 by omega, Nat.mul_zero]; omega
theorem prod_bound {n : Nat} {c : Int} (hn : n ≤ 24) (h1 : -1 ≤ c) (h2 : c ≤ 3) : -100 ≤ (n : Int) * c ∧ (n : Int) * c ≤ 100 := by
  have h3 : (n : Int) * c ≤ (n : Int) * 3 := Int.mul_le_mul_of_nonneg_left h2 (by omega)
  have h4 : (n : Int) * -1 ≤ (n : Int) * c := Int.mul_le_mul_of_nonneg_left h1 (by omega)
  omega
variable {D cv : V} {i j place step : Nat} {c mo : List Nat} {k : Int} {rest : List Stmt} {Q' : Fl → Loc → Sto → Prop}
theorem kind0 (H : Env cx) (h : St r a o C m nm sto) (hi : i < 3) (hc : Cnt cv k) (h1 : -1 ≤ k) (h2 : k ≤ 3) (hz : ((r i).length : Int) * k ≤ 24)
    (hq : ∀ loc sto' r' a', St r' a' o C m nm sto' → Sub (BL D) loc → WSs cx (scopeAt P 5) (d + 1) rest loc sto' Q') :
    WSs cx (scopeAt P 5) (d + 1) (thenB B 9 ++ rest) (KL D i j cv place c mo step) sto Q' := by
  have hl := h.len
  have ha := h.aS i hi
  have hr := h.rl i hi
  conv => arg 4; arg 1; whnf
  unfold KL
  refine app_cons ?_
  refine s_assign ?_
  refine we_call ?_ (hne := H.h1.ne)
  repeat walk_at "x"
  refine get_tab h.s3 (i := i) rfl hi (by decide) ?_
  repeat walk_at "x"
  refine imul_v H (imul_obj hc (h.inn i hi) (by omega) (by rw [List.length_map]; exact prod_small hr h2) (by rw [List.length_map]; omega) ?_)
  rw [← map_rep]
  have g7 : (sto.set i ((rep k (r i)).map V.int))[7]? = some (tabV 3 fun i => .obj (a i)) := by rw [gne (by omega)]; exact h.s7
  have gr : (sto.set i ((rep k (r i)).map V.int))[a i]? = some ((r i).map V.int) := by rw [gne (by omega)]; exact h.row i hi
  have hb := prod_bound hr h1 h2
  refine app_cons ?_
  refine s_setE ?_
  refine WEN.track (wen_comp ?_)
  refine we_tcall H.range ?_
  refine wes_cons ?_
  refine we_bin ?_
  refine we_bcall H.len ?_
  repeat walk_at "x"
  refine get_tab g7 (i := i) rfl hi (by decide) ?_
  repeat walk_at "x"
  refine call_len (.obj gr) ⟨by simp; omega, ?_⟩
  rw [List.length_map]
  repeat walk_at "x"
  refine mul_cnt hc (by omega) ?_
  repeat walk_at "x"
  refine call_range1 ?_
  refine ⟨_, by rw [rngV_length, sizeLine_eq]; omega, it_rng1 (by decide) (by omega), ?_⟩
  refine CompS.map (fun p => V.int (at0 (r i) (p % (r i).length))) (fun p hp R hR => ?_) ?_
  · rw [Int.zero_add] at hp ⊢
    have hpos : 0 < (r i).length := by
      rcases Nat.eq_zero_or_pos (r i).length with e | e
      · rw [e] at hp; simp at hp; omega
      · exact e
    repeat walk_at "x"
    refine get_tab g7 (i := i) rfl hi (by decide) ?_
    repeat walk_at "x"
    refine we_bcall H.len ?_
    repeat walk_at "x"
    refine get_tab g7 (i := i) rfl hi (by decide) ?_
    repeat walk_at "x"
    refine call_len (.obj gr) ⟨by simp; omega, ?_⟩
    rw [List.length_map]
    refine mod_ii ⟨by omega, ?_⟩
    rw [fmodN (r i).length _ rfl]
    refine get_intsO gr rfl (Nat.mod_lt _ hpos) (by omega) ?_
    exact hR
  rw [Int.sub_zero, rep_comp rfl]
  repeat walk_at "x"
  refine ⟨7, i, tabV 3 fun i => .obj (a i), rfl, rfl, gap g7, by rw [tabV_len]; exact hi, by rw [tabV_len]; decide, ?_⟩
  rw [List.length_set]
  have h' := h.k0 hi (R := rep k (r i)) (rep_small hz)
  refine app_cons ?_
  refine s_if ?_
  repeat walk_at "x"
  refine get_tab h'.s3 (i := i) rfl hi (by decide) ?_
  refine isnot_obj (by have := h'.len; omega) (by have := h'.len; omega) ?_
  rw [decide_eq_true rfl]
  repeat walk_at "x"
  refine if_ff ?_
  refine app_nil (app_nil ?_)
  exact hq _ _ _ _ h' (by unfold BL; walk_at "sub")
theorem kind1 (H : Env cx) (h : St r a o C m nm sto) (hm : m < 2 ^ 60) (hj : j < 3) (hc : Cnt cv k) (h1 : -1 ≤ k) (h2 : k ≤ 3) (hz : ((C (nm j)).length : Int) * k ≤ 24)
    (hq : ∀ loc sto' C', St r a o C' m nm sto' → Sub (BL D) loc → WSs cx (scopeAt P 5) (d + 1) rest loc sto' Q') :
    WSs cx (scopeAt P 5) (d + 1) (thenB E1 0 ++ rest) (KL D i j cv place (C (nm j)) (rep k (C (nm j))) step) sto Q' := by
  have hl := h.len
  have ho := h.oS j hj
  have hcs := h.sm (nm j) (h.nmC j hj)
  have h' := h.k1 hj (R := rep k (C (nm j))) ⟨rep_small hz, fun t ht => hcs.2 t (rep_mem ht)⟩
  conv => arg 4; arg 1; whnf
  unfold KL
  refine app_cons ?_
  refine s_assign ?_
  refine we_call ?_ (hne := H.h1.ne)
  repeat walk_at "x"
  refine get_tab h.s11 (i := j) rfl hj (by decide) ?_
  repeat walk_at "x"
  refine imul_v H (imul_obj hc (h.out j hj) (by omega) (by rw [List.length_map]; exact prod_small hcs.1 h2) (by rw [List.length_map]; omega) ?_)
  rw [← map_rep]
  refine app_cons ?_
  refine s_set (n := 12) (by rfl) ?_
  repeat walk_at "x"
  refine get_row (m := 13) (n := 3) (f := fun j => ((nm j : Nat) : Int)) (by rw [gne (by omega)]; exact h.s13) (i := j) rfl hj (by decide) ?_
  refine ⟨nm j, tabV m fun k => .lst ((ci (C k)).map V.int), rfl, by rw [gne (by omega)]; exact h.s12, by rw [tabV_len]; exact h.nmC j hj, by rw [tabV_len]; omega, ?_⟩
  refine app_cons ?_
  refine s_if ?_
  repeat walk_at "x"
  refine get_tab h'.s11 (i := j) rfl hj (by decide) ?_
  refine isnot_obj (by have := h'.oS j hj; omega) (by have := h'.oS j hj; omega) ?_
  rw [decide_eq_true rfl]
  repeat walk_at "x"
  refine if_ff ?_
  refine app_nil (app_nil ?_)
  exact hq _ _ _ h' (by unfold BL; walk_at "sub")
theorem setL {l : List Int} {q : Nat} {v : Int} : (l.map V.int).set q (.int v) = (l.set q v).map V.int := by rw [List.map_set]
theorem kind2 (H : Env cx) (h : St r a o C m nm sto) (hj : j < 3)
    (hq : ∀ loc sto' r', St r' a o C m nm sto' → Sub (BL D) loc → WSs cx (scopeAt P 5) (d + 1) rest loc sto' Q') :
    WSs cx (scopeAt P 5) (d + 1) (thenB E2 0 ++ rest) (KL D i j cv place (C (nm j)) mo step) sto Q' := by
  have hl := h.len
  have hcs := h.sm (nm j) (h.nmC j hj)
  have hout := h.out j hj
  generalize C (nm j) = c at hcs hout
  conv => arg 4; arg 1; whnf
  unfold KL
  refine app_cons ?_
  refine s_if (wt_plain ?_)
  repeat walk_at "x"
  refine tr_l (.lst _) ⟨by simp [ci]; omega, ?_⟩
  cases c with
  | nil =>
    refine if_ff ?_
    refine app_nil (app_nil ?_)
    exact hq _ _ _ h (by unfold BL; walk_at "sub")
  | cons c0 cr =>
    refine if_tt ?_
    generalize hc : c0 :: cr = c at *
    have hpos : 0 < c.length := by rw [← hc]; simp
    refine app_cons ?_
    repeat walk_at "e"
    refine we_bcall H.len ?_
    repeat walk_at "x"
    refine call_len (.lst _) ⟨by simp [ci]; omega, ?_⟩
    rw [List.length_map, ci_len]
    refine mod_ii ⟨by omega, ?_⟩
    rw [fmodN c.length _ rfl]
    have hp : place % c.length < c.length := Nat.mod_lt _ hpos
    generalize place % c.length = p at *
    have ht := hcs.2 _ (mem_at hp)
    repeat walk_at "e"
    refine get_ints (l := ci c) (i := p) rfl (by rw [ci_len]; exact hp) (by rw [ci_len]; omega) ?_
    rw [ci_at]
    have hget : ∀ {n : Nat} {Q : V → Sto → Prop} {st : Sto}, st[n]? = some (c.map V.obj) → Q (.obj (c[p]?.getD 0)) st → GetV cx (d + 1) (.obj n) (.int (p : Int)) st Q := fun hn q => get_objs hn rfl hp (by omega) q
    generalize c[p]?.getD 0 = t at *
    have hat := h.aS t ht
    have hrl := h.rl t ht
    refine get_tab h.s7 (i := t) rfl ht (by decide) ?_
    refine app_cons ?_
    refine s_if (wt_plain ?_)
    repeat walk_at "x"
    refine tr_l (.obj (h.row t ht)) ⟨by simp; omega, ?_⟩
    cases hrt : r t with
    | nil =>
      refine if_ff ?_
      refine app_nil (app_nil (app_nil ?_))
      exact hq _ _ _ h (by unfold BL; walk_at "sub")
    | cons x0 xr =>
      refine if_tt ?_
      have hrow : sto[t]? = some ((r t).map V.int) := h.inn t ht
      have hrowa : sto[a t]? = some ((r t).map V.int) := h.row t ht
      have hxpos : 0 < (r t).length := by rw [hrt]; simp
      refine app_cons ?_
      refine s_setE ?_
      repeat walk_at "x"
      refine get_tab h.s11 (i := j) rfl hj (by decide) ?_
      repeat walk_at "x"
      refine hget hout ?_
      repeat walk_at "x"
      refine we_bcall H.len ?_
      repeat walk_at "x"
      refine call_len (.obj hrowa) ⟨by simp; omega, ?_⟩
      rw [List.length_map]
      refine mod_ii ⟨by omega, ?_⟩
      rw [fmodN (r t).length _ rfl]
      have hmod : place % (r t).length < (r t).length := Nat.mod_lt _ hxpos
      refine ⟨t, place % (r t).length, (r t).map V.int, rfl, rfl, hrow, by rw [List.length_map]; exact hmod, by rw [List.length_map]; omega, ?_⟩
      rw [setL]
      have hrowb : (sto.set t (((r t).set (place % (r t).length) ((step : Int) + 10)).map V.int))[a t]? = some ((r t).map V.int) := by rw [gne (by omega)]; exact hrowa
      refine app_cons ?_
      refine s_set (n := a t) (by rfl) ?_
      repeat walk_at "x"
      refine we_bcall H.len ?_
      repeat walk_at "x"
      refine call_len (.obj hrowb) ⟨by simp; omega, ?_⟩
      rw [List.length_map]
      refine mod_ii ⟨by omega, ?_⟩
      rw [fmodN (r t).length _ rfl]
      refine ⟨place % (r t).length, (r t).map V.int, rfl, hrowb, by rw [List.length_map]; exact hmod, by rw [List.length_map]; omega, ?_⟩
      rw [setL]
      have h' := h.k2 ht (R := (r t).set (place % (r t).length) ((step : Int) + 10)) (by rw [List.length_set]; exact hrl)
      refine app_nil (app_nil (app_nil ?_))
      exact hq _ _ _ h' (by unfold BL; walk_at "sub")
theorem kind3 (H : Env cx) (h : St r a o C m nm sto) (hm : m < 2 ^ 20) (hi : i < 3) (hj : j < 3) (hc : Cnt cv k) (h1 : -1 ≤ k) (h2 : k ≤ 3) (hz : ((C (nm j)).length : Int) * k ≤ 24)
    (hq : ∀ loc sto' o' C' nm', St r a o' C' (m + 1) nm' sto' → Sub (BL D) loc → WSs cx (scopeAt P 5) (d + 1) rest loc sto' Q') :
    WSs cx (scopeAt P 5) (d + 1) (thenB E3 0 ++ rest) (KL D i j cv place (C (nm j)) (rep k (C (nm j))) step) sto Q' := by
  have hl := h.len
  have hcs := h.sm (nm j) (h.nmC j hj)
  have h' := h.k3 (i := i) (R := rep k (C (nm j))) ⟨rep_small hz, fun t ht => hcs.2 t (rep_mem ht)⟩
  conv => arg 4; arg 1; whnf
  unfold KL
  refine app_cons ?_
  refine s_setE ?_
  refine we_call ?_ (hne := H.h1.ne)
  repeat walk_at "x"
  refine get_tab h.s11 (i := j) rfl hj (by decide) ?_
  repeat walk_at "x"
  refine imul_v H (Op2N.track (imul_cnt hc (h.out j hj) (by omega) (by rw [List.length_map]; exact prod_small hcs.1 h2) (by rw [List.length_map]; omega) ?_))
  rw [← map_rep]
  repeat walk_at "x"
  refine ⟨11, i, tabV 3 fun j => .obj (o j), rfl, rfl, gap h.s11, by rw [tabV_len]; exact hi, by rw [tabV_len]; decide, ?_⟩
  have g12 : ((sto ++ [(rep k (C (nm j))).map V.obj]).set 11 ((tabV 3 fun j => .obj (o j)).set i (.obj sto.length)))[12]? = some (tabV m fun k => .lst ((ci (C k)).map V.int)) := by rw [gne (by omega)]; exact gap h.s12
  have g13 : ((sto ++ [(rep k (C (nm j))).map V.obj]).set 11 ((tabV 3 fun j => .obj (o j)).set i (.obj sto.length)))[13]? = some (rowV 3 fun j => ((nm j : Nat) : Int)) := by rw [gne (by omega)]; exact gap h.s13
  refine app_cons ?_
  refine s_expr (we_append (by rfl) ?_)
  repeat walk_at "x"
  refine ⟨_, g12, by rw [tabV_len, sizeLine_eq]; omega, ?_⟩
  refine app_cons ?_
  refine s_set (n := 13) (by rfl) ?_
  refine we_bin ?_
  refine we_bcall H.len ?_
  repeat walk_at "x"
  refine call_len (.obj (geq (by simp; omega))) ⟨by rw [List.length_append, tabV_len]; simp; omega, ?_⟩
  repeat walk_at "x"
  refine ⟨i, rowV 3 fun j => ((nm j : Nat) : Int), rfl, by rw [gne (by omega)]; exact g13, by rw [rowV_len]; exact hi, by rw [rowV_len]; decide, ?_⟩
  rw [show (((tabV m fun k => V.lst ((ci (C k)).map V.int)) ++ [V.lst ((ci (rep k (C (nm j)))).map V.int)]).length : Int) - 1 = ((m : Nat) : Int) by rw [List.length_append, tabV_len]; simp]
  refine app_nil ?_
  exact hq _ _ _ _ _ h' (by unfold BL; walk_at "sub")
theorem kind4 (h : St r a o C m nm sto) (hi : i < 3) (hj : j < 3)
    (hq : ∀ loc sto' o' nm', St r a o' C m nm' sto' → Sub (BL D) loc → WSs cx (scopeAt P 5) (d + 1) rest loc sto' Q') :
    WSs cx (scopeAt P 5) (d + 1) (thenB E4 0 ++ rest) (KL D i j cv place c mo step) sto Q' := by
  have hl := h.len
  have h' := h.k4 (i := i) hi hj
  conv => arg 4; arg 1; whnf
  unfold KL
  refine app_cons ?_
  refine s_set (n := 11) (by rfl) ?_
  repeat walk_at "x"
  refine get_tab h.s11 (i := j) rfl hj (by decide) ?_
  repeat walk_at "x"
  refine ⟨i, tabV 3 fun j => .obj (o j), rfl, h.s11, by rw [tabV_len]; exact hi, by rw [tabV_len]; decide, ?_⟩
  have g13 : (sto.set 11 ((tabV 3 fun j => .obj (o j)).set i (.obj (o j))))[13]? = some (rowV 3 fun j => ((nm j : Nat) : Int)) := by rw [gne (by omega)]; exact h.s13
  refine app_cons ?_
  refine s_set (n := 13) (by rfl) ?_
  repeat walk_at "x"
  refine get_row g13 (i := j) rfl hj (by decide) ?_
  repeat walk_at "x"
  refine ⟨i, rowV 3 fun j => ((nm j : Nat) : Int), rfl, g13, by rw [rowV_len]; exact hi, by rw [rowV_len]; decide, ?_⟩
  refine app_nil ?_
  exact hq _ _ _ _ h' (by unfold BL; walk_at "sub")

abbrev E6 := elseB E5 0
theorem kind5 (H : Env cx) (h : St r a o C m nm sto) (hj : j < 3) (hc : Cnt cv k) (h1 : -1 ≤ k) (h2 : k ≤ 3) (hz : ((C (nm j)).length : Int) * k ≤ 24)
    (hq : ∀ loc, Sub (BL D) loc → WSs cx (scopeAt P 5) (d + 1) rest loc sto Q') :
    WSs cx (scopeAt P 5) (d + 1) (thenB E5 0 ++ rest) (KL D i j cv place (C (nm j)) (rep k (C (nm j))) step) sto Q' := by
  have hl := h.len
  have hcs := h.sm (nm j) (h.nmC j hj)
  have hout := h.out j hj
  generalize C (nm j) = c at hcs hout hz
  have hml := rep_small hz
  have hmt : ∀ t ∈ rep k c, t < 3 := fun t ht => hcs.2 t (rep_mem ht)
  conv => arg 4; arg 1; whnf
  unfold KL
  refine app_cons ?_
  refine s_assign ?_
  refine we_call ?_ (hne := H.h1.ne)
  refine wes_cons ?_
  refine we_tcall H.tuple ?_
  repeat walk_at "x"
  refine get_tab h.s11 (i := j) rfl hj (by decide) ?_
  repeat walk_at "x"
  refine call_tuple (.obj hout) (by rw [List.length_map, sizeLine_eq]; omega) ?_
  repeat walk_at "x"
  refine imul_v H (imul_tup hc (by omega) (by rw [List.length_map]; omega) ?_)
  rw [← map_rep]
  generalize rep k c = mo at *
  refine app_cons ?_
  refine s_if ?_
  refine wt_or ?_
  refine wt_cmp ?_
  refine we_tcall H.type ?_
  repeat walk_at "x"
  refine call_type rfl ?_
  refine we_bname H.tuple ?_
  refine isnot_same rfl ?_
  repeat walk_at "x"
  refine if_ff ?_
  refine wt_or ?_
  refine wt_cmp ?_
  refine we_bcall H.len ?_
  repeat walk_at "x"
  refine call_lent ⟨by simp; omega, ?_⟩
  refine we_bcall H.len ?_
  repeat walk_at "x"
  refine call_len (.lst _) ⟨by simp [ci]; omega, ?_⟩
  rw [List.length_map, List.length_map, ci_len]
  repeat walk_at "x"
  refine if_ne (fun h => absurd rfl h) (fun _ => ?_)
  repeat walk_at "x"
  refine if_ff ?_
  refine app_nil (app_cons ?_)
  refine s_for ?_
  refine we_tcall H.range ?_
  refine wes_cons ?_
  refine we_bcall H.len ?_
  repeat walk_at "x"
  refine call_len (.lst _) ⟨by simp [ci]; omega, ?_⟩
  rw [List.length_map, ci_len]
  repeat walk_at "x"
  refine call_range1 ?_
  refine ⟨_, it_rng1 (by decide) (by omega), ?_⟩
  refine LoopS.up (fun p loc st => st = sto ∧ Sub (("out", .tup (mo.map V.obj)) :: ("more", .lst ((ci mo).map V.int)) :: BL D) loc) ?_ ?_ ⟨rfl, by unfold BL; walk_at "sub"⟩
  · rintro p loc st hp ⟨rfl, hsub⟩
    refine WSs.sub (loc' := ("p", .int (0 + (p : Int))) :: ("out", .tup (mo.map V.obj)) :: ("more", .lst ((ci mo).map V.int)) :: BL D) ?_ hsub.under
    rw [Int.zero_add] at hp ⊢
    unfold BL
    have hpc : p < mo.length := by omega
    have ht := hmt _ (mem_at hpc)
    conv => arg 4; whnf
    refine s_if ?_
    repeat walk_at "x"
    refine get_tup (j := p) (v := .obj (mo[p]?.getD 0)) (by omega) (by rw [List.length_map]; exact seqIndex_nn hpc) (obj_map hpc) ?_
    repeat walk_at "x"
    refine get_ints (l := ci mo) (i := p) rfl (by rw [ci_len]; exact hpc) (by rw [ci_len]; omega) ?_
    rw [ci_at]
    refine get_tab h.s3 (i := mo[p]?.getD 0) rfl ht (by decide) ?_
    refine isnot_obj (by omega) (by omega) ?_
    rw [decide_eq_true rfl]
    repeat walk_at "x"
    refine if_ff ?_
    exact app_nil (ws_nil (Turn.next ⟨rfl, by (try unfold BL); walk_at "sub"⟩))
  · rintro loc st ⟨rfl, hsub⟩
    refine Then.next (app_nil ?_)
    exact hq _ (Sub.trans (by unfold BL; walk_at "sub") hsub)
theorem pair_ok (H : Env cx) {v w : V} {Q' : Fl → Loc → Sto → Prop} (h : Op2X cx d (inplaceOp .Mult) v w sto "TypeError") (hq : ∀ loc, Sub (BL D) loc → Q' .next loc sto) :
    WSs cx (scopeAt P 5) (d + 2) (forBody E6 0) (("pair", .tup [v, w]) :: BL D) sto Q' := by
  unfold BL
  conv => arg 4; whnf
  refine s_if (wt_not (wt_plain ?_))
  refine we_call ?_ (hne := H.h3.ne)
  repeat walk_at "x"
  refine get_tup (j := 0) (by decide) rfl rfl ?_
  repeat walk_at "x"
  refine get_tup (j := 1) (by decide) rfl rfl ?_
  repeat walk_at "x"
  refine refused_ok H h ?_
  refine tr_b ?_
  repeat walk_at "e"
  exact ws_nil (hq _ (by unfold BL; walk_at "sub"))
theorem kind6 (H : Env cx) (h : St r a o C m nm sto) (hi : i < 3) (hj : j < 3) (hc : Cnt cv k)
    (hq : ∀ loc, Sub (BL D) loc → WSs cx (scopeAt P 5) (d + 2) rest loc sto Q') :
    WSs cx (scopeAt P 5) (d + 2) (E6 ++ rest) (KL D i j cv place c mo step) sto Q' := by
  have hl := h.len
  conv => arg 4; arg 1; whnf
  unfold KL
  refine app_cons ?_
  refine s_for ?_
  refine we_tuple ?_
  refine wes_cons ?_
  refine we_tuple ?_
  repeat walk_at "x"
  refine get_tab h.s3 (i := i) rfl hi (by decide) ?_
  repeat walk_at "x"
  refine ⟨by simp [sizeLine], ?_⟩
  refine wes_cons ?_
  refine we_tuple ?_
  repeat walk_at "x"
  refine get_tab h.s11 (i := j) rfl hj (by decide) ?_
  repeat walk_at "x"
  refine ⟨by simp [sizeLine], ?_⟩
  refine wes_cons ?_
  refine we_tuple ?_
  repeat walk_at "x"
  refine get_tab h.s3 (i := i) rfl hi (by decide) ?_
  repeat walk_at "x"
  refine get_tab h.s3 (i := i) rfl hi (by decide) ?_
  repeat walk_at "x"
  refine ⟨by simp [sizeLine], ?_⟩
  refine wes_cons ?_
  refine we_tuple ?_
  repeat walk_at "x"
  refine ⟨by simp [sizeLine], ?_⟩
  refine wes_cons ?_
  refine we_tuple ?_
  refine wes_cons ?_
  refine we_set1 ?_
  repeat walk_at "x"
  refine ⟨by simp [sizeLine], ?_⟩
  repeat walk_at "x"
  refine ⟨by simp [sizeLine], ?_⟩
  refine ⟨_, it_tup, ?_⟩
  refine LoopS.at _ (fun _ loc st => st = sto ∧ Sub (BL D) loc) ?_ ?_ ⟨rfl, by unfold BL; walk_at "sub"⟩
  · rintro p v loc st hv ⟨rfl, hsub⟩
    obtain ⟨x, y, rfl, hx⟩ : ∃ x y, v = .tup [x, y] ∧ Op2X cx d (inplaceOp .Mult) x y st "TypeError" := by
      match p, hv with
      | 0, hv => cases hv; exact ⟨_, _, rfl, x_lmul (.obj (h.inn i hi)) .none⟩
      | 1, hv => cases hv; exact ⟨_, _, rfl, x_lmul (.obj (h.out j hj)) (.str _)⟩
      | 2, hv => cases hv; exact ⟨_, _, rfl, x_lmul (.obj (h.inn i hi)) (.list (.obj (h.inn i hi)))⟩
      | 3, hv => cases hv; exact ⟨_, _, rfl, x_nmul hc⟩
      | 4, hv => cases hv; exact ⟨_, _, rfl, x_smul hc⟩
    exact WSs.sub (pair_ok H hx fun loc hl => Turn.next ⟨rfl, hl⟩) hsub.under
  · rintro loc st ⟨rfl, hsub⟩
    exact Then.next (app_nil (hq _ hsub))
theorem tail_ok (H : Env cx) (h : St r a o C m nm sto) (hm : m < 2 ^ 60) {loc : Loc} (hsub : Sub (BL D) loc) (hq : ∀ loc, Sub (BL D) loc → Q' .next loc sto) :
    WSs cx (scopeAt P 5) (d + 2) (B.drop 10) loc sto Q' := by
  refine WSs.sub ?_ hsub
  unfold BL
  conv => arg 4; whnf
  refine s_if (wt_not (wt_plain ?_))
  refine we_call ?_ (hne := H.h4.ne)
  repeat walk_at "x"
  refine same_ok H h hm ?_
  refine tr_b ?_
  repeat walk_at "e"
  exact ws_nil (hq _ (by unfold BL; walk_at "sub"))
theorem cnt_get {q : Nat} (hq : q < 5) : ∃ v c, ([V.int 2, V.int 3, V.int 0, V.int (-1), V.bool true] : List V)[q]? = some v ∧ Cnt v c ∧ -1 ≤ c ∧ c ≤ 3 := by
  match q, hq with
  | 0, _ => exact ⟨_, _, rfl, .int 2, by decide, by decide⟩
  | 1, _ => exact ⟨_, _, rfl, .int 3, by decide, by decide⟩
  | 2, _ => exact ⟨_, _, rfl, .int 0, by decide, by decide⟩
  | 3, _ => exact ⟨_, _, rfl, .int (-1), by decide, by decide⟩
  | 4, _ => exact ⟨_, _, rfl, .tt, by decide, by decide⟩
/-- from the count on -/
theorem deed_ok (H : Env cx) (h : St r a o C m nm sto) (hm : m < 2 ^ 20) (hi : i < 3) (hj : j < 3) (hc : Cnt cv k) (h1 : -1 ≤ k) (h2 : k ≤ 3) {kind : Nat}
    (hz : ((if kind = 0 then (r i).length else (C (nm j)).length : Nat) : Int) * k ≤ 24)
    (hq : ∀ loc sto' r' a' o' C' m' nm', St r' a' o' C' m' nm' sto' → m' ≤ m + 1 → Sub (BL D) loc → Q' .next loc sto') :
    WSs cx (scopeAt P 5) (d + 2) (B.drop 8) [("kind", .int (kind : Int)), ("i", .int (i : Int)), ("j", .int (j : Int)), ("count", cv), ("place", .int (place : Int)), ("told", .lst ((ci (C (nm j))).map V.int)), ("step", .int (step : Int)), ("inner", .obj 3), ("rows", .obj 7), ("outer", .obj 11), ("cells", .obj 12), ("names", .obj 13), ("deeds", D)] sto Q' := by
  have hcs := h.sm (nm j) (h.nmC j hj)
  have hb := prod_bound hcs.1 h1 h2
  conv => arg 4; whnf
  refine s_comp ?_
  refine we_tcall H.range ?_
  refine wes_cons ?_
  refine we_bin ?_
  refine we_bcall H.len ?_
  repeat walk_at "x"
  refine call_len (.lst _) ⟨by simp [ci]; omega, ?_⟩
  rw [List.length_map, ci_len]
  repeat walk_at "x"
  refine mul_cnt hc (by omega) ?_
  repeat walk_at "x"
  refine call_range1 ?_
  refine ⟨_, by rw [rngV_length, sizeLine_eq]; omega, it_rng1 (by decide) (by omega), ?_⟩
  refine CompS.map (fun p => V.int (at0 (ci (C (nm j))) (p % (ci (C (nm j))).length))) (fun p hp R hR => ?_) ?_
  · rw [Int.zero_add] at hp ⊢
    rw [ci_len] at hR
    have hpos : 0 < (C (nm j)).length := by
      rcases Nat.eq_zero_or_pos (C (nm j)).length with e | e
      · rw [e] at hp; simp at hp; omega
      · exact e
    repeat walk_at "x"
    refine we_bcall H.len ?_
    repeat walk_at "x"
    refine call_len (.lst _) ⟨by simp [ci]; omega, ?_⟩
    rw [List.length_map, ci_len]
    refine mod_ii ⟨by omega, ?_⟩
    rw [fmodN (C (nm j)).length _ rfl]
    refine get_ints (l := ci (C (nm j))) (i := p % (C (nm j)).length) rfl (by rw [ci_len]; exact Nat.mod_lt _ hpos) (by rw [ci_len]; omega) ?_
    exact hR
  rw [Int.sub_zero, rep_comp (by rw [ci_len]), ← ci_rep]
  have goT : ∀ {rest : List Stmt} {loc : Loc} {sto' : Sto} {r' a' o' C' m' nm'}, St r' a' o' C' m' nm' sto' → m' ≤ m + 1 → Sub (BL D) loc → rest = B.drop 10 → WSs cx (scopeAt P 5) (d + 2) rest loc sto' Q' := by
    rintro rest loc sto' r' a' o' C' m' nm' h' hm' hsub rfl
    exact tail_ok H h' (by omega) hsub fun loc hl => hq _ _ _ _ _ _ _ _ h' hm' hl
  have toKL : ∀ {rest : List Stmt}, WSs cx (scopeAt P 5) (d + 2) rest (KL D i j cv place (C (nm j)) (rep k (C (nm j))) step) sto Q' → WSs cx (scopeAt P 5) (d + 2) rest [("more", .lst ((ci (rep k (C (nm j)))).map V.int)), ("kind", .int (kind : Int)), ("i", .int (i : Int)), ("j", .int (j : Int)), ("count", cv), ("place", .int (place : Int)), ("told", .lst ((ci (C (nm j))).map V.int)), ("step", .int (step : Int)), ("inner", .obj 3), ("rows", .obj 7), ("outer", .obj 11), ("cells", .obj 12), ("names", .obj 13), ("deeds", D)] sto Q' := fun hw => WSs.sub hw (by unfold KL; walk_at "sub")
  refine s_if ?_
  repeat walk_at "x"
  refine if_eq (fun e => ?_) (fun e0 => ?_)
  · rw [if_pos (by omega)] at hz
    exact toKL (kind0 H h hi hc h1 h2 hz fun loc sto' r' a' h' hs => goT h' (by omega) hs rfl)
  rw [if_neg (by omega)] at hz
  refine app_cons ?_
  refine s_if ?_
  repeat walk_at "x"
  refine if_eq (fun e => ?_) (fun e1 => ?_)
  · exact toKL (kind1 H h (by omega) hj hc h1 h2 hz fun loc sto' C' h' hs => goT h' (by omega) hs rfl)
  refine app_cons ?_
  refine s_if ?_
  repeat walk_at "x"
  refine if_eq (fun e => ?_) (fun e2 => ?_)
  · exact toKL (kind2 H h hj fun loc sto' r' h' hs => goT h' (by omega) hs rfl)
  refine app_cons ?_
  refine s_if ?_
  repeat walk_at "x"
  refine if_eq (fun e => ?_) (fun e3 => ?_)
  · exact toKL (kind3 H h hm hi hj hc h1 h2 hz fun loc sto' o' C' nm' h' hs => goT h' (by omega) hs rfl)
  refine app_cons ?_
  refine s_if ?_
  repeat walk_at "x"
  refine if_eq (fun e => ?_) (fun e4 => ?_)
  · exact toKL (kind4 h hi hj fun loc sto' o' nm' h' hs => goT h' (by omega) hs rfl)
  refine app_cons ?_
  refine s_if ?_
  repeat walk_at "x"
  refine if_eq (fun e => ?_) (fun e5 => ?_)
  · exact toKL (kind5 H h hj hc h1 h2 hz fun loc hs => goT h (by omega) hs rfl)
  exact toKL (kind6 H h hi hj hc fun loc hs => goT h (by omega) hs rfl)

theorem turn_ok (H : Env cx) (h : St r a o C m nm sto) (hm : m < 2 ^ 20) {ds : List Int} (hlen : ds.length = 22) (hnn : ∀ x ∈ ds, 0 ≤ x) {step : Nat} (hs : step < 22)
    (hq : ∀ loc sto' r' a' o' C' m' nm', St r' a' o' C' m' nm' sto' → m' ≤ m + 1 → Sub (BL (.lst (ds.map V.int))) loc → Q' .next loc sto') :
    WSs cx (scopeAt P 5) (d + 2) B (("step", .int (step : Int)) :: BL (.lst (ds.map V.int))) sto Q' := by
  obtain ⟨N, hN⟩ : ∃ N : Nat, at0 ds step = (N : Int) := by
    have : 0 ≤ at0 ds step := by
      unfold at0
      simp [show step < ds.length by omega]
      exact hnn _ (List.getElem_mem _)
    exact ⟨(at0 ds step).toNat, by omega⟩
  unfold BL at *
  conv => arg 4; whnf
  repeat walk_at "e"
  refine get_ints (i := step) rfl (by omega) (by omega) ?_
  rw [hN]
  repeat walk_at "e"
  refine mod_ii ⟨by decide, ?_⟩
  rw [fmodN 7 7 rfl]
  repeat walk_at "e"
  refine get_ints (i := step) rfl (by omega) (by omega) ?_
  rw [hN]
  repeat walk_at "e"
  refine fdiv_ii ⟨by decide, PyProof.noPylong_small (by decide), ?_⟩
  rw [fdivN 7 7 rfl]
  generalize N % 7 = kind
  generalize N / 7 = rest
  repeat walk_at "e"
  refine mod_ii ⟨by decide, ?_⟩
  rw [fmodN 3 3 rfl]
  have hi : rest % 3 < 3 := Nat.mod_lt _ (by decide)
  repeat walk_at "e"
  refine fdiv_ii ⟨by decide, PyProof.noPylong_small (by decide), ?_⟩
  rw [fdivN 3 3 rfl]
  repeat walk_at "e"
  refine mod_ii ⟨by decide, ?_⟩
  rw [fmodN 3 3 rfl]
  have hj : rest / 3 % 3 < 3 := Nat.mod_lt _ (by decide)
  generalize rest % 3 = i at *
  generalize rest / 3 % 3 = j at *
  refine s_assign ?_
  refine we_sub ?_
  refine we_tuple ?_
  repeat walk_at "x"
  refine ⟨by simp [sizeLine], ?_⟩
  repeat walk_at "x"
  refine fdiv_ii ⟨by decide, PyProof.noPylong_small (by decide), ?_⟩
  rw [fdivN 9 9 rfl]
  repeat walk_at "x"
  refine mod_ii ⟨by decide, ?_⟩
  rw [fmodN 5 5 rfl]
  have hq5 : rest / 9 % 5 < 5 := Nat.mod_lt _ (by decide)
  obtain ⟨v, c, hv, hcnt, c1, c2⟩ := cnt_get hq5
  refine get_tup (by omega) (seqIndex_nn (by simp; omega)) hv ?_
  repeat walk_at "e"
  refine fdiv_ii ⟨by decide, PyProof.noPylong_small (by decide), ?_⟩
  rw [fdivN 45 45 rfl]
  repeat walk_at "e"
  refine get_row h.s13 (i := j) rfl hj (by decide) ?_
  refine get_tab h.s12 (i := nm j) rfl (h.nmC j hj) (by omega) ?_
  have hcs := h.sm (nm j) (h.nmC j hj)
  have hr := h.rl i hi
  have key : ∀ (cv : V) (k : Int), Cnt cv k → -1 ≤ k → k ≤ 3 → ((if kind = 0 then (r i).length else (C (nm j)).length : Nat) : Int) * k ≤ 24 → ∀ loc, Sub [("kind", .int (kind : Int)), ("i", .int (i : Int)), ("j", .int (j : Int)), ("count", cv), ("place", .int ((rest / 45 : Nat) : Int)), ("told", .lst ((ci (C (nm j))).map V.int)), ("step", .int (step : Int)), ("inner", .obj 3), ("rows", .obj 7), ("outer", .obj 11), ("cells", .obj 12), ("names", .obj 13), ("deeds", .lst (ds.map V.int))] loc → WSs cx (scopeAt P 5) (d + 2) (B.drop 8) loc sto Q' :=
    fun cv k hk k1 k2 hz loc hsub => WSs.sub (deed_ok H h hm hi hj hk k1 k2 hz fun loc sto' r' a' o' C' m' nm' h' hm' hl => hq _ _ _ _ _ _ _ _ h' hm' hl) hsub
  have hb24 : (if kind = 0 then (r i).length else (C (nm j)).length) ≤ 24 := by split <;> omega
  refine s_if ?_
  refine wt_cmp ?_
  refine we_bin ?_
  refine we_ifexp ?_
  repeat walk_at "x"
  have fin : ∀ n : Nat, n = (if kind = 0 then (r i).length else (C (nm j)).length) → Op2 cx (d + 2) (binaryOp .Mult) (.int (n : Int)) v sto fun v' st' => WE cx (scopeAt P 5) (d + 2) (Expr.Constant (Const.int 24) 0 ⟨42, 68, 42, 70⟩) [("told", .lst ((ci (C (nm j))).map V.int)), ("place", .int ((rest / 45 : Nat) : Int)), ("count", v), ("j", .int (j : Int)), ("i", .int (i : Int)), ("rest", .int (rest : Int)), ("kind", .int (kind : Int)), ("step", .int (step : Int)), ("inner", .obj 3), ("rows", .obj 7), ("outer", .obj 11), ("cells", .obj 12), ("names", .obj 13), ("deeds", .lst (ds.map V.int))] st' fun b st'' => Op2 cx (d + 2) (compareOp .Gt) v' b st'' fun w st₃ => ∃ c', w = .bool c' ∧ if c' = true then WSs cx (scopeAt P 5) (d + 2) (thenB B 7 ++ B.drop 8) [("told", .lst ((ci (C (nm j))).map V.int)), ("place", .int ((rest / 45 : Nat) : Int)), ("count", v), ("j", .int (j : Int)), ("i", .int (i : Int)), ("rest", .int (rest : Int)), ("kind", .int (kind : Int)), ("step", .int (step : Int)), ("inner", .obj 3), ("rows", .obj 7), ("outer", .obj 11), ("cells", .obj 12), ("names", .obj 13), ("deeds", .lst (ds.map V.int))] st₃ Q' else WSs cx (scopeAt P 5) (d + 2) ([] ++ B.drop 8) [("told", .lst ((ci (C (nm j))).map V.int)), ("place", .int ((rest / 45 : Nat) : Int)), ("count", v), ("j", .int (j : Int)), ("i", .int (i : Int)), ("rest", .int (rest : Int)), ("kind", .int (kind : Int)), ("step", .int (step : Int)), ("inner", .obj 3), ("rows", .obj 7), ("outer", .obj 11), ("cells", .obj 12), ("names", .obj 13), ("deeds", .lst (ds.map V.int))] st₃ Q' := by
    rintro n rfl
    refine mul_cnt hcnt (by omega) ?_
    repeat walk_at "x"
    refine if_dec (fun hgt => ?_) (fun hle => ?_)
    · conv => arg 4; arg 1; whnf
      refine app_cons ?_
      refine s_assign ?_
      repeat walk_at "x"
      refine app_nil ?_
      exact key _ _ (.int 1) (by decide) (by decide) (by omega) _ (by walk_at "sub")
    · refine app_nil ?_
      exact key _ _ hcnt c1 c2 (by omega) _ (by walk_at "sub")
  refine if_eq (fun e => ?_) (fun e => ?_)
  · refine we_bcall H.len ?_
    repeat walk_at "x"
    refine get_tab h.s7 (i := i) rfl hi (by decide) ?_
    repeat walk_at "x"
    refine call_len (.obj (h.row i hi)) ⟨by simp; omega, ?_⟩
    rw [List.length_map]
    repeat walk_at "x"
    exact fin _ (by rw [if_pos (by omega)])
  · refine we_bcall H.len ?_
    repeat walk_at "x"
    refine call_len (.lst _) ⟨by simp [ci]; omega, ?_⟩
    rw [List.length_map, ci_len]
    repeat walk_at "x"
    exact fin _ (by rw [if_neg (by omega)])

def r0 (i : Nat) : List Int := [(i : Int)]
def C0 (k : Nat) : List Nat := if k = 0 then [0, 1] else if k = 1 then [2] else [1, 1]
def sto0 : Sto := [[.int 0], [.int 1], [.int 2], [.obj 0, .obj 1, .obj 2], [.int 0], [.int 1], [.int 2], [.obj 4, .obj 5, .obj 6], [.obj 0, .obj 1], [.obj 2], [.obj 1, .obj 1], [.obj 8, .obj 9, .obj 10],
  [.lst [.int 0, .int 1], .lst [.int 2], .lst [.int 1, .int 1]], [.int 0, .int 1, .int 2]]
theorem lt3 {p : Nat → Prop} (h0 : p 0) (h1 : p 1) (h2 : p 2) : ∀ i, i < 3 → p i := fun i hi => by
  match i, hi with
  | 0, _ => exact h0
  | 1, _ => exact h1
  | 2, _ => exact h2
theorem St0 : St r0 (fun i => 4 + i) (fun j => 8 + j) C0 3 (fun j => j) sto0 where
  inn := lt3 rfl rfl rfl
  s3 := rfl
  row := lt3 rfl rfl rfl
  s7 := rfl
  out := lt3 rfl rfl rfl
  s11 := rfl
  s12 := rfl
  s13 := rfl
  len := by decide
  aS := lt3 (by decide) (by decide) (by decide)
  oS := lt3 (by decide) (by decide) (by decide)
  aa := fun i k _ _ e => by omega
  ao := fun i j _ _ => by omega
  al := fun j k _ _ => by omega
  nmC := fun j hj => hj
  sm := lt3 (by decide) (by decide) (by decide)
  rl := lt3 (by decide) (by decide) (by decide)
set_option maxHeartbeats 2000000 in
theorem law_ok (H : Env cx) {ns : List Int} (hlen : ns.length ≤ 63) : CallF cx (d + 3) "law" [.lst (ns.map V.int)] [] fun v _ => v = .bool true := by
  refine callF_def (names := ["script"]) H.h5 ?_ ?_
  · conv => arg 4; whnf
    refine s_assign_new (wen_list ?_)
    refine wes_cons ?_
    refine WEN.track (wen_list ?_)
    repeat walk_at "x"
    refine ⟨by simp [sizeLine], ?_⟩
    refine wes_cons ?_
    refine WEN.track (wen_list ?_)
    repeat walk_at "x"
    refine ⟨by simp [sizeLine], ?_⟩
    refine wes_cons ?_
    refine WEN.track (wen_list ?_)
    repeat walk_at "x"
    refine ⟨by simp [sizeLine], ?_⟩
    repeat walk_at "x"
    refine ⟨by simp [sizeLine], ?_⟩
    refine s_assign_new (wen_list ?_)
    refine wes_cons ?_
    refine WEN.track (wen_list ?_)
    repeat walk_at "x"
    refine ⟨by simp [sizeLine], ?_⟩
    refine wes_cons ?_
    refine WEN.track (wen_list ?_)
    repeat walk_at "x"
    refine ⟨by simp [sizeLine], ?_⟩
    refine wes_cons ?_
    refine WEN.track (wen_list ?_)
    repeat walk_at "x"
    refine ⟨by simp [sizeLine], ?_⟩
    repeat walk_at "x"
    refine ⟨by simp [sizeLine], ?_⟩
    refine s_assign_new (wen_list ?_)
    refine wes_cons ?_
    refine WEN.track (wen_list ?_)
    repeat walk_at "x"
    refine get_obj (n := 3) (vs := [.obj 0, .obj 1, .obj 2]) (by rfl) (by decide) (j := 0) (by rfl) (by rfl) ?_
    repeat walk_at "x"
    refine get_obj (n := 3) (vs := [.obj 0, .obj 1, .obj 2]) (by rfl) (by decide) (j := 1) (by rfl) (by rfl) ?_
    repeat walk_at "x"
    refine ⟨by simp [sizeLine], ?_⟩
    refine wes_cons ?_
    refine WEN.track (wen_list ?_)
    repeat walk_at "x"
    refine get_obj (n := 3) (vs := [.obj 0, .obj 1, .obj 2]) (by rfl) (by decide) (j := 2) (by rfl) (by rfl) ?_
    repeat walk_at "x"
    refine ⟨by simp [sizeLine], ?_⟩
    refine wes_cons ?_
    refine WEN.track (wen_list ?_)
    repeat walk_at "x"
    refine get_obj (n := 3) (vs := [.obj 0, .obj 1, .obj 2]) (by rfl) (by decide) (j := 1) (by rfl) (by rfl) ?_
    repeat walk_at "x"
    refine get_obj (n := 3) (vs := [.obj 0, .obj 1, .obj 2]) (by rfl) (by decide) (j := 1) (by rfl) (by rfl) ?_
    repeat walk_at "x"
    refine ⟨by simp [sizeLine], ?_⟩
    repeat walk_at "x"
    refine ⟨by simp [sizeLine], ?_⟩
    refine s_assign_new (wen_list ?_)
    refine wes_cons ?_
    refine WEN.data (wen_list ?_)
    repeat walk_at "x"
    refine ⟨by simp [sizeLine], ?_⟩
    refine wes_cons ?_
    refine WEN.data (wen_list ?_)
    repeat walk_at "x"
    refine ⟨by simp [sizeLine], ?_⟩
    refine wes_cons ?_
    refine WEN.data (wen_list ?_)
    repeat walk_at "x"
    refine ⟨by simp [sizeLine], ?_⟩
    repeat walk_at "x"
    refine ⟨by simp [sizeLine], ?_⟩
    refine s_assign_new (wen_list ?_)
    repeat walk_at "x"
    refine ⟨by simp [sizeLine], ?_⟩
    refine (?_ : WSs cx (scopeAt P 5) (d + 2) _ [("names", .obj 13), ("cells", .obj 12), ("outer", .obj 11), ("rows", .obj 7), ("inner", .obj 3), ("script", .lst (ns.map V.int))] sto0 _)
    refine s_assign ?_
    refine WEN.data (wen_bin ?_)
    refine WEN.data (wen_list ?_)
    repeat walk_at "x"
    refine ⟨by simp [sizeLine], ?_⟩
    refine WEN.data (wen_comp ?_)
    refine we_tcall H.range ?_
    repeat walk_at "e"
    refine call_range1 ?_
    refine ⟨_, by rw [rngV_length]; simp [sizeLine], it_rng1 (by decide) (by decide), ?_⟩
    refine CompS.up (fun i acc st => st = sto0 ∧ ∃ l : List Int, acc = l.map V.int ∧ l.length = i ∧ ∀ x ∈ l, 0 ≤ x) ?_ ?_ ⟨rfl, [], rfl, rfl, fun x hx => nomatch hx⟩
    · rintro i acc st hi ⟨rfl, l, rfl, rfl, hs⟩
      refine we_bcall H.abs ?_
      refine wes_cons ?_
      refine we_sumfrom H.sum (by rfl) hlen (by decide) ?_
      repeat walk_at "x"
      intro n
      repeat walk_at "x"
      refine call_abs ?_
      refine ⟨rfl, l ++ [(n.natAbs : Int)], by simp, by simp, fun x hx => ?_⟩
      rcases List.mem_append.mp hx with hx | hx
      · exact hs x hx
      · rw [List.mem_singleton.mp hx]; omega
    rintro acc st ⟨rfl, l, rfl, hl, hs⟩
    replace hl : l.length = 14 := hl
    refine add_ll (.lst _) (.lst _) ⟨by simp [sizeLine]; omega, ?_⟩
    obtain ⟨ds, hds, hdl, hdn⟩ : ∃ ds : List Int, [V.int 1, V.int 70, V.int 632, V.int 17, V.int 53, V.int 194, V.int 6, V.int 148] ++ l.map V.int = ds.map V.int ∧ ds.length = 22 ∧ ∀ x ∈ ds, 0 ≤ x := by
      refine ⟨[1, 70, 632, 17, 53, 194, 6, 148] ++ l, by simp, by simp [hl], fun x hx => ?_⟩
      rcases List.mem_append.mp hx with hx | hx
      · simp only [List.mem_cons, List.not_mem_nil, or_false] at hx
        omega
      · exact hs x hx
    rw [hds]
    refine s_for ?_
    refine we_tcall H.range ?_
    refine wes_cons ?_
    refine we_bcall H.len ?_
    repeat walk_at "x"
    refine call_len (.lst _) ⟨by simp; omega, ?_⟩
    rw [List.length_map, hdl]
    repeat walk_at "x"
    refine call_range1 ?_
    refine ⟨_, it_rng1 (by decide) (by decide), ?_⟩
    refine LoopS.up (fun i loc st => ∃ r a o C m nm, St r a o C m nm st ∧ m ≤ 3 + i ∧ Sub (BL (.lst (ds.map V.int))) loc) ?_ ?_ ⟨_, _, _, _, _, _, St0, by decide, by unfold BL; walk_at "sub"⟩
    · rintro i loc st hi ⟨r, a, o, C, m, nm, h, hm, hsub⟩
      rw [Int.zero_add] at hi ⊢
      refine WSs.sub (loc' := ("step", .int (i : Int)) :: BL (.lst (ds.map V.int))) ?_ hsub.under
      exact turn_ok H h (by omega) hdl hdn (by omega) fun loc sto' r' a' o' C' m' nm' h' hm' hl => Turn.next ⟨r', a', o', C', m', nm', h', by omega, hl⟩
    · rintro loc st ⟨r, a, o, C, m, nm, h, hm, hsub⟩
      refine Then.next ?_
      repeat walk_at "e"
      exact ret_same0 rfl rfl
  · intro pm cd doc xs h
    match xs, h with
    | [x], _ => rfl
end A06
end Mine

set_option maxHeartbeats 8000000 in
theorem PySem.Challenge.cw_dm0220_06_holds : PySem.Challenge.rw_dm0220_06.Holds := by
  w_on
  o_law
  k_head
  case hw => w_witness2
  k_fill
  intro w s₀ s₁ mg mb G Y fa o pm cd doc dV kV ho hd hcd hD hmg hg args vals as hpre hlay hrd hwl hlo
  refine Ground.open G ?_
  intro T B D TE TW
  wrow_args hpre hlay hrd hwl hlo
  rename IntsAre _ _ => hI
  rename Heap.IsList _ _ _ => hL
  refine wpAny_mono (Mine.law_top T hg hL hI hmg (Mine.A06.law_ok (d := 37) ⟨?_, ?_, ?_, ?_, ?_, ?_, ?_, ?_, ?_, ?_, ?_, ?_⟩ (by omega))) (fun v s' hv => GoodW.toG (Mine.goodW_true hv (fun _ => rfl) (postW_of rfl (w_eq_bool (w_res rfl) w_lit) rfl))) fun _ _ h => h.elim
  · exact Mine.fnIs (i := 0) (r := ⟨"imul", Mine.parAt Mine.A06.P 1, Mine.bodyAt Mine.A06.P 1, Mine.scopeAt Mine.A06.P 1, Mine.posAt Mine.A06.P 1⟩) (by kernel_rfl)
  · exact Mine.fnIs (i := 1) (r := ⟨"_law_refused", Mine.parAt Mine.A06.P 3, Mine.bodyAt Mine.A06.P 3, Mine.scopeAt Mine.A06.P 3, Mine.posAt Mine.A06.P 3⟩) (by kernel_rfl)
  · exact Mine.fnIs (i := 2) (r := ⟨"_law_same", Mine.parAt Mine.A06.P 4, Mine.bodyAt Mine.A06.P 4, Mine.scopeAt Mine.A06.P 4, Mine.posAt Mine.A06.P 4⟩) (by kernel_rfl)
  · exact Mine.fnIs (i := 3) (r := ⟨"law", Mine.parAt Mine.A06.P 5, Mine.bodyAt Mine.A06.P 5, Mine.scopeAt Mine.A06.P 5, Mine.posAt Mine.A06.P 5⟩) (by kernel_rfl)
  all_goals exact ⟨T.free _ (by decide +kernel) (by decide +kernel) (by decide +kernel) (by decide +kernel) (by decide +kernel), (T.builtins _ (by decide +kernel)).trans (by kernel_rfl)⟩

