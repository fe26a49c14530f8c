import PyProof.Rows.All
import Wide.All
import OpenK.AllK
import Wide.FinOn
import PySem.Challenge.RW_rt0118_02
set_option Elab.async false

section
open PySem PySem.Calls PyProof.Rows PySem.W
namespace Mine

abbrev Keep (h h' : Heap) : Prop := ∀ b o, h.get? b = some o → h'.get? b = some o
theorem Keep.refl (h : Heap) : Keep h h := fun _ _ e => e
theorem Keep.trans {a b c : Heap} (x : Keep a b) (y : Keep b c) : Keep a c := fun q o e => y q o (x q o e)
theorem Keep.push (h : Heap) (o : Obj) : Keep h (h.push o) := fun _ _ e => Heap.get?_push_of_some _ e

inductive D where
  | none
  | bool (b : Bool)
  | int (i : Int)
  | str (s : Str)
  | list (l : List D)
  | tup (l : List D)
  | typ (T : String)

/-- value v bears the datum d in heap h; no list of it stands at an address of mu -/
inductive R (h : Heap) (mu : List Addr) : D → Value → Prop where
  | none : R h mu .none .none
  | bool (b : Bool) : R h mu (.bool b) (.bool b)
  | int (i : Int) (t : Tok) : R h mu (.int i) (.int i t)
  | str (s : Str) (t : Tok) : R h mu (.str s) (.str s t)
  | typ (T : String) : R h mu (.typ T) (.type T)
  | list {ds : List D} {a : Addr} {vs : List Value} : a ∉ mu → h.IsList a vs.toArray → ds.length = vs.length → (∀ (i : Nat) (d : D) (v : Value), ds[i]? = some d → vs[i]? = some v → R h mu d v) → R h mu (.list ds) (.ref a)
  | tup {ds : List D} {a : Addr} {vs : List Value} : h.IsTuple a vs.toArray → ds.length = vs.length → (∀ (i : Nat) (d : D) (v : Value), ds[i]? = some d → vs[i]? = some v → R h mu d v) → R h mu (.tup ds) (.ref a)

def Rs (h : Heap) (mu : List Addr) (ds : List D) (vs : List Value) : Prop := ds.length = vs.length ∧ ∀ (i : Nat) (d : D) (v : Value), ds[i]? = some d → vs[i]? = some v → R h mu d v

theorem R.keep {h h' : Heap} {mu : List Addr} {d : D} {v : Value} (x : R h mu d v) (k : Keep h h') : R h' mu d v := by
  induction x with
  | none => exact .none
  | bool b => exact .bool b
  | int i t => exact .int i t
  | str s t => exact .str s t
  | typ T => exact .typ T
  | list hm hl hn _ ih => exact .list hm (hl.at fun o e => k _ o e) hn ih
  | tup hl hn _ ih => exact .tup (hl.at fun o e => k _ o e) hn ih
theorem R.weak {h : Heap} {mu mu' : List Addr} {d : D} {v : Value} (x : R h mu d v) (k : ∀ a ∈ mu', a ∈ mu) : R h mu' d v := by
  induction x with
  | none => exact .none
  | bool b => exact .bool b
  | int i t => exact .int i t
  | str s t => exact .str s t
  | typ T => exact .typ T
  | list hm hl hn _ ih => exact .list (fun q => hm (k _ q)) hl hn ih
  | tup hl hn _ ih => exact .tup hl hn ih
/-- a list that stands in mu may change, and all that is no list nor tuple -/
theorem R.change {h h' : Heap} {mu : List Addr} {d : D} {v : Value} (x : R h mu d v) (k : ∀ a vs, h.IsList a vs → a ∉ mu → h'.IsList a vs) (kt : ∀ a vs, h.IsTuple a vs → h'.IsTuple a vs) : R h' mu d v := by
  induction x with
  | none => exact .none
  | bool b => exact .bool b
  | int i t => exact .int i t
  | str s t => exact .str s t
  | typ T => exact .typ T
  | list hm hl hn _ ih => exact .list hm (k _ _ hl hm) hn ih
  | tup hl hn _ ih => exact .tup (kt _ _ hl) hn ih
/-- a new address joins mu -/
theorem R.join {h : Heap} {mu : List Addr} {n : Addr} {d : D} {v : Value} (x : R h mu d v) (k : h.get? n = Option.none) : R h (n :: mu) d v := by
  induction x with
  | none => exact .none
  | bool b => exact .bool b
  | int i t => exact .int i t
  | str s t => exact .str s t
  | typ T => exact .typ T
  | list hm hl hn _ ih =>
    refine .list (fun q => ?_) hl hn ih
    rcases List.mem_cons.mp q with e | q
    · obtain ⟨o, ho, _⟩ := hl; rw [e, k] at ho; cases ho
    · exact hm q
  | tup hl hn _ ih => exact .tup hl hn ih

theorem Rs.keep {h h' : Heap} {mu : List Addr} {ds : List D} {vs : List Value} (x : Rs h mu ds vs) (k : Keep h h') : Rs h' mu ds vs := ⟨x.1, fun i d v a b => (x.2 i d v a b).keep k⟩
theorem Rs.nil {h : Heap} {mu : List Addr} : Rs h mu [] [] := ⟨rfl, fun i d v a _ => by simp at a⟩
theorem Rs.cons {h : Heap} {mu : List Addr} {d : D} {v : Value} {ds : List D} {vs : List Value} (x : R h mu d v) (y : Rs h mu ds vs) : Rs h mu (d :: ds) (v :: vs) :=
  ⟨by simp [y.1], fun i e u a b => by
    cases i with
    | zero => simp at a b; subst a b; exact x
    | succ i => simp at a b; exact y.2 i e u a b⟩
theorem Rs.head {h : Heap} {mu : List Addr} {d : D} {v : Value} {ds : List D} {vs : List Value} (x : Rs h mu (d :: ds) (v :: vs)) : R h mu d v := x.2 0 d v rfl rfl
theorem Rs.tail {h : Heap} {mu : List Addr} {d : D} {v : Value} {ds : List D} {vs : List Value} (x : Rs h mu (d :: ds) (v :: vs)) : Rs h mu ds vs :=
  ⟨by have := x.1; simpa using this, fun i e u a b => x.2 (i + 1) e u (by simpa using a) (by simpa using b)⟩
theorem Rs.inv_cons {h : Heap} {mu : List Addr} {d : D} {ds : List D} {us : List Value} (x : Rs h mu (d :: ds) us) : ∃ v vs, us = v :: vs ∧ R h mu d v ∧ Rs h mu ds vs := by
  cases us with
  | nil => have := x.1; simp at this
  | cons v vs => exact ⟨v, vs, rfl, x.head, x.tail⟩
theorem Rs.inv_nil {h : Heap} {mu : List Addr} {us : List Value} (x : Rs h mu [] us) : us = [] := by
  have := x.1; simp at this; exact List.eq_nil_of_length_eq_zero this.symm
theorem Rs.append {h : Heap} {mu : List Addr} : ∀ {ds es : List D} {us vs : List Value}, Rs h mu ds us → Rs h mu es vs → Rs h mu (ds ++ es) (us ++ vs)
  | [], _, _, _, x, y => by rw [x.inv_nil]; exact y
  | d :: ds, _, _, _, x, y => by
    obtain ⟨v, vs, rfl, a, b⟩ := x.inv_cons
    exact .cons a (b.append y)
theorem Rs.take {h : Heap} {mu : List Addr} : ∀ {ds : List D} {us : List Value} (n : Nat), Rs h mu ds us → Rs h mu (ds.take n) (us.take n)
  | _, _, 0, _ => by simpa using Rs.nil
  | [], _, n + 1, x => by rw [x.inv_nil]; exact .nil
  | d :: ds, _, n + 1, x => by
    obtain ⟨v, vs, rfl, a, b⟩ := x.inv_cons
    exact .cons a (b.take n)
theorem Rs.drop {h : Heap} {mu : List Addr} : ∀ {ds : List D} {us : List Value} (n : Nat), Rs h mu ds us → Rs h mu (ds.drop n) (us.drop n)
  | _, _, 0, x => by simpa using x
  | [], _, n + 1, x => by rw [x.inv_nil]; exact .nil
  | d :: ds, _, n + 1, x => by
    obtain ⟨v, vs, rfl, a, b⟩ := x.inv_cons
    exact b.drop n
theorem Rs.at {h : Heap} {mu : List Addr} {ds : List D} {us : List Value} (x : Rs h mu ds us) {i : Nat} {d : D} (e : ds[i]? = some d) : ∃ v, us[i]? = some v ∧ R h mu d v := by
  have hi := (List.getElem?_eq_some_iff.mp e).1
  have hu : i < us.length := x.1 ▸ hi
  exact ⟨us[i], by simp [hu], x.2 i d _ e (by simp [hu])⟩
theorem Rs.weak {h : Heap} {mu mu' : List Addr} {ds : List D} {vs : List Value} (x : Rs h mu ds vs) (k : ∀ a ∈ mu', a ∈ mu) : Rs h mu' ds vs := ⟨x.1, fun i d v a b => (x.2 i d v a b).weak k⟩

theorem R.inv_list {h : Heap} {mu : List Addr} {ds : List D} {v : Value} (x : R h mu (.list ds) v) : ∃ a vs, v = .ref a ∧ a ∉ mu ∧ h.IsList a vs.toArray ∧ Rs h mu ds vs := by
  cases x with
  | list a b c d => exact ⟨_, _, rfl, a, b, c, d⟩
theorem R.inv_tup {h : Heap} {mu : List Addr} {ds : List D} {v : Value} (x : R h mu (.tup ds) v) : ∃ a vs, v = .ref a ∧ h.IsTuple a vs.toArray ∧ Rs h mu ds vs := by
  cases x with
  | tup b c d => exact ⟨_, _, rfl, b, c, d⟩
theorem R.inv_int {h : Heap} {mu : List Addr} {i : Int} {v : Value} (x : R h mu (.int i) v) : ∃ t, v = .int i t := by cases x; exact ⟨_, rfl⟩
theorem R.inv_str {h : Heap} {mu : List Addr} {i : Str} {v : Value} (x : R h mu (.str i) v) : ∃ t, v = .str i t := by cases x; exact ⟨_, rfl⟩
theorem R.inv_bool {h : Heap} {mu : List Addr} {i : Bool} {v : Value} (x : R h mu (.bool i) v) : v = .bool i := by cases x; rfl
theorem R.inv_typ {h : Heap} {mu : List Addr} {i : String} {v : Value} (x : R h mu (.typ i) v) : v = .type i := by cases x; rfl
theorem R.inv_none {h : Heap} {mu : List Addr} {v : Value} (x : R h mu .none v) : v = .none := by cases x; rfl

def Low (mu : List Addr) (h : Heap) : Prop := ∀ a ∈ mu, ∃ o, h.get? a = some o
theorem Low.not_size {mu : List Addr} {h : Heap} (x : Low mu h) : h.objs.size ∉ mu := fun q => let ⟨_, e⟩ := x _ q; Nat.lt_irrefl _ (Heap.lt_size e)
theorem Low.keep {mu : List Addr} {h h' : Heap} (x : Low mu h) (k : Keep h h') : Low mu h' := fun a ha => let ⟨o, e⟩ := x a ha; ⟨o, k _ _ e⟩
theorem Keep.size {h h' : Heap} (k : Keep h h') {a : Addr} {o : Obj} (e : h.get? a = some o) : a < h'.objs.size := Heap.lt_size (k _ _ e)

structure Room (A : Around) (n : Nat) : Prop where
  hd : A.handled = none
  dep : A.depth + n < recursionLimit
  un : A.units + 8 * n + 40 < cLine

structure Cx where
  prog : Program
  w : World
  A : Around
  env : Env
  hG : Heap
  av : List Addr
  ro : Bool

structure Cx.Ok (C : Cx) (n : Nat) : Prop where
  room : Room C.A n
  fn : C.env.scope.kind = .function
  gl : C.env.globals = mainGlobals
  bi : C.env.builtins = builtinsNs

inductive Slot where
  | val (d : D)
  | own (ds : List D)
abbrev Vars := List (Str × Slot)

def Bound (env : Env) (h : Heap) (m : Str → Option Value) (x : Str) (v : Value) : Prop :=
  (env.kindOf x = some .local ∧ m x = some v) ∨ ((env.kindOf x = some .cell ∨ env.kindOf x = some .free) ∧ ∃ c, env.cells.lookup x = some c ∧ h.IsCell c (some v))

def SlotOk (mu : List Addr) (own : Option Addr) (h : Heap) (v : Value) : Slot → Prop
  | .val d => R h mu d v
  | .own ds => ∃ a vs, v = .ref a ∧ own = some a ∧ h.PlainList a vs.toArray ∧ Rs h mu ds vs

structure FS (C : Cx) (h₀ : Heap) (own : Option Addr) (σ : Vars) (h : Heap) : Prop where
  ground : Keep C.hG h₀
  keep : Keep h₀ h
  loc : h₀.get? C.env.locals = none
  cel : C.ro = false → (∀ p ∈ C.env.cells, h₀.get? p.2 = none) ∧ (C.env.cells.Pairwise fun x y => x.2 ≠ y.2)
  ownNew : ∀ a, own = some a → h₀.get? a = none ∧ ∃ vs, h.PlainList a vs
  avIn : ∀ a ∈ C.av, ∃ o, h₀.get? a = some o
  cells : ∀ p ∈ C.env.cells, ∃ v, h.IsCell p.2 v
  ns : ∃ m, h.Ns C.env.locals m ∧ ∀ x sl, σ.lookup x = some sl → ∃ v, Bound C.env h m x v ∧ SlotOk (own.toList ++ C.av) own h v sl

theorem Bound.keep {env : Env} {h h' : Heap} {m : Str → Option Value} {x : Str} {v : Value} (b : Bound env h m x v) (k : Keep h h') : Bound env h' m x v := by
  rcases b with b | ⟨a, c, e, b⟩
  · exact .inl b
  · exact .inr ⟨a, c, e, b.keeps k⟩
theorem SlotOk.keep {mu : List Addr} {own : Option Addr} {h h' : Heap} {v : Value} {sl : Slot} (b : SlotOk mu own h v sl) (k : Keep h h') : SlotOk mu own h' v sl := by
  cases sl with
  | val d => exact R.keep b k
  | own ds =>
    obtain ⟨a, vs, e1, e2, e3, e4⟩ := b
    exact ⟨a, vs, e1, e2, e3.at fun o e => k _ o e, e4.keep k⟩
theorem FS.keeps {C : Cx} {h₀ h h' : Heap} {own : Option Addr} {σ : Vars} (F : FS C h₀ own σ h) (k : Keep h h') : FS C h₀ own σ h' := by
  obtain ⟨m, hn, hv⟩ := F.ns
  refine ⟨F.ground, F.keep.trans k, F.loc, F.cel, fun a e => ?_, F.avIn, fun p hp => (F.cells p hp).imp fun v q => q.keeps k, m, hn.keeps k, fun x sl e => ?_⟩
  · obtain ⟨n, vs, p⟩ := F.ownNew a e
    exact ⟨n, vs, p.at fun o e => k _ o e⟩
  · obtain ⟨v, b, q⟩ := hv x sl e
    exact ⟨v, b.keep k, q.keep k⟩
theorem FS.low {C : Cx} {h₀ h : Heap} {own : Option Addr} {σ : Vars} (F : FS C h₀ own σ h) : Low (own.toList ++ C.av) h := by
  intro a ha
  rcases List.mem_append.mp ha with ha | ha
  · have : own = some a := by cases own <;> simp at ha; simp [ha]
    obtain ⟨_, vs, n, e⟩ := F.ownNew a this
    exact ⟨_, e⟩
  · obtain ⟨o, e⟩ := F.avIn a ha
    exact ⟨o, F.keep _ _ e⟩
theorem FS.sub {C : Cx} {h₀ h : Heap} {own : Option Addr} {σ σ' : Vars} (F : FS C h₀ own σ h) (k : ∀ x sl, σ'.lookup x = some sl → σ.lookup x = some sl) : FS C h₀ own σ' h := by
  obtain ⟨m, hn, hv⟩ := F.ns
  exact ⟨F.ground, F.keep, F.loc, F.cel, F.ownNew, F.avIn, F.cells, m, hn, fun x sl e => hv x sl (k x sl e)⟩

/-- what a tree of an expression gives -/
def Post (s : Shared) (mu : List Addr) (d : D) (Q : Value → Shared → Prop) : Prop := ∀ v h' tk, Keep s.heap h' → 1 ≤ tk → R h' mu d v → Q v { s with heap := h', toks := tk }
def Tv (C : Cx) (σ : Vars) (t : Sem Value) (d : D) : Prop :=
  ∀ h₀ own s Q E, FS C h₀ own σ s.heap → 1 ≤ s.toks → Post s (own.toList ++ C.av) d Q → wpAny (model C.prog C.w) C.A t Q E s
abbrev Ev (C : Cx) (σ : Vars) (e : Expr) (d : D) : Prop := Tv C σ (eval e C.env) d
def Tb (C : Cx) (σ : Vars) (t : Sem Bool) (b : Bool) : Prop :=
  ∀ h₀ own s Q E, FS C h₀ own σ s.heap → 1 ≤ s.toks → (∀ h' tk, Keep s.heap h' → 1 ≤ tk → Q b { s with heap := h', toks := tk }) → wpAny (model C.prog C.w) C.A t Q E s
abbrev It (C : Cx) (σ : Vars) (e : Expr) (b : Bool) : Prop := Tb C σ (isTrue e C.env (eval e C.env)) b
def Tvs (C : Cx) (σ : Vars) (t : Sem (List Value)) (ds : List D) : Prop :=
  ∀ h₀ own s Q E, FS C h₀ own σ s.heap → 1 ≤ s.toks → (∀ vs h' tk, Keep s.heap h' → 1 ≤ tk → Rs h' (own.toList ++ C.av) ds vs → Q vs { s with heap := h', toks := tk }) → wpAny (model C.prog C.w) C.A t Q E s

/-- an operation of values -/
def Op1 (prog : Program) (w : World) (A : Around) (f : Value → Sem Value) (d₁ d : D) : Prop :=
  ∀ mu s v₁ Q E, Low mu s.heap → 1 ≤ s.toks → R s.heap mu d₁ v₁ → Post s mu d Q → wpAny (model prog w) A (f v₁) Q E s
def Op2 (prog : Program) (w : World) (A : Around) (f : Value → Value → Sem Value) (d₁ d₂ d : D) : Prop :=
  ∀ mu s v₁ v₂ Q E, Low mu s.heap → 1 ≤ s.toks → R s.heap mu d₁ v₁ → R s.heap mu d₂ v₂ → Post s mu d Q → wpAny (model prog w) A (f v₁ v₂) Q E s
def Opn (prog : Program) (w : World) (A : Around) (f : List Value → Sem Value) (ds : List D) (d : D) : Prop :=
  ∀ mu s vs Q E, Low mu s.heap → 1 ≤ s.toks → Rs s.heap mu ds vs → Post s mu d Q → wpAny (model prog w) A (f vs) Q E s
def Opb (prog : Program) (w : World) (A : Around) (d₁ : D) (b : Bool) : Prop :=
  ∀ mu s v₁ Q E, Low mu s.heap → 1 ≤ s.toks → R s.heap mu d₁ v₁ → (∀ h' tk, Keep s.heap h' → 1 ≤ tk → Q b { s with heap := h', toks := tk }) → wpAny (model prog w) A (truthy v₁) Q E s

/-- the rest of a state's name -/
theorem Post.mono {s : Shared} {mu : List Addr} {d : D} {Q : Value → Shared → Prop} (p : Post s mu d Q) {h' : Heap} {tk : Nat} (k : Keep s.heap h') : Post { s with heap := h', toks := tk } mu d Q :=
  fun v h2 tk2 k2 t2 r => p v h2 tk2 (k.trans k2) t2 r

theorem Tv.bind2 {C : Cx} {σ : Vars} {t₁ t₂ : Sem Value} {f : Value → Value → Sem Value} {d₁ d₂ d : D} {t : Sem Value}
    (x₁ : Tv C σ t₁ d₁) (x₂ : Tv C σ t₂ d₂) (o : Op2 C.prog C.w C.A f d₁ d₂ d)
    (ht : ∀ {Q E s}, wpAny (model C.prog C.w) C.A t₁ (fun a s₁ => wpAny (model C.prog C.w) C.A t₂ (fun b s₂ => wpAny (model C.prog C.w) C.A (f a b) Q E s₂) E s₁) E s → wpAny (model C.prog C.w) C.A t Q E s) : Tv C σ t d := by
  intro h₀ own s Q E F ht1 p
  refine ht (x₁ h₀ own s _ E F ht1 fun v₁ h₁ tk₁ k₁ t₁ r₁ => ?_)
  refine x₂ h₀ own _ _ E (F.keeps k₁) t₁ fun v₂ h₂ tk₂ k₂ t₂ r₂ => ?_
  exact o _ _ v₁ v₂ Q E (F.keeps (k₁.trans k₂)).low t₂ (r₁.keep k₂) r₂ fun v h' tk k t r => p v h' tk ((k₁.trans k₂).trans k) t r

theorem Ev.binop {C : Cx} {σ : Vars} {l r : Expr} {op : Operator} {pos : Pos} {d₁ d₂ d : D} (x : Ev C σ l d₁) (y : Ev C σ r d₂) (o : Op2 C.prog C.w C.A (binaryOp op) d₁ d₂ d) : Ev C σ (.BinOp l op r pos) d :=
  Tv.bind2 x y o fun h => wpAny_BinOp h
theorem Ev.compare {C : Cx} {σ : Vars} {l r : Expr} {op : CmpOp} {pos : Pos} {d₁ d₂ d : D} (x : Ev C σ l d₁) (y : Ev C σ r d₂) (o : Op2 C.prog C.w C.A (compareOp op) d₁ d₂ d)
    (hm : behindInMarks op r = false := by with_unfolding_all rfl) : Ev C σ (.Compare l [op] [r] pos) d :=
  Tv.bind2 x y o fun h => wpAny_Compare1 h hm
theorem Ev.unary {C : Cx} {σ : Vars} {l : Expr} {op : UnaryOp} {pos : Pos} {d₁ d : D} (x : Ev C σ l d₁) (o : Op1 C.prog C.w C.A (unaryOp op) d₁ d) : Ev C σ (.UnaryOp op l pos) d := by
  intro h₀ own s Q E F ht1 p
  refine UnaryOp_ (x h₀ own s _ E F ht1 fun v₁ h₁ tk₁ k₁ t₁ r₁ => ?_)
  exact o _ _ v₁ Q E (F.keeps k₁).low t₁ r₁ (p.mono k₁)

theorem Ev.name {C : Cx} {n : Nat} (ok : C.Ok n) {σ : Vars} {x : Str} {pos : Pos} {d : D} (e : σ.lookup x = some (.val d)) (hd : (x == ("__debug__" : Str)) = false := by decide +kernel) (hc : (x == ("__classdict__" : Str)) = false := by decide +kernel) : Ev C σ (.Name x pos) d := by
  intro h₀ own s Q E F ht1 p
  obtain ⟨m, hn, hv⟩ := F.ns
  obtain ⟨v, b, q⟩ := hv x _ e
  have hQ : Q v s := p v s.heap s.toks (Keep.refl _) ht1 q
  refine wpAny_Name ?_ hd
  rcases b with ⟨hk, hm⟩ | ⟨hk, c, hc', hcell⟩
  · exact wpAny_loadName_local ok.fn hk hn hm hQ
  · rcases hk with hk | hk
    · exact wpAny_loadName_cell ok.fn hk hc' hcell hQ
    · exact wpAny_loadName_free ok.fn hk hc' hcell hQ hc

theorem Ev.cint {C : Cx} {σ : Vars} {i : Int} {k : Nat} {pos : Pos} : Ev C σ (.Constant (.int i) k pos) (.int i) := by
  intro h₀ own s Q E F ht1 p
  exact wpAny_Constant_int (p _ s.heap _ (Keep.refl _) (Nat.le_succ_of_le ht1) (.int _ _))
theorem Ev.cstr {C : Cx} {σ : Vars} {i : Str} {k : Nat} {pos : Pos} : Ev C σ (.Constant (.str i) k pos) (.str i) := by
  intro h₀ own s Q E F ht1 p
  exact Constant_str (p _ s.heap _ (Keep.refl _) (Nat.le_succ_of_le ht1) (.str _ _))
theorem Ev.cbool {C : Cx} {σ : Vars} {i : Bool} {k : Nat} {pos : Pos} : Ev C σ (.Constant (.bool i) k pos) (.bool i) := by
  intro h₀ own s Q E F ht1 p
  exact Constant_bool (p _ s.heap s.toks (Keep.refl _) ht1 (.bool _))
theorem Ev.cnone {C : Cx} {σ : Vars} {k : Nat} {pos : Pos} : Ev C σ (.Constant .none k pos) .none := by
  intro h₀ own s Q E F ht1 p
  exact Constant_none (p _ s.heap s.toks (Keep.refl _) ht1 .none)

end Mine
end

section
open PySem PySem.Calls PyProof.Rows PySem.W
namespace Mine
section
variable {prog : Program} {w : World} {A : Around}

theorem op_add_int {a b : Int} : Op2 prog w A (binaryOp .Add) (.int a) (.int b) (.int (a + b)) := by
  intro mu s v₁ v₂ Q E _ ht r₁ r₂ p
  obtain ⟨t, rfl⟩ := r₁.inv_int
  obtain ⟨u, rfl⟩ := r₂.inv_int
  exact PyProof.Rows.add_int (p _ s.heap _ (Keep.refl _) (Nat.le_succ_of_le ht) (.int _ _))
theorem op_sub_int {a b : Int} : Op2 prog w A (binaryOp .Sub) (.int a) (.int b) (.int (a - b)) := by
  intro mu s v₁ v₂ Q E _ ht r₁ r₂ p
  obtain ⟨t, rfl⟩ := r₁.inv_int
  obtain ⟨u, rfl⟩ := r₂.inv_int
  exact PyProof.Rows.sub_int (p _ s.heap _ (Keep.refl _) (Nat.le_succ_of_le ht) (.int _ _))
theorem op_mod_int {a b : Int} (hb : b ≠ 0) : Op2 prog w A (binaryOp .Mod) (.int a) (.int b) (.int (a.fmod b)) := by
  intro mu s v₁ v₂ Q E _ ht r₁ r₂ p
  obtain ⟨t, rfl⟩ := r₁.inv_int
  obtain ⟨u, rfl⟩ := r₂.inv_int
  exact PyProof.Rows.mod_int' hb (p _ s.heap _ (Keep.refl _) (Nat.le_succ_of_le ht) (.int _ _))
theorem op_neg_int {a : Int} : Op1 prog w A (unaryOp .USub) (.int a) (.int (-a)) := by
  intro mu s v₁ Q E _ ht r₁ p
  obtain ⟨t, rfl⟩ := r₁.inv_int
  exact PyProof.Rows.neg_int (p _ s.heap _ (Keep.refl _) (Nat.le_succ_of_le ht) (.int _ _))
theorem op_add_str {a b : Str} (h : a.length + b.length ≤ sizeLine) : Op2 prog w A (binaryOp .Add) (.str a) (.str b) (.str (a ++ b)) := by
  intro mu s v₁ v₂ Q E _ ht r₁ r₂ p
  obtain ⟨t, rfl⟩ := r₁.inv_str
  obtain ⟨u, rfl⟩ := r₂.inv_str
  refine wpAny_with_toks ht (PyProof.Rows.add_str (fun t' tk ht' => ?_) h)
  exact p _ s.heap _ (Keep.refl _) ht' (.str _ _)
theorem op_iadd_str {a b : Str} (h : a.length + b.length ≤ sizeLine) : Op2 prog w A (inplaceOp .Add) (.str a) (.str b) (.str (a ++ b)) := by
  intro mu s v₁ v₂ Q E _ ht r₁ r₂ p
  obtain ⟨t, rfl⟩ := r₁.inv_str
  obtain ⟨u, rfl⟩ := r₂.inv_str
  refine wpAny_with_toks ht (PyProof.Rows.iadd_str (fun t' tk ht' => ?_) h)
  exact p _ s.heap _ (Keep.refl _) ht' (.str _ _)
theorem op_eq_str {a b : Str} : Op2 prog w A (compareOp .Eq) (.str a) (.str b) (.bool (a == b)) := by
  intro mu s v₁ v₂ Q E _ ht r₁ r₂ p
  obtain ⟨t, rfl⟩ := r₁.inv_str
  obtain ⟨u, rfl⟩ := r₂.inv_str
  exact PyProof.Rows.eq_str (p _ s.heap s.toks (Keep.refl _) ht (.bool _))
theorem op_ne_str {a b : Str} : Op2 prog w A (compareOp .NotEq) (.str a) (.str b) (.bool (a != b)) := by
  intro mu s v₁ v₂ Q E _ ht r₁ r₂ p
  obtain ⟨t, rfl⟩ := r₁.inv_str
  obtain ⟨u, rfl⟩ := r₂.inv_str
  exact PyProof.Rows.ne_str (p _ s.heap s.toks (Keep.refl _) ht (.bool _))
theorem op_eq_int {a b : Int} : Op2 prog w A (compareOp .Eq) (.int a) (.int b) (.bool (a == b)) := by
  intro mu s v₁ v₂ Q E _ ht r₁ r₂ p
  obtain ⟨t, rfl⟩ := r₁.inv_int
  obtain ⟨u, rfl⟩ := r₂.inv_int
  exact PyProof.Rows.eq_int (p _ s.heap s.toks (Keep.refl _) ht (.bool _))
theorem op_lt_int {a b : Int} : Op2 prog w A (compareOp .Lt) (.int a) (.int b) (.bool (decide (a < b))) := by
  intro mu s v₁ v₂ Q E _ ht r₁ r₂ p
  obtain ⟨t, rfl⟩ := r₁.inv_int
  obtain ⟨u, rfl⟩ := r₂.inv_int
  exact PyProof.Rows.lt_int (p _ s.heap s.toks (Keep.refl _) ht (.bool _))
theorem op_gt_int {a b : Int} : Op2 prog w A (compareOp .Gt) (.int a) (.int b) (.bool (decide (b < a))) := by
  intro mu s v₁ v₂ Q E _ ht r₁ r₂ p
  obtain ⟨t, rfl⟩ := r₁.inv_int
  obtain ⟨u, rfl⟩ := r₂.inv_int
  exact PyProof.Rows.gt_int (p _ s.heap s.toks (Keep.refl _) ht (.bool _))

theorem Rs.ints {h : Heap} {mu : List Addr} : ∀ {ns : List Int} {vs : List Value}, Rs h mu (ns.map D.int) vs → IntsAre vs ns
  | [], _, x => by rw [x.inv_nil]; exact .nil
  | n :: ns, _, x => by
    obtain ⟨v, vs, rfl, a, b⟩ := x.inv_cons
    obtain ⟨t, rfl⟩ := a.inv_int
    exact .cons _ _ b.ints
theorem Rs.of_ints {h : Heap} {mu : List Addr} : ∀ {ns : List Int} {vs : List Value}, IntsAre vs ns → Rs h mu (ns.map D.int) vs
  | _, _, .nil => .nil
  | _, _, .cons n t r => .cons (.int n t) (Rs.of_ints r)
theorem Rs.strs {h : Heap} {mu : List Addr} : ∀ {ns : List Str} {vs : List Value}, Rs h mu (ns.map D.str) vs → ∃ l : List (Str × Tok), vs = strValues l ∧ l.map (·.1) = ns
  | [], _, x => by rw [x.inv_nil]; exact ⟨[], rfl, rfl⟩
  | n :: ns, _, x => by
    obtain ⟨v, vs, rfl, a, b⟩ := x.inv_cons
    obtain ⟨t, rfl⟩ := a.inv_str
    obtain ⟨l, rfl, rfl⟩ := b.strs
    exact ⟨(n, t) :: l, rfl, rfl⟩
theorem Rs.of_strs {h : Heap} {mu : List Addr} : ∀ (l : List (Str × Tok)), Rs h mu ((l.map (·.1)).map D.str) (strValues l)
  | [] => .nil
  | (n, t) :: r => .cons (.str n t) (Rs.of_strs r)
theorem Rs.bools {h : Heap} {mu : List Addr} : ∀ {bs : List Bool} {vs : List Value}, Rs h mu (bs.map D.bool) vs → vs = bs.map Value.bool
  | [], _, x => by rw [x.inv_nil]; rfl
  | n :: ns, _, x => by
    obtain ⟨v, vs, rfl, a, b⟩ := x.inv_cons
    rw [a.inv_bool, b.bools]; rfl

theorem op_in_ints {k : Int} {ns : List Int} : Op2 prog w A (compareOp .In) (.int k) (.list (ns.map D.int)) (.bool (ns.any (· == k))) := by
  intro mu s v₁ v₂ Q E _ ht r₁ r₂ p
  obtain ⟨t, rfl⟩ := r₁.inv_int
  obtain ⟨l, vs, rfl, _, hl, hs⟩ := r₂.inv_list
  exact in_list_ints hl hs.ints (p _ s.heap s.toks (Keep.refl _) ht (.bool _))
theorem op_notin_ints {k : Int} {ns : List Int} : Op2 prog w A (compareOp .NotIn) (.int k) (.list (ns.map D.int)) (.bool (!ns.any (· == k))) := by
  intro mu s v₁ v₂ Q E _ ht r₁ r₂ p
  obtain ⟨t, rfl⟩ := r₁.inv_int
  obtain ⟨l, vs, rfl, _, hl, hs⟩ := r₂.inv_list
  exact notin_list_ints hl hs.ints (p _ s.heap s.toks (Keep.refl _) ht (.bool _))
theorem op_eq_bools (hu : A.units < cLine) {bs : List Bool} : Op2 prog w A (compareOp .Eq) (.list (bs.map D.bool)) (.list (bs.map D.bool)) (.bool true) := by
  intro mu s v₁ v₂ Q E _ ht r₁ r₂ p
  obtain ⟨l, vs, rfl, _, hl, hs⟩ := r₁.inv_list
  obtain ⟨l', vs', rfl, _, hl', hs'⟩ := r₂.inv_list
  rw [hs.bools] at hl
  rw [hs'.bools] at hl'
  refine SeqAt.eq_listAt (e := fun _ => true) hl hl' rfl hu (fun j h1 h2 => SeqAt.EqAt.same _) ?_
  have : (List.range (bs.map Value.bool).toArray.size).all (fun _ => true) = true := by simp
  rw [this]
  exact p _ s.heap s.toks (Keep.refl _) ht (.bool _)

/-- a new list -/
theorem R.newList {h : Heap} {mu : List Addr} {ds : List D} {vs : List Value} (hl : Low mu h) (hs : Rs h mu ds vs) : R (h.push { cls := .type "list", data := .seq vs.toArray }) mu (.list ds) (.ref h.objs.size) :=
  .list hl.not_size ⟨_, Heap.get?_push_size _ rfl, rfl, _, rfl⟩ hs.1 fun i d v a b => (hs.2 i d v a b).keep (Keep.push _ _)
theorem R.newTuple {h : Heap} {mu : List Addr} {ds : List D} {vs : List Value} (hs : Rs h mu ds vs) : R (h.push { cls := .type "tuple", data := .seq vs.toArray }) mu (.tup ds) (.ref h.objs.size) :=
  .tup ⟨_, Heap.get?_push_size _ rfl, rfl, _, rfl⟩ hs.1 fun i d v a b => (hs.2 i d v a b).keep (Keep.push _ _)

theorem op_add_list {xs ys : List D} (h : xs.length + ys.length ≤ sizeLine) : Op2 prog w A (binaryOp .Add) (.list xs) (.list ys) (.list (xs ++ ys)) := by
  intro mu s v₁ v₂ Q E low ht r₁ r₂ p
  obtain ⟨l, vs, rfl, _, hl, hs⟩ := r₁.inv_list
  obtain ⟨b, ws, rfl, _, hb, hs'⟩ := r₂.inv_list
  obtain ⟨⟨cls, dd, data, sl⟩, ho, hc, n, hd⟩ := id hl
  obtain ⟨⟨cls2, dd2, data2, sl2⟩, ho2, hc2, n2, hd2⟩ := id hb
  simp only at hc hd hc2 hd2
  subst hc hd hc2 hd2
  have e : vs.toArray ++ ws.toArray = (vs ++ ws).toArray := by simp
  refine concat_meets ⟨_, ho, rfl⟩ ⟨_, ho2, rfl⟩ noFill_list_add seq_list_add PySem.F.slot_list_add PySem.F.entry_list_add (PySem.F.args_list_add_2 _ _) (list_addW l b vs.toArray ws.toArray n n2 dd dd2 sl sl2 (by have := hs.1; have := hs'.1; simp; omega)) ⟨ho, ho2, ?_⟩
  rw [e]
  exact p _ _ s.toks (Keep.push _ _) ht (R.newList low (hs.append hs'))

theorem opb_bool {b : Bool} : Opb prog w A (.bool b) b := by
  intro mu s v Q E low ht r p
  rw [r.inv_bool]
  exact wpAny_truthy_bool (p s.heap s.toks (Keep.refl _) ht)
theorem opb_none : Opb prog w A .none false := by
  intro mu s v Q E low ht r p
  rw [r.inv_none]
  exact truthy_none (p s.heap s.toks (Keep.refl _) ht)
theorem opb_int {i : Int} : Opb prog w A (.int i) (i != 0) := by
  intro mu s v Q E low ht r p
  obtain ⟨t, rfl⟩ := r.inv_int
  exact PyProof.Rows.truthy_int (p s.heap s.toks (Keep.refl _) ht)
theorem opb_str {x : Str} (h : x.length ≤ sizeLine) : Opb prog w A (.str x) (x.length != 0) := by
  intro mu s v Q E low ht r p
  obtain ⟨t, rfl⟩ := r.inv_str
  rw [sizeLine_eq] at h
  refine PySem.P.truthy_str (by omega) ?_
  have e : ((x.length : Int) != 0) = (x.length != 0) := by
    rw [Bool.eq_iff_iff]; simp
  rw [e]
  exact p s.heap _ (Keep.refl _) (by show 1 ≤ s.toks + 1 + 1; omega)
theorem opb_list {xs : List D} (h : xs.length ≤ sizeLine) : Opb prog w A (.list xs) (!xs.isEmpty) := by
  intro mu s v Q E low ht r p
  obtain ⟨l, vs, rfl, _, hl, hs⟩ := r.inv_list
  rw [sizeLine_eq] at h
  have e := hs.1
  refine wpAny_truthy_list hl (by simp; omega) ?_
  have e2 : (!vs.toArray.isEmpty) = !xs.isEmpty := by
    cases vs <;> cases xs <;> simp_all
  rw [e2]
  exact p s.heap _ (Keep.refl _) (by show 1 ≤ s.toks + 1 + 1; omega)
end
end Mine
end

section
open PySem PySem.Calls PyProof.Rows PySem.W
namespace Mine

theorem It.plain {C : Cx} {σ : Vars} {e : Expr} {d : D} {b : Bool} (x : Ev C σ e d) (o : Opb C.prog C.w C.A d b)
    (he : isTrue e C.env (eval e C.env) = (do let v ← eval e C.env; standAt e.pos; holding [v] (truthy v)) := by rfl) : It C σ e b := by
  intro h₀ own s Q E F ht p
  refine isTrue_plain (x h₀ own s _ E F ht fun v₁ h₁ tk₁ k₁ t₁ r₁ => ?_) he
  exact o _ _ v₁ Q E (F.keeps k₁).low t₁ r₁ fun h' tk k t => p h' tk (k₁.trans k) t
theorem It.not {C : Cx} {σ : Vars} {e : Expr} {pos : Pos} {b : Bool} (x : It C σ e b) : It C σ (.UnaryOp .Not e pos) (!b) := by
  intro h₀ own s Q E F ht p
  exact isTrue_not (x h₀ own s _ E F ht fun h' tk k t => p h' tk k t)
theorem It.compare {C : Cx} {σ : Vars} {l r : Expr} {op : CmpOp} {pos : Pos} {d₁ d₂ : D} {b : Bool} (x : Ev C σ l d₁) (y : Ev C σ r d₂) (o : Op2 C.prog C.w C.A (compareOp op) d₁ d₂ (.bool b))
    (hm : behindInMarks op r = false := by with_unfolding_all rfl) : It C σ (.Compare l [op] [r] pos) b := by
  intro h₀ own s Q E F ht p
  refine wpAny_isTrue_Compare1 (x h₀ own s _ E F ht fun v₁ h₁ tk₁ k₁ t₁ r₁ => ?_) hm
  refine y h₀ own _ _ E (F.keeps k₁) t₁ fun v₂ h₂ tk₂ k₂ t₂ r₂ => ?_
  refine o _ _ v₁ v₂ _ E (F.keeps (k₁.trans k₂)).low t₂ (r₁.keep k₂) r₂ fun v h' tk k t r => ?_
  rw [r.inv_bool]
  exact wpAny_truthy_bool (p h' tk ((k₁.trans k₂).trans k) t)
theorem It.and_nil {C : Cx} {σ : Vars} {pos : Pos} : It C σ (.BoolOp .And [] pos) true := by
  intro h₀ own s Q E F ht p
  exact isTrue_and_nil (p s.heap s.toks (Keep.refl _) ht)
theorem It.or_nil {C : Cx} {σ : Vars} {pos : Pos} : It C σ (.BoolOp .Or [] pos) false := by
  intro h₀ own s Q E F ht p
  exact isTrue_or_nil (p s.heap s.toks (Keep.refl _) ht)
theorem Tb.whole {C : Cx} {σ : Vars} {es : List Expr} {op : BoolOp} {pos : Pos} {b : Bool} {t t' : Sem Value} (x : Tb C σ (isTrue (.BoolOp op es pos) C.env t) b) : Tb C σ (isTrue (.BoolOp op es pos) C.env t') b := x
theorem It.and {C : Cx} {σ : Vars} {e : Expr} {es : List Expr} {pos : Pos} {b c : Bool} (x : It C σ e b) (y : b = true → It C σ (.BoolOp .And es pos) c) : It C σ (.BoolOp .And (e :: es) pos) (b && c) := by
  intro h₀ own s Q E F ht p
  refine isTrue_and (x h₀ own s _ E F ht fun h₁ tk₁ k₁ t₁ => ?_)
  cases b with
  | false => exact p h₁ tk₁ k₁ t₁
  | true =>
    refine Tb.whole (y rfl) h₀ own _ _ E (F.keeps k₁) t₁ fun h' tk k t => ?_
    simpa using p h' tk (k₁.trans k) t
theorem It.or {C : Cx} {σ : Vars} {e : Expr} {es : List Expr} {pos : Pos} {b c : Bool} (x : It C σ e b) (y : b = false → It C σ (.BoolOp .Or es pos) c) : It C σ (.BoolOp .Or (e :: es) pos) (b || c) := by
  intro h₀ own s Q E F ht p
  refine isTrue_or (x h₀ own s _ E F ht fun h₁ tk₁ k₁ t₁ => ?_)
  cases b with
  | true => exact p h₁ tk₁ k₁ t₁
  | false =>
    refine Tb.whole (y rfl) h₀ own _ _ E (F.keeps k₁) t₁ fun h' tk k t => ?_
    simpa using p h' tk (k₁.trans k) t
theorem It.eq {C : Cx} {σ : Vars} {e : Expr} {b b' : Bool} (x : It C σ e b) (h : b = b') : It C σ e b' := h ▸ x
theorem Ev.eq {C : Cx} {σ : Vars} {e : Expr} {b b' : D} (x : Ev C σ e b) (h : b = b') : Ev C σ e b' := h ▸ x

theorem Ev.ifexp {C : Cx} {σ : Vars} {t b o : Expr} {pos : Pos} {c : Bool} {d : D} (x : It C σ t c) (y : c = true → Ev C σ b d) (z : c = false → Ev C σ o d) : Ev C σ (.IfExp t b o pos) d := by
  intro h₀ own s Q E F ht p
  refine IfExp_ (x h₀ own s _ E F ht fun h₁ tk₁ k₁ t₁ => ?_)
  cases c with
  | true => exact y rfl h₀ own _ _ E (F.keeps k₁) t₁ (p.mono k₁)
  | false => exact z rfl h₀ own _ _ E (F.keeps k₁) t₁ (p.mono k₁)
theorem Ev.or {C : Cx} {σ : Vars} {a b : Expr} {pos : Pos} {c : Bool} {d₁ d : D} (x : Ev C σ a d₁) (o : Opb C.prog C.w C.A d₁ c) (y : c = true → d = d₁) (z : c = false → Ev C σ b d) : Ev C σ (.BoolOp .Or [a, b] pos) d := by
  intro h₀ own s Q E F ht p
  refine BoolOp_or (x h₀ own s _ E F ht fun v₁ h₁ tk₁ k₁ t₁ r₁ => ?_)
  refine o _ _ v₁ _ E (F.keeps k₁).low t₁ r₁ fun h' tk k t => ?_
  cases c with
  | true => exact p v₁ h' tk (k₁.trans k) t (y rfl ▸ r₁.keep k)
  | false => exact BoolOp_one (z rfl h₀ own _ _ E (F.keeps (k₁.trans k)) t (p.mono (k₁.trans k)))

abbrev Evs (C : Cx) (σ : Vars) (pos : Pos) (es : List Expr) (ds : List D) : Prop := Tvs C σ (spliced (backTo pos (starEach es C.env))) ds
theorem Evs.nil {C : Cx} {σ : Vars} {pos : Pos} : Evs C σ pos [] [] := by
  intro h₀ own s Q E F ht p
  exact args_nil (p [] s.heap s.toks (Keep.refl _) ht .nil)
theorem Evs.cons {C : Cx} {σ : Vars} {pos : Pos} {e : Expr} {es : List Expr} {d : D} {ds : List D} (x : Ev C σ e d) (y : Evs C σ pos es ds)
    (he : starEach (e :: es) C.env = (false, eval e C.env) :: starEach es C.env := by rfl) : Evs C σ pos (e :: es) (d :: ds) := by
  intro h₀ own s Q E F ht p
  refine args_cons (x h₀ own s _ E F ht fun v₁ h₁ tk₁ k₁ t₁ r₁ => ?_) he
  exact y h₀ own _ _ E (F.keeps k₁) t₁ fun vs h' tk k t rs => p _ h' tk (k₁.trans k) t (.cons (r₁.keep k) rs)
theorem Evs.eq {C : Cx} {σ : Vars} {pos : Pos} {e : List Expr} {b b' : List D} (x : Evs C σ pos e b) (h : b = b') : Evs C σ pos e b' := h ▸ x

theorem Ev.list {C : Cx} {σ : Vars} {pos : Pos} {es : List Expr} {ds : List D} (x : Evs C σ pos es ds) (hn : ds.length ≤ sizeLine := by decide) : Ev C σ (.List es pos) (.list ds) := by
  intro h₀ own s Q E F ht p
  refine wpAny_List (x h₀ own s _ E F ht fun vs h' tk k t rs => ⟨by rw [← rs.1]; exact hn, ?_⟩)
  exact p _ _ tk (k.trans (Keep.push _ _)) t (R.newList (F.keeps k).low rs)
theorem Ev.tuple {C : Cx} {σ : Vars} {pos : Pos} {es : List Expr} {n : Nat} {ds : List D} (x : Evs C σ pos es ds) (hn : ds.length ≤ sizeLine := by decide) : Ev C σ (.Tuple es n pos) (.tup ds) := by
  intro h₀ own s Q E F ht p
  refine wpAny_Tuple (x h₀ own s _ E F ht fun vs h' tk k t rs => ⟨by rw [← rs.1]; exact hn, ?_⟩)
  exact p _ _ tk (k.trans (Keep.push _ _)) t (R.newTuple rs)

/-- an item or a slice -/
theorem sub_tail {prog : Program} {w : World} {A : Around} {E : Value → Shared → Prop} {s : Shared} {value slice : Expr} {o i : Value} {T id : String} {Q : Value → Shared → Prop} (hT : s.TypeIs o T)
    (hl : typeLookup (.type T) "__getitem__" = pure (some (.builtin id))) (h : wpAny (model prog w) A (getItem o i) Q E s) :
    wpAny (model prog w) A (subscriptTail value slice o i) Q E s := by
  have hs : ∃ ops, subscripted slice false o i = operate ops (getItem o i) := by
    unfold subscripted
    split
    · exact ⟨_, rfl⟩
    · rename_i q; cases q
    · exact ⟨_, rfl⟩
  obtain ⟨ops, hs⟩ := hs
  unfold subscriptTail
  refine wpAny_bind ?_
  rw [getitemInPython_of_ne hT.not_modules]
  refine wpAny_bind (wpAny_specialOf hT hl ?_)
  have fin : wpAny (model prog w) A (subscripted slice false o i) (fun r s₃ => wpAny (model prog w) A (letTemporaryGo value o r >>= fun _ => pure r) Q E s₃) E s := by
    rw [hs]
    exact wpAny_operating (wpAny_mono h (fun r s₃ h₃ => wpAny_bind (wpAny_letTemporaryGo (wpAny_pure h₃))) fun _ _ x => x)
  first
    | exact wpAny_pure (wpAny_bind fin)
    | exact wpAny_bind (wpAny_pure (wpAny_bind fin))
    | exact wpAny_bind fin

theorem Ev.item {C : Cx} {σ : Vars} {a i : Expr} {pos : Pos} {xs : List D} {k : Int} {d : D} (x : Ev C σ a (.list xs)) (y : Ev C σ i (.int k)) (h0 : 0 ≤ k) (h1 : k < 2 ^ 63) (hd : xs[k.toNat]? = some d) : Ev C σ (.Subscript a i pos) d := by
  intro h₀ own s Q E F ht p
  refine Subscript_ (x h₀ own s _ E F ht fun v₁ h₁ tk₁ k₁ t₁ r₁ => ?_)
  refine y h₀ own _ _ E (F.keeps k₁) t₁ fun v₂ h₂ tk₂ k₂ t₂ r₂ => ?_
  obtain ⟨l, vs, rfl, _, hl, hs⟩ := (r₁.keep k₂).inv_list
  obtain ⟨t, rfl⟩ := r₂.inv_int
  obtain ⟨v, hv, r⟩ := hs.at hd
  exact sub_tail (Heap.IsList.typeIs (s := { s with heap := h₂, toks := tk₂ }) hl) slot_list_getitem.lookup (wpAny_getItem_list hl h0 h1 (by simpa using hv) (p v h₂ tk₂ (k₁.trans k₂) t₂ r))
theorem Ev.item_neg {C : Cx} {σ : Vars} {a i : Expr} {pos : Pos} {xs : List D} {k : Int} {d : D} (x : Ev C σ a (.list xs)) (y : Ev C σ i (.int k)) (h0 : k < 0) (h1 : -(xs.length : Int) ≤ k) (h2 : -(2 ^ 63) ≤ k) (hd : xs[(k + xs.length).toNat]? = some d) : Ev C σ (.Subscript a i pos) d := by
  intro h₀ own s Q E F ht p
  refine Subscript_ (x h₀ own s _ E F ht fun v₁ h₁ tk₁ k₁ t₁ r₁ => ?_)
  refine y h₀ own _ _ E (F.keeps k₁) t₁ fun v₂ h₂ tk₂ k₂ t₂ r₂ => ?_
  obtain ⟨l, vs, rfl, _, hl, hs⟩ := (r₁.keep k₂).inv_list
  obtain ⟨t, rfl⟩ := r₂.inv_int
  obtain ⟨v, hv, r⟩ := hs.at hd
  have e := hs.1
  exact sub_tail (Heap.IsList.typeIs (s := { s with heap := h₂, toks := tk₂ }) hl) slot_list_getitem.lookup
    (wpAny_getItem_list_neg hl h0 (by simpa [← e] using h1) h2 (by simpa [← e] using hv) (p v h₂ tk₂ (k₁.trans k₂) t₂ r))
theorem Ev.item_tup {C : Cx} {σ : Vars} {a i : Expr} {pos : Pos} {xs : List D} {k : Int} {d : D} (x : Ev C σ a (.tup xs)) (y : Ev C σ i (.int k)) (h0 : 0 ≤ k) (h1 : k < 2 ^ 63) (hd : xs[k.toNat]? = some d) : Ev C σ (.Subscript a i pos) d := by
  intro h₀ own s Q E F ht p
  refine Subscript_ (x h₀ own s _ E F ht fun v₁ h₁ tk₁ k₁ t₁ r₁ => ?_)
  refine y h₀ own _ _ E (F.keeps k₁) t₁ fun v₂ h₂ tk₂ k₂ t₂ r₂ => ?_
  obtain ⟨l, vs, rfl, hl, hs⟩ := (r₁.keep k₂).inv_tup
  obtain ⟨t, rfl⟩ := r₂.inv_int
  obtain ⟨v, hv, r⟩ := hs.at hd
  have hj : seqIndex? k vs.toArray.size = some k.toNat := by
    have := (List.getElem?_eq_some_iff.mp hv).1
    unfold seqIndex?
    simp
    omega
  exact sub_tail (T := "tuple") (by obtain ⟨o, ho, hc, _⟩ := hl; exact ⟨o, ho, hc⟩) slot_tuple_getitem.lookup (getItem_tuple (by obtain ⟨o, ho, hc, n, hd⟩ := hl; exact ⟨o, ho, hc, n, hd⟩) (by omega) h1 hj (by simpa using hv) (p v h₂ tk₂ (k₁.trans k₂) t₂ r))

end Mine
end

section
open PySem PySem.Calls PyProof.Rows PySem.W
set_option maxRecDepth 100000
namespace Mine

/-! slices -/
def Part (C : Cx) (σ : Vars) (e : Option Expr) (i : Option Int) : Prop := match e, i with
  | none, none => True
  | some e, some i => Ev C σ e (.int i)
  | _, _ => False
theorem Part.go {C : Cx} {σ : Vars} {e : Option Expr} {i : Option Int} (x : Part C σ e i) {h₀ : Heap} {own : Option Addr} {s : Shared} {Q : Value → Shared → Prop} {E : Value → Shared → Prop} (F : FS C h₀ own σ s.heap) (ht : 1 ≤ s.toks)
    (p : ∀ v h' tk, Keep s.heap h' → 1 ≤ tk → IsPart v i → Q v { s with heap := h', toks := tk }) : wpAny (model C.prog C.w) C.A (evalPart e C.env) Q E s := by
  cases e with
  | none =>
    cases i with
    | none => exact wpAny_pure (p _ s.heap s.toks (Keep.refl _) ht .none)
    | some i => exact x.elim
  | some e =>
    cases i with
    | none => exact x.elim
    | some i =>
      exact Tv.mp' x F ht p
where
  Tv.mp' {C : Cx} {σ : Vars} {e : Expr} {i : Int} (x : Ev C σ e (.int i)) {h₀ : Heap} {own : Option Addr} {s : Shared} {Q : Value → Shared → Prop} {E : Value → Shared → Prop} (F : FS C h₀ own σ s.heap) (ht : 1 ≤ s.toks)
    (p : ∀ v h' tk, Keep s.heap h' → 1 ≤ tk → IsPart v (some i) → Q v { s with heap := h', toks := tk }) : wpAny (model C.prog C.w) C.A (evalPart (some e) C.env) Q E s := by
    refine x h₀ own s _ E F ht fun v h' tk k t r => ?_
    obtain ⟨u, rfl⟩ := r.inv_int
    exact p _ h' tk k t (.int _ _)

def sl {α : Type} (xs : List α) (lo hi : Option Int) : List α := (xs.drop (lo.elim 0 (clipAt xs.length))).take (hi.elim xs.length (clipAt xs.length) - lo.elim 0 (clipAt xs.length))

theorem Ev.slice {C : Cx} {σ : Vars} {a : Expr} {lo hi : Option Expr} {p pos : Pos} {xs : List D} {i j : Option Int} (x : Ev C σ a (.list xs)) (y : Part C σ lo i) (z : Part C σ hi j) (hn : xs.length ≤ sizeLine) :
    Ev C σ (.Subscript a (.Slice lo hi none p) pos) (.list (sl xs i j)) := by
  intro h₀ own s Q E F ht pp
  refine Subscript_ (x h₀ own s _ E F ht fun v₁ h₁ tk₁ k₁ t₁ r₁ => ?_)
  refine wpAny_Slice (y.go (F.keeps k₁) t₁ fun v₂ h₂ tk₂ k₂ t₂ r₂ => ?_)
  refine z.go (F.keeps (k₁.trans k₂)) t₂ fun v₃ h₃ tk₃ k₃ t₃ r₃ => ?_
  rw [evalPart_none]
  refine wpAny_pure ?_
  obtain ⟨l, vs, rfl, _, hl, hs⟩ := (r₁.keep (k₂.trans k₃)).inv_list
  dsimp only
  refine sub_tail (Heap.IsList.typeIs (s := { s with heap := h₃.push _, toks := tk₃ }) (hl.push _)) slot_list_getitem.lookup ?_
  have e := hs.1
  refine wpAny_getItem_list_slice (lo := i) (hi := j) (st := none) (hl.push _) (Heap.IsSliceOf.new ..) r₂ r₃ .none (by simp) ?_ (by simp; omega)
  have hk : Keep s.heap ((h₃.push { cls := .type "slice", data := .fields #[v₂, v₃, .none] }).push { cls := .type "list", data := .seq (slicePick vs.toArray i j none) }) := (((k₁.trans k₂).trans k₃).trans (Keep.push _ _)).trans (Keep.push _ _)
  refine pp _ _ tk₃ hk t₃ ?_
  have e2 : slicePick vs.toArray i j none = (sl vs i j).toArray := by
    rw [slicePick_plain]; simp [sl]
  rw [e2]
  refine R.newList ((F.keeps ((k₁.trans k₂).trans k₃)).low.keep (Keep.push _ _)) ?_
  have hs' := hs.keep (Keep.push h₃ { cls := .type "slice", data := .fields #[v₂, v₃, .none] })
  unfold sl
  rw [← e]
  exact (hs'.drop _).take _

theorem Ev.slice_str {C : Cx} {σ : Vars} {a : Expr} {lo hi : Option Expr} {p pos : Pos} {x : Str} {i j : Option Int} (xx : Ev C σ a (.str x)) (y : Part C σ lo i) (z : Part C σ hi j) (hn : x.length ≤ sizeLine) :
    Ev C σ (.Subscript a (.Slice lo hi none p) pos) (.str (Txt.slice x i j)) := by
  intro h₀ own s Q E F ht pp
  refine Subscript_ (xx h₀ own s _ E F ht fun v₁ h₁ tk₁ k₁ t₁ r₁ => ?_)
  refine wpAny_Slice (y.go (F.keeps k₁) t₁ fun v₂ h₂ tk₂ k₂ t₂ r₂ => ?_)
  refine z.go (F.keeps (k₁.trans k₂)) t₂ fun v₃ h₃ tk₃ k₃ t₃ r₃ => ?_
  rw [evalPart_none]
  refine wpAny_pure ?_
  obtain ⟨t, rfl⟩ := r₁.inv_str
  have K := ((k₁.trans k₂).trans k₃)
  have hk : KeptH (Keep s.heap) := fun h ob q => q.trans (Keep.push _ _)
  have fin : ∀ (h' : Heap) (t' : Tok) (k : Nat), Keep s.heap h' → 1 ≤ k → Q (.str (Txt.slice x i j) t') { s with heap := h', toks := k } := fun h' t' k q t => pp _ h' k q t (.str _ _)
  cases r₂ with
  | none =>
    cases r₃ with
    | none =>
      refine wpAny_with_toks (n := 1) t₃ ?_
      obtain ⟨T, id, hl, hT, hg⟩ := SBH.sliceItem_nn (prog := C.prog) (w := C.w) (A := C.A) (E := fun e s' => 1 ≤ s'.toks → E e s') (Q := fun v s' => 1 ≤ s'.toks → Q v s') (s := { s with heap := h₃, toks := tk₃ }) (x := x) (t := t) hk K (fun h' t' k q => fin h' t' k q) hn
      exact sub_tail hT hl hg
    | int j uj =>
      refine wpAny_with_toks (n := 1) t₃ ?_
      obtain ⟨T, id, hl, hT, hg⟩ := SBH.sliceItem_ns (prog := C.prog) (w := C.w) (A := C.A) (E := fun e s' => 1 ≤ s'.toks → E e s') (Q := fun v s' => 1 ≤ s'.toks → Q v s') (s := { s with heap := h₃, toks := tk₃ }) (x := x) (t := t) (uj := uj) hk K (fun h' t' k q => fin h' t' k q) hn
      exact sub_tail hT hl hg
  | int i ui =>
    cases r₃ with
    | none =>
      refine wpAny_with_toks (n := 1) t₃ ?_
      obtain ⟨T, id, hl, hT, hg⟩ := SBH.sliceItem_sn (prog := C.prog) (w := C.w) (A := C.A) (E := fun e s' => 1 ≤ s'.toks → E e s') (Q := fun v s' => 1 ≤ s'.toks → Q v s') (s := { s with heap := h₃, toks := tk₃ }) (x := x) (t := t) (ui := ui) hk K (fun h' t' k q => fin h' t' k q) hn
      exact sub_tail hT hl hg
    | int j uj =>
      refine wpAny_with_toks (n := 1) t₃ ?_
      obtain ⟨T, id, hl, hT, hg⟩ := SBH.sliceItem_ss (prog := C.prog) (w := C.w) (A := C.A) (E := fun e s' => 1 ≤ s'.toks → E e s') (Q := fun v s' => 1 ≤ s'.toks → Q v s') (s := { s with heap := h₃, toks := tk₃ }) (x := x) (t := t) (ui := ui) (uj := uj) hk K (fun h' t' k q => fin h' t' k q) hn
      exact sub_tail hT hl hg

/-! names of globals and built-ins; calls -/
def Evf (C : Cx) (σ : Vars) (e : Expr) (f : Value) : Prop :=
  ∀ h₀ own s Q E, FS C h₀ own σ s.heap → Q f s → wpAny (model C.prog C.w) C.A (eval e C.env) Q E s
def GB (h : Heap) (x : Str) (v : Value) : Prop := ∃ mg mb, h.Ns mainGlobals mg ∧ h.Ns builtinsNs mb ∧ mg x = none ∧ mb x = some v
def GG (h : Heap) (x : Str) (v : Value) : Prop := ∃ mg, h.Ns mainGlobals mg ∧ mg x = some v
theorem Evf.builtin {C : Cx} {n : Nat} (ok : C.Ok n) {σ : Vars} {x : Str} {pos : Pos} {v : Value} (g : GB C.hG x v) (hx : C.env.kindOf x = some .globalImplicit := by rfl) (hd : (x == ("__debug__" : Str)) = false := by decide +kernel) : Evf C σ (.Name x pos) v := by
  intro h₀ own s Q E F hQ
  obtain ⟨mg, mb, hg, hb, e1, e2⟩ := g
  have K := F.ground.trans F.keep
  exact Name_function_global ok.fn hx (loadGlobal_builtin (by rw [ok.gl]; exact hg.keeps K) e1 (by rw [ok.bi]; exact hb.keeps K) e2 hQ) hd
theorem Evf.global {C : Cx} {n : Nat} (ok : C.Ok n) {σ : Vars} {x : Str} {pos : Pos} {v : Value} (g : GG C.hG x v) (hx : C.env.kindOf x = some .globalImplicit := by rfl) (hd : (x == ("__debug__" : Str)) = false := by decide +kernel) : Evf C σ (.Name x pos) v := by
  intro h₀ own s Q E F hQ
  obtain ⟨mg, hg, e1⟩ := g
  have K := F.ground.trans F.keep
  exact Name_function_global ok.fn hx (loadGlobal_global (by rw [ok.gl]; exact hg.keeps K) e1 hQ) hd

theorem Ev.callb {C : Cx} {σ : Vars} {f e : Expr} {es : List Expr} {pos : Pos} {id : String} {ds : List D} {d : D} (x : Evf C σ f (.builtin id)) (y : Evs C σ pos (e :: es) ds) (o : Opn C.prog C.w C.A (fun vs => call (.builtin id) vs) ds d)
    (h1 : eval (.Call f (e :: es) [] pos) C.env = (do callWith pos (← eval f C.env) [] (backTo pos (starEach (e :: es) C.env)) (backToKw pos (keywordEach [] C.env))) := by rfl)
    (h2 : starEach (e :: es) C.env = (false, eval e C.env) :: starEach es C.env := by rfl) (h3 : (backTo pos (starEach es C.env)).any (·.1) = false := by rfl) : Ev C σ (.Call f (e :: es) [] pos) d := by
  intro h₀ own s Q E F ht p
  refine Call_ (x h₀ own s _ E F ?_) h1
  refine callWith_builtin1 (y h₀ own s _ E F ht fun vs h' tk k t rs => ?_) h2 h3
  exact o _ _ vs Q E (F.keeps k).low t rs (p.mono k)
theorem Ev.callt {C : Cx} {σ : Vars} {f e : Expr} {es : List Expr} {pos : Pos} {T : String} {ds : List D} {d : D} (x : Evf C σ f (.type T)) (y : Evs C σ pos (e :: es) ds) (o : Opn C.prog C.w C.A (fun vs => call (.type T) vs) ds d)
    (h1 : eval (.Call f (e :: es) [] pos) C.env = (do callWith pos (← eval f C.env) [] (backTo pos (starEach (e :: es) C.env)) (backToKw pos (keywordEach [] C.env))) := by rfl)
    (h2 : starEach (e :: es) C.env = (false, eval e C.env) :: starEach es C.env := by rfl) (h3 : (backTo pos (starEach es C.env)).any (·.1) = false := by rfl) : Ev C σ (.Call f (e :: es) [] pos) d := by
  intro h₀ own s Q E F ht p
  refine Call_ (x h₀ own s _ E F ?_) h1
  refine PyProof.Rows.callWith_type1 (y h₀ own s _ E F ht fun vs h' tk k t rs => ?_) h2 h3
  exact o _ _ vs Q E (F.keeps k).low t rs (p.mono k)

/-- a def of the text: what its call gives -/
def Fn (prog : Program) (w : World) (hG : Heap) (n : Nat) (f : Addr) (ds : List D) (d : D) : Prop :=
  ∀ A mu s vs Q E, Room A n → Keep hG s.heap → Low mu s.heap → 1 ≤ s.toks → Rs s.heap mu ds vs → Post s mu d Q → wpAny (model prog w) A (call (.ref f) vs []) Q E s
def IsFn (h : Heap) (f : Addr) : Prop := ∃ o fd, h.get? f = some o ∧ o.data = .func fd
theorem Ev.call {C : Cx} {n : Nat} (ok : C.Ok n) {σ : Vars} {f e : Expr} {es : List Expr} {pos : Pos} {a : Addr} {ds : List D} {d : D} (x : Evf C σ f (.ref a)) (hf : IsFn C.hG a) (y : Evs C σ pos (e :: es) ds) (o : Fn C.prog C.w C.hG n a ds d)
    (h1 : eval (.Call f (e :: es) [] pos) C.env = (do callWith pos (← eval f C.env) [] (backTo pos (starEach (e :: es) C.env)) (backToKw pos (keywordEach [] C.env))) := by rfl)
    (h2 : starEach (e :: es) C.env = (false, eval e C.env) :: starEach es C.env := by rfl) : Ev C σ (.Call f (e :: es) [] pos) d := by
  intro h₀ own s Q E F ht p
  obtain ⟨ob, fd, e1, e2⟩ := hf
  refine Call_ (x h₀ own s _ E F ?_) h1
  refine callWith_def e2 (y h₀ own s _ E F ht fun vs h' tk k t rs => ?_) h2
  have K := (F.ground.trans F.keep).trans k
  exact ⟨K _ _ e1, o _ _ _ vs Q E ok.room K (F.keeps k).low t rs (p.mono k)⟩

theorem Ev.meth_str {C : Cx} {σ : Vars} {o e : Expr} {es : List Expr} {name : Str} {id : String} {apos pos : Pos} {pl : Sem Bool} {x : Str} {ds : List D} {d : D} (xx : Ev C σ o (.str x))
    (gm : ∀ (t : Tok) (s : Shared) (Q : Value × List Value → Shared → Prop) (E : Value → Shared → Prop), Q (.builtin id, [.str x t]) s → wpAny (model C.prog C.w) C.A (getMethod (.str x t) name pl) Q E s)
    (y : Evs C σ pos (e :: es) ds) (op : Opn C.prog C.w C.A (fun vs => PySem.call (.builtin id) vs) (.str x :: ds) d)
    (he : eval (.Call (.Attribute o name apos) (e :: es) [] pos) C.env = (do
      let ov ← eval o C.env
      standAt apos.atName
      let (f, first) ← holding [ov] (getMethod ov name pl)
      callWith pos f first (backTo pos (starEach (e :: es) C.env)) []) := by rfl)
    (h2 : starEach (e :: es) C.env = (false, eval e C.env) :: starEach es C.env := by rfl) (h3 : (backTo pos (starEach es C.env)).any (·.1) = false := by rfl) :
    Ev C σ (.Call (.Attribute o name apos) (e :: es) [] pos) d := by
  intro h₀ own s Q E F ht p
  refine MethodCall_ (xx h₀ own s _ E F ht fun v₁ h₁ tk₁ k₁ t₁ r₁ => ?_) he
  obtain ⟨t, rfl⟩ := r₁.inv_str
  refine gm t _ _ E ?_
  refine callWith_method1 (y h₀ own _ _ E (F.keeps k₁) t₁ fun vs h' tk k t rs => ?_) h2 h3
  exact op _ _ _ Q E (F.keeps (k₁.trans k)).low t (.cons (r₁.keep k) rs) (p.mono (k₁.trans k))
end Mine
end

section
open PySem PySem.Calls PyProof.Rows PySem.W
set_option maxRecDepth 100000
namespace Mine

inductive Out where
  | next (σ : Vars)
  | brk (σ : Vars)
  | cont (σ : Vars)
  | ret (d : D)
def OutOk (C : Cx) (h₀ : Heap) (fl : Flow) (h : Heap) : Out → Prop
  | .next σ => fl = .next ∧ ∃ own, FS C h₀ own σ h
  | .brk σ => fl = .brk ∧ ∃ own, FS C h₀ own σ h
  | .cont σ => fl = .cont ∧ ∃ own, FS C h₀ own σ h
  | .ret d => ∃ v, fl = .ret v ∧ Keep h₀ h ∧ R h C.av d v
def Run (C : Cx) (σ : Vars) (t : Sem Flow) (P : Out → Prop) : Prop :=
  ∀ h₀ own s Q E, FS C h₀ own σ s.heap → 1 ≤ s.toks → (∀ o fl h' tk, P o → 1 ≤ tk → OutOk C h₀ fl h' o → Q fl { s with heap := h', toks := tk }) → wpAny (model C.prog C.w) C.A t Q E s
abbrev Exs (C : Cx) (σ : Vars) (ss : List Stmt) (P : Out → Prop) : Prop := Run C σ (execs ss C.env) P
abbrev Ex (C : Cx) (σ : Vars) (st : Stmt) (P : Out → Prop) : Prop := Run C σ (exec st C.env) P
def Then (C : Cx) (rest : List Stmt) (P : Out → Prop) : Out → Prop
  | .next σ => Exs C σ rest P
  | o => P o

theorem Exs.nil {C : Cx} {σ : Vars} {P : Out → Prop} (h : P (.next σ)) : Exs C σ [] P := by
  intro h₀ own s Q E F ht p
  exact wpAny_execs_nil (p _ .next s.heap s.toks h ht ⟨rfl, own, F⟩)
theorem Exs.cons {C : Cx} {σ : Vars} {st : Stmt} {rest : List Stmt} {P : Out → Prop} (h : Ex C σ st (Then C rest P)) : Exs C σ (st :: rest) P := by
  intro h₀ own s Q E F ht p
  refine wpAny_execs_cons (h h₀ own s _ E F ht fun o fl h' tk ho t ok => ?_)
  cases o with
  | next σ' =>
    obtain ⟨rfl, own', F'⟩ := ok
    exact ho h₀ own' _ Q E F' t fun o fl h2 tk2 ho2 t2 ok2 => p o fl h2 tk2 ho2 t2 ok2
  | brk σ' => obtain ⟨rfl, q⟩ := id ok; exact p _ _ h' tk ho t ok
  | cont σ' => obtain ⟨rfl, q⟩ := id ok; exact p _ _ h' tk ho t ok
  | ret d => obtain ⟨v, rfl, q⟩ := id ok; exact p _ _ h' tk ho t ok
theorem Run.mono {C : Cx} {σ : Vars} {t : Sem Flow} {P P' : Out → Prop} (x : Run C σ t P) (h : ∀ o, P o → P' o) : Run C σ t P' := by
  intro h₀ own s Q E F ht p
  exact x h₀ own s Q E F ht fun o fl h' tk ho => p o fl h' tk (h o ho)
theorem Run.sub {C : Cx} {σ σ' : Vars} {t : Sem Flow} {P : Out → Prop} (x : Run C σ' t P) (k : ∀ x sl, σ'.lookup x = some sl → σ.lookup x = some sl) : Run C σ t P := by
  intro h₀ own s Q E F ht p
  exact x h₀ own s Q E (F.sub k) ht p
theorem Tv.sub {C : Cx} {σ σ' : Vars} {t : Sem Value} {d : D} (x : Tv C σ' t d) (k : ∀ x sl, σ'.lookup x = some sl → σ.lookup x = some sl) : Tv C σ t d := by
  intro h₀ own s Q E F ht p
  exact x h₀ own s Q E (F.sub k) ht p

/-! stores -/
theorem isList_of_change {L : Addr} {h h' : Heap} (hs : Heap.SameBut L h h') (hL : ∀ vs, ¬ h.IsList L vs) {a : Addr} {vs : Array Value} (x : h.IsList a vs) : h'.IsList a vs := by
  have ne : a ≠ L := fun e => hL vs (e ▸ x)
  obtain ⟨o, ho, r⟩ := x
  exact ⟨o, (hs.2 a ne).trans ho, r⟩
theorem isTuple_of_change {L : Addr} {h h' : Heap} (hs : Heap.SameBut L h h') (hL : ∀ vs, ¬ h.IsTuple L vs) {a : Addr} {vs : Array Value} (x : h.IsTuple a vs) : h'.IsTuple a vs := by
  have ne : a ≠ L := fun e => hL vs (e ▸ x)
  obtain ⟨o, ho, r⟩ := x
  exact ⟨o, (hs.2 a ne).trans ho, r⟩
theorem Ns_no_list {h : Heap} {L : Addr} {m : Str → Option Value} (hn : h.Ns L m) (vs : Array Value) : ¬ h.IsList L vs := by
  intro ⟨o, ho, _, n, hd⟩
  obtain ⟨o', es, ep, ho', hd', _⟩ := hn
  rw [ho] at ho'; cases ho'
  rw [hd] at hd'; cases hd'
theorem Ns_no_tuple {h : Heap} {L : Addr} {m : Str → Option Value} (hn : h.Ns L m) (vs : Array Value) : ¬ h.IsTuple L vs := by
  intro ⟨o, ho, _, n, hd⟩
  obtain ⟨o', es, ep, ho', hd', _⟩ := hn
  rw [ho] at ho'; cases ho'
  rw [hd] at hd'; cases hd'
theorem cell_no_list {h : Heap} {L : Addr} {v : Option Value} (hn : h.IsCell L v) (vs : Array Value) : ¬ h.IsList L vs := by
  intro ⟨o, ho, _, n, hd⟩
  obtain ⟨o', ho', hd'⟩ := hn
  rw [ho] at ho'; cases ho'
  rw [hd] at hd'; cases hd'
theorem cell_no_tuple {h : Heap} {L : Addr} {v : Option Value} (hn : h.IsCell L v) (vs : Array Value) : ¬ h.IsTuple L vs := by
  intro ⟨o, ho, _, n, hd⟩
  obtain ⟨o', ho', hd'⟩ := hn
  rw [ho] at ho'; cases ho'
  rw [hd] at hd'; cases hd'
theorem cell_no_ns {h : Heap} {L : Addr} {v : Option Value} {m : Str → Option Value} (hn : h.IsCell L v) : ¬ h.Ns L m := by
  intro ⟨o, es, ep, ho, hd, _⟩
  obtain ⟨o', ho', hd'⟩ := hn
  rw [ho] at ho'; cases ho'
  rw [hd] at hd'; cases hd'
theorem plain_ne {h : Heap} {L a : Addr} {vs : Array Value} (hL : ∀ vs, ¬ h.IsList L vs) (x : h.PlainList a vs) : a ≠ L := fun e => hL _ (e ▸ x.isList)

theorem R.sameBut {L : Addr} {h h' : Heap} {mu : List Addr} {d : D} {v : Value} (x : R h mu d v) (hs : Heap.SameBut L h h') (hL : ∀ vs, ¬ h.IsList L vs) (hT : ∀ vs, ¬ h.IsTuple L vs) : R h' mu d v :=
  x.change (fun _ _ q _ => isList_of_change hs hL q) (fun _ _ q => isTuple_of_change hs hT q)
theorem SlotOk.sameBut {L : Addr} {h h' : Heap} {mu : List Addr} {own : Option Addr} {v : Value} {sl : Slot} (x : SlotOk mu own h v sl) (hs : Heap.SameBut L h h') (hL : ∀ vs, ¬ h.IsList L vs) (hT : ∀ vs, ¬ h.IsTuple L vs) : SlotOk mu own h' v sl := by
  cases sl with
  | val d => exact R.sameBut x hs hL hT
  | own ds =>
    obtain ⟨a, vs, e1, e2, e3, e4⟩ := x
    exact ⟨a, vs, e1, e2, e3.at fun o e => (hs.2 a (plain_ne hL e3)).trans e, e4.1, fun i d v p q => (e4.2 i d v p q).sameBut hs hL hT⟩

theorem lookup_cons_ne {α : Type} {x y : Str} {v : α} {l : List (Str × α)} (h : y ≠ x) : List.lookup y ((x, v) :: l) = List.lookup y l := by
  rw [List.lookup_cons]
  have : (y == x) = false := by simpa using h
  rw [this]
theorem lookup_cons_eq {α : Type} {x : Str} {v : α} {l : List (Str × α)} : List.lookup x ((x, v) :: l) = some v := by
  rw [List.lookup_cons]; simp

/-- the store of a name -/
theorem FS.store' {C : Cx} {n : Nat} (ok : C.Ok n) {h₀ : Heap} {own : Option Addr} {σ : Vars} {s : Shared} {x : Str} {v : Value} {sl : Slot} {Q : Unit → Shared → Prop} {E : Value → Shared → Prop} (F : FS C h₀ own σ s.heap) (ht : 1 ≤ s.toks)
    (hsl : SlotOk (own.toList ++ C.av) own s.heap v sl) (hx : C.env.kindOf x = some .local ∨ (C.env.kindOf x = some .cell ∧ C.ro = false ∧ ∃ c v₀, C.env.cells.lookup x = some c ∧ s.heap.IsCell c v₀))
    (hQ : ∀ h' tk, FS C h₀ own ((x, sl) :: σ) h' → 1 ≤ tk → (∀ d u, R s.heap (own.toList ++ C.av) d u → R h' (own.toList ++ C.av) d u) → Q () { s with heap := h', toks := tk }) : wpAny (model C.prog C.w) C.A (storeName C.env x v) Q E s := by
  obtain ⟨m, hn, hv⟩ := F.ns
  rcases hx with hx | ⟨hx, hro, c, v₀, hc, hcell⟩
  · refine wpAny_storeName_local hx hn (fun h' hn' hs => hQ h' _ ?_ (Nat.le_succ_of_le ht) fun d u r => r.sameBut hs (Ns_no_list hn) (Ns_no_tuple hn)) (by rw [ok.fn]; rfl)
    have hL := Ns_no_list hn
    have hT := Ns_no_tuple hn
    refine ⟨F.ground, fun b o e => (hs.2 b (fun q => ?_)).trans (F.keep b o e), F.loc, F.cel, fun a e => ?_, F.avIn, fun p hp => ?_, _, hn', fun y sl' e => ?_⟩
    · rw [q, F.loc] at e; cases e
    · obtain ⟨p, vs, q⟩ := F.ownNew a e
      exact ⟨p, vs, q.at fun o e => (hs.2 a (plain_ne hL q)).trans e⟩
    · obtain ⟨v', q⟩ := F.cells p hp
      exact ⟨v', q.sameBut hs fun z => cell_no_ns q (z ▸ hn)⟩
    · by_cases hy : y = x
      · subst hy
        rw [lookup_cons_eq] at e; cases e
        exact ⟨v, .inl ⟨hx, by simp⟩, hsl.sameBut hs hL hT⟩
      · rw [lookup_cons_ne hy] at e
        obtain ⟨u, b, q⟩ := hv y sl' e
        refine ⟨u, ?_, q.sameBut hs hL hT⟩
        rcases b with ⟨b1, b2⟩ | ⟨b1, c, b2, b3⟩
        · exact .inl ⟨b1, by simp [hy, b2]⟩
        · refine .inr ⟨b1, c, b2, b3.sameBut hs fun q => cell_no_ns b3 (q ▸ hn)⟩
  · refine wpAny_storeName_cell ok.fn hx hc hcell (fun h' hc' hs => hQ h' s.toks ?_ ht fun d u r => r.sameBut hs (cell_no_list hcell) (cell_no_tuple hcell))
    have hL := cell_no_list hcell
    have hT := cell_no_tuple hcell
    have cel := F.cel hro
    refine ⟨F.ground, fun b o e => (hs.2 b (fun q => ?_)).trans (F.keep b o e), F.loc, F.cel, fun a e => ?_, F.avIn, fun p hp => ?_, _, hn.sameBut hs (fun q => cell_no_ns hcell (q ▸ hn)), fun y sl' e => ?_⟩
    · rw [q, cel.1 _ (mem_of_lookup hc)] at e; cases e
    · obtain ⟨p, vs, q⟩ := F.ownNew a e
      exact ⟨p, vs, q.at fun o e => (hs.2 a (plain_ne hL q)).trans e⟩
    · by_cases z : p.2 = c
      · exact ⟨_, z ▸ hc'⟩
      · obtain ⟨v', q⟩ := F.cells p hp
        exact ⟨v', q.sameBut hs z⟩
    · by_cases hy : y = x
      · subst hy
        rw [lookup_cons_eq] at e; cases e
        exact ⟨v, .inr ⟨.inl hx, c, hc, hc'⟩, hsl.sameBut hs hL hT⟩
      · rw [lookup_cons_ne hy] at e
        obtain ⟨u, b, q⟩ := hv y sl' e
        refine ⟨u, ?_, q.sameBut hs hL hT⟩
        rcases b with b | ⟨b1, c', b2, b3⟩
        · exact .inl b
        · refine .inr ⟨b1, c', b2, b3.sameBut hs fun q => hy ?_⟩
          exact name_of_addr cel.2 (mem_of_lookup (q ▸ b2)) (mem_of_lookup hc)

theorem FS.store {C : Cx} {n : Nat} (ok : C.Ok n) {h₀ : Heap} {own : Option Addr} {σ : Vars} {s : Shared} {x : Str} {v : Value} {sl : Slot} {Q : Unit → Shared → Prop} {E : Value → Shared → Prop} (F : FS C h₀ own σ s.heap) (ht : 1 ≤ s.toks)
    (hsl : SlotOk (own.toList ++ C.av) own s.heap v sl) (hx : C.env.kindOf x = some .local ∨ (C.env.kindOf x = some .cell ∧ C.ro = false ∧ ∃ c v₀, C.env.cells.lookup x = some c ∧ s.heap.IsCell c v₀))
    (hQ : ∀ h' tk, FS C h₀ own ((x, sl) :: σ) h' → 1 ≤ tk → Q () { s with heap := h', toks := tk }) : wpAny (model C.prog C.w) C.A (storeName C.env x v) Q E s :=
  FS.store' ok F ht hsl hx fun h' tk F' t _ => hQ h' tk F' t

/-- where a name may be stored: a local, or a cell of the frame's own -/
structure Sto (C : Cx) (σ : Vars) (x : Str) : Prop where
  here : ∀ {h₀ : Heap} {own : Option Addr} {h : Heap}, FS C h₀ own σ h → C.env.kindOf x = some .local ∨ (C.env.kindOf x = some .cell ∧ C.ro = false ∧ ∃ c v₀, C.env.cells.lookup x = some c ∧ h.IsCell c v₀)
theorem Sto.loc {C : Cx} {σ : Vars} {x : Str} (h : C.env.kindOf x = some .local) : Sto C σ x := ⟨fun _ => .inl h⟩
theorem Sto.cell {C : Cx} {σ : Vars} {x : Str} (h : C.env.kindOf x = some .cell) (hro : C.ro = false) {c : Addr} (e : C.env.cells.lookup x = some c) : Sto C σ x := ⟨fun F => by
  obtain ⟨v, q⟩ := F.cells (x, c) (mem_of_lookup e)
  exact .inr ⟨h, hro, c, v, e, q⟩⟩

theorem Ex.assign {C : Cx} {n : Nat} (ok : C.Ok n) {σ : Vars} {x : Str} {e : Expr} {p pos : Pos} {d : D} {P : Out → Prop} (y : Ev C σ e d) (st : Sto C σ x) (h : P (.next ((x, .val d) :: σ)))
    (hs : swapsWith e (some (.Name x p)) pos.line C.env = pure false := by rfl) : Ex C σ (.Assign [.Name x p] e pos) P := by
  intro h₀ own s Q E F ht pp
  refine wpAny_Assign_Name (y h₀ own s _ E F ht fun v h₁ tk₁ k₁ t₁ r₁ => ?_) hs
  refine (F.keeps k₁).store ok t₁ (v := v) (sl := .val d) r₁ (st.here (F.keeps k₁)) fun h' tk F' t' => ?_
  exact pp _ .next h' tk h t' ⟨rfl, own, F'⟩
theorem Ex.ret {C : Cx} {σ : Vars} {e : Expr} {pos : Pos} {d : D} {P : Out → Prop} (y : Ev C σ e d) (h : P (.ret d)) : Ex C σ (.Return (some e) pos) P := by
  intro h₀ own s Q E F ht pp
  refine wpAny_Return_some (y h₀ own s _ E F ht fun v h₁ tk₁ k₁ t₁ r₁ => ?_)
  exact pp _ _ h₁ tk₁ h t₁ ⟨v, rfl, F.keep.trans k₁, r₁.weak fun a ha => List.mem_append_right _ ha⟩
theorem Ex.if_ {C : Cx} {σ : Vars} {t : Expr} {b o : List Stmt} {pos : Pos} {c : Bool} {P : Out → Prop} (x : It C σ t c) (y : c = true → Exs C σ b P) (z : c = false → Exs C σ o P) : Ex C σ (.If t b o pos) P := by
  intro h₀ own s Q E F ht pp
  refine wpAny_If (x h₀ own s _ E F ht fun h₁ tk₁ k₁ t₁ => ?_)
  cases c with
  | true => exact y rfl h₀ own _ Q E (F.keeps k₁) t₁ pp
  | false => exact z rfl h₀ own _ Q E (F.keeps k₁) t₁ pp
theorem Ex.cont {C : Cx} {σ : Vars} {pos : Pos} {P : Out → Prop} (h : P (.cont σ)) : Ex C σ (.Continue pos) P := by
  intro h₀ own s Q E F ht pp
  have e : exec (.Continue pos) C.env = (do standAt pos; pure .cont) := rfl
  rw [e]
  exact wpAny_bind (wpAny_standAt (wpAny_pure (pp _ .cont s.heap s.toks h ht ⟨rfl, own, F⟩)))
theorem Ex.pass {C : Cx} {σ : Vars} {pos : Pos} {P : Out → Prop} (h : P (.next σ)) : Ex C σ (.Pass pos) P := by
  intro h₀ own s Q E F ht pp
  exact wpAny_Pass (pp _ .next s.heap s.toks h ht ⟨rfl, own, F⟩)
theorem Ex.aug {C : Cx} {n : Nat} (ok : C.Ok n) {σ : Vars} {x : Str} {op : Operator} {e : Expr} {p pos : Pos} {d₀ d₁ d : D} {P : Out → Prop} (e0 : σ.lookup x = some (.val d₀)) (y : Ev C σ e d₁) (o : Op2 C.prog C.w C.A (inplaceOp op) d₀ d₁ d) (st : Sto C σ x) (h : P (.next ((x, .val d) :: σ))) 
    (hd : (x == ("__classdict__" : Str)) = false := by decide +kernel) : Ex C σ (.AugAssign (.Name x p) op e pos) P := by
  intro h₀ own s Q E F ht pp
  refine wpAny_AugAssign_Name ?_
  obtain ⟨m, hn, hv⟩ := F.ns
  obtain ⟨v, b, q⟩ := hv x _ e0
  have go : wpAny (model C.prog C.w) C.A (eval e C.env) (fun v₁ s₂ => wpAny (model C.prog C.w) C.A (inplaceOp op v v₁) (fun r s₃ => wpAny (model C.prog C.w) C.A (storeName C.env x r) (fun _ => Q .next) E s₃) E s₂) E s := by
    refine y h₀ own s _ E F ht fun v₁ h₁ tk₁ k₁ t₁ r₁ => ?_
    refine o _ _ v v₁ _ E (F.keeps k₁).low t₁ (R.keep q k₁) r₁ fun v₂ h₂ tk₂ k₂ t₂ r₂ => ?_
    refine (F.keeps (k₁.trans k₂)).store ok t₂ (v := v₂) (sl := .val d) r₂ (st.here (F.keeps (k₁.trans k₂))) fun h' tk F' t' => ?_
    exact pp _ .next h' tk h t' ⟨rfl, own, F'⟩
  rcases b with ⟨hk, hm⟩ | ⟨hk, c, hc', hcell⟩
  · exact wpAny_loadName_local ok.fn hk hn hm go
  · rcases hk with hk | hk
    · exact wpAny_loadName_cell ok.fn hk hc' hcell go
    · exact wpAny_loadName_free ok.fn hk hc' hcell go hd
end Mine
end

section
open PySem PySem.Calls PyProof.Rows PySem.W
set_option maxRecDepth 100000
namespace Mine

/-! lists that the frame owns -/
def OnlyOwn (σ : Vars) (x : Str) : Prop := ∀ y ds, σ.lookup y = some (.own ds) → y = x
def NoOwn (σ : Vars) : Prop := ∀ y ds, σ.lookup y ≠ some (.own ds)

theorem none_of_keep {h₀ h : Heap} (k : Keep h₀ h) : h₀.get? h.objs.size = none := by
  cases e : h₀.get? h.objs.size with
  | none => rfl
  | some o => exact absurd (Heap.lt_size (k _ _ e)) (Nat.lt_irrefl _)
theorem get_size (h : Heap) : h.get? h.objs.size = none := none_of_keep (Keep.refl h)

theorem FS.newOwn {C : Cx} {h₀ h : Heap} {own : Option Addr} {σ : Vars} (F : FS C h₀ own σ h) (no : NoOwn σ) : FS C h₀ (some h.objs.size) σ (h.push { cls := .type "list", data := .seq ([] : List Value).toArray }) := by
  have k := Keep.push h { cls := .type "list", data := .seq ([] : List Value).toArray }
  obtain ⟨m, hn, hv⟩ := F.ns
  refine ⟨F.ground, F.keep.trans k, F.loc, F.cel, fun a e => ?_, F.avIn, fun p hp => (F.cells p hp).imp fun v q => q.keeps k, m, hn.keeps k, fun y sl e => ?_⟩
  · cases e
    exact ⟨none_of_keep F.keep, _, _, Heap.get?_push_size _ rfl⟩
  · obtain ⟨v, b, q⟩ := hv y sl e
    cases sl with
    | own ds => exact absurd e (no y ds)
    | val d =>
      refine ⟨v, b.keep k, ?_⟩
      have q' : R h (own.toList ++ C.av) d v := q
      have q2 : R h C.av d v := q'.weak fun a ha => List.mem_append_right _ ha
      exact (q2.join (get_size h)).keep k

theorem Ex.assign_own {C : Cx} {n : Nat} (ok : C.Ok n) {σ : Vars} {x : Str} {p p2 pos : Pos} {P : Out → Prop} (st : Sto C σ x) (no : NoOwn σ) (h : P (.next ((x, .own []) :: σ)))
    (hs : swapsWith (.List [] p2) (some (.Name x p)) pos.line C.env = pure false := by rfl) : Ex C σ (.Assign [.Name x p] (.List [] p2) pos) P := by
  intro h₀ own s Q E F ht pp
  refine wpAny_Assign_Name (wpAny_List (args_nil ⟨by decide, ?_⟩)) hs
  have F₁ := F.newOwn no
  refine FS.store ok (s := { s with heap := s.heap.push { cls := .type "list", data := .seq ([] : List Value).toArray } }) F₁ ht (v := .ref s.heap.objs.size) (sl := .own []) ⟨_, [], rfl, rfl, ⟨_, Heap.get?_push_size _ rfl⟩, .nil⟩ (st.here F₁) fun h' tk F' t' => ?_
  exact pp _ .next h' tk h t' ⟨rfl, _, F'⟩

theorem Rs.change {h h' : Heap} {mu : List Addr} {ds : List D} {vs : List Value} (x : Rs h mu ds vs) (k : ∀ a vs, h.IsList a vs → a ∉ mu → h'.IsList a vs) (kt : ∀ a vs, h.IsTuple a vs → h'.IsTuple a vs) : Rs h' mu ds vs :=
  ⟨x.1, fun i d v p q => (x.2 i d v p q).change k kt⟩

theorem FS.mutate {C : Cx} {h₀ h h' : Heap} {a : Addr} {own : Option Addr} {σ : Vars} {x : Str} {ds ds' : List D} {us vs' : List Value} (F : FS C h₀ own σ h) (ho : own = some a) (e0 : σ.lookup x = some (.own ds)) (only : OnlyOwn σ x) (hs : Heap.SameBut a h h') (hu : h.PlainList a us.toArray) (hl : h'.PlainList a vs'.toArray)
    (rs : Rs h (own.toList ++ C.av) ds' vs') : FS C h₀ own ((x, .own ds') :: σ) h' := by
  obtain ⟨m, hn, hv⟩ := F.ns
  have kl : ∀ b vs, h.IsList b vs → b ∉ own.toList ++ C.av → h'.IsList b vs := fun b vs q hb => by
    obtain ⟨o, ho', r⟩ := q
    refine ⟨o, (hs.2 b fun z => hb ?_).trans ho', r⟩
    rw [ho, z]; simp
  have kt : ∀ b vs, h.IsTuple b vs → h'.IsTuple b vs := fun b vs q => by
    obtain ⟨o, ho', c, r⟩ := q
    refine ⟨o, (hs.2 b fun z => ?_).trans ho', c, r⟩
    obtain ⟨n, e⟩ := hu
    rw [z, e] at ho'; cases ho'; simp at c
  have hna : a ≠ C.env.locals := fun z => Ns_no_list hn _ (z ▸ hu.isList)
  obtain ⟨hz, _⟩ := F.ownNew a ho
  refine ⟨F.ground, fun b o e => (hs.2 b (fun q => ?_)).trans (F.keep b o e), F.loc, F.cel, fun b e => ?_, F.avIn, fun p hp => ?_, m, hn.sameBut hs (Ne.symm hna), fun y sl e => ?_⟩
  · rw [q, hz] at e; cases e
  · rw [ho] at e; cases e; exact ⟨hz, _, hl⟩
  · obtain ⟨v, q⟩ := F.cells p hp
    exact ⟨v, q.sameBut hs fun z => cell_no_list q _ (z ▸ hu.isList)⟩
  · by_cases hy : y = x
    · subst hy
      rw [lookup_cons_eq] at e; cases e
      obtain ⟨v, b, q⟩ := hv y _ e0
      obtain ⟨a', us', rfl, e1, e2, e3⟩ := q
      rw [ho] at e1; cases e1
      refine ⟨.ref a, ?_, a, vs', rfl, ho, hl, rs.change kl kt⟩
      rcases b with b | ⟨b1, c, b2, b3⟩
      · exact .inl b
      · exact .inr ⟨b1, c, b2, b3.sameBut hs fun z => cell_no_list b3 _ (z ▸ hu.isList)⟩
    · rw [lookup_cons_ne hy] at e
      obtain ⟨v, b, q⟩ := hv y sl e
      refine ⟨v, ?_, ?_⟩
      · rcases b with b | ⟨b1, c, b2, b3⟩
        · exact .inl b
        · exact .inr ⟨b1, c, b2, b3.sameBut hs fun z => cell_no_list b3 _ (z ▸ hu.isList)⟩
      · cases sl with
        | own ds => exact absurd (only y ds e) hy
        | val d => exact R.change q kl kt

/-- the name of an own list -/
theorem own_name {C : Cx} {n : Nat} (ok : C.Ok n) {h₀ : Heap} {own : Option Addr} {σ : Vars} {x : Str} {pos : Pos} {ds : List D} {s : Shared} {Q : Value → Shared → Prop} {E : Value → Shared → Prop} (F : FS C h₀ own σ s.heap) (e : σ.lookup x = some (.own ds))
    (h : ∀ a vs, own = some a → s.heap.PlainList a vs.toArray → Rs s.heap (own.toList ++ C.av) ds vs → Q (.ref a) s)
    (hd : (x == ("__debug__" : Str)) = false := by decide +kernel) (hc : (x == ("__classdict__" : Str)) = false := by decide +kernel) : wpAny (model C.prog C.w) C.A (eval (.Name x pos) C.env) Q E s := by
  obtain ⟨m, hn, hv⟩ := F.ns
  obtain ⟨v, b, q⟩ := hv x _ e
  obtain ⟨a, vs, rfl, e1, e2, e3⟩ := q
  have hQ := h a vs e1 e2 e3
  refine wpAny_Name ?_ hd
  rcases b with ⟨hk, hm⟩ | ⟨hk, c, hc', hcell⟩
  · exact wpAny_loadName_local ok.fn hk hn hm hQ
  · rcases hk with hk | hk
    · exact wpAny_loadName_cell ok.fn hk hc' hcell hQ
    · exact wpAny_loadName_free ok.fn hk hc' hcell hQ hc

theorem It.own {C : Cx} {n : Nat} (ok : C.Ok n) {σ : Vars} {x : Str} {pos : Pos} {ds : List D} (e : σ.lookup x = some (.own ds)) (hn : ds.length ≤ sizeLine)
    (hd : (x == ("__debug__" : Str)) = false := by decide +kernel) (hc : (x == ("__classdict__" : Str)) = false := by decide +kernel) : It C σ (.Name x pos) (!ds.isEmpty) := by
  intro h₀ own s Q E F ht p
  refine isTrue_plain (own_name ok F e (fun a vs e1 e2 e3 => ?_) hd hc)
  rw [sizeLine_eq] at hn
  have el := e3.1
  refine wpAny_truthy_list e2.isList (by simp; omega) ?_
  have e2 : (!vs.toArray.isEmpty) = !ds.isEmpty := by
    cases vs <;> cases ds <;> simp_all
  rw [e2]
  exact p s.heap _ (Keep.refl _) (by show 1 ≤ s.toks + 1 + 1; omega)
theorem Ev.own_item {C : Cx} {n : Nat} (ok : C.Ok n) {σ : Vars} {x : Str} {i : Expr} {p pos : Pos} {ds : List D} {d : D} {k : Int} (e : σ.lookup x = some (.own ds)) (y : Ev C σ i (.int k)) (h0 : k < 0) (h1 : -(ds.length : Int) ≤ k) (h2 : -(2 ^ 63) ≤ k) (hd : ds[(k + ds.length).toNat]? = some d)
    (hd' : (x == ("__debug__" : Str)) = false := by decide +kernel) (hc : (x == ("__classdict__" : Str)) = false := by decide +kernel) : Ev C σ (.Subscript (.Name x p) i pos) d := by
  intro h₀ own s Q E F ht pp
  refine Subscript_ (own_name ok F e (fun a vs e1 e2 e3 => ?_) hd' hc)
  refine y h₀ own _ _ E F ht fun v₂ h₂ tk₂ k₂ t₂ r₂ => ?_
  obtain ⟨t, rfl⟩ := r₂.inv_int
  obtain ⟨v, hv, r⟩ := (e3.keep k₂).at hd
  have el := e3.1
  have hl := (e2.at fun o e => k₂ _ o e : h₂.PlainList a vs.toArray).isList
  exact sub_tail (Heap.IsList.typeIs (s := { s with heap := h₂, toks := tk₂ }) hl) slot_list_getitem.lookup
    (wpAny_getItem_list_neg hl h0 (by simpa [← el] using h1) h2 (by simpa [← el] using hv) (pp v h₂ tk₂ k₂ t₂ r))

theorem Ex.append {C : Cx} {n : Nat} (ok : C.Ok n) {σ : Vars} {x : Str} {e : Expr} {p ap cp pos : Pos} {ds : List D} {d : D} {pl : Sem Bool} {P : Out → Prop} (e0 : σ.lookup x = some (.own ds)) (only : OnlyOwn σ x) (y : Ev C σ e d) (hn : ds.length < sizeLine) (h : P (.next ((x, .own (ds ++ [d])) :: σ)))
    (he : eval (.Call (.Attribute (.Name x p) "append" ap) [e] [] cp) C.env = (do
      let ov ← eval (.Name x p) C.env
      standAt ap.atName
      let (f, first) ← holding [ov] (getMethod ov "append" pl)
      callWith cp f first (backTo cp (starEach [e] C.env)) []) := by rfl)
    (h2 : starEach [e] C.env = (false, eval e C.env) :: starEach [] C.env := by rfl)
    (hd' : (x == ("__debug__" : Str)) = false := by decide +kernel) (hc : (x == ("__classdict__" : Str)) = false := by decide +kernel)
    (hi : interactive C.env = false := by rfl) (hs : swapsWith (.Call (.Attribute (.Name x p) "append" ap) [e] [] cp) none pos.line C.env = pure false := by rfl) :
    Ex C σ (.Expr (.Call (.Attribute (.Name x p) "append" ap) [e] [] cp) pos) P := by
  intro h₀ own s Q E F ht pp
  refine wpAny_Expr (MethodCall_ (own_name ok F e0 (fun a vs e1 e2 e3 => ?_) hd' hc) he) hi hs
  obtain ⟨nn, e2'⟩ := id e2
  refine getMethod_list_append e2' rfl rfl ?_
  refine callWith_method1 (args_cons (y h₀ own s _ E F ht fun v h₁ tk₁ k₁ t₁ r₁ => args_nil ?_) h2) h2 rfl
  have e2₁ : h₁.PlainList a vs.toArray := e2.at fun o q => k₁ _ o q
  have el := e3.1
  refine wpAny_list_append_plain e2₁ (fun h' hl hsb => ?_) (by simp; omega)
  have hl' : h'.PlainList a (vs ++ [v]).toArray := by simpa using hl
  have F' := (F.keeps k₁).mutate e1 e0 only hsb e2₁ hl' ((e3.keep k₁).append (.cons r₁ .nil))
  exact pp _ .next h' tk₁ h t₁ ⟨rfl, own, F'⟩

theorem list_pop {prog : Program} {w : World} {A : Around} {E : Value → Shared → Prop} {s : Shared} {l : Addr} {us : List Value} {u : Value} {Q : Value → Shared → Prop} (hl : s.heap.PlainList l (us ++ [u]).toArray) (hn : us.length < sizeLine)
    (hQ : ∀ h', h'.PlainList l us.toArray → Heap.SameBut l s.heap h' → Q u { s with heap := h' }) : wpAny (model prog w) A (call (.builtin "list.pop") [.ref l]) Q E s := by
  obtain ⟨n, ho⟩ := hl
  refine wpAny_call_entry PySem.F.slot_list_pop ⟨_, ho, rfl⟩ PySem.F.entry_list_pop ?_ (PySem.F.args_list_pop_1 _)
  show wpAny _ _ (Builtin.List.listItems (.ref l) >>= _) _ _ s
  refine wpAny_bind ?_
  unfold Builtin.List.listItems
  refine wpAny_bind (wpAny_seqItems ho rfl (wpAny_pure ?_))
  have e1 : (us ++ [u]).toArray.isEmpty = false := by simp
  have e2 : seqIndex? (-1) (us ++ [u]).toArray.size = some us.length := by
    rw [seqIndex_neg (by decide) (by simp; omega)]; simp; omega
  dsimp only
  rw [e1, e2]
  simp only [Bool.false_eq_true, if_false, Option.bind_some]
  have e3 : (us ++ [u]).toArray[us.length]? = some u := by simp
  rw [e3]
  simp only [Option.map_some]
  show wpAny _ _ (updateSeq l _ >>= _) _ _ s
  have e4 : (us ++ [u]).toArray.eraseIdxIfInBounds us.length = us.toArray := by
    apply Array.ext'
    simp [Array.eraseIdxIfInBounds, List.eraseIdx_append_of_length_le (Nat.le_refl _)]
  have e5 : ∃ n', Obj.mapSeq (fun xs : Array Value => xs.eraseIdxIfInBounds us.length) { cls := Value.type "list", data := Data.seq (us ++ [u]).toArray n } = { cls := Value.type "list", data := Data.seq us.toArray n' } := ⟨_, by show ({ cls := Value.type "list", data := Data.seq ((us ++ [u]).toArray.eraseIdxIfInBounds us.length) _ } : Obj) = _; rw [e4]⟩
  obtain ⟨n', e5⟩ := e5
  have e6 : (s.heap.update l (Obj.mapSeq fun xs : Array Value => xs.eraseIdxIfInBounds us.length)).PlainList l us.toArray := ⟨n', (Heap.get?_update_self _ ho rfl).trans (congrArg some e5)⟩
  exact wpAny_bind (wpAny_updateSeq ho rfl (wpAny_pure ⟨u, rfl, hQ _ e6 (Heap.SameBut.update ..)⟩) (by simp; omega) (by rw [e4]; simp; omega))
theorem Ex.pop {C : Cx} {n : Nat} (ok : C.Ok n) {σ : Vars} {x : Str} {p ap cp pos : Pos} {ds : List D} {d : Str} {pl : Sem Bool} {P : Out → Prop} (e0 : σ.lookup x = some (.own (ds ++ [.str d]))) (only : OnlyOwn σ x) (hn : ds.length < sizeLine) (h : P (.next ((x, .own ds) :: σ)))
    (he : eval (.Call (.Attribute (.Name x p) "pop" ap) [] [] cp) C.env = (do
      let ov ← eval (.Name x p) C.env
      standAt ap.atName
      let (f, first) ← holding [ov] (getMethod ov "pop" pl)
      callWith cp f first (backTo cp (starEach [] C.env)) []) := by rfl)
    (hd' : (x == ("__debug__" : Str)) = false := by decide +kernel) (hc : (x == ("__classdict__" : Str)) = false := by decide +kernel)
    (hi : interactive C.env = false := by rfl) (hs : swapsWith (.Call (.Attribute (.Name x p) "pop" ap) [] [] cp) none pos.line C.env = pure false := by rfl) :
    Ex C σ (.Expr (.Call (.Attribute (.Name x p) "pop" ap) [] [] cp) pos) P := by
  intro h₀ own s Q E F ht pp
  refine wpAny_Expr (MethodCall_ (own_name ok F e0 (fun a vs e1 e2 e3 => ?_) hd' hc) he) hi hs
  obtain ⟨nn, e2'⟩ := id e2
  refine getMethod_builtin e2.isList.typeIs PySem.F.plainAttrs_list PySem.F.slot_list_pop PySem.F.type_list_pop (fun b q => by cases q; exact ⟨_, e2', rfl⟩) ?_
  refine callWith_method0 ?_
  have el := e3.1
  obtain ⟨us, u, rfl⟩ : ∃ us u, vs = us ++ [u] := by
    have hne : vs ≠ [] := by intro z; rw [z] at el; simp at el
    exact ⟨vs.dropLast, vs.getLast hne, (List.dropLast_concat_getLast hne).symm⟩
  have el' : ds.length = us.length := by simpa using el
  have hu : R s.heap (own.toList ++ C.av) (.str d) u := e3.2 ds.length _ _ (by simp) (by simp [el'])
  obtain ⟨t, rfl⟩ := hu.inv_str
  refine list_pop e2 (by omega) fun h' hl hsb => ?_
  have rs : Rs s.heap (own.toList ++ C.av) ds us := ⟨el', fun i d' v a b => e3.2 i d' v (by rw [List.getElem?_append_left ((List.getElem?_eq_some_iff.mp a).1)]; exact a) (by rw [List.getElem?_append_left ((List.getElem?_eq_some_iff.mp b).1)]; exact b)⟩
  have F' := F.mutate e1 e0 only hsb e2 hl rs
  exact pp _ .next h' s.toks h ht ⟨rfl, own, F'⟩

theorem Run.freeze {C : Cx} {σ : Vars} {t : Sem Flow} {P : Out → Prop} {x : Str} {ds : List D} (e0 : σ.lookup x = some (.own ds)) (only : OnlyOwn σ x) (h : Run C ((x, .val (.list ds)) :: σ) t P) : Run C σ t P := by
  intro h₀ own s Q E F ht pp
  refine h h₀ none s Q E ?_ ht pp
  obtain ⟨m, hn, hv⟩ := F.ns
  refine ⟨F.ground, F.keep, F.loc, F.cel, (fun a e => by cases e), F.avIn, F.cells, m, hn, fun y sl e => ?_⟩
  by_cases hy : y = x
  · subst hy
    rw [lookup_cons_eq] at e; cases e
    obtain ⟨v, b, q⟩ := hv y _ e0
    obtain ⟨a, us, rfl, e1, e2, e3⟩ := q
    refine ⟨_, b, R.list (fun q => ?_) e2.isList e3.1 fun i d v p q => (e3.2 i d v p q).weak fun a ha => List.mem_append_right _ ha⟩
    obtain ⟨o, e4⟩ := F.avIn a q
    rw [(F.ownNew a e1).1] at e4; cases e4
  · rw [lookup_cons_ne hy] at e
    obtain ⟨v, b, q⟩ := hv y sl e
    refine ⟨v, b, ?_⟩
    cases sl with
    | own ds => exact absurd (only y ds e) hy
    | val d => exact R.weak q fun a ha => List.mem_append_right _ ha
end Mine
end

section
open PySem PySem.Calls PyProof.Rows PySem.W
set_option maxRecDepth 100000
namespace Mine

/-- an iterator I that will give the data ds -/
def WalkAt (C : Cx) (mu : List Addr) (ds : List D) (I : Addr) (h : Heap) : Prop :=
  ∃ (fp : List Addr) (P : Nat → Value → Prop) (St : Nat → Heap → Prop), Walks C.prog C.w C.A I fp [I] ds.length P St ∧ St 0 h ∧ (∀ b ∈ fp, b < h.objs.size) ∧
    (∀ b ∈ fp, b = I ∨ (b ∉ mu ∧ ∃ vs, h.IsList b vs) ∨ ∃ vs, h.IsTuple b vs) ∧
    (∀ i h', St i h' → ∃ o vs, h'.get? I = some o ∧ o.data = .fields vs) ∧
    (∀ i v, P i v → ∃ d, ds[i]? = some d ∧ R h mu d v) ∧
    (∀ i elts k pos T s Q E, St i s.heap → Q () s → wpAny (model C.prog C.w) C.A (letOwnedTupleGo (.Tuple elts k pos) (.ref I) (.ref T)) Q E s)
def Iter (C : Cx) (σ : Vars) (e : Expr) (ds : List D) : Prop :=
  ∀ h₀ own s (Q : Value → Shared → Prop) E, FS C h₀ own σ s.heap → 1 ≤ s.toks →
    (∀ I h' tk, Keep s.heap h' → 1 ≤ tk → s.heap.get? I = none → WalkAt C (own.toList ++ C.av) ds I h' → Q (.ref I) { s with heap := h', toks := tk }) →
    wpAny (model C.prog C.w) C.A (eval e C.env) (fun x s₁ => wpAny (model C.prog C.w) C.A (pyIter x) Q E s₁) E s

theorem letGo_fields {prog : Program} {w : World} {A : Around} {elts : List Expr} {k : Nat} {pos : Pos} {I T : Addr} {s : Shared} {Q : Unit → Shared → Prop} {E : Value → Shared → Prop} {o : Obj} {c : String} (ho : s.heap.get? I = some o) (hc : o.cls = .type c)
    (hn : ["enumerate", "zip", "dict_itemiterator", "dict_reverseitemiterator", "odict_iterator", "itertools.zip_longest", "itertools.pairwise"].contains c = false) (hQ : Q () s) :
    wpAny (model prog w) A (letOwnedTupleGo (.Tuple elts k pos) (.ref I) (.ref T)) Q E s := by
  unfold letOwnedTupleGo
  refine wpAny_bind (wpAny_load ho ?_)
  rw [hc]
  cases o.data <;> first | exact wpAny_pure hQ | (simp only [hn, Bool.false_and, Bool.false_eq_true, if_false]; exact wpAny_pure hQ)

theorem Iter.list {C : Cx} {n : Nat} (ok : C.Ok n) {σ : Vars} {e : Expr} {ds : List D} (x : Ev C σ e (.list ds)) : Iter C σ e ds := by
  intro h₀ own s Q E F ht p
  refine x h₀ own s _ E F ht fun v h₁ tk₁ k₁ t₁ r₁ => ?_
  obtain ⟨l, vs, rfl, hm, hl, hs⟩ := r₁.inv_list
  have hlt : l < h₁.objs.size := by obtain ⟨_, q, _⟩ := hl; exact Heap.lt_size q
  have k := Keep.push h₁ { cls := .type "list_iterator", data := .fields #[.ref l, .int 0 0] }
  refine wpAny_pyIter_list hl (p _ _ tk₁ (k₁.trans k) t₁ ?_ ?_)
  · exact none_of_keep k₁
  · refine ⟨[h₁.objs.size, l], fun i v => vs.toArray[i]? = some v, fun i h => h.IsListIter h₁.objs.size l i ∧ h.IsList l vs.toArray, ?_, ⟨⟨_, Heap.get?_push_size _ rfl, rfl, rfl⟩, hl.push _⟩, ?_, ?_, ?_, ?_, ?_⟩
    · have W := Walks.list (prog := C.prog) (w := C.w) (A := C.A) ok.room.hd h₁.objs.size l (Nat.ne_of_lt hlt) vs.toArray
      rw [show vs.toArray.size = ds.length by simp [hs.1]] at W
      exact W
    · intro b hb
      simp only [Heap.size_push]
      rcases List.mem_cons.mp hb with rfl | hb
      · exact Nat.lt_succ_self _
      · rcases List.mem_cons.mp hb with rfl | hb
        · exact Nat.lt_succ_of_lt hlt
        · cases hb
    · intro b hb
      rcases List.mem_cons.mp hb with rfl | hb
      · exact .inl rfl
      · rcases List.mem_cons.mp hb with rfl | hb
        · exact .inr (.inl ⟨hm, _, hl.push _⟩)
        · cases hb
    · intro i h' st
      obtain ⟨o, e1, e2, e3⟩ := st.1
      exact ⟨o, _, e1, e3⟩
    · intro i v hv
      have hi : i < vs.length := by simpa using (Array.getElem?_eq_some_iff.mp hv).1
      have hd : i < ds.length := hs.1 ▸ hi
      exact ⟨ds[i], by simp [hd], (hs.2 i _ v (by simp [hd]) (by simpa using hv)).keep k⟩
    · intro i elts kk pos T s Q E st hQ
      obtain ⟨o, e1, e2, e3⟩ := st.1
      exact letGo_fields e1 e2 (by decide) hQ

theorem Iter.tuple {C : Cx} {n : Nat} (ok : C.Ok n) {σ : Vars} {e : Expr} {ds : List D} (x : Ev C σ e (.tup ds)) : Iter C σ e ds := by
  intro h₀ own s Q E F ht p
  refine x h₀ own s _ E F ht fun v h₁ tk₁ k₁ t₁ r₁ => ?_
  obtain ⟨l, vs, rfl, hl, hs⟩ := r₁.inv_tup
  have hlt : l < h₁.objs.size := by obtain ⟨_, q, _⟩ := hl; exact Heap.lt_size q
  have k := Keep.push h₁ { cls := .type "tuple_iterator", data := .fields #[.ref l, .int 0 0] }
  have hl' := hl.at fun o e => k _ o e
  refine wpAny_pyIter_tuple hl (p _ _ tk₁ (k₁.trans k) t₁ ?_ ?_)
  · exact none_of_keep k₁
  · refine ⟨[h₁.objs.size, l], fun i v => vs.toArray[i]? = some v, fun i h => h.IsTupleIter h₁.objs.size l i ∧ h.IsTuple l vs.toArray, ?_, ⟨⟨_, Heap.get?_push_size _ rfl, rfl, rfl⟩, hl'⟩, ?_, ?_, ?_, ?_, ?_⟩
    · have W := Walks.tuple (prog := C.prog) (w := C.w) (A := C.A) ok.room.hd h₁.objs.size l (Nat.ne_of_lt hlt) vs.toArray
      rw [show vs.toArray.size = ds.length by simp [hs.1]] at W
      exact W
    · intro b hb
      simp only [Heap.size_push]
      rcases List.mem_cons.mp hb with rfl | hb
      · exact Nat.lt_succ_self _
      · rcases List.mem_cons.mp hb with rfl | hb
        · exact Nat.lt_succ_of_lt hlt
        · cases hb
    · intro b hb
      rcases List.mem_cons.mp hb with rfl | hb
      · exact .inl rfl
      · rcases List.mem_cons.mp hb with rfl | hb
        · exact .inr (.inr ⟨_, hl'⟩)
        · cases hb
    · intro i h' st
      obtain ⟨o, e1, e2, e3⟩ := st.1
      exact ⟨o, _, e1, e3⟩
    · intro i v hv
      have hi : i < vs.length := by simpa using (Array.getElem?_eq_some_iff.mp hv).1
      have hd : i < ds.length := hs.1 ▸ hi
      exact ⟨ds[i], by simp [hd], (hs.2 i _ v (by simp [hd]) (by simpa using hv)).keep k⟩
    · intro i elts kk pos T s Q E st hQ
      obtain ⟨o, e1, e2, e3⟩ := st.1
      exact letGo_fields e1 e2 (by decide) hQ

/-- range(a, b) -/
def EvR (C : Cx) (σ : Vars) (e : Expr) (a b : Int) : Prop :=
  ∀ h₀ own s (Q : Value → Shared → Prop) E, FS C h₀ own σ s.heap → 1 ≤ s.toks →
    (∀ r t u v h' tk, Keep s.heap h' → 1 ≤ tk → IsRange h' r a b 1 t u v → Q (.ref r) { s with heap := h', toks := tk }) → wpAny (model C.prog C.w) C.A (eval e C.env) Q E s
theorem EvR.one {C : Cx} {σ : Vars} {f e : Expr} {pos : Pos} {b : Int} (x : Evf C σ f (.type "range")) (y : Ev C σ e (.int b))
    (h1 : eval (.Call f [e] [] pos) C.env = (do callWith pos (← eval f C.env) [] (backTo pos (starEach [e] C.env)) (backToKw pos (keywordEach [] C.env))) := by rfl)
    (h2 : starEach [e] C.env = (false, eval e C.env) :: starEach [] C.env := by rfl) : EvR C σ (.Call f [e] [] pos) 0 b := by
  intro h₀ own s Q E F ht p
  refine Call_ (x h₀ own s _ E F ?_) h1
  refine PyProof.Rows.callWith_type1 (args_cons (y h₀ own s _ E F ht fun v h₁ tk₁ k₁ t₁ r₁ => args_nil ?_) h2) h2 rfl
  obtain ⟨t, rfl⟩ := r₁.inv_int
  refine call_range_1 (p _ _ _ _ _ _ (k₁.trans (Keep.push _ _)) ?_ (Heap.get?_push_size _ rfl))
  show 1 ≤ tk₁ + 1 + 1; omega
theorem EvR.two {C : Cx} {σ : Vars} {f e e' : Expr} {pos : Pos} {a b : Int} (x : Evf C σ f (.type "range")) (z : Ev C σ e (.int a)) (y : Ev C σ e' (.int b))
    (h1 : eval (.Call f [e, e'] [] pos) C.env = (do callWith pos (← eval f C.env) [] (backTo pos (starEach [e, e'] C.env)) (backToKw pos (keywordEach [] C.env))) := by rfl)
    (h2 : starEach [e, e'] C.env = (false, eval e C.env) :: starEach [e'] C.env := by rfl) (h3 : starEach [e'] C.env = (false, eval e' C.env) :: starEach [] C.env := by rfl) (h4 : (backTo pos (starEach [e'] C.env)).any (·.1) = false := by rfl) : EvR C σ (.Call f [e, e'] [] pos) a b := by
  intro h₀ own s Q E F ht p
  refine Call_ (x h₀ own s _ E F ?_) h1
  refine PyProof.Rows.callWith_type1 (args_cons (z h₀ own s _ E F ht fun v h₁ tk₁ k₁ t₁ r₁ => args_cons (y h₀ own _ _ E (F.keeps k₁) t₁ fun v₂ h₂ tk₂ k₂ t₂ r₂ => args_nil ?_) h3) h2) h2 h4
  obtain ⟨t, rfl⟩ := r₁.inv_int
  obtain ⟨u, rfl⟩ := r₂.inv_int
  refine call_range_2 (p _ _ _ _ _ _ ((k₁.trans k₂).trans (Keep.push _ _)) ?_ (Heap.get?_push_size _ rfl))
  show 1 ≤ tk₂ + 1; omega

theorem walks_bound {prog : Program} {w : World} {A : Around} {I : Addr} {fp wr : List Addr} {n : Nat} {P : Nat → Value → Prop} {St : Nat → Heap → Prop} (W : Walks prog w A I fp wr n P St) : Walks prog w A I fp wr n (fun i v => i < n ∧ P i v) St where
  sub := W.sub
  frame := W.frame
  item := fun i s Q E hi st hQ => W.item i s Q E hi st fun v h' tk hp => hQ v h' tk ⟨hi, hp⟩
  done := W.done
  self := W.self
def rangeD (a b : Int) : List D := (List.range (b - a).toNat).map fun i => D.int (a + (i : Nat))
theorem rangeD_length (a b : Int) : (rangeD a b).length = (b - a).toNat := by simp [rangeD]

theorem Iter.range {C : Cx} {n : Nat} (ok : C.Ok n) {σ : Vars} {e : Expr} {a b : Int} (x : EvR C σ e a b) (ha : -(2 ^ 62) ≤ a) (ha' : a < 2 ^ 62) (hb : -(2 ^ 62) ≤ b) (hb' : b < 2 ^ 62) : Iter C σ e (rangeD a b) := by
  intro h₀ own s Q E F ht p
  refine x h₀ own s _ E F ht fun r t u v h₁ tk₁ k₁ t₁ hr => ?_
  have k := Keep.push h₁ { cls := .type "range_iterator", data := .fields #[rawInt a, rawInt (Builtin.Range.rangeSize a b 1), rawInt 1] }
  have hN : Builtin.Range.rangeSize a b 1 = (((b - a).toNat : Nat) : Int) := by rw [rangeSize_one]; split <;> omega
  refine wpAny_pyIter_range hr (small_one ha ha' hb hb') (p _ _ tk₁ (k₁.trans k) t₁ (none_of_keep k₁) ?_)
  refine ⟨[h₁.objs.size], fun i v => i < (b - a).toNat ∧ ∃ t, v = Value.int (a + i * 1) t, fun i h => IsRangeIter h h₁.objs.size (a + (i : Nat) * 1) (((b - a).toNat : Int) - (i : Nat)) 1, ?_, ?_, ?_, ?_, ?_, ?_, ?_⟩
  · rw [rangeD_length]
    exact walks_bound (Walks.range (prog := C.prog) (w := C.w) (A := C.A) ok.room.hd h₁.objs.size a 1 (b - a).toNat)
  · show IsRangeIter _ _ _ _ _
    rw [hN]
    simpa using Heap.get?_push_size h₁ rfl
  · intro b hb
    rw [List.mem_singleton.mp hb]
    simp [Heap.size_push]
  · intro b hb
    exact .inl (List.mem_singleton.mp hb)
  · intro i h' st
    exact ⟨_, _, st, rfl⟩
  · rintro i v ⟨hi, t, rfl⟩
    refine ⟨.int (a + (i : Nat)), by simp [rangeD, hi], ?_⟩
    have : a + (i : Int) * 1 = a + (i : Int) := by omega
    rw [this]
    exact .int _ _
  · intro i elts kk pos T s Q E st hQ
    exact letGo_fields st rfl (by decide) hQ
end Mine
end

section
open PySem PySem.Calls PyProof.Rows PySem.W
set_option maxRecDepth 100000
namespace Mine

theorem FS.base {C : Cx} {h₀ h₁ h : Heap} {own : Option Addr} {σ : Vars} (F : FS C h₀ own σ h) (g : Keep C.hG h₁) (k : Keep h₁ h₀) (av : ∀ a ∈ C.av, ∃ o, h₁.get? a = some o) : FS C h₁ own σ h := by
  have no : ∀ a, h₀.get? a = none → h₁.get? a = none := fun a e => by
    cases q : h₁.get? a with
    | none => rfl
    | some o => rw [k _ _ q] at e; cases e
  exact ⟨g, k.trans F.keep, no _ F.loc, fun hr => ⟨fun p hp => no _ ((F.cel hr).1 p hp), (F.cel hr).2⟩, fun a e => ⟨no _ (F.ownNew a e).1, (F.ownNew a e).2⟩, av, F.cells, F.ns⟩

theorem FS.ext {C : Cx} {h₀ h h' : Heap} {own : Option Addr} {σ : Vars} {a : Addr} {o : Obj} {vs : Array Value} (F : FS C h₀ own σ h) (hs : ∀ b o, b ≠ a → h.get? b = some o → h'.get? b = some o) (h0 : h₀.get? a = none) (ho : h.get? a = some o) (hd : o.data = .fields vs) : FS C h₀ own σ h' := by
  have nl : ∀ b us, h.IsList b us → b ≠ a := fun b us ⟨o', e, _, n, e'⟩ z => by
    rw [z, ho] at e; cases e; rw [hd] at e'; cases e'
  have nt : ∀ b us, h.IsTuple b us → b ≠ a := fun b us ⟨o', e, _, n, e'⟩ z => by
    rw [z, ho] at e; cases e; rw [hd] at e'; cases e'
  have nn : ∀ b m, h.Ns b m → b ≠ a := fun b m ⟨o', es, ep, e, e', _⟩ z => by
    rw [z, ho] at e; cases e; rw [hd] at e'; cases e'
  have nc : ∀ b v, h.IsCell b v → b ≠ a := fun b v ⟨o', e, e'⟩ z => by
    rw [z, ho] at e; cases e; rw [hd] at e'; cases e'
  have kl : ∀ b us, h.IsList b us → h'.IsList b us := fun b us q => q.at fun o e => hs b o (nl b us q) e
  have kt : ∀ b us, h.IsTuple b us → h'.IsTuple b us := fun b us q => q.at fun o e => hs b o (nt b us q) e
  obtain ⟨m, hn, hv⟩ := F.ns
  refine ⟨F.ground, fun b o' e => hs b o' (fun z => ?_) (F.keep b o' e), F.loc, F.cel, fun b e => ?_, F.avIn, fun p hp => ?_, m, hn.at' fun o e => hs _ o (nn _ _ hn) e, fun y sl e => ?_⟩
  · rw [z, h0] at e; cases e
  · obtain ⟨p, us, q⟩ := F.ownNew b e
    exact ⟨p, us, q.at fun o e => hs b o (nl b us q.isList) e⟩
  · obtain ⟨v, q⟩ := F.cells p hp
    exact ⟨v, let ⟨o, x, y⟩ := q; ⟨o, hs _ o (nc _ _ q) x, y⟩⟩
  · obtain ⟨v, b, q⟩ := hv y sl e
    refine ⟨v, ?_, ?_⟩
    · rcases b with b | ⟨b1, c, b2, b3⟩
      · exact .inl b
      · exact .inr ⟨b1, c, b2, let ⟨o, x, y⟩ := b3; ⟨o, hs c o (nc _ _ b3) x, y⟩⟩
    · cases sl with
      | val d => exact R.change q (fun b us x _ => kl b us x) kt
      | own ds =>
        obtain ⟨b, us, e1, e2, e3, e4⟩ := q
        exact ⟨b, us, e1, e2, e3.at fun o e => hs b o (nl b _ e3.isList) e, e4.change (fun b us x _ => kl b us x) kt⟩

/-- what the frame may change -/
def mutables (C : Cx) (own : Option Addr) : List Addr := C.env.locals :: (C.env.cells.map (·.2) ++ own.toList)
theorem FS.hidden {C : Cx} {h₀ h : Heap} {own : Option Addr} {σ : Vars} (F : FS C h₀ own σ h) (hro : C.ro = false) {more : List Addr} (hm : ∀ a ∈ more, h₀.get? a = none) : Keep h₀ (hideAll h (mutables C own ++ more)) ∧ FS C (hideAll h (mutables C own ++ more)) own σ h := by
  have k : Keep h₀ (hideAll h (mutables C own ++ more)) := fun b o e => by
    refine hideAll_get _ (F.keep b o e) fun q => ?_
    rcases List.mem_append.mp q with q | q
    · unfold mutables at q
      rcases List.mem_cons.mp q with q | q
      · rw [q, F.loc] at e; cases e
      · rcases List.mem_append.mp q with q | q
        · obtain ⟨p, hp, rfl⟩ := List.mem_map.mp q
          rw [(F.cel hro).1 p hp] at e; cases e
        · have : own = some b := by cases own <;> simp at q; simp [q]
          rw [(F.ownNew b this).1] at e; cases e
    · rw [hm b q] at e; cases e
  refine ⟨k, F.ground.trans k, fun b o e => of_hideAll _ e, hideAll_none _ (by simp [mutables]), fun hr => ⟨fun p hp => hideAll_none _ ?_, (F.cel hr).2⟩, fun a e => ⟨hideAll_none _ ?_, (F.ownNew a e).2⟩, fun a ha => ?_, F.cells, F.ns⟩
  · refine List.mem_append_left _ (List.mem_cons_of_mem _ (List.mem_append_left _ (List.mem_map_of_mem hp)))
  · refine List.mem_append_left _ (List.mem_cons_of_mem _ (List.mem_append_right _ ?_))
    rw [e]; simp
  · obtain ⟨o, e⟩ := F.avIn a ha
    exact ⟨o, k _ _ e⟩
/-- what is no dict of locals, no cell, not the own list is not hidden -/
theorem not_mutable {C : Cx} {h₀ h : Heap} {own : Option Addr} {σ : Vars} (F : FS C h₀ own σ h) {b : Addr} {o : Obj} (ho : h.get? b = some o) (hd : (∃ vs, o.data = .fields vs) ∨ ((∃ vs n, o.data = .seq vs n) ∧ ∀ a, own = some a → b ≠ a))   : b ∉ mutables C own := by
  intro q
  obtain ⟨m, hn, _⟩ := F.ns
  unfold mutables at q
  rcases List.mem_cons.mp q with q | q
  · obtain ⟨o', es, ep, e, e', _⟩ := hn
    rw [← q, ho] at e; cases e
    rcases hd with ⟨vs, hd⟩ | ⟨⟨vs, n, hd⟩, _⟩ <;> (rw [hd] at e'; cases e')
  · rcases List.mem_append.mp q with q | q
    · obtain ⟨p, hp, rfl⟩ := List.mem_map.mp q
      obtain ⟨v, o', e, e'⟩ := F.cells p hp
      rw [ho] at e; cases e
      rcases hd with ⟨vs, hd⟩ | ⟨⟨vs, n, hd⟩, _⟩ <;> (rw [hd] at e'; cases e')
    · have : own = some b := by cases own <;> simp at q; simp [q]
      rcases hd with ⟨vs, hd⟩ | ⟨_, hd⟩
      · obtain ⟨_, us, n, e⟩ := F.ownNew b this
        rw [ho] at e; cases e; cases hd
      · exact hd b this rfl

def AsTo (C : Cx) (σ : Vars) (tgt : Expr) (d : D) (σ' : Vars) : Prop :=
  ∀ h₀ own s v (Q : Unit → Shared → Prop) E, FS C h₀ own σ s.heap → 1 ≤ s.toks → R s.heap (own.toList ++ C.av) d v → (∀ h' tk, FS C h₀ own σ' h' → 1 ≤ tk → Q () { s with heap := h', toks := tk }) → wpAny (model C.prog C.w) C.A (assign tgt C.env v) Q E s
theorem AsTo.name {C : Cx} {n : Nat} (ok : C.Ok n) {σ : Vars} {x : Str} {p : Pos} {d : D} (st : Sto C σ x) : AsTo C σ (.Name x p) d ((x, .val d) :: σ) := by
  intro h₀ own s v Q E F ht r pp
  exact wpAny_assign_Name (F.store ok ht (v := v) (sl := .val d) r (st.here F) pp)
theorem AsTo.pair {C : Cx} {n : Nat} (ok : C.Ok n) {σ : Vars} {x y : Str} {p q pos : Pos} {k : Nat} {d e : D} (sx : Sto C σ x) (sy : Sto C ((x, .val d) :: σ) y) : AsTo C σ (.Tuple [.Name x p, .Name y q] k pos) (.tup [d, e]) ((y, .val e) :: (x, .val d) :: σ) := by
  intro h₀ own s v Q E F ht r pp
  obtain ⟨a, vs, rfl, hl, hs⟩ := r.inv_tup
  obtain ⟨v₁, us, rfl, r₁, hs⟩ := hs.inv_cons
  obtain ⟨v₂, us, rfl, r₂, hs⟩ := hs.inv_cons
  rw [hs.inv_nil] at hl
  refine wpAny_assign_Tuple ok.room.hd hl rfl rfl fun h' hx => ?_
  have K : Keep s.heap h' := fun b o e => hx b o (Nat.ne_of_lt (Heap.lt_size e)) e
  show wpAny _ _ (assignInOrder [assign (.Name x p) C.env, assign (.Name y q) C.env] [v₁, v₂]) _ _ _
  refine wpAny_bind (wpAny_holding (wpAny_assign_Name (FS.store' ok (s := { s with heap := h' }) (F.keeps K) ht (v := v₁) (sl := .val d) (r₁.keep K) (sx.here (F.keeps K)) fun h₂ tk₂ F₂ t₂ kr => ?_)))
  refine wpAny_bind (wpAny_holding (AsTo.name ok sy h₀ own _ v₂ _ E F₂ t₂ (kr _ _ (r₂.keep K)) fun h₃ tk₃ F₃ t₃ => ?_))
  exact wpAny_pure (pp h₃ tk₃ F₃ t₃)

theorem letgo_any {C : Cx} {tgt : Expr} (ht : (∃ x p, tgt = .Name x p) ∨ ∃ elts k pos, tgt = .Tuple elts k pos) {I : Addr} {v : Value} {s : Shared} {Q : Unit → Shared → Prop} {E : Value → Shared → Prop}
    (hgo : ∀ elts k pos T (Q : Unit → Shared → Prop) E, Q () s → wpAny (model C.prog C.w) C.A (letOwnedTupleGo (.Tuple elts k pos) (.ref I) (.ref T)) Q E s) (hQ : Q () s) : wpAny (model C.prog C.w) C.A (letOwnedTupleGo tgt (.ref I) v) Q E s := by
  rcases ht with ⟨x, p, rfl⟩ | ⟨elts, k, pos, rfl⟩
  · exact wpAny_pure hQ
  · cases v with
    | ref T => exact hgo elts k pos T Q E hQ
    | _ => exact wpAny_pure hQ

theorem Ex.for_ {C : Cx} {n : Nat} (ok : C.Ok n) (hro : C.ro = false) {σ : Vars} {tgt iter : Expr} {body : List Stmt} {pos : Pos} {ds : List D} {I : List D → Vars → Prop} {P : Out → Prop}
    (hi : Iter C σ iter ds) (hT : (∃ x p, tgt = .Name x p) ∨ ∃ elts k pos, tgt = .Tuple elts k pos) (h0 : I [] σ)
    (turn : ∀ pre d post σ₁, ds = pre ++ d :: post → I pre σ₁ → ∃ σ₂, AsTo C σ₁ tgt d σ₂ ∧ Exs C σ₂ body (fun o => match o with
      | .next σ' => ∃ σ'', (∀ x sl, σ''.lookup x = some sl → σ'.lookup x = some sl) ∧ I (pre ++ [d]) σ''
      | .cont σ' => ∃ σ'', (∀ x sl, σ''.lookup x = some sl → σ'.lookup x = some sl) ∧ I (pre ++ [d]) σ''
      | .brk σ' => P (.next σ')
      | .ret r => P (.ret r)))
    (done : ∀ σ₁, I ds σ₁ → P (.next σ₁)) (hs : ∀ x, foldedSetIterable iter C.env x = pure x := by intro _; rfl) : Ex C σ (.For tgt iter body [] pos) P := by
  intro h₀ own s Q E F ht pp
  refine wpAny_For (hi h₀ own s _ E F ht fun J h₁ tk₁ k₁ t₁ hJ WA => ?_) hs
  obtain ⟨fp, PP, St, W, st0, hlt, hfp, hcls, hit, hgo⟩ := WA
  have F₁ := F.keeps k₁
  have hJ0 : h₀.get? J = none := by
    cases q : h₀.get? J with
    | none => rfl
    | some o => rw [F.keep _ _ q] at hJ; cases hJ
  obtain ⟨kI, FI⟩ := F₁.hidden hro (more := [J]) (fun a ha => by rw [List.mem_singleton.mp ha]; exact hJ0)
  generalize hhI : hideAll h₁ (mutables C own ++ [J]) = hI at kI FI
  have hJI : hI.get? J = none := by rw [← hhI]; exact hideAll_none _ (by simp)
  -- lists and tuples that stand apart are not hidden
  have notJ : ∀ b o, h₁.get? b = some o → (∃ vs n, o.data = .seq vs n) → b ≠ J := fun b o e ⟨vs, n, hd⟩ z => by
    obtain ⟨o', us, e1, e2⟩ := hcls 0 h₁ st0
    rw [z, e1] at e; cases e; rw [hd] at e2; cases e2
  have keepI : ∀ b o, h₁.get? b = some o → (∃ vs n, o.data = .seq vs n) → (∀ a, own = some a → b ≠ a) → hI.get? b = some o := fun b o e hd ha => by
    rw [← hhI]
    refine hideAll_get _ e fun q => ?_
    rcases List.mem_append.mp q with q | q
    · exact not_mutable F₁ e (.inr ⟨hd, ha⟩) q
    · exact notJ b o e hd (List.mem_singleton.mp q)
  have items : ∀ i v, PP i v → ∃ d, ds[i]? = some d ∧ R hI C.av d v := fun i v hp => by
    obtain ⟨d, e, r⟩ := hit i v hp
    refine ⟨d, e, R.weak (mu := own.toList ++ C.av) (r.change (fun b us ⟨o, q1, q2, nn, q3⟩ hb => ?_) fun b us ⟨o, q1, q2, nn, q3⟩ => ?_) fun a ha => List.mem_append_right _ ha⟩
    · exact ⟨o, keepI b o q1 ⟨us, nn, q3⟩ (fun a ea z => hb (by rw [ea, z]; simp)), q2, nn, q3⟩
    · refine ⟨o, keepI b o q1 ⟨us, nn, q3⟩ (fun a ea z => ?_), q2, nn, q3⟩
      obtain ⟨_, us', n', e'⟩ := F₁.ownNew a ea
      rw [z, e'] at q1; cases q1; simp at q2
  have fpI : ∀ b ∈ fp, b ≠ J → ∃ o, hI.get? b = some o ∧ ∃ vs n, o.data = .seq vs n := fun b hb hbJ => by
    rcases hfp b hb with e | ⟨hmu, vs, q⟩ | ⟨vs, q⟩
    · exact absurd e hbJ
    · obtain ⟨o, q1, q2, n, q3⟩ := q
      exact ⟨o, keepI b o q1 ⟨_, n, q3⟩ (fun a ea z => hmu (by rw [ea, z]; simp)), _, n, q3⟩
    · obtain ⟨o, q1, q2, n, q3⟩ := q
      refine ⟨o, keepI b o q1 ⟨_, n, q3⟩ (fun a ea z => ?_), _, n, q3⟩
      obtain ⟨_, us', n', e'⟩ := F₁.ownNew a ea
      rw [z, e'] at q1; cases q1; simp at q2
  refine codeAny_forLoop_any (fun k s' => ∃ i h' tk σ' own', s' = { s with heap := h', toks := tk } ∧ FS C hI own' σ' h' ∧ I (ds.take i) σ' ∧ St i h' ∧ 1 ≤ tk ∧ i ≤ ds.length ∧ k = ds.length + 1 - i) ?_ (ds.length + 1)
    ⟨0, h₁, tk₁, σ, own, rfl, FI, by simpa using h0, st0, t₁, Nat.zero_le _, rfl⟩
  rintro k s' ⟨i, h', tk, σ', own', rfl, F', hI', st', t', hle, rfl⟩
  by_cases hlt : i < ds.length
  · refine wpAny_with_toks (n := 1) t' (W.item i _ _ _ hlt st' fun v h₂ tk₂ hp st₂ hk₂ t₂ => ?_)
    obtain ⟨oJ, vJ, eJ, dJ⟩ := hcls i h' st'
    have F₂ : FS C hI own' σ' h₂ := F'.ext (a := J) (fun b o hb e => hk₂ b o (by simpa using hb) e) hJI eJ dJ
    refine letgo_any hT (fun elts kk pos T Q E hQ => hgo (i + 1) elts kk pos T _ Q E st₂ hQ) ?_
    obtain ⟨d, ed, r⟩ := items i v hp
    have hds : ds = ds.take i ++ d :: ds.drop (i + 1) := by
      rw [List.getElem?_eq_some_iff] at ed
      obtain ⟨hlt', e⟩ := ed
      rw [← e, ← List.drop_eq_getElem_cons, List.take_append_drop]
    have htk : ds.take (i + 1) = ds.take i ++ [d] := by simp [List.take_add_one, ed]
    obtain ⟨σ₂, as, ex⟩ := turn _ d _ σ' hds hI'
    obtain ⟨kB, FB⟩ := F₂.hidden hro (more := []) (fun a ha => nomatch ha)
    generalize hhB : hideAll h₂ (mutables C own' ++ []) = hB at kB FB
    have r₂ : R h₂ (own'.toList ++ C.av) d v := by
      refine R.keep ?_ F₂.keep
      cases own' with
      | none => exact r
      | some a => exact r.join (F₂.ownNew a rfl).1
    refine as hB own' _ v _ _ FB t₂ r₂ fun h₃ tk₃ F₃ t₃ => ?_
    refine ex hB own' _ _ _ F₃ t₃ fun o fl h₄ tk₄ ho t₄ okk => ?_
    -- the iterator and what it walks stand
    have keepB : Keep hB h₄ → St (i + 1) h₄ := fun kk => by
      refine W.frame _ _ _ st₂ fun b hb ob e => ?_
      refine kk b ob ?_
      rw [← hhB]
      refine hideAll_get _ e fun q => ?_
      rw [List.append_nil] at q
      by_cases hbJ : b = J
      · obtain ⟨oJ, vJ, eJ, dJ⟩ := hcls (i + 1) h₂ st₂
        subst hbJ
        exact not_mutable F₂ eJ (.inl ⟨vJ, dJ⟩) q
      · obtain ⟨o', q1, q2⟩ := fpI b hb hbJ
        have := F₂.keep _ _ q1
        refine not_mutable F₂ this (.inr ⟨q2, fun a ea z => ?_⟩) q
        have := (F₂.ownNew a ea).1
        rw [← z, q1] at this; cases this
    have back : ∀ {own'' σ''}, FS C hB own'' σ'' h₄ → FS C hI own'' σ'' h₄ := fun f => f.base (FI.ground) kB FI.avIn
    cases o with
    | next σ₃ =>
      obtain ⟨rfl, own₃, f₃⟩ := okk
      obtain ⟨σ₄, hsub, hI4⟩ := ho
      exact ⟨ds.length + 1 - (i + 1), by omega, i + 1, h₄, tk₄, σ₄, own₃, rfl, (back f₃).sub hsub, by rw [htk]; exact hI4, keepB f₃.keep, t₄, hlt, rfl⟩
    | cont σ₃ =>
      obtain ⟨rfl, own₃, f₃⟩ := okk
      obtain ⟨σ₄, hsub, hI4⟩ := ho
      exact ⟨ds.length + 1 - (i + 1), by omega, i + 1, h₄, tk₄, σ₄, own₃, rfl, (back f₃).sub hsub, by rw [htk]; exact hI4, keepB f₃.keep, t₄, hlt, rfl⟩
    | brk σ₃ =>
      obtain ⟨rfl, own₃, f₃⟩ := okk
      exact pp _ .next h₄ tk₄ ho t₄ ⟨rfl, own₃, (back f₃).base F.ground kI F.avIn⟩
    | ret d' =>
      obtain ⟨v', rfl, kk, rr⟩ := okk
      exact pp _ _ h₄ tk₄ ho t₄ ⟨v', rfl, (kI.trans kB).trans kk, rr⟩
  · have hin : i = ds.length := by omega
    subst hin
    refine wpAny_with_toks (n := 1) t' (W.done _ _ _ st' fun h₂ tk₂ hk₂ t₂ => ?_)
    obtain ⟨oJ, vJ, eJ, dJ⟩ := hcls _ h' st'
    have F₂ : FS C hI own' σ' h₂ := F'.ext (a := J) (fun b o hb e => hk₂ b o (by simpa using hb) e) hJI eJ dJ
    rw [List.take_length] at hI'
    exact wpAny_execs_nil (pp _ .next h₂ tk₂ (done σ' hI') t₂ ⟨rfl, own', F₂.base F.ground kI F.avIn⟩)
end Mine
end

section
open PySem PySem.Calls PyProof.Rows PySem.W
set_option maxRecDepth 100000
set_option linter.unusedVariables false
namespace Mine

def Flat : D → Prop
  | .list _ => False
  | .tup _ => False
  | _ => True
theorem R.flat {h h' : Heap} {mu mu' : List Addr} {d : D} {v : Value} (f : Flat d) (r : R h mu d v) : R h' mu' d v := by
  cases r with
  | none => exact .none
  | bool b => exact .bool b
  | int i t => exact .int i t
  | str s t => exact .str s t
  | typ T => exact .typ T
  | list => exact f.elim
  | tup => exact f.elim
def toD : Value → D
  | .bool b => .bool b
  | .int i _ => .int i
  | .str s _ => .str s
  | .type T => .typ T
  | _ => .none
theorem R.toD {h : Heap} {mu : List Addr} {d : D} {v : Value} (f : Flat d) (r : R h mu d v) : toD v = d := by
  cases r with
  | none => rfl
  | bool b => rfl
  | int i t => rfl
  | str s t => rfl
  | typ T => rfl
  | list => exact f.elim
  | tup => exact f.elim

abbrev ifsTree (ifs : List Expr) (env : Env) : Sem Bool := forIn ifs true fun c r => if r = true then do let ok ← isTrue c env (eval c env); pure (ForInStep.yield ok) else pure (ForInStep.yield r)
theorem TIf.nil {C : Cx} {σ : Vars} : Tb C σ (ifsTree [] C.env) true := by
  intro h₀ own s Q E F ht p
  exact wpAny_pure (p s.heap s.toks (Keep.refl _) ht)
theorem TIf.one {C : Cx} {σ : Vars} {c : Expr} {b : Bool} (x : It C σ c b) : Tb C σ (ifsTree [c] C.env) b := by
  intro h₀ own s Q E F ht p
  show wpAny _ _ (forIn [c] true _) _ _ _
  rw [List.forIn_cons]
  refine wpAny_bind ?_
  simp only [if_true]
  refine wpAny_bind (x h₀ own s _ E F ht fun h' tk k t => ?_)
  exact wpAny_pure (wpAny_pure (p h' tk k t))

def CapOk (env : Env) (scope : Scope) (cl : List (Str × Addr)) (y : Str) : Prop :=
  ((relabel scope env).names.lookup y = some .cell ∨ (relabel scope env).names.lookup y = some .free) ∧ (env.kindOf y = some .cell ∨ env.kindOf y = some .free) ∧ ∃ c, cl.lookup y = some c ∧ env.cells.lookup y = some c
def Caps (C : Cx) (σ : Vars) (scope : Scope) (cl : List (Str × Addr)) (caps : Vars) : Prop := ∀ y sl, caps.lookup y = some sl → σ.lookup y = some sl ∧ (∃ d, sl = .val d) ∧ CapOk C.env scope cl y
theorem Caps.nil {C : Cx} {σ : Vars} {scope : Scope} {cl : List (Str × Addr)} : Caps C σ scope cl [] := fun y sl e => by cases e
theorem Caps.cons {C : Cx} {σ : Vars} {scope : Scope} {cl : List (Str × Addr)} {y : Str} {d : D} {caps : Vars} (e : σ.lookup y = some (.val d)) (k : CapOk C.env scope cl y) (r : Caps C σ scope cl caps) : Caps C σ scope cl ((y, .val d) :: caps) := fun z sl q => by
  by_cases h : z = y
  · subst h
    rw [lookup_cons_eq] at q; cases q
    exact ⟨e, ⟨d, rfl⟩, k⟩
  · rw [lookup_cons_ne h] at q
    exact r z sl q

abbrev Cx.inner (C : Cx) (scope : Scope) (cl : List (Str × Addr)) (Ca : Addr) (av : List Addr) : Cx := { C with env := compEnvC scope cl Ca C.env, av := av, ro := true }
theorem Cx.inner_ok {C : Cx} {n : Nat} (ok : C.Ok n) {scope : Scope} {cl : List (Str × Addr)} {Ca : Addr} {av : List Addr} (hkind : scope.kind = .function) : (C.inner scope cl Ca av).Ok n :=
  ⟨ok.room, by simpa [compEnvC, relabel] using hkind, ok.gl, ok.bi⟩

theorem inner_FS {C : Cx} {h₀ h h₁ h₃ : Heap} {own : Option Addr} {σ : Vars} {scope : Scope} {cl : List (Str × Addr)} {caps : Vars} {x : Str} {d : D} {v : Value} {J Ca : Addr} {m₃ : Str → Option Value}
    (F : FS C h₀ own σ h) (k₁ : Keep h h₁) (hJ : h.get? J = none) (hJd : ∃ o vs, h₁.get? J = some o ∧ o.data = .fields vs) (hC : h₁.objs.size ≤ Ca) (hn : h₃.Ns Ca m₃) (hm : m₃ x = some v) (kk : ∀ b o, b ≠ J → h₁.get? b = some o → h₃.get? b = some o)
    (hx : scope.names.lookup x = some .local) (hcaps : Caps C σ scope cl caps) (hsub : ∀ p ∈ cl, p ∈ C.env.cells) (fl : Flat d) (r : R h₁ (own.toList ++ C.av) d v) :
    FS (C.inner scope cl Ca (own.toList ++ C.av)) (hideAll h₁ [J]) none ((x, .val d) :: caps) h₃ := by
  have k2 : ∀ b o, h.get? b = some o → h₃.get? b = some o := fun b o e => kk b o (fun z => by rw [z, hJ] at e; cases e) (k₁ b o e)
  have k3 : ∀ b o, h.get? b = some o → (hideAll h₁ [J]).get? b = some o := fun b o e => hideAll_get _ (k₁ b o e) fun q => by rw [List.mem_singleton.mp q, hJ] at e; cases e
  refine ⟨fun b o e => k3 b o (F.keep b o (F.ground b o e)), fun b o e => kk b o (fun z => ?_) (of_hideAll _ e), ?_, fun hr => (by cases hr), fun a e => (by cases e), fun a ha => ?_, fun p hp => ?_, m₃, hn, fun y sl e => ?_⟩
  · rw [z, hideAll_none _ (by simp)] at e; cases e
  · cases q : (hideAll h₁ [J]).get? Ca with
    | none => exact q
    | some o => exact absurd (Heap.lt_size (of_hideAll _ q)) (Nat.not_lt.mpr hC)
  · rcases List.mem_append.mp ha with ha | ha
    · have : own = some a := by cases own <;> simp at ha; simp [ha]
      obtain ⟨_, us, n, e⟩ := F.ownNew a this
      exact ⟨_, k3 _ _ e⟩
    · obtain ⟨o, e⟩ := F.avIn a ha
      exact ⟨o, k3 _ _ (F.keep _ _ e)⟩
  · obtain ⟨v, o, e, q⟩ := F.cells p (hsub p hp)
    exact ⟨v, o, k2 _ _ e, q⟩
  · by_cases hy : y = x
    · subst hy
      rw [lookup_cons_eq] at e; cases e
      exact ⟨v, .inl ⟨lookup_relabel_local hx, hm⟩, R.flat fl r⟩
    · rw [lookup_cons_ne hy] at e
      obtain ⟨e1, ⟨d', rfl⟩, c1, c2, c, c3, c4⟩ := hcaps y sl e
      obtain ⟨m, hn', hv⟩ := F.ns
      obtain ⟨u, b, q⟩ := hv y _ e1
      refine ⟨u, ?_, R.change (h := h) q (fun b us x _ => x.at fun o e => k2 b o e) fun b us x => x.at fun o e => k2 b o e⟩
      rcases b with ⟨b, _⟩ | ⟨b1, c', b2, b3⟩
      · rcases c2 with c2 | c2 <;> (rw [c2] at b; cases b)
      · rw [c4] at b2; cases b2
        exact .inr ⟨c1, c, c3, b3.keeps k2⟩

theorem paired_Rs {h : Heap} {mu : List Addr} {g : D → D} : ∀ {vs ys : List Value}, Paired (fun v y => Flat (g (toD v)) ∧ R {} [] (g (toD v)) y) vs ys → Rs h mu (vs.map fun v => g (toD v)) ys
  | _, _, .nil => .nil
  | _, _, .cons a r => .cons (R.flat a.1 a.2) (paired_Rs r)

theorem Ev.comp {C : Cx} {σ : Vars} {elt iter : Expr} {x : Str} {px : Pos} {ifs : List Expr} {scope : Scope} {pos : Pos} {ds : List D} {cl : List (Str × Addr)} (caps : Vars) (g : D → D) (pb : D → Bool)
    (hi : Iter C σ iter ds) (hflat : ∀ d ∈ ds, Flat d) (hcaps : Caps C σ scope cl caps) (hlen : ds.length ≤ sizeLine)
    (tests : ∀ Ca av d, d ∈ ds → Tb (C.inner scope cl Ca av) ((x, .val d) :: caps) (ifsTree ifs (C.inner scope cl Ca av).env) (pb d))
    (elts : ∀ Ca av d, d ∈ ds → pb d = true → Flat (g d) ∧ Ev (C.inner scope cl Ca av) ((x, .val d) :: caps) elt (g d))
    (hclos : closureFor scope C.env = pure cl := by rfl) (hcell : ∀ y ∈ scope.names, y.2 ≠ .cell := by decide) (hkind : scope.kind = .function := by rfl)
    (hnames : ∀ y ∈ scope.names, y.2 = .local → scope.names.lookup y.1 = some .local := by decide +kernel) (hx : scope.names.lookup x = some .local := by decide +kernel) (hsub : ∀ p ∈ cl, p ∈ C.env.cells := by simp)
    (hs : ∀ x, foldedSetIterable iter C.env x = pure x := by intro _; rfl) :
    Ev C σ (.ListComp elt [⟨.Name x px, iter, ifs, 0⟩] scope pos) (.list ((ds.filter pb).map g)) := by
  intro h₀ own s Q E F ht pp
  refine wpAny_with_toks (n := 1) ht ?_
  refine wpAny_ListComp_free (fun v => pb (toD v)) (fun v y => Flat (g (toD v)) ∧ R {} [] (g (toD v)) y) hclos hcell hkind hnames hx (hi h₀ own s _ _ F ht fun J h₁ tk₁ k₁ t₁ hJ WA => ?_) hs
  obtain ⟨fp, PP, St, W, st0, hlt, hfp, hcls, hit, hgo⟩ := WA
  have it : ∀ i v, PP i v → ∃ d, ds[i]? = some d ∧ toD v = d ∧ d ∈ ds ∧ R h₁ (own.toList ++ C.av) d v := fun i v hp => by
    obtain ⟨d, e, r⟩ := hit i v hp
    exact ⟨d, e, r.toD (hflat d (List.mem_of_getElem? e)), List.mem_of_getElem? e, r⟩
  refine ⟨J, fp, [J], ds.length, PP, St, rfl, W, hlen, st0, hlt, ⟨?_, ?_⟩, ?_⟩
  · intro Ca i v s₃ m₃ E' hC hp hn hm kk htk
    obtain ⟨d, e, rfl, hd, r⟩ := it i v hp
    have FI := inner_FS F k₁ hJ (hcls 0 h₁ st0) hC hn hm (fun b o hb e => kk b o (by simpa using hb) e) hx hcaps hsub (hflat _ hd) r
    exact tests Ca (own.toList ++ C.av) _ hd _ none s₃ _ E' FI (Nat.le_trans t₁ htk) fun h' tk k t => ⟨rfl, h', tk, rfl, k⟩
  · intro Ca i v s₃ m₃ E' hC hp hpv hn hm kk htk
    obtain ⟨d, e, rfl, hd, r⟩ := it i v hp
    have FI := inner_FS F k₁ hJ (hcls 0 h₁ st0) hC hn hm (fun b o hb e => kk b o (by simpa using hb) e) hx hcaps hsub (hflat _ hd) r
    obtain ⟨fl, ev⟩ := elts Ca (own.toList ++ C.av) _ hd hpv
    exact ev _ none s₃ _ E' FI (Nat.le_trans t₁ htk) fun y h' tk k t ry => ⟨⟨fl, R.flat fl ry⟩, h', tk, rfl, k⟩
  · intro Dd h' tk ys vs hD hl _ hlen' hP hF kk htk
    have kS : Keep s.heap h' := fun b o e => kk b o (fun q => by rw [List.mem_singleton.mp q, hJ] at e; cases e) (k₁ b o e)
    refine pp _ h' tk kS htk ?_
    have evs : vs.map toD = ds := by
      apply List.ext_getElem?
      intro i
      cases q : vs[i]? with
      | none =>
        have h1 : vs.length ≤ i := by simpa using q
        rw [List.getElem?_map, q]
        exact (List.getElem?_eq_none (by omega)).symm
      | some v =>
        obtain ⟨d, e, e2, _⟩ := it i v (hP i v q)
        rw [List.getElem?_map, q, e, ← e2]; rfl
    have e3 : (ds.filter pb).map g = (vs.filter fun v => pb (toD v)).map fun v => g (toD v) := by
      rw [← evs, List.filter_map, List.map_map]; rfl
    have rs := paired_Rs (h := h') (mu := own.toList ++ C.av) hF
    rw [← e3] at rs
    refine R.list (vs := ys.toList) (fun q => ?_) (by simpa using hl) rs.1 rs.2
    have : ∃ o, h₁.get? Dd = some o := by
      rcases List.mem_append.mp q with ha | ha
      · have : own = some Dd := by cases own <;> simp at ha; simp [ha]
        obtain ⟨_, us, n, e⟩ := F.ownNew Dd this
        exact ⟨_, k₁ _ _ e⟩
      · obtain ⟨o, e⟩ := F.avIn Dd ha
        exact ⟨o, k₁ _ _ (F.keep _ _ e)⟩
    obtain ⟨o, e⟩ := this
    exact nomatch hD.symm.trans e
end Mine
end

section
open PySem PySem.Calls PyProof.Rows PySem.W
set_option maxRecDepth 100000
set_option linter.unusedVariables false
namespace Mine

theorem Ex.assign_comp {C : Cx} {n : Nat} (ok : C.Ok n) {σ : Vars} {elt iter : Expr} {x y : Str} {px py : Pos} {ifs : List Expr} {scope : Scope} {pos spos : Pos} {ds : List D} {cl : List (Str × Addr)} {P : Out → Prop} (caps : Vars) (g : D → D) (pb : D → Bool)
    (hi : Iter C σ iter ds) (hflat : ∀ d ∈ ds, Flat d) (hcaps : Caps C σ scope cl caps) (hlen : ds.length ≤ sizeLine)
    (tests : ∀ Ca av d, d ∈ ds → Tb (C.inner scope cl Ca av) ((x, .val d) :: caps) (ifsTree ifs (C.inner scope cl Ca av).env) (pb d))
    (elts : ∀ Ca av d, d ∈ ds → pb d = true → Flat (g d) ∧ Ev (C.inner scope cl Ca av) ((x, .val d) :: caps) elt (g d))
    (h : P (.next ((y, .val (.list ((ds.filter pb).map g))) :: σ)))
    (hsw : swapsWith (.ListComp elt [⟨.Name x px, iter, ifs, 0⟩] scope pos) (some (.Name y py)) spos.line C.env = pure true := by rfl)
    (hy : C.env.kindOf y = some .local := by rfl)
    (hclos : closureFor scope C.env = pure cl := by rfl) (hcell : ∀ y ∈ scope.names, y.2 ≠ .cell := by decide) (hkind : scope.kind = .function := by rfl)
    (hnames : ∀ y ∈ scope.names, y.2 = .local → scope.names.lookup y.1 = some .local := by decide +kernel) (hx : scope.names.lookup x = some .local := by decide +kernel) (hsub : ∀ p ∈ cl, p ∈ C.env.cells := by simp)
    (hs : ∀ x, foldedSetIterable iter C.env x = pure x := by intro _; rfl) :
    Ex C σ (.Assign [.Name y py] (.ListComp elt [⟨.Name x px, iter, ifs, 0⟩] scope pos) spos) P := by
  intro h₀ own s Q E F ht pp
  refine wpAny_with_toks (n := 1) ht ?_
  refine wpAny_Assign_ListComp_free (fun v => pb (toD v)) (fun v y => Flat (g (toD v)) ∧ R {} [] (g (toD v)) y) hsw hclos hcell hkind hnames hx hy (by rw [ok.fn]; rfl) (hi h₀ own s _ _ F ht fun J h₁ tk₁ k₁ t₁ hJ WA => ?_) hs
  obtain ⟨fp, PP, St, W, st0, hlt, hfp, hcls, hit, hgo⟩ := WA
  have it : ∀ i v, PP i v → ∃ d, ds[i]? = some d ∧ toD v = d ∧ d ∈ ds ∧ R h₁ (own.toList ++ C.av) d v := fun i v hp => by
    obtain ⟨d, e, r⟩ := hit i v hp
    exact ⟨d, e, r.toD (hflat d (List.mem_of_getElem? e)), List.mem_of_getElem? e, r⟩
  have F₁ := F.keeps k₁
  obtain ⟨m, hn, hv⟩ := F₁.ns
  have hJ0 : h₀.get? J = none := by
    cases q : h₀.get? J with
    | none => rfl
    | some o => rw [F.keep _ _ q] at hJ; cases hJ
  obtain ⟨oJ, vJ, eJ, dJ⟩ := hcls 0 h₁ st0
  have hLJ : C.env.locals ≠ J := fun z => by
    obtain ⟨o', es, ep, e, e', _⟩ := hn
    rw [z, eJ] at e; cases e; rw [dJ] at e'; cases e'
  refine ⟨J, fp, [J], ds.length, PP, St, m, rfl, W, hlen, st0, hlt, by simpa using hLJ, hn, ⟨?_, ?_⟩, ?_⟩
  · intro Ca i v s₃ m₃ E' hC hp hn hm kk htk
    obtain ⟨d, e, rfl, hd, r⟩ := it i v hp
    have FI := inner_FS F k₁ hJ (hcls 0 h₁ st0) hC hn hm (fun b o hb e => kk b o (by simpa using hb) e) hx hcaps hsub (hflat _ hd) r
    exact tests Ca (own.toList ++ C.av) _ hd _ none s₃ _ E' FI (Nat.le_trans t₁ htk) fun h' tk k t => ⟨rfl, h', tk, rfl, k⟩
  · intro Ca i v s₃ m₃ E' hC hp hpv hn hm kk htk
    obtain ⟨d, e, rfl, hd, r⟩ := it i v hp
    have FI := inner_FS F k₁ hJ (hcls 0 h₁ st0) hC hn hm (fun b o hb e => kk b o (by simpa using hb) e) hx hcaps hsub (hflat _ hd) r
    obtain ⟨fl, ev⟩ := elts Ca (own.toList ++ C.av) _ hd hpv
    exact ev _ none s₃ _ E' FI (Nat.le_trans t₁ htk) fun y h' tk k t ry => ⟨⟨fl, R.flat fl ry⟩, h', tk, rfl, k⟩
  · intro Dd h' tk ys vs hD hl _ hlen' hP hF hn' kk htk
    have evs : vs.map toD = ds := by
      apply List.ext_getElem?
      intro i
      cases q : vs[i]? with
      | none =>
        have h1 : vs.length ≤ i := by simpa using q
        rw [List.getElem?_map, q]
        exact (List.getElem?_eq_none (by omega)).symm
      | some v =>
        obtain ⟨d, e, e2, _⟩ := it i v (hP i v q)
        rw [List.getElem?_map, q, e, ← e2]; rfl
    have e3 : (ds.filter pb).map g = (vs.filter fun v => pb (toD v)).map fun v => g (toD v) := by
      rw [← evs, List.filter_map, List.map_map]; rfl
    have rs := paired_Rs (h := h') (mu := own.toList ++ C.av) hF
    rw [← e3] at rs
    have hDmu : Dd ∉ own.toList ++ C.av := fun q => by
      have : ∃ o, h₁.get? Dd = some o := by
        rcases List.mem_append.mp q with ha | ha
        · have : own = some Dd := by cases own <;> simp at ha; simp [ha]
          obtain ⟨_, us, n, e⟩ := F.ownNew Dd this
          exact ⟨_, k₁ _ _ e⟩
        · obtain ⟨o, e⟩ := F.avIn Dd ha
          exact ⟨o, k₁ _ _ (F.keep _ _ e)⟩
      obtain ⟨o, e⟩ := this
      exact nomatch hD.symm.trans e
    have rr : R h' (own.toList ++ C.av) (.list ((ds.filter pb).map g)) (.ref Dd) := R.list (vs := ys.toList) hDmu (by simpa using hl) rs.1 rs.2
    -- all but the dict of locals and the iterator stands
    have ks : ∀ b o, b ≠ C.env.locals → b ≠ J → h₁.get? b = some o → h'.get? b = some o := fun b o a c e => kk b o a (by simpa using c) e
    have nJ : ∀ b o, h₁.get? b = some o → (∀ vs, o.data ≠ .fields vs) → b ≠ J := fun b o e hne z => by
      rw [z, eJ] at e; cases e; exact hne _ dJ
    have nL : ∀ b o, h₁.get? b = some o → (∀ es ep, o.data ≠ .dict es ep) → b ≠ C.env.locals := fun b o e hne z => by
      obtain ⟨o', es, ep, e2, e3, _⟩ := hn
      rw [z, e2] at e; cases e; exact hne _ _ e3
    have kl : ∀ b us, h₁.IsList b us → h'.IsList b us := fun b us ⟨o, a, c, nn, e⟩ => ⟨o, ks b o (nL b o a (by rw [e]; intro _ _ z; cases z)) (nJ b o a (by rw [e]; intro _ z; cases z)) a, c, nn, e⟩
    have kt : ∀ b us, h₁.IsTuple b us → h'.IsTuple b us := fun b us ⟨o, a, c, nn, e⟩ => ⟨o, ks b o (nL b o a (by rw [e]; intro _ _ z; cases z)) (nJ b o a (by rw [e]; intro _ z; cases z)) a, c, nn, e⟩
    have kc : ∀ c v, h₁.IsCell c v → h'.IsCell c v := fun c v ⟨o, a, e⟩ => ⟨o, ks c o (nL c o a (by rw [e]; intro _ _ z; cases z)) (nJ c o a (by rw [e]; intro _ z; cases z)) a, e⟩
    refine pp _ .next h' tk h htk ⟨rfl, own, F.ground, fun b o e => ks b o (fun z => ?_) (fun z => ?_) (F₁.keep b o e), F.loc, F.cel, fun a e => ?_, F.avIn, fun p hp => ?_, _, hn', fun z sl e => ?_⟩
    · rw [z, F.loc] at e; cases e
    · rw [z, hJ0] at e; cases e
    · obtain ⟨p, us, nn, q⟩ := F₁.ownNew a e
      exact ⟨p, us, nn, ks a _ (nL a _ q (by intro _ _ z; cases z)) (nJ a _ q (by intro _ z; cases z)) q⟩
    · obtain ⟨v, q⟩ := F₁.cells p hp
      exact ⟨v, kc _ _ q⟩
    · by_cases hz : z = y
      · subst hz
        rw [lookup_cons_eq] at e; cases e
        exact ⟨_, .inl ⟨hy, by simp⟩, rr⟩
      · rw [lookup_cons_ne hz] at e
        obtain ⟨u, b, q⟩ := hv z sl e
        refine ⟨u, ?_, ?_⟩
        · rcases b with ⟨b1, b2⟩ | ⟨b1, c, b2, b3⟩
          · exact .inl ⟨b1, by simp [hz, b2]⟩
          · exact .inr ⟨b1, c, b2, kc _ _ b3⟩
        · cases sl with
          | val d => exact R.change q (fun b us x _ => kl b us x) kt
          | own ds =>
            obtain ⟨a, us, e1, e2, ⟨nn, e3⟩, e4⟩ := q
            exact ⟨a, us, e1, e2, ⟨nn, ks a _ (nL a _ e3 (by intro _ _ z; cases z)) (nJ a _ e3 (by intro _ z; cases z)) e3⟩, e4.change (fun b us x _ => kl b us x) kt⟩

theorem Ex.while_ {C : Cx} {σ : Vars} {test : Expr} {body : List Stmt} {pos : Pos} {I : Nat → Vars → Prop} {P : Out → Prop} (k : Nat) (h0 : I k σ)
    (turn : ∀ n σ₁, I n σ₁ → ∃ b, It C σ₁ test b ∧ (b = true → Exs C σ₁ body (fun o => match o with
      | .next σ' => ∃ m σ'', m < n ∧ (∀ x sl, σ''.lookup x = some sl → σ'.lookup x = some sl) ∧ I m σ''
      | .cont σ' => ∃ m σ'', m < n ∧ (∀ x sl, σ''.lookup x = some sl → σ'.lookup x = some sl) ∧ I m σ''
      | .brk σ' => P (.next σ')
      | .ret r => P (.ret r))) ∧ (b = false → P (.next σ₁))) : Ex C σ (.While test body [] pos) P := by
  intro h₀ own s Q E F ht pp
  refine wpAny_While ?_
  refine codeAny_whileLoop (fun n s' => ∃ h' tk σ' own', s' = { s with heap := h', toks := tk } ∧ FS C h₀ own' σ' h' ∧ I n σ' ∧ 1 ≤ tk) ?_ k ⟨s.heap, s.toks, σ, own, rfl, F, h0, ht⟩
  rintro n s' ⟨h', tk, σ', own', rfl, F', hI, t'⟩
  obtain ⟨b, it, hb, hf⟩ := turn n σ' hI
  refine it h₀ own' _ _ _ F' t' fun h₂ tk₂ k₂ t₂ => ?_
  cases b with
  | false => exact wpAny_execs_nil (pp _ .next h₂ tk₂ (hf rfl) t₂ ⟨rfl, own', F'.keeps k₂⟩)
  | true =>
    refine hb rfl h₀ own' _ _ _ (F'.keeps k₂) t₂ fun o fl h₃ tk₃ ho t₃ okk => ?_
    cases o with
    | next σ₃ =>
      obtain ⟨rfl, own₃, f₃⟩ := okk
      obtain ⟨m, σ₄, hm, hsub, hI4⟩ := ho
      exact ⟨m, hm, h₃, tk₃, σ₄, own₃, rfl, f₃.sub hsub, hI4, t₃⟩
    | cont σ₃ =>
      obtain ⟨rfl, own₃, f₃⟩ := okk
      obtain ⟨m, σ₄, hm, hsub, hI4⟩ := ho
      exact ⟨m, hm, h₃, tk₃, σ₄, own₃, rfl, f₃.sub hsub, hI4, t₃⟩
    | brk σ₃ =>
      obtain ⟨rfl, own₃, f₃⟩ := okk
      exact pp _ .next h₃ tk₃ ho t₃ ⟨rfl, own₃, f₃⟩
    | ret d' =>
      obtain ⟨v', rfl, kk, rr⟩ := okk
      exact pp _ _ h₃ tk₃ ho t₃ ⟨v', rfl, kk, rr⟩

theorem Ex.try_ {C : Cx} {σ : Vars} {body orelse : List Stmt} {h₀' : ExceptHandler} {hs : List ExceptHandler} {pos : Pos} {P : Out → Prop} (x : Exs C σ body (Then C orelse P)) : Ex C σ (.Try body (h₀' :: hs) orelse [] pos) P := by
  intro h₀ own s Q E F ht pp
  refine wpAny_Try_except (x h₀ own s _ _ F ht fun o fl h' tk ho t okk => ?_)
  cases o with
  | next σ' =>
    obtain ⟨rfl, own', f'⟩ := okk
    exact ho h₀ own' _ Q E f' t fun o fl h2 tk2 ho2 t2 ok2 => pp o fl h2 tk2 ho2 t2 ok2
  | brk σ' => obtain ⟨rfl, q⟩ := id okk; exact pp _ _ h' tk ho t okk
  | cont σ' => obtain ⟨rfl, q⟩ := id okk; exact pp _ _ h' tk ho t okk
  | ret d => obtain ⟨v, rfl, q⟩ := id okk; exact pp _ _ h' tk ho t okk

/-- the body of a def gives d -/
def Gives (C : Cx) (σ : Vars) (body : List Stmt) (d : D) : Prop := Exs C σ body (fun o => match o with | .ret r => r = d | .next _ => d = .none | _ => False)

/-- a def without cells -/
theorem Fn.of {prog : Program} {w : World} {hG : Heap} {n : Nat} {f : Addr} {o : Obj} {fd : FuncData} {body : List Stmt} {xs : List Str} {ds : List D} {d : D}
    (ho : hG.get? f = some o) (hd : o.data = .func fd) (lim : hG.NoLimit) (hcd : hG.CodeRec fd.code fd.qualname) (hbody : fd.body = .stmts body)
    (hgl : fd.globals = mainGlobals) (hbi : fd.builtins = builtinsNs) (hclo : fd.closure = [])
    (hbind : ∀ vs : List Value, vs.length = xs.length → bindArgs fd ⟨vs, []⟩ = pure (xs.zip vs)) (hxl : xs.length = ds.length)
    (hcell : ∀ x ∈ fd.scope.names, x.2 ≠ .cell) (hloc : ∀ x ∈ xs, fd.scope.names.lookup x = some .local) (hnd : xs.Nodup)
    (hco : fd.scope.isCoroutine = false) (hgen : fd.scope.isGenerator = false) (hk : fd.scope.kind = .function)
    (h : ∀ A L av, Room A n → Gives ⟨prog, w, A, callEnv fd L f, hG, av, false⟩ (xs.zip (ds.map Slot.val)) body d) : Fn prog w hG (n + 1) f ds d := by
  intro A mu s vs Q E room k low ht rs pp
  have hlen : vs.length = xs.length := by rw [hxl, rs.1]
  refine wpAny_call ?_
  refine codeAny_call_def (fd := fd) (body := body) (binds := xs.zip vs) (by have := room.dep; omega) (k _ _ ho) hd (lim.keeps k) (hcd.keeps k) hbody (BindsTo.of_eq (hbind vs hlen)) hcell ?_ (fun h₁ hns hk₁ => ?_) hco hgen hk
  · intro y hy
    exact hloc _ (List.of_mem_zip hy).1
  have rm : Room (A.deeper (callEnv fd s.heap.objs.size f)) n := ⟨room.hd, by have := room.dep; show A.depth + 1 + n < _; omega, by have := room.un; show A.units + 3 + 8 * n + 40 < _; omega⟩
  let C : Cx := ⟨prog, w, A.deeper (callEnv fd s.heap.objs.size f), callEnv fd s.heap.objs.size f, hG, mu, false⟩
  -- where the arguments lie
  have slots : ∀ (xs : List Str) (ds : List D) (vs : List Value), xs.Nodup → xs.length = ds.length → Rs s.heap mu ds vs → ∀ y sl, (xs.zip (ds.map Slot.val)).lookup y = some sl → ∃ v d, sl = .val d ∧ (xs.zip vs).reverse.lookup y = some v ∧ R s.heap mu d v := by
    intro xs
    induction xs with
    | nil => intro ds vs _ _ _ y sl e; simp at e
    | cons x xs ih =>
      intro ds vs nd hl rs y sl e
      cases ds with
      | nil => simp at hl
      | cons d ds =>
        obtain ⟨v, vs, rfl, r, rs'⟩ := rs.inv_cons
        obtain ⟨nx, nd'⟩ := List.nodup_cons.mp nd
        rw [List.map_cons, List.zip_cons_cons] at e
        rw [List.zip_cons_cons, List.reverse_cons, List.lookup_append]
        by_cases hy : y = x
        · subst hy
          rw [lookup_cons_eq] at e; cases e
          refine ⟨v, d, rfl, ?_, r⟩
          have : (xs.zip vs).reverse.lookup y = none := by
            rw [List.lookup_eq_none_iff]
            intro p hp
            have := (List.of_mem_zip (List.mem_reverse.mp hp)).1
            have ne : y ≠ p.1 := fun q => nx (q ▸ this)
            simpa using ne
          rw [this]; simp
        · rw [lookup_cons_ne hy] at e
          obtain ⟨u, d', e1, e2, e3⟩ := ih ds vs nd' (by simpa using hl) rs' y sl e
          exact ⟨u, d', e1, by rw [e2]; rfl, e3⟩
  have FS₁ : FS C s.heap none (xs.zip (ds.map Slot.val)) h₁ := by
    refine ⟨k, hk₁, get_size _, fun _ => ⟨fun p hp => ?_, ?_⟩, fun a e => (by cases e), low, fun p hp => ?_, _, hns, fun y sl e => ?_⟩
    · have : C.env.cells = [] := hclo
      rw [this] at hp; cases hp
    · have : C.env.cells = [] := hclo
      rw [this]; exact List.Pairwise.nil
    · have : C.env.cells = [] := hclo
      rw [this] at hp; cases hp
    · obtain ⟨v, d', rfl, e2, r⟩ := slots xs ds vs hnd hxl rs y sl e
      have hy : y ∈ xs := by
        have := mem_of_lookup e
        exact (List.of_mem_zip this).1
      exact ⟨v, .inl ⟨hloc y hy, e2⟩, r.keep hk₁⟩
  refine h (A.deeper (callEnv fd s.heap.objs.size f)) s.heap.objs.size mu rm s.heap none _ _ _ FS₁ (by show 1 ≤ s.toks + _; omega) fun o fl h' tk ho t okk => ?_
  cases o with
  | next σ' =>
    obtain ⟨rfl, own', f'⟩ := okk
    have hd' : d = .none := ho
    subst hd'
    exact pp .none h' tk f'.keep t .none
  | brk σ' => exact ho.elim
  | cont σ' => exact ho.elim
  | ret r =>
    obtain ⟨v, rfl, kk, rr⟩ := okk
    have hd' : r = d := ho
    subst hd'
    exact pp v h' tk kk t rr
end Mine
end

section
open PySem PySem.Calls PyProof.Rows PySem.W
open Builtin Builtin.Str
set_option maxRecDepth 100000
set_option linter.unusedVariables false
namespace Mine
section
variable {prog : Program} {w : World} {A : Around}

theorem Ev.typ {C : Cx} {σ : Vars} {e : Expr} {T : String} (x : Evf C σ e (.type T)) : Ev C σ e (.typ T) := by
  intro h₀ own s Q E F ht p
  exact x h₀ own s Q E F (p _ s.heap s.toks (Keep.refl _) ht (.typ T))

theorem op_floordiv_int {a b : Int} (hb : b ≠ 0) (hs : b.natAbs < 1073741824) : Op2 prog w A (binaryOp .FloorDiv) (.int a) (.int b) (.int (a.fdiv b)) := by
  intro mu s v₁ v₂ Q E _ ht r₁ r₂ p
  obtain ⟨t, rfl⟩ := r₁.inv_int
  obtain ⟨u, rfl⟩ := r₂.inv_int
  exact PyProof.Rows.floordiv_int hb (p _ s.heap _ (Keep.refl _) (Nat.le_succ_of_le ht) (.int _ _)) (.inl (PyProof.noPylong_small hs))

theorem op_type_str {x : Str} : Opn prog w A (fun vs => call (.type "type") vs) [.str x] (.typ "str") := by
  intro mu s vs Q E _ ht rs p
  obtain ⟨v, us, rfl, r, rs⟩ := rs.inv_cons
  rw [rs.inv_nil]
  obtain ⟨t, rfl⟩ := r.inv_str
  exact call_type_of (Tx := "str") rfl (by decide +kernel) (p _ s.heap s.toks (Keep.refl _) ht (.typ _))

theorem op_isi_bytes {x : Str} : Opn prog w A (fun vs => call (.builtin "isinstance") vs) [.str x, .typ "bytes"] (.bool false) := by
  intro mu s vs Q E _ ht rs p
  obtain ⟨v, us, rfl, r, rs⟩ := rs.inv_cons
  obtain ⟨v2, us2, rfl, r2, rs⟩ := rs.inv_cons
  rw [rs.inv_nil]
  obtain ⟨t, rfl⟩ := r.inv_str
  rw [r2.inv_typ]
  exact IsiPair.str_bytes (p _ s.heap _ (Keep.refl _) (Nat.le_succ_of_le ht) (.bool _))

theorem op_len_list {xs : List D} (h : xs.length ≤ sizeLine) : Opn prog w A (fun vs => call (.builtin "len") vs) [.list xs] (.int xs.length) := by
  intro mu s vs Q E _ ht rs p
  obtain ⟨v, us, rfl, r, rs⟩ := rs.inv_cons
  rw [rs.inv_nil]
  obtain ⟨l, ws, rfl, _, hl, hs⟩ := r.inv_list
  rw [sizeLine_eq] at h
  have e := hs.1
  refine call_len_list hl (by simp; omega) ?_
  have e2 : (ws.toArray.size : Int) = (xs.length : Int) := by simp [e]
  rw [e2]
  exact p _ s.heap _ (Keep.refl _) (by show 1 ≤ s.toks + 1 + 1; omega) (.int _ _)

theorem ints_items {vs : List Value} {ns : List Int} (h : IntsAre vs ns) : ∃ xs : Array (Int × Tok), vs.toArray = intItems xs ∧ xs.toList.map (·.1) = ns := by
  induction h with
  | nil => exact ⟨#[], by simp [intItems], rfl⟩
  | cons n t _ ih =>
    obtain ⟨xs, e1, e2⟩ := ih
    refine ⟨((n, t) :: xs.toList).toArray, ?_, by simp [e2]⟩
    have := congrArg Array.toList e1
    simp only [intItems, Array.toList_map] at this
    simp [intItems, this]

theorem op_sum_ints (hh : A.handled = none) {ns : List Int} : Opn prog w A (fun vs => call (.builtin "sum") vs) [.list (ns.map D.int)] (.int ns.sum) := by
  intro mu s vs Q E _ ht rs p
  obtain ⟨v, us, rfl, r, rs⟩ := rs.inv_cons
  rw [rs.inv_nil]
  obtain ⟨l, ws, rfl, _, hl, hs⟩ := r.inv_list
  obtain ⟨xs, e1, e2⟩ := ints_items hs.ints
  rw [e1] at hl
  refine wpAny_with_toks (n := 1) ht (sum_intListG hh hl fun h' tk t' hk htk => ?_)
  rw [preSum_eq, List.take_of_length_le (by simp), e2]
  exact p _ h' tk hk htk (.int _ _)

theorem op_max_ints (hh : A.handled = none) {ns : List Int} {M : Int} (hne : ns ≠ []) (hM : M ∈ ns) (hb : ∀ a ∈ ns, a ≤ M) : Opn prog w A (fun vs => call (.builtin "max") vs) [.list (ns.map D.int)] (.int M) := by
  intro mu s vs Q E _ ht rs p
  obtain ⟨v, us, rfl, r, rs⟩ := rs.inv_cons
  rw [rs.inv_nil]
  obtain ⟨l, ws, rfl, _, hl, hs⟩ := r.inv_list
  obtain ⟨xs, e1, rfl⟩ := ints_items hs.ints
  rw [e1] at hl
  have hsz : 0 < xs.size := by
    rcases Nat.eq_zero_or_pos xs.size with h | h
    · exact absurd (by have : xs = #[] := Array.eq_empty_of_size_eq_zero h; simp [this]) hne
    · exact h
  refine wpAny_with_toks (n := 1) ht (max_intList hh hl hsz fun v h' tk hv hk htk => ?_)
  obtain ⟨t, rfl⟩ := intItems_at hv
  obtain ⟨h1, h2⟩ := argBest_gt (numAt xs) (xs.size - 1)
  have hmem : numAt xs (argBest (fun i j => decide (numAt xs i > numAt xs j)) (xs.size - 1)) ∈ xs.toList.map (·.1) := by
    rw [numAt_eq]; exact getD_mem (by rw [List.length_map, Array.length_toList]; omega)
  have hle : M ≤ numAt xs (argBest (fun i j => decide (numAt xs i > numAt xs j)) (xs.size - 1)) := by
    obtain ⟨j, hj, rfl⟩ := mem_getD hM
    rw [List.length_map, Array.length_toList] at hj
    rw [← numAt_eq]; exact h2 j (by omega)
  have e := Int.le_antisymm (hb _ hmem) hle
  rw [e]
  exact p _ h' tk hk htk (.int _ _)

theorem op_min_ints (hh : A.handled = none) {ns : List Int} {M : Int} (hne : ns ≠ []) (hM : M ∈ ns) (hb : ∀ a ∈ ns, M ≤ a) : Opn prog w A (fun vs => call (.builtin "min") vs) [.list (ns.map D.int)] (.int M) := by
  intro mu s vs Q E _ ht rs p
  obtain ⟨v, us, rfl, r, rs⟩ := rs.inv_cons
  rw [rs.inv_nil]
  obtain ⟨l, ws, rfl, _, hl, hs⟩ := r.inv_list
  obtain ⟨xs, e1, rfl⟩ := ints_items hs.ints
  rw [e1] at hl
  have hsz : 0 < xs.size := by
    rcases Nat.eq_zero_or_pos xs.size with h | h
    · exact absurd (by have : xs = #[] := Array.eq_empty_of_size_eq_zero h; simp [this]) hne
    · exact h
  refine wpAny_with_toks (n := 1) ht (min_intList hh hl hsz fun v h' tk hv hk htk => ?_)
  obtain ⟨t, rfl⟩ := intItems_at hv
  obtain ⟨h1, h2⟩ := argBest_lt (numAt xs) (xs.size - 1)
  have hmem : numAt xs (argBest (fun i j => decide (numAt xs i < numAt xs j)) (xs.size - 1)) ∈ xs.toList.map (·.1) := by
    rw [numAt_eq]; exact getD_mem (by rw [List.length_map, Array.length_toList]; omega)
  have hle : numAt xs (argBest (fun i j => decide (numAt xs i < numAt xs j)) (xs.size - 1)) ≤ M := by
    obtain ⟨j, hj, rfl⟩ := mem_getD hM
    rw [List.length_map, Array.length_toList] at hj
    rw [← numAt_eq]; exact h2 j (by omega)
  have e := Int.le_antisymm hle (hb _ hmem)
  rw [e]
  exact p _ h' tk hk htk (.int _ _)

theorem op_max_two (hh : A.handled = none) {a b : Int} : Opn prog w A (fun vs => call (.builtin "max") vs) [.int a, .int b] (.int (max a b)) := by
  intro mu s vs Q E _ ht rs p
  obtain ⟨v, us, rfl, r, rs⟩ := rs.inv_cons
  obtain ⟨v2, us2, rfl, r2, rs⟩ := rs.inv_cons
  rw [rs.inv_nil]
  obtain ⟨t, rfl⟩ := r.inv_int
  obtain ⟨u, rfl⟩ := r2.inv_int
  refine wpAny_with_toks (n := 1) ht (max_two_ints hh fun h' tk hk htk => ?_)
  refine p _ h' tk hk htk ?_
  by_cases h : b > a
  · rw [if_pos h, Int.max_eq_right (by omega)]; exact .int _ _
  · rw [if_neg h, Int.max_eq_left (by omega)]; exact .int _ _

theorem op_startswith {x y : Str} : Opn prog w A (fun vs => call (.builtin "str.startswith") vs) [.str x, .str y] (.bool (Txt.startswith x y)) := by
  intro mu s vs Q E _ ht rs p
  obtain ⟨v, us, rfl, r, rs⟩ := rs.inv_cons
  obtain ⟨v2, us2, rfl, r2, rs⟩ := rs.inv_cons
  rw [rs.inv_nil]
  obtain ⟨t, rfl⟩ := r.inv_str
  obtain ⟨u, rfl⟩ := r2.inv_str
  exact SC.startswith (p _ s.heap _ (Keep.refl _) ht (.bool _))
theorem op_endswith {x y : Str} : Opn prog w A (fun vs => call (.builtin "str.endswith") vs) [.str x, .str y] (.bool (Txt.endswith x y)) := by
  intro mu s vs Q E _ ht rs p
  obtain ⟨v, us, rfl, r, rs⟩ := rs.inv_cons
  obtain ⟨v2, us2, rfl, r2, rs⟩ := rs.inv_cons
  rw [rs.inv_nil]
  obtain ⟨t, rfl⟩ := r.inv_str
  obtain ⟨u, rfl⟩ := r2.inv_str
  exact SC.endswith (p _ s.heap _ (Keep.refl _) ht (.bool _))
theorem op_join {x : Str} {ts : List Str} (hw : (ts.map (·.length)).sum + ts.length ≤ 1048576) (hs : x.length ≤ 16) : Opn prog w A (fun vs => call (.builtin "str.join") vs) [.str x, .list (ts.map D.str)] (.str (Str.join x ts)) := by
  intro mu s vs Q E _ ht rs p
  obtain ⟨v, us, rfl, r, rs⟩ := rs.inv_cons
  obtain ⟨v2, us2, rfl, r2, rs⟩ := rs.inv_cons
  rw [rs.inv_nil]
  obtain ⟨t, rfl⟩ := r.inv_str
  obtain ⟨D, ws, rfl, _, hl, hs2⟩ := r2.inv_list
  obtain ⟨l, rfl, e⟩ := hs2.strs
  refine wpAny_with_toks (n := 1) ht (SC.join hl e (by unfold JoinOk; rw [joinFits_of_weight hw hs]; rfl) fun t' k htk => ?_)
  have e2 : Txt.join x ts = Str.join x ts := StrLaws.glued_eq_join _ _
  rw [e2]
  exact p _ s.heap k (Keep.refl _) htk (.str _ _)
theorem op_split {x y : Str} (hx : x.length ≤ 1048576) (hy : (y.length == 0) = false) : Opn prog w A (fun vs => call (.builtin "str.split") vs) [.str x, .str y] (.list ((Txt.split x y).map D.str)) := by
  intro mu s vs Q E low ht rs p
  obtain ⟨v, us, rfl, r, rs⟩ := rs.inv_cons
  obtain ⟨v2, us2, rfl, r2, rs⟩ := rs.inv_cons
  rw [rs.inv_nil]
  obtain ⟨t, rfl⟩ := r.inv_str
  obtain ⟨u, rfl⟩ := r2.inv_str
  have hsz : x.length ≤ sizeLine := by rw [sizeLine_eq]; omega
  have hocc := StrLaws.occ_length_le x y 0 x.length (x.length + 1)
  have hsz2 : (partsBetween x (occurrences x y 0 x.length (x.length + 1)) y.length).length ≤ sizeLine := by rw [length_partsBetween, sizeLine_eq]; omega
  have fin : ∀ (l : List (Str × Tok)) k, l.map (·.1) = Txt.split x y → 1 ≤ k → Q (.ref s.heap.objs.size) { s with heap := s.heap.push { cls := .type "list", data := .seq (strValues l).toArray }, toks := k } := fun l k e hk => by
    refine p _ _ k (Keep.push _ _) hk ?_
    rw [← e]
    exact R.newList low (Rs.of_strs l)
  refine wpAny_with_toks (n := 1) ht ?_
  cases h1 : (decide (x.length < y.length) || decide (strKind x < strKind y))
  · cases hf : (occurrences x y 0 x.length (x.length + 1)).isEmpty
    · refine call_meets F.slot_str_split (typeIs_str _ _ _) F.entry_str_split (F.args_str_split_2 _ _) (meets_str_split_sep x y t u h1 hy hf hsz hsz2) ?_
      show wants (fun v s' => 1 ≤ s'.toks → Q v s') (fun e s' => 1 ≤ s'.toks → E e s') _ { s with toks := _, heap := s.heap.push { cls := .type "list", data := .seq (strsFrom s.toks (partsBetween x (occurrences x y 0 x.length (x.length + 1)) y.length)).toArray } }
      rw [strsFrom_eq]
      exact fun htk => fin (numbered s.toks _) _ ((numbered_texts _ _).trans ((if_neg (ne_true_of_eq_false h1)).trans (if_neg (ne_true_of_eq_false hf))).symm) htk
    · exact call_meets F.slot_str_split (typeIs_str _ _ _) F.entry_str_split (F.args_str_split_2 _ _) (meets_str_split_not_found x y t u h1 hy hf)
        (fun htk => fin [(x, t)] _ ((if_neg (ne_true_of_eq_false h1)).trans (if_pos hf)).symm htk)
  · exact call_meets F.slot_str_split (typeIs_str _ _ _) F.entry_str_split (F.args_str_split_2 _ _) (meets_str_split_cannot_occur x y t u h1)
      (fun htk => fin [(x, t)] _ (if_pos h1).symm htk)

theorem sub_str_str : isSubtype (.type "str") (.type "str") = pure true := by rw [isSubtype_type]; kernel_rfl
theorem kind_issubclass_nested : builtinKind "issubclass.nested" = none := by decide +kernel
theorem plain_issubclass_nested : plainId "issubclass.nested" = true := by decide +kernel
theorem args_issubclass_nested_3 (a b c : Value) : argsOk "issubclass.nested" ⟨[a, b, c], []⟩ := by unfold argsOk; kernel_rfl
theorem type_str_meta : typeOf (.type "str") = pure (.type "type") := rfl
theorem issub_nested_str (tk : Tok) (dep : Int) : Meets (Builtin.«issubclass.nested» ⟨[.type "str", .type "str", .int dep tk], []⟩) (fun _ R s => R (.ok (.ret (.bool true))) s) := by
  intro prog w A R s hs
  have h1 := sub_str_str
  have hm := type_str_meta
  repeat (any_goals (first | assumption | (rw [if_pos hm]) | (rw [h1]) | wp_step))
theorem issub_items {E : Value → Shared → Prop} {dep : Int} {cs : List Value} {s : Shared} {Q : Option PySem.Fin × Unit → Shared → Prop} (h : Q (some (.done (.ret (.bool true))), ()) s) :
    wpAny (model prog w) A (forIn (Value.type "str" :: cs) ((none : Option PySem.Fin), ()) fun c _ => do
      if ← truthy (← call (.builtin "issubclass.nested") [.type "str", c, rawInt (dep + 1)]) then
        let r ← ret (.bool true)
        pure (ForInStep.done (some r, ()))
      else pure (ForInStep.yield (none, ()))) Q E s := by
  rw [List.forIn_cons]
  refine wpAny_bind (wpAny_bind (call_function_meets kind_issubclass_nested plain_issubclass_nested PySem.F.entry_issubclass_nested (args_issubclass_nested_3 _ _ _) (issub_nested_str _ _) ?_))
  show wpAny _ _ (truthy (.bool true) >>= _) _ _ _
  refine wpAny_bind (m := truthy (.bool true)) (wpAny_pure ?_)
  exact wpAny_bind (wpAny_pure (wpAny_pure (wpAny_pure h)))
theorem issub_nested_tuple {E : Value → Shared → Prop} {tp : Addr} {vs cs : List Value} {tk : Tok} {s : Shared} {Q : PySem.Fin → Shared → Prop} (hvs : vs = Value.type "str" :: cs) (htp : s.heap.IsTuple tp vs.toArray) (hq : Q (.done (.ret (.bool true))) s) :
    wpAny (model prog w) A (Builtin.«issubclass.nested» ⟨[.type "str", .ref tp, .int 0 tk], []⟩) Q E s := by
  obtain ⟨⟨cls, dd, data, sl⟩, ho, hc, n, hd⟩ := htp
  simp only at hc hd
  subst hc hd
  have hT2 : s.TypeIs (.ref tp) "tuple" := ⟨_, ho, rfl⟩
  have f1 := F.isi_sub_tuple
  repeat (any_goals (first | assumption | wp_step))
  refine wpAny_arrayLoop ?_
  simp only [Option.getD_some, List.toList_toArray]
  rw [hvs]
  refine issub_items (dep := 0) ?_
  repeat (any_goals (first | assumption | wp_step))

theorem op_issubclass (d : D) : Opn prog w A (fun vs => call (.builtin "issubclass") vs) [.typ "str", .tup [.typ "str", d]] (.bool true) := by
  intro mu s vs Q E low ht rs p
  obtain ⟨v, us, rfl, r, rs⟩ := rs.inv_cons
  obtain ⟨v2, us2, rfl, r2, rs⟩ := rs.inv_cons
  rw [rs.inv_nil, r.inv_typ]
  obtain ⟨a, ws, rfl, hl, hs⟩ := r2.inv_tup
  obtain ⟨u, us3, rfl, q, hs⟩ := hs.inv_cons
  rw [q.inv_typ] at hl
  refine call_issubclass (fun _ _ _ _ _ hs => issubclass_outer (issub_nested_tuple rfl hs.1 hs.2)) (S := fun _ R s => s.heap.IsTuple a (Value.type "str" :: us3).toArray ∧ R (.ok (.ret (.bool true))) s) ⟨hl, p _ s.heap s.toks (Keep.refl _) ht (.bool _)⟩
end
end Mine
end

section
open PySem PySem.Calls PyProof.Rows PySem.W
set_option maxRecDepth 100000
set_option linter.unusedVariables false
namespace Mine

def Binds (fd : FuncData) (xs : List Str) (ds ds' : List D) : Prop :=
  ∀ (M : Model) (A : Around) (mu : List Addr) (s : Shared) (vs : List Value) (Q : List (Str × Value) → Shared → Prop) (E : Value → Shared → Prop), Rs s.heap mu ds vs →
    (∀ h' us, Keep s.heap h' → Rs h' mu ds' us → Q (xs.zip us) { s with heap := h' }) → wpAny M A (bindArgs fd ⟨vs, []⟩) Q E s

/-- a def without cells, its arguments bound in any way -/
theorem Fn.ofb {prog : Program} {w : World} {hG : Heap} {n : Nat} {f : Addr} {o : Obj} {fd : FuncData} {body : List Stmt} {xs : List Str} {ds ds' : List D} {d : D}
    (ho : hG.get? f = some o) (hd : o.data = .func fd) (lim : hG.NoLimit) (hcd : hG.CodeRec fd.code fd.qualname) (hbody : fd.body = .stmts body)
    (hgl : fd.globals = mainGlobals) (hbi : fd.builtins = builtinsNs) (hclo : fd.closure = [])
    (hbind : Binds fd xs ds ds') (hxl : xs.length = ds'.length)
    (hcell : ∀ x ∈ fd.scope.names, x.2 ≠ .cell) (hloc : ∀ x ∈ xs, fd.scope.names.lookup x = some .local) (hnd : xs.Nodup)
    (hco : fd.scope.isCoroutine = false) (hgen : fd.scope.isGenerator = false) (hk : fd.scope.kind = .function)
    (h : ∀ A L av, Room A n → Gives ⟨prog, w, A, callEnv fd L f, hG, av, false⟩ (xs.zip (ds'.map Slot.val)) body d) : Fn prog w hG (n + 1) f ds d := by
  intro A mu s vs0 Q E room k low ht rs0 pp
  refine wpAny_call ?_
  refine codeAny_call_function (by have := room.dep; omega) (k _ _ ho) hd hco hgen hbody (hcd.keeps k) (hbind _ _ mu _ _ _ _ rs0 fun hb vs kb rs => ?_)
  have kG := k.trans kb
  have low' := low.keep kb
  have hlen : vs.length = xs.length := by rw [hxl, rs.1]
  refine wpAny_newFunctionEnv hcell (fun y hy => hloc _ (List.of_mem_zip hy).1) (fun h₁ hns hsb => ⟨(lim.keeps kG).fresh _ hsb, codeAny_func ?_⟩) hk
  have hk₁ : Keep hb h₁ := fun b o e => hsb.extBut b o (Nat.ne_of_lt (Heap.lt_size e)) (Heap.get?_push_of_some _ e)
  have rm : Room (A.deeper (callEnv fd hb.objs.size f)) n := ⟨room.hd, by have := room.dep; show A.depth + 1 + n < _; omega, by have := room.un; show A.units + 3 + 8 * n + 40 < _; omega⟩
  let C : Cx := ⟨prog, w, A.deeper (callEnv fd hb.objs.size f), callEnv fd hb.objs.size f, hG, mu, false⟩
  have slots : ∀ (xs : List Str) (ds : List D) (vs : List Value), xs.Nodup → xs.length = ds.length → Rs hb mu ds vs → ∀ y sl, (xs.zip (ds.map Slot.val)).lookup y = some sl → ∃ v d, sl = .val d ∧ (xs.zip vs).reverse.lookup y = some v ∧ R hb mu d v := by
    intro xs
    induction xs with
    | nil => intro ds vs _ _ _ y sl e; simp at e
    | cons x xs ih =>
      intro ds vs nd hl rs y sl e
      cases ds with
      | nil => simp at hl
      | cons d ds =>
        obtain ⟨v, vs, rfl, r, rs'⟩ := rs.inv_cons
        obtain ⟨nx, nd'⟩ := List.nodup_cons.mp nd
        rw [List.map_cons, List.zip_cons_cons] at e
        rw [List.zip_cons_cons, List.reverse_cons, List.lookup_append]
        by_cases hy : y = x
        · subst hy
          rw [lookup_cons_eq] at e; cases e
          refine ⟨v, d, rfl, ?_, r⟩
          have : (xs.zip vs).reverse.lookup y = none := by
            rw [List.lookup_eq_none_iff]
            intro p hp
            have := (List.of_mem_zip (List.mem_reverse.mp hp)).1
            have ne : y ≠ p.1 := fun q => nx (q ▸ this)
            simpa using ne
          rw [this]; simp
        · rw [lookup_cons_ne hy] at e
          obtain ⟨u, d', e1, e2, e3⟩ := ih ds vs nd' (by simpa using hl) rs' y sl e
          exact ⟨u, d', e1, by rw [e2]; rfl, e3⟩
  have FS₁ : FS C hb none (xs.zip (ds'.map Slot.val)) h₁ := by
    refine ⟨kG, hk₁, get_size _, fun _ => ⟨fun p hp => ?_, ?_⟩, fun a e => (by cases e), low', fun p hp => ?_, _, hns, fun y sl e => ?_⟩
    · have : C.env.cells = [] := hclo
      rw [this] at hp; cases hp
    · have : C.env.cells = [] := hclo
      rw [this]; exact List.Pairwise.nil
    · have : C.env.cells = [] := hclo
      rw [this] at hp; cases hp
    · obtain ⟨v, d', rfl, e2, r⟩ := slots xs ds' vs hnd hxl rs y sl e
      have hy : y ∈ xs := by
        have := mem_of_lookup e
        exact (List.of_mem_zip this).1
      exact ⟨v, .inl ⟨hloc y hy, e2⟩, r.keep hk₁⟩
  refine h (A.deeper (callEnv fd hb.objs.size f)) hb.objs.size mu rm hb none _ _ _ FS₁ (by show 1 ≤ s.toks + _; omega) fun o fl h' tk ho t okk => ?_
  cases o with
  | next σ' =>
    obtain ⟨rfl, own', f'⟩ := okk
    have hd' : d = .none := ho
    subst hd'
    exact pp .none h' tk (kb.trans f'.keep) t .none
  | brk σ' => exact ho.elim
  | cont σ' => exact ho.elim
  | ret r =>
    obtain ⟨v, rfl, kk, rr⟩ := okk
    have hd' : r = d := ho
    subst hd'
    exact pp v h' tk (kb.trans kk) t rr

theorem Binds.plain {fd : FuncData} {xs : List Str} {ds : List D} (h : ∀ vs : List Value, vs.length = ds.length → bindArgs fd ⟨vs, []⟩ = pure (xs.zip vs)) : Binds fd xs ds ds := by
  intro M A mu s vs Q E rs hQ
  rw [h vs rs.1.symm]
  exact wpAny_pure (hQ s.heap vs (Keep.refl _) rs)
theorem Binds.var {fd : FuncData} {x y : Str} {d : D} {ds : List D} (hn : ds.length ≤ sizeLine) (h : ∀ v (vs : List Value), vs.length = ds.length → bindArgs fd ⟨v :: vs, []⟩ = (do let T ← newTuple vs; pure [(x, v), (y, T)])) : Binds fd [x, y] (d :: ds) [d, .tup ds] := by
  intro M A mu s vs Q E rs hQ
  obtain ⟨v, us, rfl, r, rs⟩ := rs.inv_cons
  rw [h v us rs.1.symm]
  refine wpAny_bind (wpAny_newTuple (wpAny_pure ?_) (by rw [← rs.1]; exact hn))
  exact hQ _ [v, .ref s.heap.objs.size] (Keep.push _ _) (.cons (r.keep (Keep.push _ _)) (.cons (R.newTuple rs) .nil))
end Mine
end

section
open PySem PySem.Calls PyProof.Rows PySem.W
set_option maxRecDepth 100000
set_option linter.unusedVariables false
namespace Mine

abbrev Has (σ : Vars) (x : Str) (d : D) : Prop := List.lookup x σ = some (Slot.val d)

abbrev HasOwn (σ : Vars) (x : Str) (ds : List D) : Prop := List.lookup x σ = some (Slot.own ds)

theorem AsTo.triple {C : Cx} {n : Nat} (ok : C.Ok n) {σ : Vars} {x y z : Str} {p q r pos : Pos} {k : Nat} {d e f : D} (sx : Sto C σ x) (sy : Sto C ((x, .val d) :: σ) y) (sz : Sto C ((y, .val e) :: (x, .val d) :: σ) z) :
    AsTo C σ (.Tuple [.Name x p, .Name y q, .Name z r] k pos) (.tup [d, e, f]) ((z, .val f) :: (y, .val e) :: (x, .val d) :: σ) := by
  intro h₀ own s v Q E F ht rr pp
  obtain ⟨a, vs, rfl, hl, hs⟩ := rr.inv_tup
  obtain ⟨v₁, us, rfl, r₁, hs⟩ := hs.inv_cons
  obtain ⟨v₂, us, rfl, r₂, hs⟩ := hs.inv_cons
  obtain ⟨v₃, us, rfl, r₃, hs⟩ := hs.inv_cons
  rw [hs.inv_nil] at hl
  refine wpAny_assign_Tuple ok.room.hd hl rfl rfl fun h' hx => ?_
  have K : Keep s.heap h' := fun b o e => hx b o (Nat.ne_of_lt (Heap.lt_size e)) e
  show wpAny _ _ (assignInOrder [assign (.Name x p) C.env, assign (.Name y q) C.env, assign (.Name z r) C.env] [v₁, v₂, v₃]) _ _ _
  refine wpAny_bind (wpAny_holding (wpAny_assign_Name (FS.store' ok (s := { s with heap := h' }) (F.keeps K) ht (v := v₁) (sl := .val d) (r₁.keep K) (sx.here (F.keeps K)) fun h₂ tk₂ F₂ t₂ kr => ?_)))
  refine wpAny_bind (wpAny_holding (wpAny_assign_Name (FS.store' ok (s := { s with heap := h₂, toks := tk₂ }) F₂ t₂ (v := v₂) (sl := .val e) (kr _ _ (r₂.keep K)) (sy.here F₂) fun h₃ tk₃ F₃ t₃ kr₃ => ?_)))
  refine wpAny_bind (wpAny_holding (AsTo.name ok sz h₀ own _ v₃ _ E F₃ t₃ (kr₃ _ _ (kr _ _ (r₃.keep K))) fun h₄ tk₄ F₄ t₄ => ?_))
  exact wpAny_pure (pp h₄ tk₄ F₄ t₄)

theorem Ex.assign_to {C : Cx} {σ σ' : Vars} {tgt e : Expr} {pos : Pos} {d : D} {P : Out → Prop} (y : Ev C σ e d) (t : AsTo C σ tgt d σ') (h : P (.next σ'))
    (he : (assignEach [tgt] C.env).map (·.2) = [PySem.assign tgt C.env] := by rfl) (hs : swapsWithSole [tgt] e pos.line C.env = pure false := by rfl) (hw : swappedStores [tgt] e C.env = pure none := by rfl) : Ex C σ (.Assign [tgt] e pos) P := by
  intro h₀ own s Q E F ht pp
  refine wpAny_Assign_stores (y h₀ own s _ E F ht fun v h₁ tk₁ k₁ t₁ r₁ => ?_) hs hw
  rw [he]
  exact t h₀ own _ v _ E (F.keeps k₁) t₁ r₁ fun h' tk F' t' => pp _ .next h' tk h t' ⟨rfl, own, F'⟩

/-- a method of a text without arguments is not needed; a For whose invariant keeps the state small -/
theorem Then.next {C : Cx} {rest : List Stmt} {P : Out → Prop} {σ : Vars} (h : Exs C σ rest P) : Then C rest P (.next σ) := h
theorem Tv.subEv {C : Cx} {σ σ' : Vars} {e : Expr} {d : D} (x : Ev C σ' e d) (k : ∀ x sl, σ'.lookup x = some sl → σ.lookup x = some sl) : Ev C σ e d := Tv.sub x k
end Mine
end

section
open PySem PySem.Calls PyProof.Rows PySem.W
set_option maxRecDepth 100000
set_option linter.unusedVariables false
namespace Mine

theorem CellsAre.mem {cm : Str → Option Value} {cs : List (Str × Addr)} {cells : List (Addr × Obj)} (x : CellsAre cm cs cells) : ∀ p ∈ cs, ∃ o, (p.2, o) ∈ cells ∧ o.data = .cell (cm p.1) := by
  induction x with
  | nil => intro p hp; cases hp
  | cons h r ih =>
    intro p hp
    rcases List.mem_cons.mp hp with rfl | hp
    · exact ⟨_, List.mem_cons_self .., h⟩
    · obtain ⟨o, h1, h2⟩ := ih p hp
      exact ⟨o, List.mem_cons_of_mem _ h1, h2⟩

theorem FS.start {prog : Program} {w : World} {A : Around} {env : Env} {h₀ h₁ : Heap} {m cm : Str → Option Value} {cells : List (Addr × Obj)} {x : Str} {v : Value} {d : D}
    (F : Fr h₀ env.locals h₁ m) (N : News h₀ env.locals h₁ cells) (X : CellsAre cm env.cells cells) (hL : env.locals = h₀.objs.size) (hd : env.cells.Pairwise fun x y => x.2 ≠ y.2)
    (hk : env.kindOf x = some .local) (hm : m x = some v) (r : R h₀ [] d v) : FS ⟨prog, w, A, env, h₀, [], false⟩ h₀ none [(x, .val d)] h₁ := by
  have hc : ∀ p ∈ env.cells, ∃ o, (p.2, o) ∈ cells ∧ o.data = .cell (cm p.1) := CellsAre.mem X
  refine ⟨Keep.refl _, F.keep, by show h₀.get? env.locals = none; rw [hL]; exact get_size _, fun _ => ⟨fun p hp => ?_, hd⟩, fun a e => (by cases e), fun a ha => (by cases ha), fun p hp => ?_, m, F.ns, fun y sl e => ?_⟩
  · obtain ⟨o, h1, _⟩ := hc p hp
    exact (N _ h1).2.2
  · obtain ⟨o, h1, h2⟩ := hc p hp
    exact ⟨_, o, (N _ h1).1, h2⟩
  · by_cases hy : y = x
    · subst hy
      rw [lookup_cons_eq] at e; cases e
      exact ⟨v, .inl ⟨hk, hm⟩, r.keep F.keep⟩
    · rw [lookup_cons_ne hy] at e; cases e

/-! the first statement: the count of fresh numbers may still be nought -/
def Tv0 (C : Cx) (σ : Vars) (t : Sem Value) (d : D) : Prop :=
  ∀ h₀ own s Q E, FS C h₀ own σ s.heap → Post s (own.toList ++ C.av) d Q → wpAny (model C.prog C.w) C.A t Q E s
def Run0 (C : Cx) (σ : Vars) (t : Sem Flow) (P : Out → Prop) : Prop :=
  ∀ h₀ own s Q E, FS C h₀ own σ s.heap → (∀ o fl h' tk, P o → 1 ≤ tk → OutOk C h₀ fl h' o → Q fl { s with heap := h', toks := tk }) → wpAny (model C.prog C.w) C.A t Q E s
theorem name0 {C : Cx} {n : Nat} (ok : C.Ok n) {σ : Vars} {x : Str} {pos : Pos} {d : D} {h₀ : Heap} {own : Option Addr} {s : Shared} {Q : Value → Shared → Prop} {E : Value → Shared → Prop} (F : FS C h₀ own σ s.heap) (e : σ.lookup x = some (.val d))
    (hQ : ∀ v, R s.heap (own.toList ++ C.av) d v → Q v s)
    (hd : (x == ("__debug__" : Str)) = false := by decide +kernel) (hc : (x == ("__classdict__" : Str)) = false := by decide +kernel) : wpAny (model C.prog C.w) C.A (eval (.Name x pos) C.env) Q E s := by
  obtain ⟨m, hn, hv⟩ := F.ns
  obtain ⟨v, b, q⟩ := hv x _ e
  have hQ := hQ v q
  refine wpAny_Name ?_ hd
  rcases b with ⟨hk, hm⟩ | ⟨hk, c, hc', hcell⟩
  · exact wpAny_loadName_local ok.fn hk hn hm hQ
  · rcases hk with hk | hk
    · exact wpAny_loadName_cell ok.fn hk hc' hcell hQ
    · exact wpAny_loadName_free ok.fn hk hc' hcell hQ hc
theorem Tv0.slice_to {C : Cx} {n : Nat} (ok : C.Ok n) {σ : Vars} {x : Str} {p q pos : Pos} {ck : Nat} {k : Int} {cp : Pos} {xs : List D} (e : σ.lookup x = some (.val (.list xs))) (hn : xs.length ≤ sizeLine)
    (hd : (x == ("__debug__" : Str)) = false := by decide +kernel) (hc : (x == ("__classdict__" : Str)) = false := by decide +kernel) :
    Tv0 C σ (eval (.Subscript (.Name x q) (.Slice none (some (.Constant (.int k) ck cp)) none p) pos) C.env) (.list (sl xs none (some k))) := by
  intro h₀ own s Q E F pp
  refine Subscript_ (name0 ok F e (fun v r₁ => ?_) hd hc)
  obtain ⟨l, vs, rfl, _, hl, hs⟩ := R.inv_list r₁
  refine wpAny_Slice ?_
  rw [evalPart_none]
  refine wpAny_pure ?_
  show wpAny _ _ (eval (.Constant (.int k) ck cp) C.env) _ _ _
  refine wpAny_Constant_int ?_
  refine wpAny_pure ?_
  dsimp only
  refine sub_tail (Heap.IsList.typeIs (s := { s with heap := s.heap.push _, toks := s.toks + 1 }) (hl.push _)) slot_list_getitem.lookup ?_
  have e := hs.1
  refine wpAny_getItem_list_slice (lo := none) (hi := some k) (st := none) (hl.push _) (Heap.IsSliceOf.new ..) .none (.int k _) .none (by simp) ?_ (by simp; omega)
  have hk : Keep s.heap ((s.heap.push { cls := .type "slice", data := .fields #[.none, .int k s.toks, .none] }).push { cls := .type "list", data := .seq (slicePick vs.toArray none (some k) none) }) := (Keep.push _ _).trans (Keep.push _ _)
  refine pp _ _ (s.toks + 1) hk (by omega) ?_
  have e2 : slicePick vs.toArray none (some k) none = (sl vs none (some k)).toArray := by
    rw [slicePick_plain]; simp [sl]
  rw [e2]
  refine R.newList (F.low.keep (Keep.push _ _)) ?_
  have hs' := hs.keep (Keep.push s.heap { cls := .type "slice", data := .fields #[.none, .int k s.toks, .none] })
  unfold sl
  rw [← e]
  exact (hs'.drop _).take _
theorem Exs.first {C : Cx} {n : Nat} (ok : C.Ok n) {σ : Vars} {x : Str} {e : Expr} {p pos : Pos} {d : D} {rest : List Stmt} {P : Out → Prop} (y : Tv0 C σ (eval e C.env) d) (st : Sto C σ x) (h : Exs C ((x, .val d) :: σ) rest P)
    (hs : swapsWith e (some (.Name x p)) pos.line C.env = pure false := by rfl) : Run0 C σ (execs (.Assign [.Name x p] e pos :: rest) C.env) P := by
  intro h₀ own s Q E F pp
  refine wpAny_execs_cons (wpAny_Assign_Name (y h₀ own s _ E F fun v h₁ tk₁ k₁ t₁ r₁ => ?_) hs)
  refine (F.keeps k₁).store ok t₁ (v := v) (sl := .val d) r₁ (st.here (F.keeps k₁)) fun h' tk F' t' => ?_
  exact h h₀ own _ Q E F' t' pp
def Gives0 (C : Cx) (σ : Vars) (body : List Stmt) (d : D) : Prop := Run0 C σ (execs body C.env) (fun o => match o with | .ret r => r = d | .next _ => d = .none | _ => False)
theorem Gives.go0 {C : Cx} {σ : Vars} {body : List Stmt} {d : D} {h₀ : Heap} {s : Shared} {Q : Flow → Shared → Prop} {E : Value → Shared → Prop} (g : Gives0 C σ body d) (F : FS C h₀ none σ s.heap) (hd : d ≠ .none)
    (hQ : ∀ v h' tk, Keep h₀ h' → R h' C.av d v → Q (.ret v) { s with heap := h', toks := tk }) : wpAny (model C.prog C.w) C.A (execs body C.env) Q E s := by
  refine g h₀ none s Q E F fun o fl h' tk ho t ok => ?_
  cases o with
  | next σ' => exact absurd ho hd
  | brk σ' => exact ho.elim
  | cont σ' => exact ho.elim
  | ret r =>
    obtain ⟨v, rfl, k, rr⟩ := ok
    have hr : r = d := ho
    subst hr
    exact hQ v h' tk k rr
end Mine
end

section
open PySem PySem.Calls PyProof.Rows PySem.W
set_option maxRecDepth 100000
set_option linter.unusedVariables false
namespace Mine
section
variable {prog : Program} {w : World} {A : Around}

theorem op_pow_int {a n : Int} (h0 : 0 ≤ n) (hn : n ≤ 1000000) (ha : a.natAbs < 2 ^ 64) : Op2 prog w A (binaryOp .Pow) (.int a) (.int n) (.int (a ^ n.toNat)) := by
  intro mu s v₁ v₂ Q E _ ht r₁ r₂ p
  obtain ⟨t, rfl⟩ := r₁.inv_int
  obtain ⟨u, rfl⟩ := r₂.inv_int
  exact pow_int_small h0 hn ha (p _ s.heap _ (Keep.refl _) (Nat.le_succ_of_le ht) (.int _ _))

theorem op_mul_str {x : Str} {n : Int} (h1 : 2 ≤ n) (hn : n ≤ 100) (hx : x.length ≤ 100) (hx0 : (x.length == 0) = false) (hl : ((List.replicate n.toNat x.cps).foldl (· ++ ·) #[]).size ≤ sizeLine) : Op2 prog w A (binaryOp .Mult) (.str x) (.int n) (.str ⟨(List.replicate n.toNat x.cps).foldl (· ++ ·) #[]⟩) := by
  intro mu s v₁ v₂ Q E _ ht r₁ r₂ p
  obtain ⟨t, rfl⟩ := r₁.inv_str
  obtain ⟨u, rfl⟩ := r₂.inv_int
  refine PySem.P.mul_str ?_ ?_ ?_ ?_
  · rw [decide_eq_false (by omega), decide_eq_false (by omega)]; rfl
  · intro _ _ h
    have h2 : (100 : Int) ≤ (2 ^ 63 - 1) / n := by
      rw [Int.le_ediv_iff_mul_le (by omega)]
      omega
    omega
  · intro _ _
    have h2 : x.length * n.toNat ≤ 100 * 100 := Nat.mul_le_mul hx (by omega)
    unfold Builtin.Str.tooLong sizeLine
    exact decide_eq_false (by omega)
  · rw [if_neg (by omega)]
    have hb : (n == 1) = false := by simp; omega
    rw [if_neg (by rw [hb, hx0]; simp)]
    exact ⟨hl, p _ s.heap _ (Keep.refl _) (Nat.le_succ_of_le ht) (.str _ _)⟩

theorem Rs.rep {h : Heap} {mu : List Addr} {ds : List D} {vs : List Value} (x : Rs h mu ds vs) : ∀ k, Rs h mu (List.replicate k ds).flatten (List.replicate k vs).flatten
  | 0 => .nil
  | k + 1 => by
    rw [List.replicate_succ, List.replicate_succ, List.flatten_cons, List.flatten_cons]
    exact x.append (x.rep k)

theorem op_mul_list {xs : List D} {n : Int} (hlo : -(2 ^ 63 : Int) ≤ n) (hhi : n < 2 ^ 63) (hsz : xs.length * n.toNat ≤ 2 ^ 24) : Op2 prog w A (binaryOp .Mult) (.list xs) (.int n) (.list (List.replicate n.toNat xs).flatten) := by
  intro mu s v₁ v₂ Q E low ht r₁ r₂ p
  obtain ⟨l, vs, rfl, _, hl, hs⟩ := r₁.inv_list
  obtain ⟨u, rfl⟩ := r₂.inv_int
  obtain ⟨⟨cls, d, data, sl⟩, ho, hcl, k, hd⟩ := id hl
  simp only at hcl hd
  subst hcl hd
  have e := hs.1
  rw [e] at hsz
  have hsz' : vs.toArray.size * n.toNat ≤ 2 ^ 24 := by simpa using hsz
  refine wpAny_binaryOp_repeat_ref (T := "list") (U := "int") (by decide) ⟨_, ho, rfl⟩ (fun s' => typeIs_int s' n u) noFill_list_mul F.fills_int_mul F.slot_int_rmul repeat_list F.slot_int_index.lookup
    (call_meets F.slot_int_rmul (typeIs_int s n u) F.entry_int_rmul (F.args_int_rmul_2 _ _) (lm_int_rmul_list_any n u l vs.toArray k d sl)
      ⟨ho, rfl, ⟨_, ho, rfl⟩, call_meets F.slot_list_mul ⟨_, ho, rfl⟩ F.entry_list_mul (F.args_list_mul_2 _ _)
        (lm_list_mul_any l vs.toArray k d sl n u (by simp [Builtin.List.listFitsIndex]; omega) (by omega) (by simp [Builtin.List.listTooLong, sizeLine]; omega))
        ⟨ho, ?_⟩⟩)
  rw [listMul_foldl_if]
  exact p _ _ s.toks (Keep.push _ _) ht (R.newList low (hs.rep _))

/-- a list after a star -/
theorem Evs.star {C : Cx} {σ : Vars} {pos sp : Pos} {e : Expr} {ds : List D} (x : Ev C σ e (.list ds)) (hn : ds.length ≤ sizeLine)
    (he : starEach [.Starred e sp] C.env = [(true, eval e C.env)] := by rfl) : Evs C σ pos [.Starred e sp] ds := by
  intro h₀ own s Q E F ht p
  show wpAny _ _ (spliced (backTo pos (starEach [.Starred e sp] C.env))) _ _ _
  rw [he]
  show wpAny _ _ (spliced [(true, do let v ← eval e C.env; standAt pos; pure v)]) _ _ _
  rw [spliced]
  refine wpAny_bind (wpAny_bind (x h₀ own s _ E F ht fun v h₁ tk₁ k₁ t₁ r₁ => ?_))
  obtain ⟨l, vs, rfl, _, hl, hs⟩ := r₁.inv_list
  refine wpAny_bind (wpAny_standAt (wpAny_pure ?_))
  simp only [if_true]
  refine wpAny_bind ?_
  refine wpAny_bind (wpAny_specialOf (s := { s with heap := h₁, toks := tk₁ }) (Heap.IsList.typeIs (s := { s with heap := h₁, toks := tk₁ }) hl) PySem.F.slot_list_iter.lookup ?_)
  simp only [Option.isSome_some, if_true]
  refine wpAny_pure ?_
  simp only [Bool.false_eq_true, if_false]
  refine wpAny_bind (collect_list hl ?_ (by rw [← hs.1]; exact hn))
  refine wpAny_bind (wpAny_holding (wpAny_pure (wpAny_pure ?_)))
  simp only [List.append_nil]
  have k2 : Keep h₁ ((h₁.push (seqObj "list" #[] 0)).update h₁.objs.size (Obj.mapSeq (· ++ vs.toArray))) := fun b o e =>
    (Heap.get?_update_ne _ _ _ _ (Nat.ne_of_lt (Heap.lt_size e))).trans (Heap.get?_push_of_some _ e)
  exact p vs _ tk₁ (k₁.trans k2) t₁ (hs.keep k2)
end
end Mine
end

section
open PySem PySem.Calls PyProof.Rows PySem.W
set_option maxRecDepth 100000
set_option linter.unusedVariables false
namespace Mine

/-! the first statement -/
def Tb0 (C : Cx) (σ : Vars) (t : Sem Bool) (b : Bool) : Prop :=
  ∀ h₀ own s Q E, FS C h₀ own σ s.heap → (∀ h' tk, Keep s.heap h' → 1 ≤ tk → Q b { s with heap := h', toks := tk }) → wpAny (model C.prog C.w) C.A t Q E s
theorem Tv0.binop {C : Cx} {σ : Vars} {l r : Expr} {op : Operator} {pos : Pos} {d₁ d₂ d : D} (x₁ : Tv0 C σ (eval l C.env) d₁) (x₂ : Ev C σ r d₂) (o : Op2 C.prog C.w C.A (binaryOp op) d₁ d₂ d) : Tv0 C σ (eval (.BinOp l op r pos) C.env) d := by
  intro h₀ own s Q E F p
  refine wpAny_BinOp (x₁ h₀ own s _ E F fun v₁ h₁ tk₁ k₁ t₁ r₁ => ?_)
  refine x₂ h₀ own _ _ E (F.keeps k₁) t₁ fun v₂ h₂ tk₂ k₂ t₂ r₂ => ?_
  exact o _ _ v₁ v₂ Q E (F.keeps (k₁.trans k₂)).low t₂ (r₁.keep k₂) r₂ fun v h' tk k t r => p v h' tk ((k₁.trans k₂).trans k) t r
theorem Tb0.compare {C : Cx} {σ : Vars} {l r : Expr} {op : CmpOp} {pos : Pos} {d₁ d₂ : D} {b : Bool} (x : Tv0 C σ (eval l C.env) d₁) (y : Ev C σ r d₂) (o : Op2 C.prog C.w C.A (compareOp op) d₁ d₂ (.bool b))
    (hm : behindInMarks op r = false := by with_unfolding_all rfl) : Tb0 C σ (isTrue (.Compare l [op] [r] pos) C.env (eval (.Compare l [op] [r] pos) C.env)) b := by
  intro h₀ own s Q E F p
  refine wpAny_isTrue_Compare1 (x h₀ own s _ E F fun v₁ h₁ tk₁ k₁ t₁ r₁ => ?_) hm
  refine y h₀ own _ _ E (F.keeps k₁) t₁ fun v₂ h₂ tk₂ k₂ t₂ r₂ => ?_
  refine o _ _ v₁ v₂ _ E (F.keeps (k₁.trans k₂)).low t₂ (r₁.keep k₂) r₂ fun v h' tk k t r => ?_
  rw [r.inv_bool]
  exact wpAny_truthy_bool (p h' tk ((k₁.trans k₂).trans k) t)
theorem Tv0.ifexp {C : Cx} {σ : Vars} {t b o : Expr} {pos : Pos} {c : Bool} {d : D} (x : Tb0 C σ (isTrue t C.env (eval t C.env)) c) (y : c = true → Ev C σ b d) (z : c = false → Ev C σ o d) : Tv0 C σ (eval (.IfExp t b o pos) C.env) d := by
  intro h₀ own s Q E F p
  refine IfExp_ (x h₀ own s _ E F fun h₁ tk₁ k₁ t₁ => ?_)
  cases c with
  | true => exact y rfl h₀ own _ _ E (F.keeps k₁) t₁ (p.mono k₁)
  | false => exact z rfl h₀ own _ _ E (F.keeps k₁) t₁ (p.mono k₁)
theorem Tv0.len {C : Cx} {n : Nat} (ok : C.Ok n) {σ : Vars} {f : Expr} {x : Str} {q pos : Pos} {xs : List D} (xf : Evf C σ f (.builtin "len")) (e : σ.lookup x = some (.val (.list xs))) (hn : xs.length ≤ sizeLine)
    (hd : (x == ("__debug__" : Str)) = false := by decide +kernel) (hc : (x == ("__classdict__" : Str)) = false := by decide +kernel)
    (h1 : eval (.Call f [.Name x q] [] pos) C.env = (do callWith pos (← eval f C.env) [] (backTo pos (starEach [.Name x q] C.env)) (backToKw pos (keywordEach [] C.env))) := by rfl)
    (h2 : starEach [.Name x q] C.env = (false, eval (.Name x q) C.env) :: starEach [] C.env := by rfl) : Tv0 C σ (eval (.Call f [.Name x q] [] pos) C.env) (.int xs.length) := by
  intro h₀ own s Q E F p
  refine Call_ (xf h₀ own s _ E F ?_) h1
  refine callWith_builtin1 (args_cons (name0 ok F e (fun v r => args_nil ?_) hd hc) h2) h2 rfl
  obtain ⟨l, ws, rfl, _, hl, hs⟩ := R.inv_list r
  rw [sizeLine_eq] at hn
  have el := hs.1
  refine call_len_list hl (by simp; omega) ?_
  have e2 : (ws.toArray.size : Int) = (xs.length : Int) := by simp [el]
  rw [e2]
  exact p _ s.heap _ (Keep.refl _) (by show 1 ≤ s.toks + 1 + 1; omega) (.int _ _)

/-- replace by a letter of a constant -/
theorem Ev.replace_letter {C : Cx} {n : Nat} (ok : C.Ok n) {σ : Vars} {o : Expr} {ap pos p1 p2 p3 p4 : Pos} {k1 k2 : Nat} {x y z : Str} {kn : Str} {i : Int} {c : Nat} {pl : Sem Bool} (xx : Ev C σ o (.str x)) (e : σ.lookup kn = some (.val (.int i)))
    (h0 : 0 ≤ i) (h63 : i < 2 ^ 63) (hc : (seqIndex? i z.length).bind (z.cps[·]?) = some c) (hyz : (y == (⟨#[c]⟩ : Str)) = false) (hx : x.length ≤ 1048576)
    (hd : (kn == ("__debug__" : Str)) = false := by decide +kernel) (hcd : (kn == ("__classdict__" : Str)) = false := by decide +kernel)
    (he : eval (.Call (.Attribute o "replace" ap) [.Constant (.str y) k1 p1, .Subscript (.Constant (.str z) k2 p2) (.Name kn p3) p4] [] pos) C.env = (do
      let ov ← eval o C.env
      standAt ap.atName
      let (f, first) ← holding [ov] (getMethod ov "replace" pl)
      callWith pos f first (backTo pos (starEach [.Constant (.str y) k1 p1, .Subscript (.Constant (.str z) k2 p2) (.Name kn p3) p4] C.env)) []) := by rfl)
    (h2 : starEach [.Constant (.str y) k1 p1, .Subscript (.Constant (.str z) k2 p2) (.Name kn p3) p4] C.env = (false, eval (.Constant (.str y) k1 p1) C.env) :: starEach [.Subscript (.Constant (.str z) k2 p2) (.Name kn p3) p4] C.env := by rfl)
    (h3 : starEach [.Subscript (.Constant (.str z) k2 p2) (.Name kn p3) p4] C.env = (false, eval (.Subscript (.Constant (.str z) k2 p2) (.Name kn p3) p4) C.env) :: starEach [] C.env := by rfl)
    (h4 : (backTo pos (starEach [.Subscript (.Constant (.str z) k2 p2) (.Name kn p3) p4] C.env)).any (·.1) = false := by rfl) :
    Ev C σ (.Call (.Attribute o "replace" ap) [.Constant (.str y) k1 p1, .Subscript (.Constant (.str z) k2 p2) (.Name kn p3) p4] [] pos) (.str (Txt.replace x y ⟨#[c]⟩)) := by
  intro h₀ own s Q E F ht pp
  refine MethodCall_ (xx h₀ own s _ E F ht fun v₁ h₁ tk₁ k₁ t₁ r₁ => ?_) he
  obtain ⟨t, rfl⟩ := r₁.inv_str
  refine GM.replace ?_
  refine callWith_method1 (args_cons (Constant_str (args_cons (Subscript_ (Constant_str (name0 ok (s := { s with heap := h₁, toks := tk₁ + 1 + 1 }) (F.keeps k₁) e (fun v r => ?_) hd hcd))) h3)) h2) h2 h4
  obtain ⟨u, rfl⟩ := R.inv_int r
  refine sub_tail (typeIs_str _ _ _) PySem.F.slot_str_getitem.lookup (PySem.P.getItem_str ?_ hc (args_nil ?_))
  · rw [decide_eq_false (by omega), decide_eq_false (by omega)]; rfl
  refine wpAny_with_toks (n := 1) (by show 1 ≤ tk₁ + 1 + 1 + 1; omega) (SC.replaceW (u := tk₁) (v := tk₁ + 1 + 1) (by show tk₁ ≠ 0; omega) (by show tk₁ + 1 + 1 ≠ 0; omega) (by show tk₁ ≠ tk₁ + 1 + 1; omega) hyz hx (by show 1 ≤ 14; decide) fun t' k htk => ?_)
  exact pp _ h₁ k k₁ htk (.str _ _)

/-- a def with cells, its arguments all locals -/
theorem Fn.ofc {prog : Program} {w : World} {hG : Heap} {n : Nat} {f : Addr} {o : Obj} {fd : FuncData} {body : List Stmt} {xs : List Str} {ds : List D} {d : D}
    (ho : hG.get? f = some o) (hd : o.data = .func fd) (lim : hG.NoLimit) (hcd : hG.CodeRec fd.code fd.qualname) (hbody : fd.body = .stmts body)
    (hgl : fd.globals = mainGlobals) (hbi : fd.builtins = builtinsNs) (hclo : fd.closure = [])
    (hbind : ∀ vs : List Value, vs.length = ds.length → bindArgs fd ⟨vs, []⟩ = pure (xs.zip vs)) (hxl : xs.length = ds.length)
    (hloc : ∀ x ∈ xs, fd.scope.names.lookup x = some .local) (hnd : xs.Nodup)
    (hmem : ∀ L, ∀ p ∈ cellsFrom (L + 1) fd.scope.names [], (cellsFrom (L + 1) fd.scope.names []).lookup p.1 = some p.2)
    (hco : fd.scope.isCoroutine = false) (hgen : fd.scope.isGenerator = false) (hk : fd.scope.kind = .function)
    (hbl : ∀ L (vs : List Value), vs.length = ds.length → ∀ y, bindL (callEnvC fd L f).kindOf (xs.zip vs) (fun _ => none) y = (xs.zip vs).lookup y)
    (h : ∀ A L av, Room A n → Gives ⟨prog, w, A, callEnvC fd L f, hG, av, false⟩ (xs.zip (ds.map Slot.val)) body d) : Fn prog w hG (n + 1) f ds d := by
  intro A mu s vs Q E room k low ht rs pp
  refine wpAny_call ?_
  refine codeAny_call_function (by have := room.dep; omega) (k _ _ ho) hd hco hgen hbody (hcd.keeps k) ?_
  have hlen : vs.length = ds.length := rs.1.symm
  rw [hbind vs hlen, hclo]
  refine wpAny_pure (wpAny_with_toks (n := 1) ht (wpAny_newFunctionEnv_cells hk (fun y hy => .inl (hloc _ (List.of_mem_zip hy).1)) fun env he s' x htk => ?_))
  subst he
  obtain ⟨h₁, tk₁, rfl⟩ := x.toInCall.same
  have hk₁ : Keep s.heap h₁ := x.toInCall.keep
  refine ⟨lim.keeps (k.trans hk₁), codeAny_func ?_⟩
  show wpAny (model prog w) (A.deeper (callEnvC fd s.heap.objs.size f)) (execs body (callEnvC fd s.heap.objs.size f)) _ _ _
  have rm : Room (A.deeper (callEnvC fd s.heap.objs.size f)) n := ⟨room.hd, by have := room.dep; show A.depth + 1 + n < _; omega, by have := room.un; show A.units + 3 + 8 * n + 40 < _; omega⟩
  let C : Cx := ⟨prog, w, A.deeper (callEnvC fd s.heap.objs.size f), callEnvC fd s.heap.objs.size f, hG, mu, false⟩
  have slots : ∀ (xs : List Str) (ds : List D) (vs : List Value), xs.length = ds.length → Rs s.heap mu ds vs → ∀ y sl, (xs.zip (ds.map Slot.val)).lookup y = some sl → ∃ v d, sl = .val d ∧ (xs.zip vs).lookup y = some v ∧ R s.heap mu d v := by
    intro xs
    induction xs with
    | nil => intro ds vs _ _ y sl e; simp at e
    | cons x xs ih =>
      intro ds vs hl rs y sl e
      cases ds with
      | nil => simp at hl
      | cons d ds =>
        obtain ⟨v, vs, rfl, r, rs'⟩ := rs.inv_cons
        rw [List.map_cons, List.zip_cons_cons] at e
        rw [List.zip_cons_cons]
        by_cases hy : y = x
        · subst hy
          rw [lookup_cons_eq] at e; cases e
          exact ⟨v, d, rfl, lookup_cons_eq, r⟩
        · rw [lookup_cons_ne hy] at e
          obtain ⟨u, d', e1, e2, e3⟩ := ih ds vs (by simpa using hl) rs' y sl e
          exact ⟨u, d', e1, by rw [lookup_cons_ne hy]; exact e2, e3⟩
  have hcells : ∀ p ∈ C.env.cells, h₁.IsCell p.2 (bindC (callEnvC fd s.heap.objs.size f).kindOf (xs.zip vs) (fun _ => none) p.1) := fun p hp => x.cell p.1 p.2 (hmem _ p hp)
  have FS₁ : FS C s.heap none (xs.zip (ds.map Slot.val)) h₁ := by
    refine ⟨k, hk₁, get_size _, fun _ => ⟨fun p hp => ?_, x.apart⟩, fun a e => (by cases e), low, fun p hp => ⟨_, hcells p hp⟩, _, x.toInCall.ns, fun y sl e => ?_⟩
    · have hab : s.heap.objs.size < p.2 := x.above p.1 p.2 hp
      cases q : s.heap.get? p.2 with
      | none => rfl
      | some o => exact absurd (Heap.lt_size q) (Nat.not_lt.mpr (Nat.le_of_lt hab))
    · obtain ⟨v, d', rfl, e2, r⟩ := slots xs ds vs hxl rs y sl e
      have hy : y ∈ xs := (List.of_mem_zip (mem_of_lookup e)).1
      exact ⟨v, .inl ⟨hloc y hy, (hbl _ vs hlen y).trans e2⟩, r.keep hk₁⟩
  refine h (A.deeper (callEnvC fd s.heap.objs.size f)) s.heap.objs.size mu rm s.heap none _ _ _ FS₁ htk fun o fl h' tk ho t okk => ?_
  cases o with
  | next σ' =>
    obtain ⟨rfl, own', f'⟩ := okk
    have hd' : d = .none := ho
    subst hd'
    exact pp .none h' tk f'.keep t .none
  | brk σ' => exact ho.elim
  | cont σ' => exact ho.elim
  | ret r =>
    obtain ⟨v, rfl, kk, rr⟩ := okk
    have hd' : r = d := ho
    subst hd'
    exact pp v h' tk kk t rr
end Mine
end

section
open PySem PySem.Calls PyProof.Rows PySem.W
set_option maxRecDepth 100000
set_option linter.unusedVariables false
namespace Mine

abbrev thePw : Program := PySem.Challenge.pw_rt0118_02
def bodyOf : Stmt → List Stmt | .FunctionDef _ _ b _ _ _ _ _ _ _ => b | _ => []
def scpOf : Stmt → Scope | .FunctionDef _ _ _ _ _ _ s _ _ _ => s | _ => default
def prmOf : Stmt → Arguments | .FunctionDef _ a _ _ _ _ _ _ _ _ => a | _ => default
def stAt (i : Nat) : Stmt := thePw.main.body.getD i (.Pass default)
def bodyAt (i : Nat) : List Stmt := bodyOf (stAt i)
def scpAt (i : Nat) : Scope := scpOf (stAt i)
def prmAt (i : Nat) : Arguments := prmOf (stAt i)
abbrev fdAt (i : Nat) (nm ql : Str) (dV kV doc pm : Value) (an : Option Addr) (cdv ct : Value) : FuncData := fnOf nm ql (prmAt i) (bodyAt i) (scpAt i) dV kV doc pm an cdv ct

structure Bs (h : Heap) : Prop where
  type : GB h "type" (.type "type")
  issub : GB h "issubclass" (.builtin "issubclass")
  isi : GB h "isinstance" (.builtin "isinstance")
  str : GB h "str" (.type "str")
  bytes : GB h "bytes" (.type "bytes")
structure FnIs (h : Heap) (x : Str) (a : Addr) : Prop where
  gg : GG h x (.ref a)
  is : IsFn h a

section
variable {prog : Program} {w : World} {A : Around} {hG : Heap} {av : List Addr} {L f : Addr} {nm ql : Str} {dV kV doc pm : Value} {an : Option Addr} {cdv ct : Value} {n : Nat}

theorem okOf {i : Nat} (rm : Room A n) (hk : (scpAt i).kind = .function) : Cx.Ok ⟨prog, w, A, callEnv (fdAt i nm ql dV kV doc pm an cdv ct) L f, hG, av, false⟩ n := ⟨rm, hk, rfl, rfl⟩

theorem fspath_gives (rm : Room A n) (b : Bs hG) (x : Str) :
    Gives ⟨prog, w, A, callEnv (fdAt 9 nm ql dV kV doc pm an cdv ct) L f, hG, av, false⟩ [("path", .val (.str x))] (bodyAt 9) (.str x) := by
  have ok := okOf (prog := prog) (w := w) (hG := hG) (av := av) (L := L) (f := f) (nm := nm) (ql := ql) (dV := dV) (kV := kV) (doc := doc) (pm := pm) (an := an) (cdv := cdv) (ct := ct) (i := 9) rm rfl
  refine Exs.cons (Ex.assign ok (Ev.callt (Evf.builtin ok b.type) (Evs.cons (Ev.name ok rfl) Evs.nil) op_type_str) (Sto.loc rfl) ?_)
  refine Exs.cons (Ex.if_ (It.plain (Ev.callb (Evf.builtin ok b.issub) (Evs.cons (Ev.name ok rfl) (Evs.cons (Ev.tuple (Evs.cons (Ev.typ (Evf.builtin ok b.str)) (Evs.cons (Ev.typ (Evf.builtin ok b.bytes)) Evs.nil))) Evs.nil)) (op_issubclass _)) opb_bool) (fun _ => ?_) (fun h => nomatch h))
  exact Exs.cons (Ex.ret (Ev.name ok rfl) rfl)
end
end Mine
end

section
open PySem PySem.Calls PyProof.Rows PySem.W
set_option maxRecDepth 100000
set_option linter.unusedVariables false
namespace Mine

def joinF (a b : Str) : Str := if (Txt.startswith b "/" || !(a.length != 0)) = true then b else if Txt.endswith a "/" = true then a ++ b else a ++ (("/" : Str) ++ b)
def splitF (p : Str) : Str × Str :=
  if (Txt.slice p none (some 1) != ("/" : Str)) = true then ("", p) else
  if ((Txt.slice p (some 1) (some 2) != ("/" : Str)) || (Txt.slice p (some 2) (some 3) == ("/" : Str))) = true then ("/", Txt.slice p (some 1) none) else (Txt.slice p none (some 2), Txt.slice p (some 2) none)
def keepC (isl : Bool) (acc : List Str) (c : Str) : Bool := (c != ("..": Str)) || (!isl && acc.isEmpty) || (!acc.isEmpty && (acc.getLast?.getD "" == ("..":Str)))
def stepF (isl : Bool) (acc : List Str) (c : Str) : List Str :=
  if (!(c.length != 0) || c == (".":Str)) = true then acc else
  if keepC isl acc c = true then acc ++ [c] else acc.dropLast
def normC (x : Str) : List Str := (Txt.split (splitF x).2 "/").foldl (stepF ((splitF x).1.length != 0)) []
def normF (x : Str) : Str :=
  if x.length = 0 then "." else
  let r := (splitF x).1 ++ Str.join "/" (normC x)
  if r.length = 0 then "." else r
structure NormFits (x : Str) : Prop where
  len : x.length ≤ 5000
  part : (splitF x).1.length ≤ 5000 ∧ (splitF x).2.length ≤ 5000
  cnt : (Txt.split (splitF x).2 "/").length ≤ 500
  each : ∀ c ∈ Txt.split (splitF x).2 "/", c.length ≤ 500

section
variable {prog : Program} {w : World} {A : Around} {hG : Heap} {av : List Addr} {L f : Addr} {nm ql : Str} {dV kV doc pm : Value} {an : Option Addr} {cdv ct : Value} {n : Nat}

theorem getsep_gives (rm : Room A n) (b : Bs hG) (x : Str) :
    Gives ⟨prog, w, A, callEnv (fdAt 13 nm ql dV kV doc pm an cdv ct) L f, hG, av, false⟩ [("path", .val (.str x))] (bodyAt 13) (.str "/") := by
  have ok := okOf (prog := prog) (w := w) (hG := hG) (av := av) (L := L) (f := f) (nm := nm) (ql := ql) (dV := dV) (kV := kV) (doc := doc) (pm := pm) (an := an) (cdv := cdv) (ct := ct) (i := 13) rm rfl
  refine Exs.cons (Ex.if_ (It.plain (Ev.callb (Evf.builtin ok b.isi) (Evs.cons (Ev.name ok rfl) (Evs.cons (Ev.typ (Evf.builtin ok b.bytes)) Evs.nil)) op_isi_bytes) opb_bool) (fun h => nomatch h) fun _ => ?_)
  exact Exs.cons (Ex.ret Ev.cstr rfl)

def ISz (a : Str) (bs : List Str) : Prop := a.length + (bs.map (·.length)).sum + bs.length ≤ 5000

theorem joinF_1 {a b : Str} (h : (Txt.startswith b "/" || !(a.length != 0)) = true) : joinF a b = b := if_pos h
theorem joinF_2 {a b : Str} (h : (Txt.startswith b "/" || !(a.length != 0)) = false) (h2 : Txt.endswith a "/" = true) : joinF a b = a ++ b := (if_neg (by rw [h]; simp)).trans (if_pos h2)
theorem joinF_3 {a b : Str} (h : (Txt.startswith b "/" || !(a.length != 0)) = false) (h2 : Txt.endswith a "/" = false) : joinF a b = a ++ (("/" : Str) ++ b) := (if_neg (by rw [h]; simp)).trans (if_neg (by rw [h2]; simp))
theorem joinF_length (a b : Str) : (joinF a b).length ≤ a.length + b.length + 1 := by
  unfold joinF
  have e : (("/" : Str)).length = 1 := rfl
  split
  · omega
  · split <;> (simp only [Str.length_append, e]; omega)
theorem joinF_fold_length : ∀ (bs : List Str) (a : Str), (bs.foldl joinF a).length ≤ a.length + (bs.map (·.length)).sum + bs.length
  | [], a => by simp
  | b :: bs, a => by
    have h1 := joinF_fold_length bs (joinF a b)
    have h2 := joinF_length a b
    simp only [List.foldl_cons, List.map_cons, List.sum_cons, List.length_cons]
    omega

theorem join_gives (rm : Room A n) {fs gs : Addr} (hfs : FnIs hG "fspath" fs) (ffs : ∀ x, Fn prog w hG n fs [.str x] (.str x)) (hgs : FnIs hG "_get_sep" gs) (fgs : ∀ x, Fn prog w hG n gs [.str x] (.str "/"))
    (a : Str) (bs : List Str) (hsz : ISz a bs) :
    Gives ⟨prog, w, A, callEnv (fdAt 14 nm ql dV kV doc pm an cdv ct) L f, hG, av, false⟩ [("a", .val (.str a)), ("p", .val (.tup (bs.map D.str)))] (bodyAt 14) (.str (bs.foldl joinF a)) := by
  have ok := okOf (prog := prog) (w := w) (hG := hG) (av := av) (L := L) (f := f) (nm := nm) (ql := ql) (dV := dV) (kV := kV) (doc := doc) (pm := pm) (an := an) (cdv := cdv) (ct := ct) (i := 14) rm rfl
  have esz := sizeLine_eq
  unfold ISz at hsz
  refine Exs.cons (Ex.assign ok (Ev.call ok (Evf.global ok hfs.gg) hfs.is (Evs.cons (Ev.name ok rfl) Evs.nil) (ffs a)) (Sto.loc rfl) ?_)
  refine Exs.cons (Ex.assign ok (Ev.call ok (Evf.global ok hgs.gg) hgs.is (Evs.cons (Ev.name ok rfl) Evs.nil) (fgs a)) (Sto.loc rfl) ?_)
  refine Exs.cons (Ex.assign ok (Ev.name ok rfl) (Sto.loc rfl) ?_)
  refine Exs.cons (Ex.try_ (Exs.cons (Ex.for_ (I := fun pre σ => ∃ pb, pre = pb.map D.str ∧ (∃ rs, bs = pb ++ rs) ∧ Has σ "path" (.str (pb.foldl joinF a)) ∧ Has σ "sep" (.str "/")) ok rfl (Iter.tuple ok (Ev.name ok rfl)) (.inl ⟨_, _, rfl⟩) ⟨[], rfl, ⟨bs, rfl⟩, rfl, rfl⟩ ?_ ?_)))
  · rintro pre d post σ₁ hds ⟨pb, rfl, ⟨rs, rfl⟩, hp, hsep⟩
    obtain ⟨c, rs', rfl, rfl⟩ : ∃ c rs', rs = c :: rs' ∧ d = .str c := by
      rw [List.map_append] at hds
      have := List.append_cancel_left hds
      cases rs with
      | nil => simp at this
      | cons c rs' =>
        rw [List.map_cons] at this
        injection this with h1 h2
        exact ⟨c, rs', rfl, h1.symm⟩
    have hl := joinF_fold_length pb a
    simp only [List.map_append, List.map_cons, List.sum_append, List.sum_cons, List.length_append, List.length_cons] at hsz
    have hc : c.length ≤ 5000 := by omega
    have hpl : (pb.foldl joinF a).length + c.length + 1 ≤ 5000 := by omega
    refine ⟨_, AsTo.name ok (Sto.loc rfl), ?_⟩
    refine Exs.cons (Ex.assign ok (Ev.call ok (Evf.global ok hfs.gg) hfs.is (Evs.cons (Ev.name ok rfl) Evs.nil) (ffs c)) (Sto.loc rfl) ?_)
    have hnx : (pb ++ [c]).foldl joinF a = joinF (pb.foldl joinF a) c := by simp
    have fin : ∀ σ', Has σ' "path" (.str (joinF (pb.foldl joinF a) c)) → Has σ' "sep" (.str "/") → ∃ σ'' : Vars, (∀ x sl, σ''.lookup x = some sl → σ'.lookup x = some sl) ∧ ∃ pb', pb.map D.str ++ [D.str c] = pb'.map D.str ∧ (∃ rs, pb ++ c :: rs' = pb' ++ rs) ∧ Has σ'' "path" (.str (pb'.foldl joinF a)) ∧ Has σ'' "sep" (.str "/") :=
      fun σ' h1 h2 => ⟨σ', fun _ _ e => e, pb ++ [c], by simp, ⟨rs', by simp⟩, by rw [hnx]; exact h1, h2⟩
    have hp' : ∀ v v', Has (("b", v) :: ("b", v') :: σ₁) "path" (.str (pb.foldl joinF a)) := fun v v' => hp
    have hsep' : ∀ v v', Has (("b", v) :: ("b", v') :: σ₁) "sep" (.str "/") := fun v v' => hsep
    refine Exs.cons (Ex.if_ (It.or (It.plain (Ev.meth_str (Ev.name ok rfl) (fun t s Q E h => GM.startswith h) (Evs.cons (Ev.name ok (hsep' _ _)) Evs.nil) op_startswith) opb_bool) fun _ => It.or (It.not (It.plain (Ev.name ok (hp' _ _)) (opb_str (by omega)))) fun _ => It.or_nil) (fun hcond => ?_) (fun hcond => ?_))
    · rw [Bool.or_false] at hcond
      refine Exs.cons (Ex.assign ok (Ev.name ok rfl) (Sto.loc rfl) (Exs.nil (Exs.nil (fin (_ :: _ :: _ :: σ₁) ?_ hsep))))
      exact congrArg (fun z => some (Slot.val (D.str z))) (joinF_1 hcond).symm
    · rw [Bool.or_false] at hcond
      refine Exs.cons (Ex.if_ (It.plain (Ev.meth_str (Ev.name ok (hp' _ _)) (fun t s Q E h => GM.endswith h) (Evs.cons (Ev.name ok (hsep' _ _)) Evs.nil) op_endswith) opb_bool) (fun he => ?_) (fun he => ?_))
      · refine Exs.cons (Ex.aug ok (hp' _ _) (Ev.name ok rfl) (op_iadd_str (by omega)) (Sto.loc rfl) (Exs.nil (Exs.nil (Exs.nil (fin (_ :: _ :: _ :: σ₁) ?_ hsep)))))
        exact congrArg (fun z => some (Slot.val (D.str z))) (joinF_2 hcond he).symm
      · refine Exs.cons (Ex.aug ok (hp' _ _) (Ev.binop (Ev.name ok (hsep' _ _)) (Ev.name ok rfl) (op_add_str ?_)) (op_iadd_str ?_) (Sto.loc rfl) (Exs.nil (Exs.nil (Exs.nil (fin (_ :: _ :: _ :: σ₁) ?_ hsep)))))
        · have e : (("/" : Str)).length = 1 := rfl
          omega
        · have e : (("/" : Str)).length = 1 := rfl
          rw [Str.length_append]; omega
        · exact congrArg (fun z => some (Slot.val (D.str z))) (joinF_3 hcond he).symm
  · rintro σ₁ ⟨pb, hpb, _, hp, _⟩
    have : pb = bs := by
      have h2 := congrArg (List.map fun d => match d with | D.str s => s | _ => "") hpb
      simpa [List.map_map, Function.comp_def] using h2.symm
    subst this
    exact Exs.nil (Exs.nil (Exs.cons (Ex.ret (Ev.name ok hp) rfl)))
end
end Mine
end

section
open PySem PySem.Calls PyProof.Rows PySem.W
set_option maxRecDepth 100000
set_option linter.unusedVariables false
namespace Mine

section
variable {prog : Program} {w : World} {A : Around} {hG : Heap} {av : List Addr} {L f : Addr} {nm ql : Str} {dV kV doc pm : Value} {an : Option Addr} {cdv ct : Value} {n : Nat}

theorem splitroot_gives (rm : Room A n) (b : Bs hG) {fs : Addr} (hfs : FnIs hG "fspath" fs) (ffs : ∀ x, Fn prog w hG n fs [.str x] (.str x)) (x : Str) (hx : x.length ≤ 5000) :
    Gives ⟨prog, w, A, callEnv (fdAt 15 nm ql dV kV doc pm an cdv ct) L f, hG, av, false⟩ [("p", .val (.str x))] (bodyAt 15) (.tup [.str "", .str (splitF x).1, .str (splitF x).2]) := by
  have ok := okOf (prog := prog) (w := w) (hG := hG) (av := av) (L := L) (f := f) (nm := nm) (ql := ql) (dV := dV) (kV := kV) (doc := doc) (pm := pm) (an := an) (cdv := cdv) (ct := ct) (i := 15) rm rfl
  have esz := sizeLine_eq
  have hx' : x.length ≤ sizeLine := by omega
  refine Exs.cons (Ex.assign ok (Ev.call ok (Evf.global ok hfs.gg) hfs.is (Evs.cons (Ev.name ok rfl) Evs.nil) (ffs x)) (Sto.loc rfl) ?_)
  refine Exs.cons (Ex.if_ (It.plain (Ev.callb (Evf.builtin ok b.isi) (Evs.cons (Ev.name ok rfl) (Evs.cons (Ev.typ (Evf.builtin ok b.bytes)) Evs.nil)) op_isi_bytes) opb_bool) (fun h => nomatch h) fun _ => ?_)
  refine Exs.cons (Ex.assign ok Ev.cstr (Sto.loc rfl) ?_)
  refine Exs.cons (Ex.assign ok Ev.cstr (Sto.loc rfl) ?_)
  refine Exs.nil ?_
  refine Exs.cons (Ex.if_ (It.compare (Ev.slice_str (i := none) (j := some 1) (Ev.name ok rfl) trivial Ev.cint hx') (Ev.name ok rfl) op_ne_str) (fun hc => ?_) (fun hc => ?_))
  · have e : splitF x = (("" : Str), x) := if_pos hc
    rw [e]
    exact Exs.cons (Ex.ret (Ev.tuple (Evs.cons (Ev.name ok rfl) (Evs.cons (Ev.name ok rfl) (Evs.cons (Ev.name ok rfl) Evs.nil))) (by show 3 ≤ sizeLine; decide)) rfl)
  · have hc' : ¬ (Txt.slice x none (some 1) != ("/" : Str)) = true := by rw [hc]; simp
    refine Exs.cons (Ex.if_ (It.or (It.compare (Ev.slice_str (i := some 1) (j := some 2) (Ev.name ok rfl) Ev.cint Ev.cint hx') (Ev.name ok rfl) op_ne_str) fun _ => It.or (It.compare (Ev.slice_str (i := some 2) (j := some 3) (Ev.name ok rfl) Ev.cint Ev.cint hx') (Ev.name ok rfl) op_eq_str) fun _ => It.or_nil) (fun hd => ?_) (fun hd => ?_))
    · rw [Bool.or_false] at hd
      have e : splitF x = (("/" : Str), Txt.slice x (some 1) none) := (if_neg hc').trans (if_pos hd)
      rw [e]
      exact Exs.cons (Ex.ret (Ev.tuple (Evs.cons (Ev.name ok rfl) (Evs.cons (Ev.name ok rfl) (Evs.cons (Ev.slice_str (i := some 1) (j := none) (Ev.name ok rfl) Ev.cint trivial hx') Evs.nil))) (by show 3 ≤ sizeLine; decide)) rfl)
    · rw [Bool.or_false] at hd
      have e : splitF x = (Txt.slice x none (some 2), Txt.slice x (some 2) none) := (if_neg hc').trans (if_neg (by rw [hd]; simp))
      rw [e]
      exact Exs.cons (Ex.ret (Ev.tuple (Evs.cons (Ev.name ok rfl) (Evs.cons (Ev.slice_str (i := none) (j := some 2) (Ev.name ok rfl) trivial Ev.cint hx') (Evs.cons (Ev.slice_str (i := some 2) (j := none) (Ev.name ok rfl) Ev.cint trivial hx') Evs.nil))) (by show 3 ≤ sizeLine; decide)) rfl)

theorem NoOwn.nil : NoOwn [] := fun y ds e => by cases e
theorem NoOwn.cons {x : Str} {d : D} {σ : Vars} (h : NoOwn σ) : NoOwn ((x, .val d) :: σ) := fun y ds e => by
  by_cases hy : y = x
  · subst hy; rw [lookup_cons_eq] at e; cases e
  · rw [lookup_cons_ne hy] at e; exact h y ds e
theorem OnlyOwn.nil {x : Str} : OnlyOwn [] x := fun y ds e => by cases e
theorem OnlyOwn.val {x z : Str} {d : D} {σ : Vars} (h : OnlyOwn σ z) : OnlyOwn ((x, .val d) :: σ) z := fun y ds e => by
  by_cases hy : y = x
  · subst hy; rw [lookup_cons_eq] at e; cases e
  · rw [lookup_cons_ne hy] at e; exact h y ds e
theorem OnlyOwn.own {z : Str} {ds : List D} {σ : Vars} (h : OnlyOwn σ z) : OnlyOwn ((z, .own ds) :: σ) z := fun y ds e => by
  by_cases hy : y = z
  · exact hy
  · rw [lookup_cons_ne hy] at e; exact h y ds e
theorem It.own_sub {C : Cx} {σ σ' : Vars} {e : Expr} {b : Bool} (x : It C σ' e b) (k : ∀ x sl, σ'.lookup x = some sl → σ.lookup x = some sl) : It C σ e b := by
  intro h₀ own s Q E F ht p
  exact x h₀ own s Q E (F.sub k) ht p

theorem stepF_sub {isl : Bool} {acc : List Str} {c : Str} {P : Str → Prop} (h : ∀ x ∈ acc, P x) (hc : P c) : (∀ x ∈ stepF isl acc c, P x) ∧ (stepF isl acc c).length ≤ acc.length + 1 := by
  unfold stepF
  split
  · exact ⟨h, Nat.le_succ _⟩
  · split
    · refine ⟨fun x hx => ?_, by simp⟩
      rcases List.mem_append.mp hx with hx | hx
      · exact h x hx
      · rw [List.mem_singleton.mp hx]; exact hc
    · exact ⟨fun x hx => h x (List.dropLast_subset _ hx), by simp; omega⟩
theorem stepF_fold {isl : Bool} {P : Str → Prop} : ∀ (cs acc : List Str), (∀ x ∈ acc, P x) → (∀ x ∈ cs, P x) → (∀ x ∈ cs.foldl (stepF isl) acc, P x) ∧ (cs.foldl (stepF isl) acc).length ≤ acc.length + cs.length
  | [], acc, h, _ => ⟨h, by simp⟩
  | c :: cs, acc, h, hc => by
    have h1 := stepF_sub (isl := isl) h (hc c (by simp))
    have h2 := stepF_fold (isl := isl) cs (stepF isl acc c) h1.1 fun x hx => hc x (by simp [hx])
    refine ⟨h2.1, ?_⟩
    have := h1.2
    have := h2.2
    simp only [List.foldl_cons, List.length_cons]
    omega
theorem sum_le_of_each : ∀ (ts : List Str) (k : Nat), (∀ t ∈ ts, t.length ≤ k) → (ts.map (·.length)).sum ≤ ts.length * k
  | [], k, _ => by simp
  | t :: ts, k, h => by
    have := sum_le_of_each ts k fun x hx => h x (by simp [hx])
    have := h t (by simp)
    simp only [List.map_cons, List.sum_cons, List.length_cons, Nat.succ_mul]
    omega
theorem normC_fits {x : Str} (h : NormFits x) : (∀ c ∈ normC x, c.length ≤ 500) ∧ (normC x).length ≤ 500 := by
  have := stepF_fold (isl := (splitF x).1.length != 0) (P := fun c => c.length ≤ 500) (Txt.split (splitF x).2 "/") [] (fun _ h => nomatch h) h.each
  exact ⟨this.1, by have h1 := this.2; have := h.cnt; unfold normC; simp at h1; omega⟩

theorem normpath_gives (rm : Room A n) (b : Bs hG) {fs sr : Addr} (hfs : FnIs hG "fspath" fs) (ffs : ∀ x, Fn prog w hG n fs [.str x] (.str x)) (hsr : FnIs hG "splitroot" sr) (fsr : ∀ x : Str, x.length ≤ 5000 → Fn prog w hG n sr [.str x] (.tup [.str "", .str (splitF x).1, .str (splitF x).2]))
    (x : Str) (hx : NormFits x) :
    Gives ⟨prog, w, A, callEnv (fdAt 16 nm ql dV kV doc pm an cdv ct) L f, hG, av, false⟩ [("path", .val (.str x))] (bodyAt 16) (.str (normF x)) := by
  have ok := okOf (prog := prog) (w := w) (hG := hG) (av := av) (L := L) (f := f) (nm := nm) (ql := ql) (dV := dV) (kV := kV) (doc := doc) (pm := pm) (an := an) (cdv := cdv) (ct := ct) (i := 16) rm rfl
  have esz := sizeLine_eq
  have hxl := hx.len
  have hpart := hx.part
  refine Exs.cons (Ex.assign ok (Ev.call ok (Evf.global ok hfs.gg) hfs.is (Evs.cons (Ev.name ok rfl) Evs.nil) (ffs x)) (Sto.loc rfl) ?_)
  refine Exs.cons (Ex.if_ (It.plain (Ev.callb (Evf.builtin ok b.isi) (Evs.cons (Ev.name ok rfl) (Evs.cons (Ev.typ (Evf.builtin ok b.bytes)) Evs.nil)) op_isi_bytes) opb_bool) (fun h => nomatch h) fun _ => ?_)
  refine Exs.cons (Ex.assign ok Ev.cstr (Sto.loc rfl) ?_)
  refine Exs.cons (Ex.assign ok Ev.cstr (Sto.loc rfl) ?_)
  refine Exs.cons (Ex.assign ok Ev.cstr (Sto.loc rfl) ?_)
  refine Exs.nil ?_
  refine Exs.cons (Ex.if_ (It.not (It.plain (Ev.name ok rfl) (opb_str (by omega)))) (fun hc => ?_) (fun hc => ?_))
  · have e : normF x = "." := if_pos (by simpa using hc)
    exact Exs.cons (Ex.ret (Ev.name ok rfl) (congrArg D.str e.symm))
  have hne : ¬ x.length = 0 := by simpa using hc
  refine Exs.nil ?_
  refine Exs.cons (Ex.assign_to (Ev.call ok (Evf.global ok hsr.gg) hsr.is (Evs.cons (Ev.name ok rfl) Evs.nil) (fsr x hxl)) (AsTo.triple ok (Sto.loc rfl) (Sto.loc rfl) (Sto.loc rfl)) ?_)
  refine Exs.cons (Ex.assign ok (Ev.meth_str (Ev.name ok rfl) (fun t s Q E h => GM.split h) (Evs.cons (Ev.name ok rfl) Evs.nil) (op_split (by omega) rfl)) (Sto.loc rfl) ?_)
  refine Exs.cons (Ex.assign_own ok (Sto.loc rfl) (by repeat (first | exact NoOwn.nil | refine NoOwn.cons ?_)) ?_)
  refine Exs.cons (Ex.for_ (I := fun pre σ => ∃ pb acc, pre = pb.map D.str ∧ (∃ rs, Txt.split (splitF x).2 "/" = pb ++ rs) ∧ acc = pb.foldl (stepF ((splitF x).1.length != 0)) [] ∧ HasOwn σ "new_comps" (acc.map D.str) ∧ OnlyOwn σ "new_comps" ∧
      Has σ "initial_slashes" (.str (splitF x).1) ∧ Has σ "sep" (.str "/") ∧ Has σ "dot" (.str ".") ∧ Has σ "dotdot" (.str "..")) ok rfl (Iter.list ok (Ev.name ok rfl)) (.inl ⟨_, _, rfl⟩) ⟨[], [], rfl, ⟨_, rfl⟩, rfl, rfl, by repeat (first | exact OnlyOwn.nil | refine OnlyOwn.own ?_ | refine OnlyOwn.val ?_), rfl, rfl, rfl, rfl⟩ ?_ ?_)
  · rintro pre d post σ₁ hds ⟨pb, acc, rfl, ⟨rs, hrs⟩, hacc, hown, only, hisl, hsep, hdot, hdd⟩
    rw [hrs] at hds
    obtain ⟨c, rs', rfl, rfl⟩ : ∃ c rs', rs = c :: rs' ∧ d = .str c := by
      rw [List.map_append] at hds
      have := List.append_cancel_left hds
      cases rs with
      | nil => simp at this
      | cons c rs' =>
        rw [List.map_cons] at this
        injection this with h1 h2
        exact ⟨c, rs', rfl, h1.symm⟩
    have hcl : c.length ≤ 500 := hx.each c (by rw [hrs]; simp)
    have hcnt := hx.cnt
    rw [hrs] at hcnt
    simp only [List.length_append, List.length_cons] at hcnt
    have hal : acc.length ≤ pb.length := by
      have := (stepF_fold (isl := (splitF x).1.length != 0) (P := fun _ => True) pb [] (fun _ h => nomatch h) fun _ _ => trivial).2
      rw [← hacc] at this; simpa using this
    have hal' : (acc.map D.str).length ≤ 500 := by rw [List.length_map]; omega
    refine ⟨_, AsTo.name ok (Sto.loc rfl), ?_⟩
    have hown' : ∀ v, HasOwn (("comp", v) :: σ₁) "new_comps" (acc.map D.str) := fun v => hown
    have hisl' : ∀ v, Has (("comp", v) :: σ₁) "initial_slashes" (.str (splitF x).1) := fun v => hisl
    have hdot' : ∀ v, Has (("comp", v) :: σ₁) "dot" (.str ".") := fun v => hdot
    have hdd' : ∀ v, Has (("comp", v) :: σ₁) "dotdot" (.str "..") := fun v => hdd
    have only' : ∀ d, OnlyOwn (("comp", .val d) :: σ₁) "new_comps" := fun d => only.val
    have hnx : ∀ acc', acc' = stepF ((splitF x).1.length != 0) acc c → acc' = (pb ++ [c]).foldl (stepF ((splitF x).1.length != 0)) [] := fun acc' e => by
      rw [e, hacc]; simp
    have fin : ∀ (σ' : Vars) acc', acc' = stepF ((splitF x).1.length != 0) acc c → HasOwn σ' "new_comps" (acc'.map D.str) → OnlyOwn σ' "new_comps" → Has σ' "initial_slashes" (.str (splitF x).1) → Has σ' "sep" (.str "/") → Has σ' "dot" (.str ".") → Has σ' "dotdot" (.str "..") →
      ∃ σ'' : Vars, (∀ x sl, σ''.lookup x = some sl → σ'.lookup x = some sl) ∧ ∃ pb' acc', pb.map D.str ++ [D.str c] = pb'.map D.str ∧ (∃ rs, Txt.split (splitF x).2 "/" = pb' ++ rs) ∧ acc' = pb'.foldl (stepF ((splitF x).1.length != 0)) [] ∧ HasOwn σ'' "new_comps" (acc'.map D.str) ∧ OnlyOwn σ'' "new_comps" ∧
        Has σ'' "initial_slashes" (.str (splitF x).1) ∧ Has σ'' "sep" (.str "/") ∧ Has σ'' "dot" (.str ".") ∧ Has σ'' "dotdot" (.str "..") :=
      fun σ' acc' e h1 h2 h3 h4 h5 h6 => ⟨σ', fun _ _ e => e, pb ++ [c], acc', by simp, ⟨rs', by rw [hrs]; simp⟩, hnx acc' e, h1, h2, h3, h4, h5, h6⟩
    refine Exs.cons (Ex.if_ (It.or (It.not (It.plain (Ev.name ok rfl) (opb_str (by omega)))) fun _ => It.or (It.compare (Ev.name ok rfl) (Ev.name ok (hdot' _)) op_eq_str) fun _ => It.or_nil) (fun h1 => ?_) (fun h1 => ?_))
    · rw [Bool.or_false] at h1
      exact Exs.cons (Ex.cont (fin (_ :: σ₁) acc (if_pos h1).symm hown only.val hisl hsep hdot hdd))
    · rw [Bool.or_false] at h1
      have h1' : ¬ (!(c.length != 0) || c == (".":Str)) = true := by rw [h1]; simp
      refine Exs.nil ?_
      refine Exs.cons (Ex.if_ (c := keepC ((splitF x).1.length != 0) acc c) (It.eq (It.or (It.compare (Ev.name ok rfl) (Ev.name ok (hdd' _)) op_ne_str) fun _ => It.or (It.and (It.not (It.plain (Ev.name ok (hisl' _)) (opb_str (by omega)))) fun _ => It.and (It.not (It.own ok (hown' _) (by omega))) fun _ => It.and_nil) fun _ =>
        It.or (It.and (It.own ok (hown' _) (by omega)) fun hne2 => It.and (It.compare (Ev.own_item ok (k := -1) (d := .str (acc.getLast?.getD "")) (hown' _) (Ev.unary Ev.cint op_neg_int) (by decide) ?_ (by decide) ?_) (Ev.name ok (hdd' _)) op_eq_str) fun _ => It.and_nil) fun _ => It.or_nil) ?_) (fun h2 => ?_) (fun h2 => ?_))
      · have : acc ≠ [] := by intro z; subst z; simp at hne2
        have : 0 < acc.length := List.length_pos_iff.mpr this
        rw [List.length_map]; omega
      · have hn : acc ≠ [] := by intro z; subst z; simp at hne2
        have hp : 0 < acc.length := List.length_pos_iff.mpr hn
        have e1 : ((-1 : Int) + ((acc.map D.str).length : Nat)).toNat = acc.length - 1 := by rw [List.length_map]; omega
        rw [e1, List.getElem?_map, List.getLast?_eq_getElem?]
        have : acc.length - 1 < acc.length := by omega
        rw [List.getElem?_eq_getElem this]; rfl
      · unfold keepC
        cases (c != ("..":Str)) <;> cases acc <;> simp
      · refine Exs.cons (Ex.append ok (hown' _) (only' _) (Ev.name ok rfl) (by omega) (Exs.nil (Exs.nil (fin (_ :: _ :: σ₁) (acc ++ [c]) ?_ ?_ ?_ hisl hsep hdot hdd))))
        · exact ((if_neg h1').trans (if_pos h2)).symm
        · show some (Slot.own _) = _
          rw [List.map_append]; rfl
        · exact only.val.own
      · have h2' : ¬ keepC ((splitF x).1.length != 0) acc c = true := by rw [h2]; simp
        have est : stepF ((splitF x).1.length != 0) acc c = acc.dropLast := (if_neg h1').trans (if_neg h2')
        refine Exs.cons (Ex.if_ (It.own ok (hown' _) (by omega)) (fun h3 => ?_) (fun h3 => ?_))
        · have hn : acc ≠ [] := by intro z; subst z; simp at h3
          have hsp : acc = acc.dropLast ++ [acc.getLast hn] := (List.dropLast_concat_getLast hn).symm
          have hown2 : ∀ v, HasOwn (("comp", v) :: σ₁) "new_comps" (acc.dropLast.map D.str ++ [.str (acc.getLast hn)]) := fun v => by
            have : acc.dropLast.map D.str ++ [.str (acc.getLast hn)] = acc.map D.str := by
              conv => rhs; rw [hsp]
              simp
            rw [this]; exact hown
          refine Exs.cons (Ex.pop ok (hown2 _) (only' _) (by rw [List.length_map, List.length_dropLast]; omega) (Exs.nil (Exs.nil (Exs.nil (fin (_ :: _ :: σ₁) acc.dropLast est.symm rfl only.val.own hisl hsep hdot hdd)))))
        · have : acc = [] := by
            cases acc with
            | nil => rfl
            | cons a l => simp at h3
          subst this
          exact Exs.nil (Exs.nil (Exs.nil (fin (_ :: σ₁) [] est.symm hown only.val hisl hsep hdot hdd)))
  · rintro σ₁ ⟨pb, acc, hpb, _, hacc, hown, only, hisl, hsep, hdot, hdd⟩
    have : pb = Txt.split (splitF x).2 "/" := by
      have h2 := congrArg (List.map fun d => match d with | D.str s => s | _ => "") hpb
      simpa [List.map_map, Function.comp_def] using h2.symm
    subst this
    have hacc' : acc = normC x := hacc
    have hf := normC_fits hx
    rw [← hacc'] at hf
    have hsum := sum_le_of_each acc 500 hf.1
    have hsum2 : acc.length * 500 ≤ 500 * 500 := Nat.mul_le_mul_right _ hf.2
    have hjl := StrLaws.join_length_le ("/" : Str) acc
    have e1 : (("/" : Str)).length = 1 := rfl
    rw [e1] at hjl
    refine Run.freeze hown only ?_
    refine Exs.cons (Ex.assign ok (Ev.name ok rfl) (Sto.loc rfl) ?_)
    refine Exs.cons (Ex.assign ok (Ev.binop (Ev.name ok hisl) (Ev.meth_str (Ev.name ok hsep) (fun t s Q E h => GM.join h) (Evs.cons (Ev.name ok rfl) Evs.nil) (op_join (by omega) (by decide))) (op_add_str (by omega))) (Sto.loc rfl) ?_)
    have hn : normF x = if ((splitF x).1 ++ Str.join "/" acc).length = 0 then ("." : Str) else (splitF x).1 ++ Str.join "/" acc := by rw [hacc']; exact if_neg hne
    refine Exs.cons (Ex.ret (d := .str (normF x)) (Ev.or (c := ((splitF x).1 ++ Str.join "/" acc).length != 0) (Ev.name ok rfl) (opb_str (by rw [Str.length_append]; omega)) (fun h => ?_) (fun h => ?_)) rfl)
    · rw [hn, if_neg (by simpa using h)]
    · rw [hn, if_pos (by simpa using h)]
      exact Ev.name ok hdot
end
end Mine
end

section
open PySem PySem.Calls PyProof.Rows PySem.W
open Builtin Builtin.Str
set_option maxRecDepth 100000
set_option linter.unusedVariables false
namespace Mine

def L (x : Str) : List Nat := x.cps.toList
theorem L_inj {x y : Str} (h : L x = L y) : x = y := Str.ext' (Array.toList_inj.mp h)
theorem L_append (a b : Str) : L (a ++ b) = L a ++ L b := by
  unfold L
  rw [Str.cps_append, Array.toList_append]
theorem L_len (x : Str) : x.length = (L x).length := by simp [L, Str.length]
theorem L_sep : L ("/" : Str) = [47] := by decide +kernel
theorem L_nil : L ("" : Str) = [] := by decide +kernel
theorem sep_eq : ("/" : Str) = ⟨#[47]⟩ := by decide +kernel

def JL : List (List Nat) → List Nat
  | [] => []
  | [x] => x
  | x :: r => x ++ 47 :: JL r
theorem JL_cons (x y : List Nat) (r : List (List Nat)) : JL (x :: y :: r) = x ++ 47 :: JL (y :: r) := rfl
theorem L_join : ∀ ps : List Str, L (Str.join "/" ps) = JL (ps.map L)
  | [] => rfl
  | [x] => rfl
  | x :: y :: r => by
    show L (x ++ "/" ++ Str.join "/" (y :: r)) = _
    rw [L_append, L_append, L_join (y :: r), L_sep, List.append_assoc]
    rfl
theorem cut_inj : ∀ {a b s t : List Nat}, 47 ∉ a → 47 ∉ b → a ++ 47 :: s = b ++ 47 :: t → a = b ∧ s = t
  | [], [], s, t, _, _, h => by simp at h; exact ⟨rfl, h⟩
  | [], y :: b, s, t, _, hb, h => by
    simp at h
    exact absurd (by simp [h.1]) hb
  | x :: a, [], s, t, ha, _, h => by
    simp at h
    exact absurd (by simp [h.1]) ha
  | x :: a, y :: b, s, t, ha, hb, h => by
    simp only [List.cons_append, List.cons.injEq] at h
    obtain ⟨h1, h2⟩ := cut_inj (fun q => ha (List.mem_cons_of_mem _ q)) (fun q => hb (List.mem_cons_of_mem _ q)) h.2
    exact ⟨by rw [h.1, h1], h2⟩
theorem JL_inj : ∀ {ps qs : List (List Nat)}, ps ≠ [] → qs ≠ [] → (∀ p ∈ ps, 47 ∉ p) → (∀ q ∈ qs, 47 ∉ q) → JL ps = JL qs → ps = qs
  | [], _, h, _, _, _, _ => absurd rfl h
  | _, [], _, h, _, _, _ => absurd rfl h
  | [x], [y], _, _, _, _, h => by
    have : x = y := h
    rw [this]
  | [x], y :: z :: r, _, _, hp, _, h => by
    rw [JL_cons] at h
    have h' : x = y ++ 47 :: JL (z :: r) := h
    exact absurd (by rw [h']; simp) (hp x (by simp))
  | y :: z :: r, [x], _, _, _, hq, h => by
    rw [JL_cons] at h
    have h' : y ++ 47 :: JL (z :: r) = x := h
    exact absurd (by rw [← h']; simp) (hq x (by simp))
  | x :: x' :: r, y :: y' :: t, _, _, hp, hq, h => by
    rw [JL_cons, JL_cons] at h
    obtain ⟨h1, h2⟩ := cut_inj (hp x (by simp)) (hq y (by simp)) h
    have := JL_inj (ps := x' :: r) (qs := y' :: t) (by simp) (by simp) (fun p h => hp p (List.mem_cons_of_mem _ h)) (fun p h => hq p (List.mem_cons_of_mem _ h)) h2
    rw [h1, this]
theorem map_L_inj : ∀ {ps qs : List Str}, ps.map L = qs.map L → ps = qs
  | [], [], _ => rfl
  | [], _ :: _, h => by simp at h
  | _ :: _, [], h => by simp at h
  | x :: ps, y :: qs, h => by
    simp only [List.map_cons, List.cons.injEq] at h
    rw [L_inj h.1, map_L_inj h.2]
/-- splitting at the slash undoes the join of texts without slashes -/
theorem split_join {ps : List Str} (h0 : ps ≠ []) (hf : ∀ p ∈ ps, 47 ∉ L p) : Txt.split (Str.join "/" ps) "/" = ps := by
  have h1 := StrLaws.join_split (Str.join "/" ps) "/"
  have h2 := StrLaws.split_free (Str.join "/" ps) 47
  rw [← sep_eq] at h2
  have h3 := split_pos (Str.join "/" ps) "/"
  have h4 := congrArg L h1
  rw [L_join, L_join] at h4
  refine map_L_inj (JL_inj ?_ ?_ ?_ ?_ h4)
  · intro z
    have := congrArg List.length z
    rw [List.length_map] at this
    simp at this
    rw [this] at h3
    simp at h3
  · intro z
    exact h0 (by simpa using z)
  · intro p hp
    obtain ⟨q, hq, rfl⟩ := List.mem_map.mp hp
    exact h2 q hq
  · intro p hp
    obtain ⟨q, hq, rfl⟩ := List.mem_map.mp hp
    exact hf q hq

theorem slice_ss (x : Str) (i j : Nat) (h : i ≤ j) : L (Txt.slice x (some (i : Int)) (some (j : Int))) = ((L x).drop i).take (j - i) := by
  have e : strSliceIndices (some (i : Int)) (some (j : Int)) 1 x.length = strSliceIndices (some ((min i x.length : Nat) : Int)) (some ((min j x.length : Nat) : Int)) 1 x.length := by
    unfold strSliceIndices
    simp only [show (1 : Int) > 0 by decide, if_true]
    congr 1
    · rw [if_neg (by omega), if_neg (by omega)]; omega
    · rw [if_neg (by omega), if_neg (by omega)]; omega
  have e2 : Txt.slice x (some (i : Int)) (some (j : Int)) = Txt.slice x (some ((min i x.length : Nat) : Int)) (some ((min j x.length : Nat) : Int)) := by
    unfold Txt.slice
    rw [e]
  rw [e2, beq_iff_eq.mp (slice_closesL (x := x) (i := ((min i x.length : Nat) : Int)) (j := ((min j x.length : Nat) : Int)) (by omega) (by omega) (by omega))]
  show (x.cps.toList.drop (min i x.length)).take _ = _
  have hl : x.length = x.cps.toList.length := by simp [Str.length]
  have e3 : (((min j x.length : Nat) : Int) - ((min i x.length : Nat) : Int)).toNat = min j x.length - min i x.length := by omega
  rw [e3]
  show _ = (x.cps.toList.drop i).take (j - i)
  rw [hl]
  generalize x.cps.toList = l
  by_cases hi : i ≤ l.length
  · rw [Nat.min_eq_left hi]
    by_cases hj : j ≤ l.length
    · rw [Nat.min_eq_left hj]
    · rw [Nat.min_eq_right (by omega), List.take_of_length_le (by rw [List.length_drop]; omega), List.take_of_length_le (by rw [List.length_drop]; omega)]
  · rw [List.drop_eq_nil_of_le (show l.length ≤ i by omega), List.drop_eq_nil_of_le (by omega)]; simp
theorem slice_ns (x : Str) (j : Nat) : L (Txt.slice x none (some (j : Int))) = (L x).take j := by
  have e : strSliceIndices none (some (j : Int)) 1 x.length = strSliceIndices (some ((0 : Nat) : Int)) (some (j : Int)) 1 x.length := by
    unfold strSliceIndices
    simp only [show (1 : Int) > 0 by decide, if_true]
    congr 1
  have e2 : Txt.slice x none (some (j : Int)) = Txt.slice x (some ((0 : Nat) : Int)) (some (j : Int)) := by
    unfold Txt.slice
    rw [e]
  rw [e2, slice_ss x 0 j (Nat.zero_le _)]
  rfl
theorem slice_sn (x : Str) (i : Nat) : L (Txt.slice x (some (i : Int)) none) = (L x).drop i := by
  have e : strSliceIndices (some (i : Int)) none 1 x.length = strSliceIndices (some (i : Int)) (some ((max i x.length : Nat) : Int)) 1 x.length := by
    unfold strSliceIndices
    simp only [show (1 : Int) > 0 by decide, if_true]
    congr 1
    rw [if_neg (by omega)]; omega
  have e2 : Txt.slice x (some (i : Int)) none = Txt.slice x (some (i : Int)) (some ((max i x.length : Nat) : Int)) := by
    unfold Txt.slice
    rw [e]
  rw [e2, slice_ss x i _ (Nat.le_max_left _ _)]
  rw [List.take_of_length_le]
  rw [List.length_drop, L_len]
  omega
theorem starts_iff (x : Str) : Txt.startswith x "/" = ((L x).head? == some 47) := by
  unfold Txt.startswith subAt
  have e1 : (("/" : Str)).length = 1 := rfl
  rw [e1]
  rw [L_len]
  have e2 : (x.cps.extract 0 (0 + 1) == ("/" : Str).cps) = ((L x).take 1 == [47]) := by
    rw [StrLaws.beq_toList]
    have : ("/" : Str).cps.toList = [47] := L_sep
    rw [this]
    congr 1
    simp [L]
  rw [e2]
  cases h : L x with
  | nil => rfl
  | cons a r => simp
theorem ends_iff (x : Str) : Txt.endswith x "/" = ((L x).getLast? == some 47) := by
  unfold Txt.endswith subAt
  have e1 : (("/" : Str)).length = 1 := rfl
  rw [e1]
  rw [L_len]
  have e2 : (x.cps.extract ((L x).length - 1) ((L x).length - 1 + 1) == ("/" : Str).cps) = (((L x).drop ((L x).length - 1)).take 1 == [47]) := by
    rw [StrLaws.beq_toList]
    have : ("/" : Str).cps.toList = [47] := L_sep
    rw [this]
    congr 1
    simp [L]
  rw [e2]
  rcases List.eq_nil_or_concat (L x) with h | ⟨i, a, h⟩
  · rw [h]; rfl
  · rw [h]; simp
end Mine
end

section
open PySem PySem.Calls PyProof.Rows PySem.W
set_option maxRecDepth 100000
set_option linter.unusedVariables false
namespace Mine

def dds : Str := ".."
structure GoodName (s : Str) : Prop where
  ne : s.cps.toList ≠ []
  noSep : 47 ∉ s.cps.toList
  noDot : s ≠ "."
  noDD : s ≠ ".."
  len : s.length ≤ 20

theorem beq_sep (x : Str) : (x == ("/" : Str)) = (L x == [47]) := by
  rw [Bool.eq_iff_iff, beq_iff_eq, beq_iff_eq]
  constructor
  · intro h; rw [h]; exact L_sep
  · intro h; exact L_inj (h.trans L_sep.symm)
theorem bne_sep (x : Str) : (x != ("/" : Str)) = !(L x == [47]) := by
  show (!(x == ("/" : Str))) = _
  rw [beq_sep]
theorem s1 (x : Str) : L (Txt.slice x none (some 1)) = (L x).take 1 := slice_ns x 1
theorem s12 (x : Str) : L (Txt.slice x (some 1) (some 2)) = ((L x).drop 1).take 1 := slice_ss x 1 2 (by decide)
theorem s23 (x : Str) : L (Txt.slice x (some 2) (some 3)) = ((L x).drop 2).take 1 := slice_ss x 2 3 (by decide)
theorem s1n (x : Str) : L (Txt.slice x (some 1) none) = (L x).drop 1 := slice_sn x 1
theorem s2n (x : Str) : L (Txt.slice x (some 2) none) = (L x).drop 2 := slice_sn x 2
theorem s2 (x : Str) : L (Txt.slice x none (some 2)) = (L x).take 2 := slice_ns x 2
theorem take1 (l : List Nat) : (l.take 1 == [47]) = (l.head? == some 47) := by
  cases l with
  | nil => rfl
  | cons a r => simp

theorem splitF_zero {x : Str} (h : (L x).head? ≠ some 47) : splitF x = (("" : Str), x) := by
  refine if_pos ?_
  rw [bne_sep, s1, take1]
  simpa using h
theorem splitF_one {x rel : Str} (hx : L x = 47 :: L rel) (h : (L rel).head? ≠ some 47 ∨ (L rel).head? = some 47 ∧ ((L rel).drop 1).head? = some 47) : splitF x = (("/" : Str), rel) := by
  have e : Txt.slice x (some 1) none = rel := L_inj (by rw [s1n, hx]; rfl)
  refine (if_neg ?_).trans ((if_pos ?_).trans (by rw [e]))
  · rw [bne_sep, s1, take1, hx]; simp
  · rw [bne_sep, s12, take1, beq_sep, s23, take1, hx]
    rcases h with h | ⟨h1, h2⟩
    · have : ((L rel).head? == some 47) = false := by simpa using h
      simp [this]
    · have h3 : (L rel)[1]? = some 47 := by rw [← h2, List.head?_drop]
      simp only [List.drop_succ_cons, List.drop_zero]
      simp [h1, h3]
theorem splitF_two {x rel : Str} (hx : L x = 47 :: 47 :: L rel) (h : (L rel).head? ≠ some 47) : splitF x = (("//" : Str), rel) := by
  have e : Txt.slice x (some 2) none = rel := L_inj (by rw [s2n, hx]; rfl)
  have e2 : Txt.slice x none (some 2) = ("//" : Str) := L_inj (by rw [s2, hx, show L ("//" : Str) = [47, 47] by decide +kernel]; rfl)
  refine (if_neg ?_).trans ((if_neg ?_).trans (by rw [e, e2]))
  · rw [bne_sep, s1, take1, hx]; simp
  · have : ((L rel).head? == some 47) = false := by simpa using h
    rw [bne_sep, s12, take1, beq_sep, s23, take1, hx]
    simp [this]

theorem GoodName.len0 {c : Str} (h : GoodName c) : c.length ≠ 0 := by
  rw [L_len]
  intro z
  exact h.ne (List.eq_nil_of_length_eq_zero z)
theorem stepF_good {isl : Bool} {acc : List Str} {c : Str} (h : GoodName c) : stepF isl acc c = acc ++ [c] := by
  have h1 := h.len0
  have h2 := h.noDot
  have h3 := h.noDD
  refine (if_neg ?_).trans (if_pos ?_)
  · simp [h1, h2]
  · unfold keepC
    simp [h3]
theorem stepF_skip {isl : Bool} {acc : List Str} {c : Str} (h : c = "" ∨ c = ".") : stepF isl acc c = acc := by
  refine if_pos ?_
  rcases h with h | h
  · rw [h]; rfl
  · rw [h]; decide +kernel
theorem dd_dot : (!((("..") : Str).length != 0) || (("..") : Str) == (".":Str)) = false := by decide +kernel
theorem stepF_dd {isl : Bool} {acc : List Str} : stepF isl acc ".." = if ((!isl && acc.isEmpty) || (!acc.isEmpty && (acc.getLast?.getD "" == ("..":Str)))) = true then acc ++ [(".." : Str)] else acc.dropLast := by
  refine (if_neg (by rw [dd_dot]; simp)).trans ?_
  have : keepC isl acc ".." = ((!isl && acc.isEmpty) || (!acc.isEmpty && (acc.getLast?.getD "" == ("..":Str)))) := by
    unfold keepC
    rw [show ((("..") : Str) != ("..":Str)) = false by decide +kernel]
    simp
  rw [this]
theorem fold_good {isl : Bool} : ∀ (ps acc : List Str), (∀ p ∈ ps, GoodName p) → ps.foldl (stepF isl) acc = acc ++ ps
  | [], acc, _ => by simp
  | p :: ps, acc, h => by
    rw [List.foldl_cons, stepF_good (h p (by simp)), fold_good ps _ fun q hq => h q (by simp [hq])]
    simp

def pileS (pile : List Str) : Str := ("/" : Str) ++ Str.join "/" pile
def nextP (pile : List Str) (s : Str) : List Str := if s == ".." then pile.dropLast else pile ++ [s]

theorem JL_append : ∀ (ps : List (List Nat)) (q : List Nat), ps ≠ [] → JL (ps ++ [q]) = JL ps ++ 47 :: q
  | [], _, h => absurd rfl h
  | [x], q, _ => rfl
  | x :: y :: r, q, _ => by
    show JL (x :: y :: (r ++ [q])) = _
    rw [JL_cons, JL_cons]
    have := JL_append (y :: r) q (by simp)
    rw [show y :: (r ++ [q]) = (y :: r) ++ [q] from rfl, this]
    simp
theorem JL_last : ∀ (ps : List (List Nat)), ps ≠ [] → (∀ p ∈ ps, p ≠ [] ∧ 47 ∉ p) → ∃ a i, JL ps = i ++ [a] ∧ a ≠ 47
  | [], h, _ => absurd rfl h
  | [x], _, hp => by
    obtain ⟨h1, h2⟩ := hp x (by simp)
    rcases List.eq_nil_or_concat x with h | ⟨i, a, h⟩
    · exact absurd h h1
    · refine ⟨a, i, by show x = _; rw [h]; simp, fun z => h2 (by rw [h, z]; simp)⟩
  | x :: y :: r, _, hp => by
    obtain ⟨a, i, h1, h2⟩ := JL_last (y :: r) (by simp) fun p h => hp p (List.mem_cons_of_mem _ h)
    exact ⟨a, x ++ 47 :: i, by rw [JL_cons, h1]; simp, h2⟩
theorem JL_head : ∀ (ps : List (List Nat)), ps ≠ [] → (∀ p ∈ ps, p ≠ [] ∧ 47 ∉ p) → ∃ a i, JL ps = a :: i ∧ a ≠ 47
  | [], h, _ => absurd rfl h
  | [x], _, hp => by
    obtain ⟨h1, h2⟩ := hp x (by simp)
    cases x with
    | nil => exact absurd rfl h1
    | cons a i => exact ⟨a, i, rfl, fun z => h2 (by rw [z]; simp)⟩
  | x :: y :: r, _, hp => by
    obtain ⟨h1, h2⟩ := hp x (by simp)
    cases x with
    | nil => exact absurd rfl h1
    | cons a i => exact ⟨a, i ++ 47 :: JL (y :: r), rfl, fun z => h2 (by rw [z]; simp)⟩

theorem L_pileS (pile : List Str) : L (pileS pile) = 47 :: JL (pile.map L) := by
  unfold pileS
  rw [L_append, L_sep, L_join]; rfl
/-- a component: neither empty nor with a slash -/
def Comp (s : Str) : Prop := L s ≠ [] ∧ 47 ∉ L s
theorem comp_of {s : Str} (h : GoodName s ∨ s = "..") : Comp s := by
  rcases h with h | h
  · exact ⟨h.ne, h.noSep⟩
  · rw [h]; exact ⟨by decide +kernel, by decide +kernel⟩
theorem comp_len {s : Str} (h : GoodName s ∨ s = "..") : s.length ≤ 20 := by
  rcases h with h | h
  · exact h.len
  · rw [h]; decide +kernel
theorem map_comp {ps : List Str} (h : ∀ p ∈ ps, Comp p) : ∀ p ∈ ps.map L, p ≠ [] ∧ 47 ∉ p := by
  intro p hp
  obtain ⟨q, hq, rfl⟩ := List.mem_map.mp hp
  exact h q hq
theorem head_ne {s : Str} (h : Comp s) : ((L s).head? == some 47) = false := by
  obtain ⟨h1, h2⟩ := h
  cases e : L s with
  | nil => exact absurd e h1
  | cons a r =>
    have : a ≠ 47 := fun z => h2 (by rw [e, z]; simp)
    simpa using this
theorem joinF_pile {pile : List Str} {s : Str} (hp : ∀ p ∈ pile, Comp p) (hs : Comp s) : joinF (pileS pile) s = pileS (pile ++ [s]) := by
  have hst : Txt.startswith s "/" = false := by rw [starts_iff]; exact head_ne hs
  have hlen : ((pileS pile).length != 0) = true := by
    rw [L_len, L_pileS]; rfl
  have hc : (Txt.startswith s "/" || !((pileS pile).length != 0)) = false := by rw [hst, hlen]; rfl
  cases pile with
  | nil =>
    have he : Txt.endswith (pileS []) "/" = true := by rw [ends_iff, L_pileS]; rfl
    rw [joinF_2 hc he]
    apply L_inj
    rw [L_append, L_pileS, L_pileS]; rfl
  | cons q pile =>
    have he : Txt.endswith (pileS (q :: pile)) "/" = false := by
      rw [ends_iff, L_pileS]
      obtain ⟨a, i, h1, h2⟩ := JL_last ((q :: pile).map L) (by simp) (map_comp hp)
      rw [h1, show 47 :: (i ++ [a]) = (47 :: i) ++ [a] from rfl, List.getLast?_concat]
      simpa using h2
    rw [joinF_3 hc he]
    apply L_inj
    rw [L_append, L_append, L_pileS, L_pileS, L_sep, List.map_append, List.map_singleton, JL_append _ _ (by simp)]
    simp
theorem sum_len {ps : List Str} {k : Nat} (h : ∀ p ∈ ps, p.length ≤ k) : (ps.map (·.length)).sum ≤ ps.length * k := sum_le_of_each ps k h
theorem join_len {ps : List Str} {k n : Nat} (h : ∀ p ∈ ps, p.length ≤ k) (hn : ps.length ≤ n) : (Str.join "/" ps).length ≤ n * k + n := by
  have h1 := StrLaws.join_length_le ("/" : Str) ps
  have h2 := sum_len h
  have h3 : ps.length * k ≤ n * k := Nat.mul_le_mul_right _ hn
  have e : (("/" : Str)).length = 1 := rfl
  rw [e] at h1
  omega
theorem pileS_len' (ps : List Str) : (pileS ps).length = (Str.join "/" ps).length + 1 := by
  unfold pileS
  rw [Str.length_append, Nat.add_comm]; rfl
theorem split_pile {ps : List Str} (h0 : ps ≠ []) (hp : ∀ p ∈ ps, Comp p) : splitF (pileS ps) = (("/" : Str), Str.join "/" ps) ∧ Txt.split (Str.join "/" ps) "/" = ps := by
  refine ⟨splitF_one (by rw [L_pileS, L_join]) (.inl ?_), split_join h0 fun p h => (hp p h).2⟩
  obtain ⟨a, i, h1, h2⟩ := JL_head (ps.map L) (by simpa using h0) (map_comp hp)
  rw [L_join, h1]
  simpa using h2
theorem np_step {pile : List Str} {s : Str} (hp : ∀ p ∈ pile, GoodName p) (hl : pile.length ≤ 10) (hs : GoodName s ∨ s = "..") :
    ISz (pileS pile) [s] ∧ NormFits (joinF (pileS pile) s) ∧ normF (joinF (pileS pile) s) = pileS (nextP pile s) := by
  have hcp : ∀ p ∈ pile, Comp p := fun p h => comp_of (.inl (hp p h))
  have hcs := comp_of hs
  have hls := comp_len hs
  have hall : ∀ p ∈ pile ++ [s], Comp p := fun p h => by
    rcases List.mem_append.mp h with h | h
    · exact hcp p h
    · rw [List.mem_singleton.mp h]; exact hcs
  have hlen : ∀ p ∈ pile ++ [s], p.length ≤ 20 := fun p h => by
    rcases List.mem_append.mp h with h | h
    · exact (hp p h).len
    · rw [List.mem_singleton.mp h]; exact hls
  have hn : (pile ++ [s]).length ≤ 11 := by rw [List.length_append, List.length_singleton]; omega
  have hj1 := join_len (fun p h => (hp p h).len) hl
  have hj2 := join_len hlen hn
  have hpl := pileS_len' pile
  have hpl2 := pileS_len' (pile ++ [s])
  obtain ⟨sp1, sp2⟩ := split_pile (ps := pile ++ [s]) (by simp) hall
  rw [joinF_pile hcp hcs]
  refine ⟨?_, ⟨by omega, ?_, ?_, ?_⟩, ?_⟩
  · unfold ISz
    simp only [List.map_cons, List.map_nil, List.sum_cons, List.sum_nil, List.length_cons, List.length_nil]
    omega
  · rw [sp1]
    exact ⟨by show (("/" : Str)).length ≤ 5000; decide +kernel, by show (Str.join "/" (pile ++ [s])).length ≤ 5000; omega⟩
  · rw [sp1]
    show (Txt.split (Str.join "/" (pile ++ [s])) "/").length ≤ 500
    rw [sp2]; omega
  · rw [sp1]
    show ∀ c ∈ Txt.split (Str.join "/" (pile ++ [s])) "/", c.length ≤ 500
    rw [sp2]
    intro c hc
    have := hlen c hc
    omega
  · have hne : ¬ (pileS (pile ++ [s])).length = 0 := by omega
    have hnc : normC (pileS (pile ++ [s])) = nextP pile s := by
      unfold normC
      rw [sp1]
      show (Txt.split (Str.join "/" (pile ++ [s])) "/").foldl (stepF true) [] = _
      rw [sp2, List.foldl_append, fold_good pile [] hp, List.nil_append, List.foldl_cons, List.foldl_nil]
      rcases hs with hs | hs
      · rw [stepF_good hs]
        exact (if_neg (by simpa using hs.noDD)).symm
      · subst hs
        rw [stepF_dd]
        have e1 : nextP pile ".." = pile.dropLast := if_pos (by decide +kernel)
        rw [e1]
        refine if_neg ?_
        cases hq : pile.getLast? with
        | none => 
          have : pile = [] := by simpa using hq
          rw [this]; simp
        | some q =>
          have hm : q ∈ pile := List.mem_of_getLast? hq
          have := (hp q hm).noDD
          simp [this]
    have e : normF (pileS (pile ++ [s])) = if (("/" : Str) ++ Str.join "/" (nextP pile s)).length = 0 then ("." : Str) else ("/" : Str) ++ Str.join "/" (nextP pile s) := by
      refine (if_neg hne).trans ?_
      rw [hnc, sp1]
    rw [e]
    exact if_neg (by have := pileS_len' (nextP pile s); unfold pileS at this; omega)
theorem pileS_root {pile : List Str} (hp : ∀ p ∈ pile, GoodName p) : (pileS pile == ("/":Str)) = pile.isEmpty := by
  rw [beq_sep, L_pileS]
  cases pile with
  | nil => rfl
  | cons q r =>
    obtain ⟨a, i, h1, h2⟩ := JL_head ((q :: r).map L) (by simp) (map_comp fun p h => comp_of (.inl (hp p h)))
    rw [h1]
    simp
theorem pileS_len {pile : List Str} (hp : ∀ p ∈ pile, GoodName p) (hl : pile.length ≤ 10) : (Str.join "/" pile).length ≤ 220 ∧ (pile.map (·.length)).sum ≤ 200 := by
  have h1 := join_len (fun p h => (hp p h).len) hl
  have h2 := sum_len (fun p h => (hp p h).len)
  have h3 : pile.length * 20 ≤ 10 * 20 := Nat.mul_le_mul_right _ hl
  omega

def awayB : List Str → List Str → Bool
  | [], _ => true
  | s :: r, pile => if (nextP pile s).isEmpty then false else awayB r (nextP pile s)
end Mine
end

section
open PySem PySem.Calls PyProof.Rows PySem.W
set_option maxRecDepth 100000
set_option linter.unusedVariables false
namespace Mine

def placeGo : Nat → Nat → Int → Nat
  | 0, p, _ => p
  | f + 1, p, d => if (2 : Int) ^ p < d then placeGo f (p + 1) d else p
def placeOf (d : Int) : Nat := placeGo 10 0 d
abbrev Chain := List Int × List Int
def diffC (c : Chain) : Int := c.1.getD 1 0 - c.1.getD 0 0
def growC (k : Nat) (c : Chain) : List Chain :=
  (c.1.getD 0 0 :: c.1.map (fun r => r + 2 ^ k), c.2) :: (if 1 < c.1.length then [(c.1.drop 1, c.2 ++ [((placeOf (diffC c) : Nat) : Int)])] else [])
def chN : Nat → List Chain
  | 0 => [([0], [])]
  | k + 1 => (chN k).flatMap (growC k)
def okC (c : Chain) : Bool := decide (1 ≤ c.1.length) && decide (c.1.length ≤ 40) && decide (c.2.length ≤ 10) && decide (diffC c ≤ 512) && c.1.all (fun r => decide (0 ≤ r) && decide (r < 64))
theorem ok0 : ((chN 0).all okC && decide ((chN 0).length ≤ 100)) = true := by decide +kernel
theorem ok1 : ((chN 1).all okC && decide ((chN 1).length ≤ 100)) = true := by decide +kernel
theorem ok2 : ((chN 2).all okC && decide ((chN 2).length ≤ 100)) = true := by decide +kernel
theorem ok3 : ((chN 3).all okC && decide ((chN 3).length ≤ 100)) = true := by decide +kernel
theorem ok4 : ((chN 4).all okC && decide ((chN 4).length ≤ 100)) = true := by decide +kernel
theorem ok5 : ((chN 5).all okC && decide ((chN 5).length ≤ 100)) = true := by decide +kernel
theorem okN {k : Nat} (h : k ≤ 5) : (∀ c ∈ chN k, okC c = true) ∧ (chN k).length ≤ 100 := by
  have : ((chN k).all okC && decide ((chN k).length ≤ 100)) = true := by
    have h' : k = 0 ∨ k = 1 ∨ k = 2 ∨ k = 3 ∨ k = 4 ∨ k = 5 := by omega
    rcases h' with rfl | rfl | rfl | rfl | rfl | rfl
    · exact ok0
    · exact ok1
    · exact ok2
    · exact ok3
    · exact ok4
    · exact ok5
  simp only [Bool.and_eq_true, decide_eq_true_eq] at this
  exact ⟨fun c hc => List.all_eq_true.mp this.1 c hc, this.2⟩

/-! the tokens of a row: 0 is two dots, 1 and 2 the folders, k + 3 the name of place k -/
def symStep (isl : Bool) (acc : List Nat) (t : Nat) : List Nat :=
  if t = 0 then (if ((!isl && acc.isEmpty) || (!acc.isEmpty && (acc.getLast?.getD 1 == 0))) = true then acc ++ [0] else acc.dropLast) else acc ++ [t]
def bitOf (row : Int) (k : Nat) : Bool := (row.fdiv (2 ^ k)).fmod 2 != 0
def thereV (count : Nat) (row : Int) : List Nat := (List.range count).filter fun k => bitOf row k
def nfV (kind : Nat) : Nat := if kind = 0 then 0 else 2
def rootE (kind : Nat) : Bool := kind == 0 || kind == 2
def symRow (count kind : Nat) (row : Int) : List Nat := [1, 2].take (nfV kind) ++ (List.range count).map fun k => if bitOf row k then k + 3 else 0
def overV (count : Nat) (row : Int) (dropped : List Int) : Int := (count : Int) - ((thereV count row).length : Int) - (dropped.length : Int)
def leftV (count : Nat) (row : Int) (dropped : List Int) : List Nat := (thereV count row).filter fun k => !dropped.any (· == (k : Int))
def symDue (count kind : Nat) (row : Int) (dropped : List Int) : List Nat :=
  (if rootE kind then List.replicate (overV count row dropped - (nfV kind : Int)).toNat 0 else []) ++ ([1, 2].take (nfV kind)).take (max ((nfV kind : Int) - overV count row dropped) 0).toNat ++ (leftV count row dropped).map (· + 3)
def okRow (count kind : Nat) (c : Chain) (row : Int) : Bool := (symRow count kind row).foldl (symStep (!rootE kind)) [] == symDue count kind row c.2
def okCnt (count kind : Nat) : Bool := (chN count).all fun c => c.1.all fun row => okRow count kind c row
theorem sym4 : ((List.range 5).all fun kind => okCnt 4 kind) = true := by decide +kernel
theorem sym5 : ((List.range 5).all fun kind => okCnt 5 kind) = true := by decide +kernel
theorem sym_law {count kind : Nat} (hc : count = 4 ∨ count = 5) (hk : kind < 5) {c : Chain} (h : c ∈ chN count) {row : Int} (hr : row ∈ c.1) : (symRow count kind row).foldl (symStep (!rootE kind)) [] = symDue count kind row c.2 := by
  have h1 : okCnt count kind = true := by
    rcases hc with rfl | rfl
    · exact List.all_eq_true.mp sym4 kind (List.mem_range.mpr hk)
    · exact List.all_eq_true.mp sym5 kind (List.mem_range.mpr hk)
  have h2 := List.all_eq_true.mp (List.all_eq_true.mp h1 c h) row hr
  exact beq_iff_eq.mp h2
end Mine
end

section
open PySem PySem.Calls PyProof.Rows PySem.W
set_option maxRecDepth 100000
set_option linter.unusedVariables false
namespace Mine

def tokS (nmz : Nat → Str) : Nat → Str
  | 0 => ".."
  | 1 => "y"
  | 2 => "z"
  | k + 3 => nmz k
theorem good_y : GoodName "y" := ⟨by decide +kernel, by decide +kernel, by decide +kernel, by decide +kernel, by decide +kernel⟩
theorem good_z : GoodName "z" := ⟨by decide +kernel, by decide +kernel, by decide +kernel, by decide +kernel, by decide +kernel⟩
theorem tok_good {nmz : Nat → Str} (hg : ∀ k, GoodName (nmz k)) {t : Nat} (h : t ≠ 0) : GoodName (tokS nmz t) := by
  match t, h with
  | 1, _ => exact good_y
  | 2, _ => exact good_z
  | k + 3, _ => exact hg k
theorem tok_ok {nmz : Nat → Str} (hg : ∀ k, GoodName (nmz k)) (t : Nat) : GoodName (tokS nmz t) ∨ tokS nmz t = ".." := by
  by_cases h : t = 0
  · subst h; exact .inr rfl
  · exact .inl (tok_good hg h)
theorem step_sym {nmz : Nat → Str} (hg : ∀ k, GoodName (nmz k)) (isl : Bool) (acc : List Nat) (t : Nat) : stepF isl (acc.map (tokS nmz)) (tokS nmz t) = (symStep isl acc t).map (tokS nmz) := by
  by_cases h : t = 0
  · subst h
    show stepF isl (acc.map (tokS nmz)) ".." = _
    rw [stepF_dd]
    unfold symStep
    rw [if_pos rfl]
    have e : ((!isl && (acc.map (tokS nmz)).isEmpty) || (!(acc.map (tokS nmz)).isEmpty && ((acc.map (tokS nmz)).getLast?.getD "" == ("..":Str)))) = ((!isl && acc.isEmpty) || (!acc.isEmpty && (acc.getLast?.getD 1 == 0))) := by
      rcases List.eq_nil_or_concat acc with h | ⟨i, a, h⟩
      · subst h; simp
      · rw [h, List.concat_eq_append, List.map_append]
        simp only [List.map_cons, List.map_nil, List.getLast?_concat, Option.getD_some]
        have : (tokS nmz a == ("..":Str)) = (a == 0) := by
          by_cases ha : a = 0
          · subst ha; show ((".." : Str) == (".." : Str)) = true; decide +kernel
          · have h1 := (tok_good hg ha).noDD
            have h2 : (a == 0) = false := by simpa using ha
            rw [h2]
            simpa using h1
        rw [this]
        cases i <;> rfl
    rw [e]
    split
    · rw [List.map_append]; rfl
    · rw [List.map_dropLast]
  · rw [stepF_good (tok_good hg h)]
    unfold symStep
    rw [if_neg h, List.map_append]; rfl
theorem fold_sym {nmz : Nat → Str} (hg : ∀ k, GoodName (nmz k)) (isl : Bool) : ∀ (ts acc : List Nat), (ts.map (tokS nmz)).foldl (stepF isl) (acc.map (tokS nmz)) = (ts.foldl (symStep isl) acc).map (tokS nmz)
  | [], _ => rfl
  | t :: ts, acc => by
    rw [List.map_cons, List.foldl_cons, List.foldl_cons, step_sym hg, fold_sym hg isl ts]

def nonskip (c : Str) : Bool := !(c == "" || c == ".")
theorem fold_filter (isl : Bool) : ∀ (cs acc : List Str), cs.foldl (stepF isl) acc = (cs.filter nonskip).foldl (stepF isl) acc
  | [], _ => rfl
  | c :: cs, acc => by
    cases h : nonskip c
    · rw [List.filter_cons_of_neg (by rw [h]; simp), List.foldl_cons, stepF_skip, fold_filter isl cs]
      unfold nonskip at h
      by_cases hc : c = ""
      · exact .inl hc
      · exact .inr (by simpa [hc] using h)
    · rw [List.filter_cons_of_pos h, List.foldl_cons, List.foldl_cons, fold_filter isl cs]

/-- a path: its root's text P, components ahead, and a first real one -/
structure PInv (nmz : Nat → Str) (P : Str) (pre : List Str) (N : Nat) (toks : List Nat) (x : Str) : Prop where
  ex : ∃ h t, x = P ++ Str.join "/" (pre ++ h :: t) ∧ Comp h ∧ (∀ c ∈ t, Comp c ∨ c = "") ∧ (∀ c ∈ h :: t, c.length ≤ 20) ∧ (h :: t).length ≤ N ∧ (h :: t).filter nonskip = toks.map (tokS nmz)
structure SInv (nmz : Nat → Str) (t : Nat) (s : Str) : Prop where
  ex : ∃ r, s = Str.join "/" (tokS nmz t :: r) ∧ (∀ c ∈ r, c = "" ∨ c = ".") ∧ r.length ≤ 2

theorem dot_comp : Comp "." := ⟨by decide +kernel, by decide +kernel⟩
theorem comp_nonempty {c : Str} (h : Comp c) : c ≠ "" := by
  intro z
  rw [z] at h
  exact h.1 (by decide +kernel)
theorem tok_nonskip {nmz : Nat → Str} (hg : ∀ k, GoodName (nmz k)) (t : Nat) : nonskip (tokS nmz t) = true := by
  unfold nonskip
  rcases tok_ok hg t with h | h
  · have h1 := h.noDot
    have h2 := comp_nonempty (comp_of (.inl h))
    simp [h1, h2]
  · rw [h]; decide +kernel
theorem JL_last2 : ∀ (i : List (List Nat)) (l : List Nat), l ≠ [] → 47 ∉ l → (JL (i ++ [l])).getLast? ≠ some 47 ∧ JL (i ++ [l]) ≠ []
  | [], l, h1, h2 => by
    show l.getLast? ≠ some 47 ∧ l ≠ []
    refine ⟨fun z => h2 (List.mem_of_getLast? z), h1⟩
  | x :: i, l, h1, h2 => by
    rw [show x :: i ++ [l] = (x :: i) ++ [l] from rfl, JL_append _ _ (by simp)]
    refine ⟨fun z => ?_, by simp⟩
    rw [List.getLast?_append, List.getLast?_cons] at z
    cases hl : l.getLast? with
    | none => exact h1 (by simpa using hl)
    | some a =>
      rw [hl] at z
      simp at z
      exact h2 (by rw [← z]; exact List.mem_of_getLast? hl)
theorem JL_cat : ∀ (i bs : List (List Nat)), i ≠ [] → bs ≠ [] → JL (i ++ bs) = JL i ++ 47 :: JL bs
  | [], _, h, _ => absurd rfl h
  | [x], b :: bs, _, _ => rfl
  | [x], [], _, h => absurd rfl h
  | x :: y :: i, bs, _, hb => by
    rw [show x :: y :: i ++ bs = x :: y :: (i ++ bs) from rfl, JL_cons, show y :: (i ++ bs) = (y :: i) ++ bs from rfl, JL_cat (y :: i) bs (by simp) hb, JL_cons]
    simp
theorem inv_step {nmz : Nat → Str} (hg : ∀ k, GoodName (nmz k)) {P : Str} {pre : List Str} {N : Nat} {toks : List Nat} {x s : Str} {t : Nat} (hx : PInv nmz P pre N toks x) (hs : SInv nmz t s) : PInv nmz P pre (N + 3) (toks ++ [t]) (joinF x s) := by
  obtain ⟨h, r, rfl, hh, hr, hlen, hN, hf⟩ := hx
  obtain ⟨q, rfl, hq, hq2⟩ := hs
  have hb : Comp (tokS nmz t) := comp_of (tok_ok hg t)
  have hbl : (tokS nmz t).length ≤ 20 := comp_len (tok_ok hg t)
  have hqc : ∀ c ∈ tokS nmz t :: q, Comp c ∨ c = "" := fun c hc => by
    rcases List.mem_cons.mp hc with rfl | hc
    · exact .inl hb
    · rcases hq c hc with h | h
      · exact .inr h
      · rw [h]; exact .inl dot_comp
  have hql : ∀ c ∈ tokS nmz t :: q, c.length ≤ 20 := fun c hc => by
    rcases List.mem_cons.mp hc with rfl | hc
    · exact hbl
    · rcases hq c hc with h | h <;> (rw [h]; decide +kernel)
  have hqf : (tokS nmz t :: q).filter nonskip = [tokS nmz t] := by
    rw [List.filter_cons_of_pos (tok_nonskip hg t)]
    congr 1
    rw [List.filter_eq_nil_iff]
    intro c hc
    unfold nonskip
    rcases hq c hc with h | h <;> (rw [h]; decide +kernel)
  have hst : Txt.startswith (Str.join "/" (tokS nmz t :: q)) "/" = false := by
    rw [starts_iff, L_join]
    obtain ⟨h1, h2⟩ := hb
    cases e : L (tokS nmz t) with
    | nil => exact absurd e h1
    | cons a z =>
      have ha : a ≠ 47 := fun w => h2 (by rw [e, w]; simp)
      have : (JL ((tokS nmz t :: q).map L)).head? = some a := by
        cases q with
        | nil => show (L (tokS nmz t)).head? = _; rw [e]; rfl
        | cons c q => rw [List.map_cons, List.map_cons, JL_cons, e]; rfl
      rw [this]
      simpa using ha
  have hne : L (P ++ Str.join "/" (pre ++ h :: r)) ≠ [] := by
    rw [L_append, L_join]
    intro z
    have z2 := (List.append_eq_nil_iff.mp z).2
    have : ∀ (a : List (List Nat)) (b : List Nat) (c : List (List Nat)), b ≠ [] → JL (a ++ b :: c) ≠ [] := by
      intro a b c hb
      cases a with
      | nil =>
        cases c with
        | nil => exact hb
        | cons c d => rw [List.nil_append, JL_cons]; simp
      | cons a a2 => 
        rw [JL_cat (a :: a2) (b :: c) (by simp) (by simp)]; simp
    rw [List.map_append, List.map_cons] at z2
    exact this _ _ _ hh.1 z2
  have hlen0 : ((P ++ Str.join "/" (pre ++ h :: r)).length != 0) = true := by
    rw [L_len]
    simpa using fun w => hne w
  have hc : (Txt.startswith (Str.join "/" (tokS nmz t :: q)) "/" || !((P ++ Str.join "/" (pre ++ h :: r)).length != 0)) = false := by rw [hst, hlen0]; rfl
  by_cases hlast : ∃ r', r = r' ++ [("" : Str)]
  · obtain ⟨r', rfl⟩ := hlast
    have hcat : L (P ++ Str.join "/" (pre ++ h :: (r' ++ [("" : Str)]))) = L P ++ (JL ((pre ++ h :: r').map L) ++ [47]) := by
      rw [L_append, L_join, show pre ++ h :: (r' ++ [("" : Str)]) = (pre ++ h :: r') ++ [("" : Str)] by simp, List.map_append, List.map_singleton, JL_append _ _ (by simp), L_nil]
    have he : Txt.endswith (P ++ Str.join "/" (pre ++ h :: (r' ++ [("" : Str)]))) "/" = true := by
      rw [ends_iff, hcat, ← List.append_assoc, List.getLast?_concat]; rfl
    rw [joinF_2 hc he]
    refine ⟨h, r' ++ (tokS nmz t :: q), L_inj ?_, hh, fun c hc => ?_, fun c hc => ?_, ?_, ?_⟩
    · rw [L_append, hcat, L_join, L_append, L_join, show pre ++ h :: (r' ++ (tokS nmz t :: q)) = (pre ++ h :: r') ++ (tokS nmz t :: q) by simp, List.map_append (l₁ := pre ++ h :: r'), JL_cat _ _ (by simp) (by simp)]
      simp
    · rcases List.mem_append.mp hc with hc | hc
      · exact hr c (List.mem_append_left _ hc)
      · exact hqc c hc
    · rcases List.mem_cons.mp hc with hc | hc
      · exact hlen c (by rw [hc]; simp)
      · rcases List.mem_append.mp hc with hc | hc
        · exact hlen c (by simp [hc])
        · exact hql c hc
    · simp only [List.length_cons, List.length_append, List.length_nil] at hN ⊢; omega
    · rw [List.map_append, ← hf, show h :: (r' ++ (tokS nmz t :: q)) = (h :: r') ++ (tokS nmz t :: q) from rfl, List.filter_append, hqf, show h :: (r' ++ [("" : Str)]) = (h :: r') ++ [("" : Str)] from rfl, List.filter_append]
      have : [("" : Str)].filter nonskip = [] := by decide +kernel
      rw [this]; simp
  · -- the last component is a real one
    obtain ⟨i, l, hil, hl⟩ : ∃ i l, h :: r = i ++ [l] ∧ Comp l := by
      rcases List.eq_nil_or_concat r with e | ⟨r', l, e⟩
      · exact ⟨[], h, by rw [e]; rfl, hh⟩
      · refine ⟨h :: r', l, by rw [e]; simp, ?_⟩
        rcases hr l (by rw [e]; simp) with z | z
        · exact z
        · exact absurd ⟨r', by rw [e, z]; simp⟩ hlast
    have he : Txt.endswith (P ++ Str.join "/" (pre ++ h :: r)) "/" = false := by
      rw [ends_iff, L_append, L_join, hil, ← List.append_assoc, List.map_append, List.map_singleton]
      obtain ⟨g1, g2⟩ := JL_last2 ((pre ++ i).map L) (L l) hl.1 hl.2
      rw [List.getLast?_append]
      cases z : (JL ((pre ++ i).map L ++ [L l])).getLast? with
      | none => exact absurd (by simpa using z) g2
      | some a =>
        rw [z] at g1
        simpa using g1
    rw [joinF_3 hc he]
    refine ⟨h, r ++ (tokS nmz t :: q), L_inj ?_, hh, fun c hc => ?_, fun c hc => ?_, ?_, ?_⟩
    · rw [L_append, L_append, L_append, L_append, L_join, L_join, L_join, L_sep, show pre ++ h :: (r ++ (tokS nmz t :: q)) = (pre ++ h :: r) ++ (tokS nmz t :: q) by simp, List.map_append (l₁ := pre ++ h :: r), JL_cat _ _ (by simp) (by simp)]
      simp
    · rcases List.mem_append.mp hc with hc | hc
      · exact hr c hc
      · exact hqc c hc
    · rcases List.mem_cons.mp hc with hc | hc
      · exact hlen c (by rw [hc]; simp)
      · rcases List.mem_append.mp hc with hc | hc
        · exact hlen c (by simp [hc])
        · exact hql c hc
    · simp only [List.length_cons, List.length_append] at hN ⊢; omega
    · rw [List.map_append, ← hf, show h :: (r ++ (tokS nmz t :: q)) = (h :: r) ++ (tokS nmz t :: q) from rfl, List.filter_append, hqf]; rfl
end Mine
end

section
open PySem PySem.Calls PyProof.Rows PySem.W
set_option maxRecDepth 100000
set_option linter.unusedVariables false
namespace Mine

theorem inv_fold {nmz : Nat → Str} (hg : ∀ k, GoodName (nmz k)) {P : Str} {pre : List Str} {tf : Nat → Nat} {sf : Nat → Str} : ∀ (ks : List Nat) (N : Nat) (toks : List Nat) (x : Str), PInv nmz P pre N toks x → (∀ k ∈ ks, SInv nmz (tf k) (sf k)) →
    PInv nmz P pre (N + 3 * ks.length) (toks ++ ks.map tf) ((ks.map sf).foldl joinF x)
  | [], N, toks, x, h, _ => by simpa using h
  | k :: ks, N, toks, x, h, hs => by
    have h1 := inv_step hg h (hs k (by simp))
    have h2 := inv_fold hg ks _ _ _ h1 fun j hj => hs j (by simp [hj])
    show PInv nmz P pre (N + 3 * (ks.length + 1)) (toks ++ tf k :: ks.map tf) ((ks.map sf).foldl joinF (joinF x (sf k)))
    have e : toks ++ [tf k] ++ ks.map tf = toks ++ tf k :: ks.map tf := by simp
    have e2 : N + 3 + 3 * ks.length = N + 3 * (ks.length + 1) := by omega
    rw [e, e2] at h2
    exact h2

def RootIs (P : Str) (pre : List Str) (root : Str) : Prop :=
  (P = "" ∧ pre = [] ∧ root = "") ∨ (P = "/" ∧ pre = [] ∧ root = "/") ∨ (P = "//" ∧ pre = [] ∧ root = "//") ∨ (P = "/" ∧ pre = [("" : Str), ("" : Str)] ∧ root = "/")
def finS (r : Str) : Str := if r.length = 0 then "." else r

theorem JL_cons_head (h : List Nat) (t : List (List Nat)) (a : Nat) (r : List Nat) (e : h = a :: r) : (JL (h :: t)).head? = some a := by
  cases t with
  | nil => show h.head? = _; rw [e]; rfl
  | cons b t => rw [JL_cons, e]; rfl
theorem split_root {P : Str} {pre : List Str} {root h : Str} {t : List Str} (hr : RootIs P pre root) (hh : Comp h) : splitF (P ++ Str.join "/" (pre ++ h :: t)) = (root, Str.join "/" (pre ++ h :: t)) ∧ (∀ c ∈ pre, c = "") ∧ pre.length ≤ 2 ∧ P.length ≤ 2 ∧ root.length ≤ 2 := by
  obtain ⟨h1, h2⟩ := hh
  have e2 : L ("//" : Str) = [47, 47] := by decide +kernel
  cases e : L h with
  | nil => exact absurd e h1
  | cons a r =>
    have ha : a ≠ 47 := fun z => h2 (by rw [e, z]; simp)
    have hd : (JL ((h :: t).map L)).head? ≠ some 47 := by
      rw [List.map_cons, JL_cons_head _ _ a r e]
      simpa using ha
    rcases hr with ⟨rfl, rfl, rfl⟩ | ⟨rfl, rfl, rfl⟩ | ⟨rfl, rfl, rfl⟩ | ⟨rfl, rfl, rfl⟩
    · refine ⟨?_, by simp, by simp, by decide +kernel, by decide +kernel⟩
      have e3 : ("" : Str) ++ Str.join "/" ([] ++ h :: t) = Str.join "/" ([] ++ h :: t) := L_inj (by rw [L_append, L_nil]; rfl)
      rw [e3]
      exact splitF_zero (by rw [L_join, List.nil_append]; exact hd)
    · refine ⟨splitF_one (by rw [L_append, L_sep]; rfl) (.inl (by rw [L_join, List.nil_append]; exact hd)), by simp, by simp, by decide +kernel, by decide +kernel⟩
    · refine ⟨splitF_two (by rw [L_append, e2]; rfl) (by rw [L_join, List.nil_append]; exact hd), by simp, by simp, by decide +kernel, by decide +kernel⟩
    · refine ⟨splitF_one (by rw [L_append, L_sep]; rfl) (.inr ?_), by simp, by simp, by decide +kernel, by decide +kernel⟩
      have : JL (([("" : Str), ("" : Str)] ++ h :: t).map L) = 47 :: 47 :: JL ((h :: t).map L) := by
        show JL (L "" :: L "" :: (h :: t).map L) = _
        rw [JL_cons, L_nil]
        rw [List.map_cons, JL_cons]; rfl
      rw [L_join, this]
      exact ⟨rfl, rfl⟩

theorem inv_norm {nmz : Nat → Str} (hg : ∀ k, GoodName (nmz k)) {P root : Str} {pre : List Str} {N : Nat} {toks : List Nat} {x : Str} (hr : RootIs P pre root) (hN : N ≤ 30) (hx : PInv nmz P pre N toks x) :
    NormFits x ∧ normF x = finS (root ++ Str.join "/" ((toks.foldl (symStep (root.length != 0)) []).map (tokS nmz))) := by
  obtain ⟨h, t, rfl, hh, ht, hlen, hN', hf⟩ := hx
  obtain ⟨hs, hpre, hpl, hP, hrl⟩ := split_root (t := t) hr hh
  have hallc : ∀ c ∈ pre ++ h :: t, 47 ∉ L c := fun c hc => by
    rcases List.mem_append.mp hc with hc | hc
    · rw [hpre c hc]; decide +kernel
    · rcases List.mem_cons.mp hc with rfl | hc
      · exact hh.2
      · rcases ht c hc with z | z
        · exact z.2
        · rw [z]; decide +kernel
  have halll : ∀ c ∈ pre ++ h :: t, c.length ≤ 20 := fun c hc => by
    rcases List.mem_append.mp hc with hc | hc
    · rw [hpre c hc]; decide +kernel
    · exact hlen c hc
  have hcnt : (pre ++ h :: t).length ≤ 32 := by rw [List.length_append]; omega
  have hsp : Txt.split (Str.join "/" (pre ++ h :: t)) "/" = pre ++ h :: t := split_join (by simp) hallc
  have hj := join_len halll hcnt
  have hxl : (P ++ Str.join "/" (pre ++ h :: t)).length ≤ 5000 := by rw [Str.length_append]; omega
  refine ⟨⟨hxl, ?_, ?_, ?_⟩, ?_⟩
  · rw [hs]
    exact ⟨by show root.length ≤ 5000; omega, by show (Str.join "/" (pre ++ h :: t)).length ≤ 5000; omega⟩
  · rw [hs]
    show (Txt.split (Str.join "/" (pre ++ h :: t)) "/").length ≤ 500
    rw [hsp]; omega
  · rw [hs]
    show ∀ c ∈ Txt.split (Str.join "/" (pre ++ h :: t)) "/", c.length ≤ 500
    rw [hsp]
    intro c hc
    have := halll c hc
    omega
  · have hne : ¬ (P ++ Str.join "/" (pre ++ h :: t)).length = 0 := by
      rw [L_len, L_append, L_join, List.map_append, List.map_cons]
      intro z
      have z2 := List.eq_nil_of_length_eq_zero z
      have z3 := (List.append_eq_nil_iff.mp z2).2
      cases pre with
      | nil =>
        obtain ⟨h1, _⟩ := hh
        cases t with
        | nil => exact h1 z3
        | cons c t => rw [List.map_nil, List.nil_append, List.map_cons, JL_cons] at z3; simp at z3
      | cons q pre => rw [List.map_cons, JL_cat _ _ (by simp) (by simp)] at z3; simp at z3
    have hnc : normC (P ++ Str.join "/" (pre ++ h :: t)) = (toks.foldl (symStep (root.length != 0)) []).map (tokS nmz) := by
      unfold normC
      rw [hs]
      show (Txt.split (Str.join "/" (pre ++ h :: t)) "/").foldl (stepF (root.length != 0)) [] = _
      rw [hsp, fold_filter, List.filter_append, hf]
      have : pre.filter nonskip = [] := by
        rw [List.filter_eq_nil_iff]
        intro c hc
        rw [hpre c hc]; decide +kernel
      rw [this, List.nil_append]
      exact fold_sym hg _ toks []
    refine (if_neg hne).trans ?_
    rw [hnc, hs]; rfl

/-! the law's parts -/
def rootOf : List Str := ["", "/", "", "//", "/"]
def frontP : List Str := ["", "/", "", "//", "///"]
def foldersOf (kind : Nat) : List Str := if kind = 0 then [] else ["y", "z"]
def frontOf (kind : Nat) : Str := (frontP[kind]?.getD "") ++ Str.join "/" (foldersOf kind)
def rootV (kind : Nat) : Str := rootOf[kind]?.getD ""
theorem symRow0 (count : Nat) (row : Int) : symRow count 0 row = (List.range count).map fun k => if bitOf row k then k + 3 else 0 := rfl
theorem symRowS (count : Nat) {kind : Nat} (h : kind ≠ 0) (row : Int) : symRow count kind row = [1, 2] ++ (List.range count).map fun k => if bitOf row k then k + 3 else 0 := by
  unfold symRow nfV
  rw [if_neg h]; rfl
theorem law_norm {nmz : Nat → Str} (hg : ∀ k, GoodName (nmz k)) {count kind : Nat} (hc : count = 4 ∨ count = 5) (hk : kind < 5) {sf : Nat → Str} {row : Int} (hs : ∀ k, k < count → SInv nmz (if bitOf row k then k + 3 else 0) (sf k)) :
    NormFits (((List.range count).map sf).foldl joinF (frontOf kind)) ∧ normF (((List.range count).map sf).foldl joinF (frontOf kind)) = finS (rootV kind ++ Str.join "/" (((symRow count kind row).foldl (symStep (!rootE kind)) []).map (tokS nmz))) := by
  have hs' : ∀ k ∈ List.range count, SInv nmz (if bitOf row k then k + 3 else 0) (sf k) := fun k h => hs k (List.mem_range.mp h)
  have hyz : ∀ (P : Str) (pre : List Str) (x : Str), x = P ++ Str.join "/" (pre ++ [("y" : Str), ("z" : Str)]) → PInv nmz P pre 2 [1, 2] x := fun P pre x e =>
    ⟨"y", ["z"], e, comp_of (.inl good_y), fun c hc => by rw [List.mem_singleton.mp hc]; exact .inl (comp_of (.inl good_z)), by decide +kernel, by decide, by show List.filter nonskip [("y" : Str), ("z" : Str)] = [("y" : Str), ("z" : Str)]; decide +kernel⟩
  have hcl : (List.range count).length ≤ 5 := by rw [List.length_range]; omega
  have fin : ∀ (P : Str) (pre : List Str), RootIs P pre (rootV kind) → frontOf kind = P ++ Str.join "/" (pre ++ [("y" : Str), ("z" : Str)]) → kind ≠ 0 → ((rootV kind).length != 0) = (!rootE kind) →
      NormFits (((List.range count).map sf).foldl joinF (frontOf kind)) ∧ normF (((List.range count).map sf).foldl joinF (frontOf kind)) = finS (rootV kind ++ Str.join "/" (((symRow count kind row).foldl (symStep (!rootE kind)) []).map (tokS nmz))) := by
    intro P pre hr hf h0 hi
    have h1 := inv_fold hg (List.range count) 2 [1, 2] (frontOf kind) (hyz P pre _ hf) hs'
    have h2 := inv_norm hg hr (by omega) h1
    rw [hi] at h2
    rw [symRowS count h0]
    exact h2
  have hk' : kind = 0 ∨ kind = 1 ∨ kind = 2 ∨ kind = 3 ∨ kind = 4 := by omega
  rcases hk' with rfl | rfl | rfl | rfl | rfl
  · obtain ⟨m, rfl⟩ : ∃ m, count = m + 1 := ⟨count - 1, by omega⟩
    rw [symRow0, List.range_succ_eq_map]
    rw [List.range_succ_eq_map] at hs'
    obtain ⟨r, e1, e2, e3⟩ := (hs' 0 (by simp)).ex
    have e0 : joinF (frontOf 0) (sf 0) = sf 0 := joinF_1 (by
      have : (frontOf 0).length = 0 := by decide +kernel
      rw [this]; simp)
    have hb : Comp (tokS nmz (if bitOf row 0 then 0 + 3 else 0)) := comp_of (tok_ok hg _)
    have h0 : PInv nmz "" [] 3 [if bitOf row 0 then 0 + 3 else 0] (sf 0) := by
      refine ⟨tokS nmz (if bitOf row 0 then 0 + 3 else 0), r, L_inj (by rw [e1, L_append, L_nil]; rfl), hb, fun c hc => ?_, fun c hc => ?_, by rw [List.length_cons]; omega, ?_⟩
      · rcases e2 c hc with h | h
        · exact .inr h
        · rw [h]; exact .inl dot_comp
      · rcases List.mem_cons.mp hc with rfl | hc
        · exact comp_len (tok_ok hg _)
        · rcases e2 c hc with h | h <;> (rw [h]; decide +kernel)
      · rw [List.filter_cons_of_pos (tok_nonskip hg _)]
        show _ :: _ = [_]
        congr 1
        rw [List.filter_eq_nil_iff]
        intro c hc
        rcases e2 c hc with h | h <;> (rw [h]; decide +kernel)
    have h1 := inv_fold hg ((List.range m).map Nat.succ) 3 _ (sf 0) h0 fun k hk => hs' k (by simp only [List.mem_cons]; exact .inr hk)
    have h2 := inv_norm hg (root := rootV 0) (.inl ⟨rfl, rfl, rfl⟩) (by rw [List.length_map, List.length_range]; omega) h1
    rw [List.map_cons, List.foldl_cons, e0, List.map_cons]
    exact h2
  · exact fin "/" [] (.inr (.inl ⟨rfl, rfl, rfl⟩)) (by decide +kernel) (by decide) (by decide +kernel)
  · exact fin "" [] (.inl ⟨rfl, rfl, rfl⟩) (by decide +kernel) (by decide) (by decide +kernel)
  · exact fin "//" [] (.inr (.inr (.inl ⟨rfl, rfl, rfl⟩))) (by decide +kernel) (by decide) (by decide +kernel)
  · exact fin "/" ["", ""] (.inr (.inr (.inr ⟨rfl, rfl, rfl⟩))) (by decide +kernel) (by decide) (by decide +kernel)
end Mine
end

section
open PySem PySem.Calls PyProof.Rows PySem.W
set_option maxRecDepth 100000
set_option linter.unusedVariables false
namespace Mine

theorem Iter.eq {C : Cx} {σ : Vars} {e : Expr} {ds ds' : List D} (x : Iter C σ e ds) (h : ds = ds') : Iter C σ e ds' := h ▸ x
theorem rangeD_zero (n : Nat) : rangeD 0 (n : Int) = (List.range n).map fun i : Nat => D.int (i : Int) := by
  unfold rangeD
  have : ((n : Int) - 0).toNat = n := by omega
  rw [this]
  apply List.map_congr_left
  intro i _
  congr 1
  omega
theorem sl_take {α : Type} (xs : List α) (k : Nat) : sl xs none (some (k : Int)) = xs.take k := by
  have : (some (k : Int) : Option Int).elim xs.length (clipAt xs.length) = min k xs.length := by
    show clipAt xs.length (k : Int) = _
    unfold clipAt
    rw [if_neg (by omega)]
    omega
  unfold sl
  rw [this]
  show List.take (min k xs.length - 0) xs = _
  rw [Nat.sub_zero, ← List.take_eq_take_min]
theorem sl_drop {α : Type} (xs : List α) (k : Nat) : sl xs (some (k : Int)) none = xs.drop k := by
  have : (some (k : Int) : Option Int).elim 0 (clipAt xs.length) = min k xs.length := by
    show clipAt xs.length (k : Int) = _
    unfold clipAt
    rw [if_neg (by omega)]
    omega
  unfold sl
  rw [this]
  by_cases h : k ≤ xs.length
  · rw [Nat.min_eq_left h]
    exact List.take_of_length_le (by rw [List.length_drop]; exact Nat.le_refl _)
  · rw [Nat.min_eq_right (by omega), List.drop_length, List.drop_eq_nil_of_le (by omega)]; simp
theorem sub_nil {cells : List (Str × Addr)} : ∀ p ∈ ([] : List (Str × Addr)), p ∈ cells := fun _ h => nomatch h
theorem sub_cons {cells cl : List (Str × Addr)} {y : Str} {c : Addr} (e : cells.lookup y = some c) (h : ∀ p ∈ cl, p ∈ cells) : ∀ p ∈ (y, c) :: cl, p ∈ cells := fun p hp => by
  rcases List.mem_cons.mp hp with rfl | hp
  · exact mem_of_lookup e
  · exact h p hp
theorem filter_true {α : Type} (l : List α) : (l.filter fun _ => true) = l := by simp
theorem NoOwn.freeze {x : Str} {d : D} {σ : Vars} (h : OnlyOwn σ x) : NoOwn ((x, .val d) :: σ) := fun y ds e => by
  by_cases hy : y = x
  · subst hy; rw [lookup_cons_eq] at e; cases e
  · rw [lookup_cons_ne hy] at e; exact hy (h y ds e)
theorem OnlyOwn.of_no {x : Str} {ds : List D} {σ : Vars} (h : NoOwn σ) : OnlyOwn ((x, .own ds) :: σ) x := fun y ds' e => by
  by_cases hy : y = x
  · exact hy
  · rw [lookup_cons_ne hy] at e; exact absurd e (h y ds')

def chD (c : Chain) : D := .tup [.list (c.1.map D.int), .list (c.2.map D.int)]
def gAdd (k : Nat) : D → D | .int r => .int (r + 2 ^ k) | d => d

structure Bc (h : Heap) : Prop where
  len : GB h "len" (.builtin "len")
  range : GB h "range" (.type "range")

section
variable {prog : Program} {w : World} {A : Around} {hG : Heap} {av : List Addr} {L f : Addr} {nm ql : Str} {dV kV doc pm : Value} {an : Option Addr} {cdv ct : Value} {n : Nat}

theorem chains_gives (rm : Room A n) (b : Bc hG) (cnt : Nat) (hc : cnt ≤ 5) :
    Gives ⟨prog, w, A, callEnvC (fdAt 18 nm ql dV kV doc pm an cdv ct) L f, hG, av, false⟩ [("count", .val (.int (cnt : Int)))] (bodyAt 18) (.list ((chN cnt).map chD)) := by
  have ok : Cx.Ok ⟨prog, w, A, callEnvC (fdAt 18 nm ql dV kV doc pm an cdv ct) L f, hG, av, false⟩ n := ⟨rm, rfl, rfl, rfl⟩
  have esz := sizeLine_eq
  refine Exs.cons (Ex.assign ok (d := .list ((chN 0).map chD)) (Ev.list (Evs.cons (Ev.tuple (Evs.cons (Ev.list (Evs.cons Ev.cint Evs.nil)) (Evs.cons (Ev.list Evs.nil) Evs.nil)) (by show 2 ≤ sizeLine; decide)) Evs.nil) (by show 1 ≤ sizeLine; decide)) (Sto.loc rfl) ?_)
  refine Exs.cons (Ex.for_ (ds := (List.range cnt).map fun i : Nat => D.int (i : Int)) (I := fun pre σ => Has σ "chains" (.list ((chN pre.length).map chD)) ∧ NoOwn σ) ok rfl
    (Iter.eq (Iter.range ok (EvR.one (Evf.builtin ok b.range) (Ev.name ok rfl)) (by decide) (by decide) (by omega) (by omega)) (rangeD_zero cnt)) (.inl ⟨_, _, rfl⟩)
    ⟨rfl, by repeat (first | exact NoOwn.nil | refine NoOwn.cons ?_)⟩ ?_ ?_)
  · rintro pre d post σ₁ hds ⟨hch, hno⟩
    obtain ⟨hk, rfl⟩ : pre.length < cnt ∧ d = .int (pre.length : Int) := by
      have h1 := congrArg List.length hds
      rw [List.length_map, List.length_range, List.length_append, List.length_cons] at h1
      refine ⟨by omega, ?_⟩
      have h3 : ((List.range cnt).map fun i : Nat => D.int (i : Int))[pre.length]? = some d := by
        rw [hds, List.getElem?_append_right (Nat.le_refl _)]; simp
      rw [List.getElem?_map, List.getElem?_range (by omega)] at h3
      exact (Option.some.inj h3).symm
    rw [List.length_append, List.length_singleton]
    generalize hkk : pre.length = k at hch hk
    obtain ⟨hok, hcl⟩ := okN (k := k) (by omega)
    refine ⟨_, AsTo.name ok (Sto.cell rfl rfl rfl), ?_⟩
    refine Exs.cons (Ex.assign_own ok (Sto.loc rfl) hno.cons ?_)
    have hch' : ∀ u v, Has (("grown", u) :: ("k", v) :: σ₁) "chains" (.list ((chN k).map chD)) := fun u v => hch
    refine Exs.cons (Ex.for_ (I := fun pre σ => ∃ pb, pre = pb.map chD ∧ (∃ rs, chN k = pb ++ rs) ∧ HasOwn σ "grown" ((pb.flatMap (growC k)).map chD) ∧ OnlyOwn σ "grown" ∧ Has σ "k" (.int (k : Int))) ok rfl (Iter.list ok (Ev.name ok (hch' _ _))) (.inr ⟨_, _, _, rfl⟩)
      ⟨[], rfl, ⟨_, rfl⟩, rfl, OnlyOwn.of_no hno.cons, rfl⟩ ?_ ?_)
    · rintro pre2 d post2 σ₂ hds2 ⟨pb, rfl, ⟨rs, hrs⟩, hown, only, hkv⟩
      rw [hrs] at hds2
      obtain ⟨c, rs', rfl, rfl⟩ : ∃ c rs', rs = c :: rs' ∧ d = chD c := by
        rw [List.map_append] at hds2
        have := List.append_cancel_left hds2
        cases rs with
        | nil => simp at this
        | cons c rs' =>
          rw [List.map_cons] at this
          injection this with h1 h2
          exact ⟨c, rs', rfl, h1.symm⟩
      have hcm : c ∈ chN k := by rw [hrs]; simp
      have hcok := hok c hcm
      unfold okC at hcok
      simp only [Bool.and_eq_true, decide_eq_true_eq] at hcok
      obtain ⟨⟨⟨⟨hc1, hc2⟩, hc3⟩, hc4⟩, _⟩ := hcok
      have hpl : pb.length + 1 ≤ 100 := by
        rw [hrs] at hcl; simp only [List.length_append, List.length_cons] at hcl; omega
      have hgl : (pb.flatMap (growC k)).length ≤ 2 * pb.length := by
        clear hown hrs hpl hds2
        induction pb with
        | nil => simp
        | cons q pb ih =>
          have : (growC k q).length ≤ 2 := by unfold growC; split <;> simp
          rw [List.flatMap_cons, List.length_append, List.length_cons]
          omega
      have hgl2 : ((pb.flatMap (growC k)).map chD).length + 2 < sizeLine := by rw [List.length_map]; omega
      have hitem0 : (c.1.map D.int)[(0 : Int).toNat]? = some (.int (c.1.getD 0 0)) := by
        rw [List.getElem?_map]
        have : 0 < c.1.length := by omega
        show Option.map D.int c.1[0]? = _
        rw [List.getD_eq_getElem?_getD, List.getElem?_eq_getElem this]; rfl
      have hlc : (c.1.map D.int).length = c.1.length := by simp
      refine ⟨_, AsTo.pair ok (Sto.loc rfl) (Sto.loc rfl), ?_⟩
      have hown' : ∀ u v, HasOwn (("dropped", u) :: ("rows", v) :: σ₂) "grown" ((pb.flatMap (growC k)).map chD) := fun _ _ => hown
      have hk' : ∀ u v, Has (("dropped", u) :: ("rows", v) :: σ₂) "k" (.int (k : Int)) := fun _ _ => hkv
      refine Exs.cons (Ex.append ok (d := chD (c.1.getD 0 0 :: c.1.map (fun r => r + 2 ^ k), c.2)) (hown' _ _) only.val.val (Ev.tuple (Evs.cons (d := .list ((c.1.getD 0 0 :: c.1.map (fun r => r + 2 ^ k)).map D.int)) (Ev.eq (Ev.binop (Ev.list (Evs.cons (Ev.item (xs := c.1.map D.int) (k := 0) (d := .int (c.1.getD 0 0)) (Ev.name ok rfl) Ev.cint (by decide) (by decide) hitem0) Evs.nil) (by show 1 ≤ sizeLine; decide)) (Ev.comp [("k", .val (.int (k : Int)))] (gAdd k) (fun _ => true) (Iter.list ok (Ev.name ok rfl)) ?_ (Caps.cons (hk' _ _) ⟨.inl rfl, .inl rfl, _, rfl, rfl⟩ Caps.nil) (by omega) (fun _ _ _ _ => TIf.nil) (fun Ca av d hd _ => ?_) (hsub := sub_cons rfl sub_nil)) (op_add_list ?_)) ?_) (Evs.cons (Ev.name ok rfl) Evs.nil)) (by show 2 ≤ sizeLine; decide)) (by omega) ?_)
      · intro d hd
        obtain ⟨x, _, rfl⟩ := List.mem_map.mp hd
        trivial
      · obtain ⟨x, _, rfl⟩ := List.mem_map.mp hd
        refine ⟨trivial, ?_⟩
        refine Ev.eq (Ev.binop (Ev.name (Cx.inner_ok ok rfl) rfl) (Ev.binop Ev.cint (Ev.name (Cx.inner_ok ok rfl) rfl) (op_pow_int (by omega) (by omega) (by decide))) op_add_int) ?_
        show D.int (x + 2 ^ ((k : Int)).toNat) = D.int (x + 2 ^ k)
        rw [Int.toNat_natCast]
      · rw [filter_true]; simp; omega
      · rw [filter_true, List.map_map, List.map_cons, List.map_map]; rfl
      have fin : ∀ (σ' : Vars), HasOwn σ' "grown" (((pb ++ [c]).flatMap (growC k)).map chD) → OnlyOwn σ' "grown" → Has σ' "k" (.int (k : Int)) → ∃ σ'' : Vars, (∀ x sl, σ''.lookup x = some sl → σ'.lookup x = some sl) ∧ ∃ pb', pb.map chD ++ [chD c] = pb'.map chD ∧ (∃ rs, chN k = pb' ++ rs) ∧ HasOwn σ'' "grown" ((pb'.flatMap (growC k)).map chD) ∧ OnlyOwn σ'' "grown" ∧ Has σ'' "k" (.int (k : Int)) :=
        fun σ' h1 h2 h3 => ⟨σ', fun _ _ e => e, pb ++ [c], by simp, ⟨rs', by rw [hrs]; simp⟩, h1, h2, h3⟩
      refine Exs.cons (Ex.if_ (It.compare (Ev.callb (Evf.builtin ok b.len) (Evs.cons (Ev.name ok rfl) Evs.nil) (op_len_list (by omega))) Ev.cint op_gt_int) (fun h1 => ?_) (fun h1 => ?_))
      · have h1' : 1 < c.1.length := by
          rw [hlc] at h1
          have := of_decide_eq_true h1
          omega
        have hitem1 : (c.1.map D.int)[(1 : Int).toNat]? = some (.int (c.1.getD 1 0)) := by
          rw [List.getElem?_map]
          show Option.map D.int c.1[1]? = _
          rw [List.getD_eq_getElem?_getD, List.getElem?_eq_getElem h1']; rfl
        refine Exs.cons (Ex.assign ok Ev.cint (Sto.loc rfl) ?_)
        refine Exs.cons (Ex.while_ (I := fun m σ => ∃ p : Nat, Has σ "place" (.int (p : Int)) ∧ placeGo m p (diffC c) = placeOf (diffC c) ∧ p + m = 10 ∧ HasOwn σ "grown" ((pb.flatMap (growC k)).map chD ++ [chD (c.1.getD 0 0 :: c.1.map (fun r => r + 2 ^ k), c.2)]) ∧ OnlyOwn σ "grown" ∧ Has σ "k" (.int (k : Int)) ∧ Has σ "rows" (.list (c.1.map D.int)) ∧ Has σ "dropped" (.list (c.2.map D.int))) 10
          ⟨0, rfl, rfl, rfl, rfl, only.val.val.own.val, hkv, rfl, rfl⟩ ?_)
        rintro m σ₃ ⟨p, hp, hgo, hpm, hown3, only3, hk3, hrow3, hdrop3⟩
        refine ⟨_, It.compare (Ev.binop Ev.cint (Ev.name ok hp) (op_pow_int (by omega) (by omega) (by decide))) (Ev.binop (Ev.item (k := 1) (Ev.name ok hrow3) Ev.cint (by decide) (by decide) hitem1) (Ev.item (k := 0) (Ev.name ok hrow3) Ev.cint (by decide) (by decide) hitem0) op_sub_int) op_lt_int, fun hb => ?_, fun hb => ?_⟩
        · rw [Int.toNat_natCast] at hb
          have hlt : (2 : Int) ^ p < diffC c := of_decide_eq_true hb
          obtain ⟨m', rfl⟩ : ∃ m', m = m' + 1 := by
            cases m with
            | succ m' => exact ⟨m', rfl⟩
            | zero =>
              have : p = 10 := by omega
              subst this
              have : (2 : Int) ^ 10 = 1024 := by decide
              omega
          refine Exs.cons (Ex.assign ok (Ev.binop (Ev.name ok hp) Ev.cint op_add_int) (Sto.loc rfl) (Exs.nil ⟨m', _ :: σ₃, by omega, fun _ _ e => e, p + 1, ?_, ?_, by omega, hown3, only3.val, hk3, hrow3, hdrop3⟩))
          · show some (Slot.val (D.int _)) = some (Slot.val (D.int _))
            congr 3
          · rw [← hgo]
            show _ = if (2 : Int) ^ p < diffC c then _ else _
            rw [if_pos hlt]
        · rw [Int.toNat_natCast] at hb
          have hlt : ¬ (2 : Int) ^ p < diffC c := of_decide_eq_false hb
          have hpl2 : placeOf (diffC c) = p := by
            rw [← hgo]
            cases m with
            | zero => rfl
            | succ m => exact if_neg hlt
          refine Exs.cons (Ex.append ok (d := chD (c.1.drop 1, c.2 ++ [((placeOf (diffC c) : Nat) : Int)])) hown3 only3 (Ev.tuple (Evs.cons (d := .list ((c.1.drop 1).map D.int)) (Ev.eq (Ev.slice (i := some ((1 : Nat) : Int)) (j := none) (Ev.name ok hrow3) Ev.cint trivial (by omega)) (by rw [sl_drop, List.map_drop])) (Evs.cons (d := .list ((c.2 ++ [((placeOf (diffC c) : Nat) : Int)]).map D.int)) (Ev.eq (Ev.binop (Ev.name ok hdrop3) (Ev.list (Evs.cons (Ev.name ok hp) Evs.nil) (by show 1 ≤ sizeLine; decide)) (op_add_list (by simp; omega))) (by rw [hpl2]; simp)) Evs.nil)) (by show 2 ≤ sizeLine; decide)) (by rw [List.length_append, List.length_singleton]; omega) (Exs.nil (Exs.nil (fin (_ :: σ₃) ?_ only3.own hk3))))
          show some (Slot.own _) = some (Slot.own _)
          congr 2
          rw [List.flatMap_append, List.map_append, List.flatMap_cons, List.flatMap_nil, List.append_nil]
          show _ = _ ++ (growC k c).map chD
          unfold growC
          rw [if_pos h1']
          simp
      · have h1' : ¬ 1 < c.1.length := by
          rw [hlc] at h1
          have := of_decide_eq_false h1
          omega
        refine Exs.nil (Exs.nil (fin (_ :: _ :: _ :: σ₂) ?_ only.val.val.own hkv))
        show some (Slot.own _) = some (Slot.own _)
        congr 2
        rw [List.flatMap_append, List.map_append, List.flatMap_cons, List.flatMap_nil, List.append_nil]
        show _ = _ ++ (growC k c).map chD
        unfold growC
        rw [if_neg h1']
        simp
    · rintro σ₂ ⟨pb, hpb, ⟨rs, hrs⟩, hown, only, hkv⟩
      have hl := congrArg List.length hpb
      rw [List.length_map, List.length_map] at hl
      have : rs = [] := by
        have h2 := congrArg List.length hrs
        rw [List.length_append] at h2
        exact List.eq_nil_of_length_eq_zero (by omega)
      subst this
      rw [List.append_nil] at hrs
      subst hrs
      refine Run.freeze hown only ?_
      refine Exs.cons (Ex.assign ok (Ev.name ok rfl) (Sto.loc rfl) (Exs.nil ⟨_ :: _ :: σ₂, fun _ _ e => e, rfl, (NoOwn.freeze only).cons⟩))
  · rintro σ₁ ⟨hch, _⟩
    rw [List.length_map, List.length_range] at hch
    exact Exs.cons (Ex.ret (Ev.name ok hch) rfl)
end
end Mine
end

section
open PySem PySem.Calls PyProof.Rows PySem.W
set_option maxRecDepth 100000
set_option linter.unusedVariables false
namespace Mine

def dotsV (k : Nat) : Str := ⟨(List.replicate (k + 3) (("." : Str)).cps).foldl (· ++ ·) #[]⟩
def tmplV (k : Nat) : List Str := ["x", "x.", "x..", "x ", ".x", "..x", dotsV k]
def nameV (k r : Nat) : Str := Txt.replace ((tmplV k)[r]?.getD "x") "x" ⟨#[97 + k]⟩
def goodB (s : Str) : Bool := !(L s).isEmpty && !(L s).contains 47 && !(s == ".") && !(s == "..") && decide (s.length ≤ 20)
theorem goodB_good {s : Str} (h : goodB s = true) : GoodName s := by
  unfold goodB at h
  simp only [Bool.and_eq_true, Bool.not_eq_true', decide_eq_true_eq] at h
  obtain ⟨⟨⟨⟨h1, h2⟩, h3⟩, h4⟩, h5⟩ := h
  refine ⟨fun z => ?_, fun z => ?_, by simpa using h3, by simpa using h4, h5⟩
  · have : L s = [] := z
    rw [this] at h1; simp at h1
  · have h6 : (L s).contains 47 = true := List.contains_iff_mem.mpr (show 47 ∈ L s from z)
    rw [h6] at h2; cases h2
theorem names_good : ((List.range 5).all fun k => (List.range 7).all fun r => goodB (nameV k r)) = true := by decide +kernel
theorem nameV_good {k r : Nat} (hk : k < 5) (hr : r < 7) : GoodName (nameV k r) :=
  goodB_good (List.all_eq_true.mp (List.all_eq_true.mp names_good k (List.mem_range.mpr hk)) r (List.mem_range.mpr hr))

def remV (nums : List Int) (k : Nat) : Nat := ((nums.getD k 0).fmod 7).toNat
def sufV (nums : List Int) (k : Nat) : Nat := (((nums.getD k 0).fdiv 7).fmod 4).toNat
def nmz (nums : List Int) (k : Nat) : Str := if k < 5 then nameV k (remV nums k) else "a"
theorem rem_lt (nums : List Int) (k : Nat) : remV nums k < 7 := by
  unfold remV
  have h1 : (nums.getD k 0).fmod 7 < 7 := Int.fmod_lt_of_pos _ (by decide)
  omega
theorem suf_lt (nums : List Int) (k : Nat) : sufV nums k < 4 := by
  unfold sufV
  have h1 : ((nums.getD k 0).fdiv 7).fmod 4 < 4 := Int.fmod_lt_of_pos _ (by decide)
  omega
theorem nmz_good (nums : List Int) (k : Nat) : GoodName (nmz nums k) := by
  unfold nmz
  split
  · rename_i h; exact nameV_good h (rem_lt nums k)
  · exact goodB_good (by decide +kernel)
def sufs : List Str := ["", "/", "/.", "//"]
def stepV (nums : List Int) (k : Nat) : Str := nmz nums k ++ (sufs[sufV nums k]?.getD "")
theorem stepV_inv (nums : List Int) (k : Nat) : SInv (nmz nums) (k + 3) (stepV nums k) := by
  have e2 : L ("//" : Str) = [47, 47] := by decide +kernel
  have e3 : L ("/." : Str) = [47, 46] := by decide +kernel
  have e4 : L ("." : Str) = [46] := by decide +kernel
  have hlt := suf_lt nums k
  have h : sufV nums k = 0 ∨ sufV nums k = 1 ∨ sufV nums k = 2 ∨ sufV nums k = 3 := by omega
  unfold stepV
  rcases h with h | h | h | h
  · rw [h]
    exact ⟨[], L_inj (by rw [L_append, L_join]; show _ ++ L "" = L (nmz nums k); rw [L_nil]; simp), by simp, by simp⟩
  · rw [h]
    refine ⟨[""], L_inj ?_, by simp, by simp⟩
    rw [L_append, L_join]
    show _ ++ L "/" = L (nmz nums k) ++ 47 :: L ""
    rw [L_nil, L_sep]
  · rw [h]
    refine ⟨["."], L_inj ?_, by simp, by simp⟩
    rw [L_append, L_join]
    show _ ++ L "/." = L (nmz nums k) ++ 47 :: L "."
    rw [e3, e4]
  · rw [h]
    refine ⟨["", ""], L_inj ?_, by simp, by simp⟩
    rw [L_append, L_join]
    show _ ++ L "//" = L (nmz nums k) ++ 47 :: (L "" ++ 47 :: L "")
    rw [L_nil, e2]; rfl
theorem dd_inv (nums : List Int) : SInv (nmz nums) 0 ".." := ⟨[], rfl, by simp, by simp⟩
theorem stepV_len (nums : List Int) (k : Nat) : (stepV nums k).length ≤ 25 := by
  unfold stepV
  rw [Str.length_append]
  have h1 := (nmz_good nums k).len
  have hlt := suf_lt nums k
  have h : sufV nums k = 0 ∨ sufV nums k = 1 ∨ sufV nums k = 2 ∨ sufV nums k = 3 := by omega
  have : ((sufs[sufV nums k]?.getD "") : Str).length ≤ 2 := by
    rcases h with h | h | h | h <;> (rw [h]; decide +kernel)
  omega
def cntV (m : Nat) : Nat := if m % 3 = 2 then 5 else 4
theorem cntV_is (m : Nat) : cntV m = 4 ∨ cntV m = 5 := by
  unfold cntV
  split
  · exact .inr rfl
  · exact .inl rfl
def numsOf2 (ns : List Int) : List Int := ns.take (cntV ns.length) ++ ([8, 2, 0, 17, 10] : List Int).drop ns.length
theorem nums_len (ns : List Int) : cntV ns.length ≤ (numsOf2 ns).length ∧ (numsOf2 ns).length ≤ 10 := by
  unfold numsOf2
  have := cntV_is ns.length
  have hm : ns.length = 4 → cntV ns.length = 4 := fun h => by rw [h]; rfl
  simp only [List.length_append, List.length_drop, List.length_take, List.length_cons, List.length_nil]
  omega
theorem pow2_small {i : Nat} (h : i < 5) : (2 : Int) ^ i ≠ 0 ∧ ((2 : Int) ^ i).natAbs < 1073741824 := by
  have h' : i = 0 ∨ i = 1 ∨ i = 2 ∨ i = 3 ∨ i = 4 := by omega
  rcases h' with rfl | rfl | rfl | rfl | rfl <;> decide
end Mine
end

section
open PySem PySem.Calls PyProof.Rows PySem.W
set_option maxRecDepth 100000
set_option maxHeartbeats 4000000
set_option linter.unusedVariables false
namespace Mine

def gName (nums : List Int) : D → D | .int k => .str (nmz nums k.toNat) | d => d
def gStep2 (nums : List Int) : D → D | .int k => .str (stepV nums k.toNat) | d => d
def gId : D → D := fun d => d
def pThere (row : Int) : D → Bool | .int k => bitOf row k.toNat | _ => false
def pLeft (dropped : List Int) : D → Bool | .int k => !dropped.any (· == k) | _ => false
def sfV (nums : List Int) (row : Int) (k : Nat) : Str := if bitOf row k then stepV nums k else ".."
def gSf (nums : List Int) (row : Int) : D → D | .int k => .str (sfV nums row k.toNat) | d => d

structure Bl2 (h : Heap) : Prop where
  len : GB h "len" (.builtin "len")
  range : GB h "range" (.type "range")
  sum : GB h "sum" (.builtin "sum")
  max : GB h "max" (.builtin "max")

/-- what stands through the loops -/
structure Base (cnt kind : Nat) (nums : List Int) (σ : Vars) : Prop where
  count : Has σ "count" (.int (cnt : Int))
  names : Has σ "names" (.list (((List.range cnt).map (nmz nums)).map D.str))
  steps : Has σ "steps" (.list (((List.range cnt).map (stepV nums)).map D.str))
  root : Has σ "root" (.str (rootV kind))
  folders : Has σ "folders" (.list ((foldersOf kind).map D.str))
  front : Has σ "front" (.str (frontOf kind))

theorem rngF (m : Nat) (d : D) (hd : d ∈ (List.range m).map (fun i : Nat => D.int (i : Int))) : ∃ i : Nat, i < m ∧ d = .int (i : Int) := by
  obtain ⟨i, hi, rfl⟩ := List.mem_map.mp hd
  exact ⟨i, List.mem_range.mp hi, rfl⟩
theorem rngI {C : Cx} {n : Nat} {σ : Vars} {e : Expr} {m : Nat} (hm : m ≤ 10) (okc : C.Ok n) (x : EvR C σ e 0 (m : Int)) : Iter C σ e ((List.range m).map fun i : Nat => D.int (i : Int)) :=
  Iter.eq (Iter.range okc x (by decide) (by decide) (by omega) (by omega)) (rangeD_zero m)
theorem item_map {α : Type} (g : α → D) (f : Nat → α) {cnt i : Nat} (h : i < cnt) : (((List.range cnt).map f).map g)[((i : Nat) : Int).toNat]? = some (g (f i)) := by
  rw [Int.toNat_natCast, List.getElem?_map, List.getElem?_map, List.getElem?_range h]; rfl

section
variable {prog : Program} {w : World} {A : Around} {hG : Heap} {av : List Addr} {L f : Addr} {nm : Str} {cd : Value} {n : Nat}

def PRet (d : D) : Out → Prop := fun o => match o with | .ret r => r = d | .next _ => d = .none | _ => False
theorem law_head (rm : Room A n) (b : Bl2 hG) (ns : List Int) (hns : ns.length ≤ 63)
    (hrest : ∀ σ, NoOwn σ → Has σ "script" (.list (ns.map D.int)) → Has σ "count" (.int ((cntV ns.length : Nat) : Int)) → Has σ "numbers" (.list ((numsOf2 ns).map D.int)) → Has σ "names" (.list (((List.range (cntV ns.length)).map (nmz (numsOf2 ns))).map D.str)) →
      Exs ⟨prog, w, A, envOfC nm (scpAt 19) L f cd, hG, av, false⟩ σ ((bodyAt 19).drop 3) (PRet (.bool true))) :
    Gives0 ⟨prog, w, A, envOfC nm (scpAt 19) L f cd, hG, av, false⟩ [("script", .val (.list (ns.map D.int)))] (bodyAt 19) (.bool true) := by
  have ok : Cx.Ok ⟨prog, w, A, envOfC nm (scpAt 19) L f cd, hG, av, false⟩ n := ⟨rm, rfl, rfl, rfl⟩
  have esz := sizeLine_eq
  have hlns : (ns.map D.int).length = ns.length := by simp
  have hcnt := cntV_is ns.length
  have hcnt5 : cntV ns.length ≤ 5 := by omega
  obtain ⟨hnl1, hnl2⟩ := nums_len ns
  generalize hcv : cntV ns.length = cnt at hcnt hcnt5 hnl1 hrest
  generalize hnv : numsOf2 ns = nums at hnl1 hnl2 hrest
  refine Exs.first ok (d := .int (cnt : Int)) (Tv0.ifexp (Tb0.compare (Tv0.binop (Tv0.len ok (Evf.builtin ok b.len) rfl (by omega)) Ev.cint (op_mod_int (by decide))) Ev.cint op_eq_int) (fun h => Ev.eq Ev.cint ?_) (fun h => Ev.eq Ev.cint ?_)) (Sto.loc rfl) ?_
  · rw [hlns] at h
    have h1 : ((ns.length : Int)).fmod 3 = 2 := by simpa using h
    rw [Int.fmod_eq_emod_of_nonneg _ (by decide)] at h1
    have : cnt = 5 := by rw [← hcv]; exact if_pos (by omega)
    rw [this]; rfl
  · rw [hlns] at h
    have h1 : ¬ ((ns.length : Int)).fmod 3 = 2 := by simpa using h
    rw [Int.fmod_eq_emod_of_nonneg _ (by decide)] at h1
    have : cnt = 4 := by rw [← hcv]; exact if_neg (by omega)
    rw [this]; rfl
  refine Exs.cons (Ex.assign ok (d := .list (nums.map D.int)) (Ev.eq (Ev.binop (Ev.slice (i := none) (j := some (cnt : Int)) (Ev.name ok rfl) trivial (Ev.name ok rfl) (by omega)) (Ev.slice (xs := ([8, 2, 0, 17, 10] : List Int).map D.int) (i := some ((ns.map D.int).length : Nat)) (j := none) (Ev.list (Evs.cons Ev.cint (Evs.cons Ev.cint (Evs.cons Ev.cint (Evs.cons Ev.cint (Evs.cons Ev.cint Evs.nil)))))) (Ev.callb (Evf.builtin ok b.len) (Evs.cons (Ev.name ok rfl) Evs.nil) (op_len_list (by omega))) trivial (by decide)) (op_add_list ?_)) ?_) (Sto.cell rfl rfl rfl) ?_)
  · rw [sl_drop, sl_take]; simp; omega
  · rw [sl_drop, sl_take, ← hnv, ← hcv]; unfold numsOf2; rw [List.map_append, List.map_drop, List.map_take, List.length_map]
  have hnitem : ∀ i, i < cnt → (nums.map D.int)[((i : Nat) : Int).toNat]? = some (.int (nums.getD i 0)) := fun i hi => by
    rw [Int.toNat_natCast, List.getElem?_map, List.getD_eq_getElem?_getD, List.getElem?_eq_getElem (by omega)]; rfl
  -- names
  refine Exs.cons (Ex.assign ok (d := .list (((List.range cnt).map (nmz nums)).map D.str)) (Ev.eq (Ev.comp [("numbers", .val (.list (nums.map D.int)))] (gName nums) (fun _ => true) (rngI (m := cnt) (by omega) ok (EvR.one (Evf.builtin ok b.range) (Ev.name ok rfl)))
    (fun d hd => by obtain ⟨i, hi, rfl⟩ := rngF _ d hd; trivial) (Caps.cons rfl ⟨.inl rfl, .inl rfl, _, rfl, rfl⟩ Caps.nil) (by simp; omega) (fun _ _ _ _ => TIf.nil) (fun Ca av d hd _ => ?_) (hsub := sub_cons rfl sub_nil)) ?_) (Sto.cell rfl rfl rfl) ?_)
  · obtain ⟨i, hi, rfl⟩ := rngF _ d hd
    refine ⟨trivial, ?_⟩
    have hr0 : 0 ≤ (nums.getD i 0).fmod 7 := Int.fmod_nonneg_of_pos _ (by decide)
    have hr7 := rem_lt nums i
    have e3 : (((i : Int) + 3).toNat) = i + 3 := by omega
    have hval : gName nums (.int (i : Int)) = .str (Txt.replace ((tmplV i)[remV nums i]?.getD "x") "x" ⟨#[97 + i]⟩) := by
      show D.str (nmz nums ((i : Int)).toNat) = _
      rw [Int.toNat_natCast]
      unfold nmz
      rw [if_pos (by omega)]; rfl
    rw [hval]
    have hi5 : i = 0 ∨ i = 1 ∨ i = 2 ∨ i = 3 ∨ i = 4 := by omega
    have hdots : ∀ {pr w A}, Op2 pr w A (binaryOp .Mult) (.str ".") (.int ((i : Int) + 3)) (.str (dotsV i)) := by
      intro pr w A
      have h1 : dotsV i = ⟨(List.replicate ((i : Int) + 3).toNat (("." : Str)).cps).foldl (· ++ ·) #[]⟩ := by rw [e3]; rfl
      rw [h1]
      refine op_mul_str (by omega) (by omega) (by decide +kernel) (by decide +kernel) ?_
      rw [e3]
      rcases hi5 with rfl | rfl | rfl | rfl | rfl <;> decide +kernel
    refine Ev.replace_letter (x := (tmplV i)[remV nums i]?.getD "x") (Cx.inner_ok ok rfl) (i := (i : Int)) (Ev.item (xs := (tmplV i).map D.str) (k := (nums.getD i 0).fmod 7) (Ev.list ?_ (by show 7 ≤ sizeLine; decide)) ?_ hr0 ?_ ?_) rfl (by omega) (by omega) ?_ ?_ ?_
    · exact Evs.cons Ev.cstr (Evs.cons Ev.cstr (Evs.cons Ev.cstr (Evs.cons Ev.cstr (Evs.cons Ev.cstr (Evs.cons Ev.cstr (Evs.cons (Ev.binop Ev.cstr (Ev.binop (Ev.name (Cx.inner_ok ok rfl) rfl) Ev.cint op_add_int) hdots) Evs.nil))))))
    · exact Ev.binop (Ev.item (Ev.name (Cx.inner_ok ok rfl) rfl) (Ev.name (Cx.inner_ok ok rfl) rfl) (by omega) (by omega) (hnitem i hi)) Ev.cint (op_mod_int (by decide))
    · unfold remV at hr7; omega
    · show ((tmplV i).map D.str)[remV nums i]? = _
      rw [List.getElem?_map]
      have : remV nums i < (tmplV i).length := hr7
      rw [List.getElem?_eq_getElem this]; rfl
    · rcases hi5 with rfl | rfl | rfl | rfl | rfl <;> decide +kernel
    · rcases hi5 with rfl | rfl | rfl | rfl | rfl <;> decide +kernel
    · have hg : ((tmplV i)[remV nums i]?.getD "x").length ≤ 1048576 := by
        have h7 : remV nums i = 0 ∨ remV nums i = 1 ∨ remV nums i = 2 ∨ remV nums i = 3 ∨ remV nums i = 4 ∨ remV nums i = 5 ∨ remV nums i = 6 := by omega
        rcases hi5 with rfl | rfl | rfl | rfl | rfl <;> (rcases h7 with h | h | h | h | h | h | h <;> (rw [h]; decide +kernel))
      exact hg
  · rw [filter_true, List.map_map, List.map_map]; rfl
  exact hrest _ (by repeat (first | exact NoOwn.nil | refine NoOwn.cons ?_)) rfl rfl rfl rfl
end
end Mine
end

section
open PySem PySem.Calls PyProof.Rows PySem.W
set_option maxRecDepth 100000
set_option maxHeartbeats 4000000
set_option linter.unusedVariables false
namespace Mine

def forBody : Stmt → List Stmt | .For _ _ b _ _ => b | _ => []
def outFor : Stmt := (bodyAt 19).getD 8 (.Pass default)
def inFor : Stmt := (forBody outFor).getD 0 (.Pass default)
def rowBody : List Stmt := forBody inFor

theorem map_tok3 (nums : List Int) (l : List Nat) : (l.map (· + 3)).map (tokS (nmz nums)) = l.map (nmz nums) := by
  rw [List.map_map]; rfl
theorem rootE_len {kind : Nat} (hk : kind < 5) : ((rootV kind).length != 0) = !rootE kind := by
  have h : kind = 0 ∨ kind = 1 ∨ kind = 2 ∨ kind = 3 ∨ kind = 4 := by omega
  rcases h with rfl | rfl | rfl | rfl | rfl <;> decide +kernel
theorem folders_tok (nums : List Int) (kind : Nat) : ([1, 2].take (nfV kind)).map (tokS (nmz nums)) = foldersOf kind := by
  unfold nfV foldersOf
  split <;> rfl
theorem nf_len (kind : Nat) : (foldersOf kind).length = nfV kind := by
  unfold nfV foldersOf
  split <;> rfl
theorem there_len (cnt : Nat) (row : Int) : (thereV cnt row).length ≤ cnt := by
  unfold thereV
  have := List.length_filter_le (fun k => bitOf row k) (List.range cnt)
  rw [List.length_range] at this
  exact this

section
variable {prog : Program} {w : World} {A : Around} {hG : Heap} {av : List Addr} {L f : Addr} {nm : Str} {cd : Value} {n : Nat}

theorem row_runs (rm : Room A n) (b : Bl2 hG) {ja na : Addr} (hj : FnIs hG "join" ja) (fj : ∀ (a : Str) (bs : List Str), ISz a bs → Fn prog w hG n ja (.str a :: bs.map D.str) (.str (bs.foldl joinF a)))
    (hn : FnIs hG "normpath" na) (fn : ∀ x, NormFits x → Fn prog w hG n na [.str x] (.str (normF x)))
    {cnt kind : Nat} {nums : List Int} (hc : cnt = 4 ∨ cnt = 5) (hk : kind < 5) (σ : Vars) (hB : Base cnt kind nums σ) {c : Chain} (hcm : c ∈ chN cnt) {row : Int} (hrow : row ∈ c.1)
    (hr : Has σ "row" (.int row)) (hdr : Has σ "dropped" (.list (c.2.map D.int))) (P : Out → Prop)
    (hP : ∀ σ', Base cnt kind nums σ' → Has σ' "dropped" (.list (c.2.map D.int)) → P (.next σ')) :
    Exs ⟨prog, w, A, envOfC nm (scpAt 19) L f cd, hG, av, false⟩ σ rowBody P := by
  have ok : Cx.Ok ⟨prog, w, A, envOfC nm (scpAt 19) L f cd, hG, av, false⟩ n := ⟨rm, rfl, rfl, rfl⟩
  have esz := sizeLine_eq
  have hcnt5 : cnt ≤ 5 := by omega
  obtain ⟨hok, _⟩ := okN hcnt5
  have hcok := hok c hcm
  unfold okC at hcok
  simp only [Bool.and_eq_true, decide_eq_true_eq] at hcok
  obtain ⟨⟨⟨⟨hc1, hc2⟩, hc3⟩, hc4⟩, _⟩ := hcok
  -- there
  refine Exs.cons (Ex.assign ok (d := .list (((thereV cnt row).map fun k : Nat => (k : Int)).map D.int)) (Ev.eq (Ev.comp [("row", .val (.int row))] gId (pThere row) (rngI (m := cnt) (by omega) ok (EvR.one (Evf.builtin ok b.range) (Ev.name ok hB.count)))
    (fun d hd => by obtain ⟨i, hi, rfl⟩ := rngF _ d hd; trivial) (Caps.cons hr ⟨.inl rfl, .inl rfl, _, rfl, rfl⟩ Caps.nil) (by simp; omega) (fun Ca av d hd => ?_) (fun Ca av d hd _ => ?_) (hsub := sub_cons rfl sub_nil)) ?_) (Sto.cell rfl rfl rfl) ?_)
  · obtain ⟨i, hi, rfl⟩ := rngF _ d hd
    have hp := pow2_small (i := i) (by omega)
    refine TIf.one (It.plain (Ev.binop (Ev.binop (Ev.name (Cx.inner_ok ok rfl) rfl) (Ev.eq (Ev.binop Ev.cint (Ev.name (Cx.inner_ok ok rfl) rfl) (op_pow_int (by omega) (by omega) (by decide))) (b' := .int ((2 : Int) ^ i)) (by rw [Int.toNat_natCast])) (op_floordiv_int hp.1 hp.2)) Ev.cint (op_mod_int (by decide))) (by
      have e : pThere row (.int (i : Int)) = ((row.fdiv ((2 : Int) ^ i)).fmod 2 != 0) := by
        show bitOf row ((i : Int)).toNat = _
        rw [Int.toNat_natCast]; rfl
      rw [e]
      exact opb_int))
  · obtain ⟨i, hi, rfl⟩ := rngF _ d hd
    exact ⟨trivial, Ev.name (Cx.inner_ok ok rfl) rfl⟩
  · rw [List.filter_map, List.map_map, List.map_map]
    unfold thereV
    rfl
  have hthl := there_len cnt row
  generalize hth : thereV cnt row = th at hthl
  have hthm : ∀ k ∈ th, k < cnt := by
    intro k h
    rw [← hth] at h
    exact List.mem_range.mp (List.mem_filter.mp h).1
  -- left
  refine Exs.cons (Ex.assign_comp ok [("names", .val (.list (((List.range cnt).map (nmz nums)).map D.str))), ("dropped", .val (.list (c.2.map D.int)))] (gName nums) (pLeft c.2) (Iter.list ok (Ev.name ok rfl))
    (fun d hd => by obtain ⟨i, _, rfl⟩ := List.mem_map.mp hd; trivial) (Caps.cons hB.names ⟨.inl rfl, .inl rfl, _, rfl, rfl⟩ (Caps.cons hdr ⟨.inl rfl, .inl rfl, _, rfl, rfl⟩ Caps.nil)) (by simp; omega) (fun Ca av d hd => ?_) (fun Ca av d hd _ => ?_) ?_ (hsub := sub_cons rfl (sub_cons rfl sub_nil)))
  · obtain ⟨j, hj', rfl⟩ := List.mem_map.mp hd
    exact TIf.one (It.compare (Ev.name (Cx.inner_ok ok rfl) rfl) (Ev.name (Cx.inner_ok ok rfl) rfl) op_notin_ints)
  · obtain ⟨j, hj', rfl⟩ := List.mem_map.mp hd
    obtain ⟨i, hi, rfl⟩ := List.mem_map.mp hj'
    refine ⟨trivial, Ev.item (k := (i : Int)) (Ev.name (Cx.inner_ok ok rfl) rfl) (Ev.name (Cx.inner_ok ok rfl) rfl) (by omega) (by have := hthm i hi; omega) ?_⟩
    rw [item_map D.str (nmz nums) (hthm i hi)]
    show _ = some (D.str (nmz nums ((i : Int)).toNat))
    rw [Int.toNat_natCast]
  have eleft : (List.filter (pLeft c.2) ((th.map fun k : Nat => (k : Int)).map D.int)).map (gName nums) = ((leftV cnt row c.2).map (nmz nums)).map D.str := by
    unfold leftV
    rw [hth, List.map_map, List.filter_map, List.map_map, List.map_map]
    rfl
  rw [eleft]
  have hlvl : (leftV cnt row c.2).length ≤ 5 := by
    unfold leftV
    rw [hth]
    have := List.length_filter_le (fun k : Nat => !c.2.any (· == (k : Int))) th
    omega
  -- over
  refine Exs.cons (Ex.assign ok (d := .int (overV cnt row c.2)) (Ev.eq (Ev.binop (Ev.binop (Ev.name ok hB.count) (Ev.callb (Evf.builtin ok b.len) (Evs.cons (Ev.name ok rfl) Evs.nil) (op_len_list (by simp; omega))) op_sub_int) (Ev.callb (Evf.builtin ok b.len) (Evs.cons (Ev.name ok hdr) Evs.nil) (op_len_list (by simp; omega))) op_sub_int) (by unfold overV; rw [hth]; simp)) (Sto.loc rfl) ?_)
  have hov : -10 ≤ overV cnt row c.2 ∧ overV cnt row c.2 ≤ 5 := by unfold overV; rw [hth]; omega
  generalize hovv : overV cnt row c.2 = ov at hov
  have hnf := nf_len kind
  have hnf2 : nfV kind ≤ 2 := by unfold nfV; split <;> omega
  -- debts
  refine Exs.cons (Ex.assign ok (d := .list ((if rootE kind then List.replicate (ov - (nfV kind : Int)).toNat (".." : Str) else []).map D.str)) (Ev.ifexp (It.plain (Ev.name ok hB.root) (opb_str (by
      have h : kind = 0 ∨ kind = 1 ∨ kind = 2 ∨ kind = 3 ∨ kind = 4 := by omega
      rcases h with rfl | rfl | rfl | rfl | rfl <;> decide +kernel))) (fun h => ?_) (fun h => ?_)) (Sto.loc rfl) ?_)
  · rw [rootE_len hk] at h
    have h' : rootE kind = false := by simpa using h
    rw [h', if_neg Bool.false_ne_true]
    exact Ev.list Evs.nil
  · rw [rootE_len hk] at h
    have h' : rootE kind = true := by simpa using h
    rw [h']
    refine Ev.eq (Ev.binop (Ev.list (Evs.cons Ev.cstr Evs.nil) (by show 1 ≤ sizeLine; decide)) (Ev.binop (Ev.name ok rfl) (Ev.callb (Evf.builtin ok b.len) (Evs.cons (Ev.name ok hB.folders) Evs.nil) (op_len_list (by rw [List.length_map, hnf]; omega))) op_sub_int) (op_mul_list (by rw [List.length_map, hnf]; omega) (by rw [List.length_map, hnf]; omega) (by rw [List.length_map, hnf]; show 1 * _ ≤ _; omega))) ?_
    rw [List.length_map, hnf, lm_rep_flat_one]
    show _ = D.list (List.map D.str (List.replicate _ _))
    rw [List.map_replicate]
  -- due
  have ets : (symDue cnt kind row c.2).map (tokS (nmz nums)) = (if rootE kind then List.replicate (ov - (nfV kind : Int)).toNat (".." : Str) else []) ++ (foldersOf kind).take (max ((nfV kind : Int) - ov) 0).toNat ++ (leftV cnt row c.2).map (nmz nums) := by
    unfold symDue
    rw [hovv, List.map_append, List.map_append, map_tok3, List.map_take, folders_tok]
    congr 2
    split
    · rw [List.map_replicate]; rfl
    · rfl
  have hsym := sym_law hc hk hcm hrow
  have htl : ((symDue cnt kind row c.2).map (tokS (nmz nums))).length ≤ 12 := by
    rw [ets, List.length_append, List.length_append, List.length_take, List.length_map, hnf]
    have : (if rootE kind then List.replicate (ov - (nfV kind : Int)).toNat (".." : Str) else []).length ≤ 5 := by
      split
      · rw [List.length_replicate]; omega
      · simp
    omega
  have hte : ∀ t ∈ (symDue cnt kind row c.2).map (tokS (nmz nums)), t.length ≤ 20 := by
    intro t ht
    obtain ⟨q, _, rfl⟩ := List.mem_map.mp ht
    exact comp_len (tok_ok (nmz_good nums) q)
  generalize hts : (symDue cnt kind row c.2).map (tokS (nmz nums)) = ts at ets htl hte
  have hsum := sum_len hte
  have hjl := join_len hte htl
  have hrl : (rootV kind).length ≤ 2 := by
    have h : kind = 0 ∨ kind = 1 ∨ kind = 2 ∨ kind = 3 ∨ kind = 4 := by omega
    rcases h with rfl | rfl | rfl | rfl | rfl <;> decide +kernel
  have hM : (max ((nfV kind : Int) - ov) 0) = (((max ((nfV kind : Int) - ov) 0).toNat : Nat) : Int) := by omega
  refine Exs.cons (Ex.assign ok (d := .str (rootV kind ++ Str.join "/" ts)) (Ev.binop (Ev.name ok hB.root) (Ev.meth_str Ev.cstr (fun t s Q E h => GM.join h) (Evs.cons (d := .list (ts.map D.str)) (Ev.eq (Ev.binop (Ev.binop (Ev.name ok rfl) (Ev.slice (i := none) (j := some ((((max ((nfV kind : Int) - ov) 0).toNat : Nat) : Int))) (Ev.name ok hB.folders) trivial (Ev.eq (Ev.callb (Evf.builtin ok b.max) (Evs.cons (Ev.binop (Ev.callb (Evf.builtin ok b.len) (Evs.cons (Ev.name ok hB.folders) Evs.nil) (op_len_list (by rw [List.length_map, hnf]; omega))) (Ev.name ok rfl) op_sub_int) (Evs.cons Ev.cint Evs.nil)) (op_max_two rm.hd)) (by rw [List.length_map, hnf, ← hM])) (by rw [List.length_map, hnf]; omega)) (op_add_list ?_)) (Ev.name ok rfl) (op_add_list ?_)) ?_) Evs.nil) (op_join (by omega) (by decide))) (op_add_str (by omega))) (Sto.loc rfl) ?_)
  · rw [sl_take, List.length_take, List.length_map, List.length_map, hnf]
    have : (if rootE kind then List.replicate (ov - (nfV kind : Int)).toNat (".." : Str) else []).length ≤ 5 := by
      split
      · rw [List.length_replicate]; omega
      · simp
    omega
  · rw [sl_take, List.length_append, List.length_take, List.length_map, List.length_map, List.length_map, List.length_map, hnf]
    have : (if rootE kind then List.replicate (ov - (nfV kind : Int)).toNat (".." : Str) else []).length ≤ 5 := by
      split
      · rw [List.length_replicate]; omega
      · simp
    omega
  · rw [sl_take, ets, List.map_append, List.map_append, List.map_take]
  -- path
  have hsfl : ∀ k, (sfV nums row k).length ≤ 25 := fun k => by
    unfold sfV
    split
    · exact stepV_len nums k
    · decide +kernel
  have hfl : (frontOf kind).length ≤ 10 := by
    have h : kind = 0 ∨ kind = 1 ∨ kind = 2 ∨ kind = 3 ∨ kind = 4 := by omega
    rcases h with rfl | rfl | rfl | rfl | rfl <;> decide +kernel
  have hisz : ISz (frontOf kind) ((List.range cnt).map (sfV nums row)) := by
    unfold ISz
    have h1 : (((List.range cnt).map (sfV nums row)).map (·.length)).sum ≤ ((List.range cnt).map (sfV nums row)).length * 25 := sum_len fun p hp => by
      obtain ⟨k, _, rfl⟩ := List.mem_map.mp hp
      exact hsfl k
    rw [List.length_map, List.length_range] at h1 ⊢
    omega
  have hin : ∀ i, i < cnt → (th.map fun k : Nat => (k : Int)).any (· == (i : Int)) = bitOf row i := by
    intro i hi
    rw [Bool.eq_iff_iff, List.any_eq_true, ← hth]
    constructor
    · rintro ⟨x, hx, hx2⟩
      obtain ⟨j, hj2, rfl⟩ := List.mem_map.mp hx
      have : j = i := by have := beq_iff_eq.mp hx2; omega
      subst this
      exact (List.mem_filter.mp hj2).2
    · intro h
      exact ⟨(i : Int), List.mem_map.mpr ⟨i, List.mem_filter.mpr ⟨List.mem_range.mpr hi, h⟩, rfl⟩, by simp⟩
  refine Exs.cons (Ex.assign ok (d := .str (((List.range cnt).map (sfV nums row)).foldl joinF (frontOf kind))) (Ev.call ok (Evf.global ok hj.gg) hj.is (Evs.cons (Ev.name ok hB.front) (Evs.star (Ev.eq (Ev.comp [("steps", .val (.list (((List.range cnt).map (stepV nums)).map D.str))), ("there", .val (.list ((th.map fun k : Nat => (k : Int)).map D.int)))] (gSf nums row) (fun _ => true) (rngI (m := cnt) (by omega) ok (EvR.one (Evf.builtin ok b.range) (Ev.name ok hB.count)))
    (fun d hd => by obtain ⟨i, hi, rfl⟩ := rngF _ d hd; trivial) (Caps.cons hB.steps ⟨.inl rfl, .inl rfl, _, rfl, rfl⟩ (Caps.cons rfl ⟨.inl rfl, .inl rfl, _, rfl, rfl⟩ Caps.nil)) (by simp; omega) (fun _ _ _ _ => TIf.nil) (fun Ca av d hd _ => ?_) (hsub := sub_cons rfl (sub_cons rfl sub_nil))) (b' := .list (((List.range cnt).map (sfV nums row)).map D.str)) ?_) (by simp; omega))) (fj _ _ hisz)) (Sto.loc rfl) ?_)
  · obtain ⟨i, hi, rfl⟩ := rngF _ d hd
    refine ⟨trivial, ?_⟩
    have e : gSf nums row (.int (i : Int)) = .str (sfV nums row i) := by
      show D.str (sfV nums row ((i : Int)).toNat) = _
      rw [Int.toNat_natCast]
    rw [e]
    refine Ev.ifexp (It.eq (It.compare (Ev.name (Cx.inner_ok ok rfl) rfl) (Ev.name (Cx.inner_ok ok rfl) rfl) op_in_ints) (hin i hi)) (fun h => ?_) (fun h => ?_)
    · have : sfV nums row i = stepV nums i := if_pos h
      rw [this]
      exact Ev.item (k := (i : Int)) (Ev.name (Cx.inner_ok ok rfl) rfl) (Ev.name (Cx.inner_ok ok rfl) rfl) (by omega) (by omega) (item_map D.str (stepV nums) hi)
    · have : sfV nums row i = ".." := if_neg (by rw [h]; simp)
      rw [this]
      exact Ev.cstr
  · rw [filter_true, List.map_map, List.map_map]; rfl
  -- the test
  obtain ⟨hfit, hnorm⟩ := law_norm (nmz_good nums) hc hk (sf := sfV nums row) (row := row) fun k hk2 => by
    unfold sfV
    split
    · exact stepV_inv nums k
    · exact dd_inv nums
  rw [hsym, hts] at hnorm
  have hdl : (rootV kind ++ Str.join "/" ts).length ≤ sizeLine := by rw [Str.length_append]; omega
  refine Exs.cons (Ex.if_ (It.eq (It.compare (Ev.call ok (Evf.global ok hn.gg) hn.is (Evs.cons (Ev.name ok rfl) Evs.nil) (fn _ hfit)) (Ev.or (d := .str (finS (rootV kind ++ Str.join "/" ts))) (Ev.name ok rfl) (opb_str hdl) (fun h => ?_) (fun h => ?_)) op_ne_str) (b' := false) ?_) (fun h => nomatch h) (fun _ => ?_))
  · have : finS (rootV kind ++ Str.join "/" ts) = rootV kind ++ Str.join "/" ts := if_neg (by simpa using h)
    rw [this]
  · have : finS (rootV kind ++ Str.join "/" ts) = "." := if_pos (by simpa using h)
    rw [this]
    exact Ev.cstr
  · rw [hnorm]
    simp
  · exact Exs.nil (Exs.nil (hP _ ⟨hB.count, hB.names, hB.steps, hB.root, hB.folders, hB.front⟩ hdr))
end
end Mine
end

section
open PySem PySem.Calls PyProof.Rows PySem.W
set_option maxRecDepth 100000
set_option maxHeartbeats 4000000
set_option linter.unusedVariables false
namespace Mine
section
variable {prog : Program} {w : World} {A : Around} {hG : Heap} {av : List Addr} {L f : Addr} {nm : Str} {cd : Value} {n : Nat}

theorem law_rest (rm : Room A n) (b : Bl2 hG) {ca ja na : Addr} (hca : FnIs hG "_law_chains" ca) (fc : ∀ cnt : Nat, cnt ≤ 5 → Fn prog w hG n ca [.int (cnt : Int)] (.list ((chN cnt).map chD)))
    (hj : FnIs hG "join" ja) (fj : ∀ (a : Str) (bs : List Str), ISz a bs → Fn prog w hG n ja (.str a :: bs.map D.str) (.str (bs.foldl joinF a)))
    (hn : FnIs hG "normpath" na) (fn : ∀ x, NormFits x → Fn prog w hG n na [.str x] (.str (normF x)))
    (ns : List Int) {cnt : Nat} {nums : List Int} (hc : cnt = 4 ∨ cnt = 5) (hnl : cnt ≤ nums.length ∧ nums.length ≤ 10) (σ : Vars)
    (hsc : Has σ "script" (.list (ns.map D.int))) (hcnt : Has σ "count" (.int (cnt : Int))) (hnum : Has σ "numbers" (.list (nums.map D.int))) (hnam : Has σ "names" (.list (((List.range cnt).map (nmz nums)).map D.str))) :
    Exs ⟨prog, w, A, envOfC nm (scpAt 19) L f cd, hG, av, false⟩ σ ((bodyAt 19).drop 3) (PRet (.bool true)) := by
  have ok : Cx.Ok ⟨prog, w, A, envOfC nm (scpAt 19) L f cd, hG, av, false⟩ n := ⟨rm, rfl, rfl, rfl⟩
  have esz := sizeLine_eq
  have hcnt5 : cnt ≤ 5 := by omega
  have hnitem : ∀ i, i < cnt → (nums.map D.int)[((i : Nat) : Int).toNat]? = some (.int (nums.getD i 0)) := fun i hi => by
    rw [Int.toNat_natCast, List.getElem?_map, List.getD_eq_getElem?_getD, List.getElem?_eq_getElem (by omega)]; rfl
  -- steps
  refine Exs.cons (Ex.assign ok (d := .list (((List.range cnt).map (stepV nums)).map D.str)) (Ev.eq (Ev.comp [("names", .val (.list (((List.range cnt).map (nmz nums)).map D.str))), ("numbers", .val (.list (nums.map D.int)))] (gStep2 nums) (fun _ => true) (rngI (m := cnt) (by omega) ok (EvR.one (Evf.builtin ok b.range) (Ev.name ok hcnt)))
    (fun d hd => by obtain ⟨i, hi, rfl⟩ := rngF _ d hd; trivial) (Caps.cons hnam ⟨.inl rfl, .inl rfl, _, rfl, rfl⟩ (Caps.cons hnum ⟨.inl rfl, .inl rfl, _, rfl, rfl⟩ Caps.nil)) (by simp; omega) (fun _ _ _ _ => TIf.nil) (fun Ca av d hd _ => ?_) (hsub := sub_cons rfl (sub_cons rfl sub_nil))) ?_) (Sto.cell rfl rfl rfl) ?_)
  · obtain ⟨i, hi, rfl⟩ := rngF _ d hd
    refine ⟨trivial, ?_⟩
    have e : gStep2 nums (.int (i : Int)) = .str (stepV nums i) := by
      show D.str (stepV nums ((i : Int)).toNat) = _
      rw [Int.toNat_natCast]
    rw [e]
    have hr0 : 0 ≤ ((nums.getD i 0).fdiv 7).fmod 4 := Int.fmod_nonneg_of_pos _ (by decide)
    have hr4 := suf_lt nums i
    have hl1 := (nmz_good nums i).len
    have hsl : ((sufs[sufV nums i]?.getD "") : Str).length ≤ 2 := by
      have h : sufV nums i = 0 ∨ sufV nums i = 1 ∨ sufV nums i = 2 ∨ sufV nums i = 3 := by omega
      rcases h with h | h | h | h <;> (rw [h]; decide +kernel)
    refine Ev.binop (d₁ := .str (nmz nums i)) (d₂ := .str (sufs[sufV nums i]?.getD "")) (Ev.item (k := (i : Int)) (Ev.name (Cx.inner_ok ok rfl) rfl) (Ev.name (Cx.inner_ok ok rfl) rfl) (by omega) (by omega) (item_map D.str (nmz nums) hi)) (Ev.item (xs := sufs.map D.str) (k := ((nums.getD i 0).fdiv 7).fmod 4) (Ev.list (Evs.cons Ev.cstr (Evs.cons Ev.cstr (Evs.cons Ev.cstr (Evs.cons Ev.cstr Evs.nil)))) (by show 4 ≤ sizeLine; decide)) (Ev.binop (Ev.binop (Ev.item (Ev.name (Cx.inner_ok ok rfl) rfl) (Ev.name (Cx.inner_ok ok rfl) rfl) (by omega) (by omega) (hnitem i hi)) Ev.cint (op_floordiv_int (by decide) (by decide))) Ev.cint (op_mod_int (by decide))) hr0 ?_ ?_) (op_add_str (by omega))
    · unfold sufV at hr4; omega
    · show (sufs.map D.str)[sufV nums i]? = _
      rw [List.getElem?_map]
      have : sufV nums i < sufs.length := hr4
      rw [List.getElem?_eq_getElem this]; rfl
  · rw [filter_true, List.map_map, List.map_map]; rfl
  -- kind
  have hk0 : 0 ≤ ns.sum.fmod 5 := Int.fmod_nonneg_of_pos _ (by decide)
  have hk5 : ns.sum.fmod 5 < 5 := Int.fmod_lt_of_pos _ (by decide)
  obtain ⟨kind, hkind⟩ : ∃ kind : Nat, ns.sum.fmod 5 = (kind : Int) := ⟨(ns.sum.fmod 5).toNat, by omega⟩
  have hk : kind < 5 := by omega
  have hkc : kind = 0 ∨ kind = 1 ∨ kind = 2 ∨ kind = 3 ∨ kind = 4 := by omega
  have hsc' : ∀ v, Has (("steps", v) :: σ) "script" (.list (ns.map D.int)) := fun _ => hsc
  refine Exs.cons (Ex.assign ok (d := .int (kind : Int)) (Ev.eq (Ev.binop (Ev.callb (Evf.builtin ok b.sum) (Evs.cons (Ev.name ok (hsc' _)) Evs.nil) (op_sum_ints rm.hd)) Ev.cint (op_mod_int (by decide))) (by rw [hkind])) (Sto.loc rfl) ?_)
  -- root
  refine Exs.cons (Ex.assign ok (d := .str (rootV kind)) (Ev.item (xs := rootOf.map D.str) (k := (kind : Int)) (Ev.list (Evs.cons Ev.cstr (Evs.cons Ev.cstr (Evs.cons Ev.cstr (Evs.cons Ev.cstr (Evs.cons Ev.cstr Evs.nil))))) (by show 5 ≤ sizeLine; decide)) (Ev.name ok rfl) (by omega) (by omega) ?_) (Sto.loc rfl) ?_)
  · rcases hkc with rfl | rfl | rfl | rfl | rfl <;> rfl
  -- folders
  refine Exs.cons (Ex.assign ok (d := .list ((foldersOf kind).map D.str)) (Ev.ifexp (It.plain (Ev.name ok rfl) opb_int) (fun h => ?_) (fun h => ?_)) (Sto.loc rfl) ?_)
  · have : foldersOf kind = [("y" : Str), ("z" : Str)] := if_neg (by simpa using h)
    rw [this]
    exact Ev.list (Evs.cons Ev.cstr (Evs.cons Ev.cstr Evs.nil)) (by show 2 ≤ sizeLine; decide)
  · have : foldersOf kind = ([] : List Str) := if_pos (by simpa using h)
    rw [this]
    exact Ev.list Evs.nil
  have hfs : ((foldersOf kind).map (·.length)).sum + (foldersOf kind).length ≤ 1048576 ∧ (frontP[kind]?.getD "").length + (Str.join "/" (foldersOf kind)).length ≤ sizeLine := by
    rcases hkc with rfl | rfl | rfl | rfl | rfl <;> decide +kernel
  -- front
  refine Exs.cons (Ex.assign ok (d := .str (frontOf kind)) (Ev.binop (d₁ := .str (frontP[kind]?.getD "")) (d₂ := .str (Str.join "/" (foldersOf kind))) (Ev.item (xs := frontP.map D.str) (k := (kind : Int)) (Ev.list (Evs.cons Ev.cstr (Evs.cons Ev.cstr (Evs.cons Ev.cstr (Evs.cons Ev.cstr (Evs.cons Ev.cstr Evs.nil))))) (by show 5 ≤ sizeLine; decide)) (Ev.name ok rfl) (by omega) (by omega) ?_) (Ev.meth_str Ev.cstr (fun t s Q E h => GM.join h) (Evs.cons (Ev.name ok rfl) Evs.nil) (op_join hfs.1 (by decide))) (op_add_str hfs.2)) (Sto.loc rfl) ?_)
  · rcases hkc with rfl | rfl | rfl | rfl | rfl <;> rfl
  have hB0 : Base cnt kind nums (("front", .val (.str (frontOf kind))) :: ("folders", .val (.list ((foldersOf kind).map D.str))) :: ("root", .val (.str (rootV kind))) :: ("kind", .val (.int (kind : Int))) :: ("steps", .val (.list (((List.range cnt).map (stepV nums)).map D.str))) :: σ) := ⟨hcnt, hnam, rfl, rfl, rfl, rfl⟩
  generalize (("front", Slot.val (.str (frontOf kind))) :: ("folders", .val (.list ((foldersOf kind).map D.str))) :: ("root", .val (.str (rootV kind))) :: ("kind", .val (.int (kind : Int))) :: ("steps", .val (.list (((List.range cnt).map (stepV nums)).map D.str))) :: σ : Vars) = σ₀ at hB0
  -- the loops
  refine Exs.cons (Ex.for_ (ds := (chN cnt).map chD) (I := fun _ σ => Base cnt kind nums σ) ok rfl (Iter.list ok (Ev.call ok (Evf.global ok hca.gg) hca.is (Evs.cons (Ev.name ok hB0.count) Evs.nil) (fc cnt hcnt5))) (.inr ⟨_, _, _, rfl⟩) hB0 ?_ ?_)
  · rintro pre d post σ₁ hds hB
    obtain ⟨c, hcm, rfl⟩ : ∃ c, c ∈ chN cnt ∧ d = chD c := by
      have : d ∈ (chN cnt).map chD := by rw [hds]; simp
      obtain ⟨c, h1, h2⟩ := List.mem_map.mp this
      exact ⟨c, h1, h2.symm⟩
    refine ⟨_, AsTo.pair ok (Sto.loc rfl) (Sto.cell rfl rfl rfl), ?_⟩
    have hB1 : Base cnt kind nums (("dropped", .val (.list (c.2.map D.int))) :: ("rows", .val (.list (c.1.map D.int))) :: σ₁) := ⟨hB.count, hB.names, hB.steps, hB.root, hB.folders, hB.front⟩
    refine Exs.cons (Ex.for_ (ds := c.1.map D.int) (I := fun _ σ => Base cnt kind nums σ ∧ Has σ "dropped" (.list (c.2.map D.int))) ok rfl (Iter.list ok (Ev.name ok rfl)) (.inl ⟨_, _, rfl⟩) ⟨hB1, rfl⟩ ?_ ?_)
    · rintro pre2 d post2 σ₂ hds2 ⟨hB2, hdr2⟩
      obtain ⟨row, hrow, rfl⟩ : ∃ row, row ∈ c.1 ∧ d = .int row := by
        have : d ∈ c.1.map D.int := by rw [hds2]; simp
        obtain ⟨r, h1, h2⟩ := List.mem_map.mp this
        exact ⟨r, h1, h2.symm⟩
      refine ⟨_, AsTo.name ok (Sto.cell rfl rfl rfl), ?_⟩
      exact row_runs rm b hj fj hn fn hc hk (("row", .val (.int row)) :: σ₂) ⟨hB2.count, hB2.names, hB2.steps, hB2.root, hB2.folders, hB2.front⟩ hcm hrow rfl hdr2 _ fun σ' h1 h2 => ⟨σ', fun _ _ e => e, h1, h2⟩
    · rintro σ₂ ⟨hB2, _⟩
      exact Exs.nil ⟨σ₂, fun _ _ e => e, hB2⟩
  · intro σ₁ _
    exact Exs.cons (Ex.ret Ev.cbool rfl)

theorem law_gives (rm : Room A n) (b : Bl2 hG) {ca ja na : Addr} (hca : FnIs hG "_law_chains" ca) (fc : ∀ cnt : Nat, cnt ≤ 5 → Fn prog w hG n ca [.int (cnt : Int)] (.list ((chN cnt).map chD)))
    (hj : FnIs hG "join" ja) (fj : ∀ (a : Str) (bs : List Str), ISz a bs → Fn prog w hG n ja (.str a :: bs.map D.str) (.str (bs.foldl joinF a)))
    (hn : FnIs hG "normpath" na) (fn : ∀ x, NormFits x → Fn prog w hG n na [.str x] (.str (normF x)))
    (ns : List Int) (hns : ns.length ≤ 63) :
    Gives0 ⟨prog, w, A, envOfC nm (scpAt 19) L f cd, hG, av, false⟩ [("script", .val (.list (ns.map D.int)))] (bodyAt 19) (.bool true) :=
  law_head rm b ns hns fun σ _ h1 h2 h3 h4 => law_rest rm b hca fc hj fj hn fn ns (cntV_is _) (nums_len ns) σ h1 h2 h3 h4
end
end Mine
end

section
open PySem PySem.Calls PyProof.Rows PySem.W
set_option maxRecDepth 100000
set_option linter.unusedVariables false
namespace Mine

/-- a def of the text, at an address -/
structure DefAt (hG : Heap) (i : Nat) (f : Addr) : Prop where
  ex : ∃ (nm ql : Str) (doc pm cdv ct oc : Value) (an od : Option Addr) (osl : Array (Option Value)), hG.get? f = some ⟨oc, od, .func (fdAt i nm ql .none .none doc pm an cdv ct), osl⟩ ∧ hG.CodeRec cdv ql
theorem DefAt.of {K : Frag} {h : Heap} (X : K.In h) {i : Nat} {f : Addr} {nm ql : Str} {doc pm cdv ct oc : Value} {an od : Option Addr} {osl : Array (Option Value)} (e : K.lookup f = some ⟨oc, od, .func (fdAt i nm ql .none .none doc pm an cdv ct), osl⟩) (hc : codeIn K cdv ql = true) : DefAt h i f :=
  ⟨⟨nm, ql, doc, pm, cdv, ct, oc, an, od, osl, X _ _ e, codeRec_of X hc⟩⟩
theorem DefAt.is {hG : Heap} {i : Nat} {f : Addr} (DA : DefAt hG i f) : IsFn hG f := by
  obtain ⟨⟨nm, ql, doc, pm, cdv, ct, oc, an, od, osl, e, _⟩⟩ := DA
  exact ⟨_, _, e, rfl⟩
theorem DefAt.fn {prog : Program} {w : World} {hG : Heap} {n i : Nat} {f : Addr} (DA : DefAt hG i f) (lim : hG.NoLimit) {xs : List Str} {ds ds' : List D} {d : D}
    (hbind : ∀ nm ql doc pm an cdv ct, Binds (fdAt i nm ql .none .none doc pm an cdv ct) xs ds ds') (hxl : xs.length = ds'.length)
    (hcell : ∀ x ∈ (scpAt i).names, x.2 ≠ .cell) (hloc : ∀ x ∈ xs, (scpAt i).names.lookup x = some .local) (hnd : xs.Nodup)
    (hco : (scpAt i).isCoroutine = false) (hgen : (scpAt i).isGenerator = false) (hk : (scpAt i).kind = .function)
    (h : ∀ nm ql doc pm an cdv ct A L av, Room A n → Gives ⟨prog, w, A, callEnv (fdAt i nm ql .none .none doc pm an cdv ct) L f, hG, av, false⟩ (xs.zip (ds'.map Slot.val)) (bodyAt i) d) : Fn prog w hG (n + 1) f ds d := by
  obtain ⟨⟨nm, ql, doc, pm, cdv, ct, oc, an, od, osl, e, hcd⟩⟩ := DA
  exact Fn.ofb e rfl lim hcd rfl rfl rfl rfl (hbind _ _ _ _ _ _ _) hxl hcell hloc hnd hco hgen hk fun A L av rm => h _ _ _ _ _ _ _ A L av rm
theorem FnIs.of {hG : Heap} {i : Nat} {f : Addr} {x : Str} (DA : DefAt hG i f) (g : GG hG x (.ref f)) : FnIs hG x f := ⟨g, DA.is⟩

theorem bind1 {i : Nat} {x : Str} {d : D} (h : ∀ nm ql doc pm an cdv ct (v : Value), bindArgs (fdAt i nm ql .none .none doc pm an cdv ct) ⟨[v], []⟩ = pure [(x, v)]) : ∀ nm ql doc pm an cdv ct, Binds (fdAt i nm ql .none .none doc pm an cdv ct) [x] [d] [d] := by
  intro nm ql doc pm an cdv ct
  refine Binds.plain fun vs hl => ?_
  cases vs with
  | nil => simp at hl
  | cons v vs =>
    have : vs = [] := List.eq_nil_of_length_eq_zero (by simpa using hl)
    subst this
    exact h _ _ _ _ _ _ _ v
theorem cellsOk {i : Nat} (h : (scpAt i).names.all (fun x => x.2 != .cell) = true) : ∀ x ∈ (scpAt i).names, x.2 ≠ .cell := fun x hx => by
  have := List.all_eq_true.mp h x hx
  simpa using this

section
variable {prog : Program} {w : World} {hG : Heap} {n : Nat} {f : Addr}
theorem fspath_fn (DA : DefAt hG 9 f) (lim : hG.NoLimit) (b : Bs hG) (x : Str) : Fn prog w hG (n + 1) f [.str x] (.str x) :=
  DA.fn lim (xs := ["path"]) (bind1 fun _ _ _ _ _ _ _ _ => rfl) rfl (cellsOk (by decide +kernel)) (by decide +kernel) (by decide +kernel) rfl rfl rfl fun _ _ _ _ _ _ _ A L av rm => fspath_gives rm b x
theorem getsep_fn (DA : DefAt hG 13 f) (lim : hG.NoLimit) (b : Bs hG) (x : Str) : Fn prog w hG (n + 1) f [.str x] (.str "/") :=
  DA.fn lim (xs := ["path"]) (bind1 fun _ _ _ _ _ _ _ _ => rfl) rfl (cellsOk (by decide +kernel)) (by decide +kernel) (by decide +kernel) rfl rfl rfl fun _ _ _ _ _ _ _ A L av rm => getsep_gives rm b x
theorem splitroot_fn (DA : DefAt hG 15 f) (lim : hG.NoLimit) (b : Bs hG) {fs : Addr} (hfs : FnIs hG "fspath" fs) (ffs : ∀ x, Fn prog w hG n fs [.str x] (.str x)) (x : Str) (hx : x.length ≤ 5000) : Fn prog w hG (n + 1) f [.str x] (.tup [.str "", .str (splitF x).1, .str (splitF x).2]) :=
  DA.fn lim (xs := ["p"]) (bind1 fun _ _ _ _ _ _ _ _ => rfl) rfl (cellsOk (by decide +kernel)) (by decide +kernel) (by decide +kernel) rfl rfl rfl fun _ _ _ _ _ _ _ A L av rm => splitroot_gives rm b hfs ffs x hx
theorem normpath_fn (DA : DefAt hG 16 f) (lim : hG.NoLimit) (b : Bs hG) {fs sr : Addr} (hfs : FnIs hG "fspath" fs) (ffs : ∀ x, Fn prog w hG n fs [.str x] (.str x)) (hsr : FnIs hG "splitroot" sr) (fsr : ∀ x : Str, x.length ≤ 5000 → Fn prog w hG n sr [.str x] (.tup [.str "", .str (splitF x).1, .str (splitF x).2])) (x : Str) (hx : NormFits x) : Fn prog w hG (n + 1) f [.str x] (.str (normF x)) :=
  DA.fn lim (xs := ["path"]) (bind1 fun _ _ _ _ _ _ _ _ => rfl) rfl (cellsOk (by decide +kernel)) (by decide +kernel) (by decide +kernel) rfl rfl rfl fun _ _ _ _ _ _ _ A L av rm => normpath_gives rm b hfs ffs hsr fsr x hx
theorem join_fn (DA : DefAt hG 14 f) (lim : hG.NoLimit) {fs gs : Addr} (hfs : FnIs hG "fspath" fs) (ffs : ∀ x, Fn prog w hG n fs [.str x] (.str x)) (hgs : FnIs hG "_get_sep" gs) (fgs : ∀ x, Fn prog w hG n gs [.str x] (.str "/")) (a : Str) (bs : List Str) (hsz : ISz a bs) : Fn prog w hG (n + 1) f (.str a :: bs.map D.str) (.str (bs.foldl joinF a)) :=
  DA.fn lim (xs := ["a", "p"]) (ds' := [.str a, .tup (bs.map D.str)]) (fun _ _ _ _ _ _ _ => Binds.var (by rw [List.length_map, sizeLine_eq]; unfold ISz at hsz; omega) (fun v vs _ => by cases vs <;> rfl)) rfl (cellsOk (by decide +kernel)) (by decide +kernel) (by decide +kernel) rfl rfl rfl fun _ _ _ _ _ _ _ A L av rm => join_gives rm hfs ffs hgs fgs a bs hsz
end
end Mine
end

section
open PySem PySem.Calls PyProof.Rows PySem.W
set_option maxRecDepth 100000
set_option maxHeartbeats 4000000
set_option linter.unusedVariables false
namespace Mine
theorem chains_fn {prog : Program} {w : World} {hG : Heap} {n : Nat} {f : Addr} (DA : DefAt hG 18 f) (lim : hG.NoLimit) (b : Bc hG) (cnt : Nat) (hc : cnt ≤ 5) : Fn prog w hG (n + 1) f [.int (cnt : Int)] (.list ((chN cnt).map chD)) := by
  obtain ⟨⟨nm, ql, doc, pm, cdv, ct, oc, an, od, osl, e, hcd⟩⟩ := DA
  have one : ∀ {vs : List Value}, vs.length = [D.int (cnt : Int)].length → ∃ v, vs = [v] := fun {vs} h => by
    match vs, h with
    | [v], _ => exact ⟨v, rfl⟩
  refine Fn.ofc (xs := ["count"]) e rfl lim hcd rfl rfl rfl rfl (fun vs h => ?_) rfl (fun x hx => by rw [List.mem_singleton.mp hx]; rfl) (by decide +kernel) (fun L p hp => ?_) rfl rfl rfl (fun L vs h y => ?_) fun A L av rm => chains_gives rm b cnt hc
  · obtain ⟨v, rfl⟩ := one h
    rfl
  · have e2 : cellsFrom (L + 1) (scpAt 18).names [] = [(("k" : Str), L + 1)] := rfl
    have hp' : p ∈ [(("k" : Str), L + 1)] := hp
    rw [List.mem_singleton.mp hp']
    rfl
  · obtain ⟨v, rfl⟩ := one h
    have hk : (callEnvC (fdAt 18 nm ql .none .none doc pm an cdv ct) L f).kindOf "count" = some .local := rfl
    show (if (callEnvC (fdAt 18 nm ql .none .none doc pm an cdv ct) L f).kindOf "count" = some .local then fun y => if y = ("count" : Str) then some v else none else fun _ => none) y = List.lookup y [(("count" : Str), v)]
    rw [if_pos hk]
    show (if y = ("count" : Str) then some v else none) = _
    by_cases hy : y = ("count" : Str)
    · subst hy
      rw [if_pos rfl, lookup_cons_eq]
    · rw [if_neg hy, lookup_cons_ne hy]; rfl

end Mine
end

section
open PySem PySem.W PyProof.Rows
set_option maxRecDepth 100000
set_option maxHeartbeats 8000000
namespace Mine
open_top hd for PySem.Challenge.rw_rt0118_02
end Mine
end

section
open PySem PySem.W PyProof.Rows PySem.Calls
set_option maxRecDepth 100000
set_option maxHeartbeats 8000000
namespace Mine
theorem GB.of {K : Frag} {h : Heap} {mg mb : Str → Option Value} (X : K.In h) (g : h.Ns mainGlobals mg) (gb : h.Ns builtinsNs mb) (hb : ∀ x : Str, x ≠ "__name__" → mb x = bootBuiltins x) {x : Str} {v : Value}
    (e : nsIn K mainGlobals x = some none) (hv : bootBuiltins x = some v) (hx : x ≠ "__name__") : GB h x v := ⟨mg, mb, g, gb, mg_none_of X g e, (hb x hx).trans hv⟩

theorem law_run {w : World} {A : Around} {s₁ : Shared} {h₁ : Heap} {tk₁ : Nat} {nm : Str} {fa : Addr} {cd : Value} {p : Params} {mg mb : Str → Option Value} {m cm : Str → Option Value} {cells : List (Addr × Obj)} {ns : List Int} {vs : List Value} {la : Addr} {Q : Flow → Shared → Prop} {E : Value → Shared → Prop}
    (X : (hd.heap_39 p).In s₁.heap) (g : s₁.heap.Ns mainGlobals mg) (gb : s₁.heap.Ns builtinsNs mb) (hb : ∀ x : Str, x ≠ "__name__" → mb x = bootBuiltins x) (lim : s₁.heap.NoLimit) (rm : Room A 4)
    (F : Fr s₁.heap s₁.heap.objs.size h₁ m) (N : News s₁.heap s₁.heap.objs.size h₁ cells) (XC : CellsAre cm (envOfC nm (scpAt 19) s₁.heap.objs.size fa cd).cells cells)
    (hm : m "script" = some (.ref la)) (hl : s₁.heap.IsList la vs.toArray) (hI : IntsAre vs ns) (hn : ns.length ≤ 63)
    (hQ : ∀ h' tk, Keep s₁.heap h' → Q (.ret (.bool true)) { s₁ with heap := h', toks := tk }) :
    wpAny (model thePw w) A (execs (bodyAt 19) (envOfC nm (scpAt 19) s₁.heap.objs.size fa cd)) Q E { s₁ with heap := h₁, toks := tk₁ } := by
  have b : Bs s₁.heap := ⟨GB.of X g gb hb rfl (by boot_fast) (by decide), GB.of X g gb hb rfl (by kernel_rfl) (by decide), GB.of X g gb hb rfl (by boot_fast) (by decide), GB.of X g gb hb rfl (by boot_fast) (by decide), GB.of X g gb hb rfl (by boot_fast) (by decide)⟩
  have bl : Bl2 s₁.heap := ⟨GB.of X g gb hb rfl (by boot_fast) (by decide), GB.of X g gb hb rfl (by boot_fast) (by decide), GB.of X g gb hb rfl (by boot_fast) (by decide), GB.of X g gb hb rfl (by boot_fast) (by decide)⟩
  have bc : Bc s₁.heap := ⟨bl.len, bl.range⟩
  have gg : ∀ {x : Str} {v : Value}, nsIn (hd.heap_39 p) mainGlobals x = some (some v) → GG s₁.heap x v := fun e => ⟨mg, g, mg_of X g e⟩
  obtain ⟨a9, g9, d9⟩ : ∃ a, GG s₁.heap "fspath" (.ref a) ∧ DefAt s₁.heap 9 a := ⟨_, gg (by rfl), DefAt.of X (by rfl) (by rfl)⟩
  obtain ⟨a13, g13, d13⟩ : ∃ a, GG s₁.heap "_get_sep" (.ref a) ∧ DefAt s₁.heap 13 a := ⟨_, gg (by rfl), DefAt.of X (by rfl) (by rfl)⟩
  obtain ⟨a14, g14, d14⟩ : ∃ a, GG s₁.heap "join" (.ref a) ∧ DefAt s₁.heap 14 a := ⟨_, gg (by rfl), DefAt.of X (by rfl) (by rfl)⟩
  obtain ⟨a15, g15, d15⟩ : ∃ a, GG s₁.heap "splitroot" (.ref a) ∧ DefAt s₁.heap 15 a := ⟨_, gg (by rfl), DefAt.of X (by rfl) (by rfl)⟩
  obtain ⟨a16, g16, d16⟩ : ∃ a, GG s₁.heap "normpath" (.ref a) ∧ DefAt s₁.heap 16 a := ⟨_, gg (by rfl), DefAt.of X (by rfl) (by rfl)⟩
  obtain ⟨a18, g18, d18⟩ : ∃ a, GG s₁.heap "_law_chains" (.ref a) ∧ DefAt s₁.heap 18 a := ⟨_, gg (by rfl), DefAt.of X (by rfl) (by rfl)⟩
  have f9 : ∀ n x, Fn thePw w s₁.heap (n + 1) a9 [.str x] (.str x) := fun n x => fspath_fn d9 lim b x
  have f13 : ∀ n x, Fn thePw w s₁.heap (n + 1) a13 [.str x] (.str "/") := fun n x => getsep_fn d13 lim b x
  have f15 : ∀ n (x : Str), x.length ≤ 5000 → Fn thePw w s₁.heap (n + 1 + 1) a15 [.str x] (.tup [.str "", .str (splitF x).1, .str (splitF x).2]) := fun n x hx => splitroot_fn d15 lim b (FnIs.of d9 g9) (f9 n) x hx
  have f16 : ∀ x, NormFits x → Fn thePw w s₁.heap 4 a16 [.str x] (.str (normF x)) := fun x hx => normpath_fn d16 lim b (FnIs.of d9 g9) (f9 2) (FnIs.of d15 g15) (f15 1) x hx
  have f14 : ∀ (x : Str) (bs : List Str), ISz x bs → Fn thePw w s₁.heap 4 a14 (.str x :: bs.map D.str) (.str (bs.foldl joinF x)) := fun x bs hx => join_fn d14 lim (FnIs.of d9 g9) (f9 2) (FnIs.of d13 g13) (f13 2) x bs hx
  have f18 : ∀ cnt : Nat, cnt ≤ 5 → Fn thePw w s₁.heap 4 a18 [.int (cnt : Int)] (.list ((chN cnt).map chD)) := fun cnt hc => chains_fn d18 lim bc cnt hc
  have G := fun av => law_gives (prog := thePw) (w := w) (A := A) (hG := s₁.heap) (av := av) (L := s₁.heap.objs.size) (f := fa) (nm := nm) (cd := cd) rm bl (FnIs.of d18 g18) f18 (FnIs.of d14 g14) f14 (FnIs.of d16 g16) f16 ns hn
  have FS₀ := FS.start (prog := thePw) (w := w) (A := A) (env := envOfC nm (scpAt 19) s₁.heap.objs.size fa cd) (x := "script") (d := .list (ns.map D.int)) F N XC rfl
    (by show List.Pairwise (fun (x y : Str × Addr) => x.2 ≠ y.2) [(("there" : Str), s₁.heap.objs.size + 1 + 1 + 1 + 1 + 1 + 1), (("row" : Str), s₁.heap.objs.size + 1 + 1 + 1 + 1 + 1), (("dropped" : Str), s₁.heap.objs.size + 1 + 1 + 1 + 1), (("steps" : Str), s₁.heap.objs.size + 1 + 1 + 1), (("names" : Str), s₁.heap.objs.size + 1 + 1), (("numbers" : Str), s₁.heap.objs.size + 1)]; simp; omega) rfl hm
    (R.list (vs := vs) (by simp) hl (Rs.of_ints (h := s₁.heap) (mu := []) hI).1 (Rs.of_ints (h := s₁.heap) (mu := []) hI).2)
  refine Gives.go0 (G []) FS₀ (by intro z; cases z) fun v h' tk k r => ?_
  rw [r.inv_bool]
  exact hQ h' tk k
theorem top_test : PySem.Challenge.rw_rt0118_02.Holds := hd (by
  k_go0
  have T := ‹Top _ _ _ _ _ _›
  refine law_run ‹Frag.In _ _› T.g T.b T.builtins T.nolimit ?_ ‹Fr _ _ _ _› ‹News _ _ _ _› ‹CellsAre _ _ _› rfl ‹Heap.IsList _ _ _› ‹IntsAre _ _› ?_ ?_
  · exact ⟨rfl, by show callerA.depth + 1 + 4 < recursionLimit; decide +kernel, by show callerA.units + 3 + 8 * 4 + 40 < cLine; decide +kernel⟩
  · omega
  · intro h' tk k
    exact ⟨.inl ⟨_, .bool true, [], rfl, raisesW_false (by wrow_none_raised), .bool true, by wrow_post, unshared_nil⟩, k, rfl, ‹_ = #[]›⟩)
end Mine
end

theorem PySem.Challenge.cw_rt0118_02_holds : PySem.Challenge.rw_rt0118_02.Holds := by
  exact Mine.top_test
