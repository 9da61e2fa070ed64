import PyProof.Rows.All
import Wide.All
import OpenK.AllK
import Wide.FinOn
import PySem.Challenge.RW_hk0004_03
set_option maxRecDepth 100000
set_option Elab.async false
set_option linter.unusedVariables false
namespace Mine
open PySem PySem.W PySem.Calls PyProof.Rows

mutual
inductive Den (xs : List Addr) (h : Heap) : Value → PyData → Prop
  | none : Den xs h .none .none
  | bool (b : Bool) : Den xs h (.bool b) (.bool b)
  | int (i : Int) (t : Tok) : Den xs h (.int i t) (.int i)
  | list {a vs ds} : a ∉ xs → h.IsList a vs → DenAll xs h vs.toList ds → Den xs h (.ref a) (.list ds)
  | tuple {a vs ds} : a ∉ xs → h.IsTuple a vs → DenAll xs h vs.toList ds → Den xs h (.ref a) (.tuple ds)
inductive DenAll (xs : List Addr) (h : Heap) : List Value → List PyData → Prop
  | nil : DenAll xs h [] []
  | cons {v vs d ds} : Den xs h v d → DenAll xs h vs ds → DenAll xs h (v :: vs) (d :: ds)
end

def SeqKeep (xs : List Addr) (h h' : Heap) : Prop := ∀ b o, b ∉ xs → h.get? b = some o → (∃ vs n, o.data = .seq vs n) → h'.get? b = some o

mutual
theorem Den.keep {xs : List Addr} {h h' : Heap} (k : SeqKeep xs h h') : ∀ {v d}, Den xs h v d → Den xs h' v d
  | _, _, .none => .none
  | _, _, .bool b => .bool b
  | _, _, .int i t => .int i t
  | _, _, .list ha ⟨o, ho, hc, n, hd⟩ r => .list ha ⟨o, k _ _ ha ho ⟨_, n, hd⟩, hc, n, hd⟩ (DenAll.keep k r)
  | _, _, .tuple ha ⟨o, ho, hc, n, hd⟩ r => .tuple ha ⟨o, k _ _ ha ho ⟨_, n, hd⟩, hc, n, hd⟩ (DenAll.keep k r)
theorem DenAll.keep {xs : List Addr} {h h' : Heap} (k : SeqKeep xs h h') : ∀ {vs ds}, DenAll xs h vs ds → DenAll xs h' vs ds
  | _, _, .nil => .nil
  | _, _, .cons x r => .cons (Den.keep k x) (DenAll.keep k r)
end

mutual
theorem Den.shift {xs ys : List Addr} {h : Heap} (k : ∀ a, a ∉ xs → (∃ o vs n, h.get? a = some o ∧ o.data = .seq vs n) → a ∉ ys) : ∀ {v d}, Den xs h v d → Den ys h v d
  | _, _, .none => .none
  | _, _, .bool b => .bool b
  | _, _, .int i t => .int i t
  | _, _, .list ha ⟨o, ho, hc, n, hd⟩ r => .list (k _ ha ⟨o, _, n, ho, hd⟩) ⟨o, ho, hc, n, hd⟩ (DenAll.shift k r)
  | _, _, .tuple ha ⟨o, ho, hc, n, hd⟩ r => .tuple (k _ ha ⟨o, _, n, ho, hd⟩) ⟨o, ho, hc, n, hd⟩ (DenAll.shift k r)
theorem DenAll.shift {xs ys : List Addr} {h : Heap} (k : ∀ a, a ∉ xs → (∃ o vs n, h.get? a = some o ∧ o.data = .seq vs n) → a ∉ ys) : ∀ {vs ds}, DenAll xs h vs ds → DenAll ys h vs ds
  | _, _, .nil => .nil
  | _, _, .cons x r => .cons (Den.shift k x) (DenAll.shift k r)
end

theorem DenAll.length {xs : List Addr} {h : Heap} : ∀ {vs ds}, DenAll xs h vs ds → vs.length = ds.length
  | _, _, .nil => rfl
  | _, _, .cons _ r => by simp [DenAll.length r]
theorem DenAll.append {xs : List Addr} {h : Heap} : ∀ {vs ds us es}, DenAll xs h vs ds → DenAll xs h us es → DenAll xs h (vs ++ us) (ds ++ es)
  | _, _, _, _, .nil, y => y
  | _, _, _, _, .cons a r, y => .cons a (DenAll.append r y)
theorem DenAll.get {xs : List Addr} {h : Heap} : ∀ {vs ds} {i : Nat} {d}, DenAll xs h vs ds → ds[i]? = some d → ∃ v, vs[i]? = some v ∧ Den xs h v d
  | _, _, _, _, .nil, e => by simp at e
  | _, _, 0, _, .cons a _, e => by simp at e; subst e; exact ⟨_, rfl, a⟩
  | _, _, i + 1, _, .cons _ r, e => by simp at e; simpa using DenAll.get r e
theorem DenAll.drop {xs : List Addr} {h : Heap} : ∀ (n : Nat) {vs ds}, DenAll xs h vs ds → DenAll xs h (vs.drop n) (ds.drop n)
  | 0, _, _, r => r
  | _ + 1, _, _, .nil => .nil
  | n + 1, _, _, .cons _ r => DenAll.drop n r
theorem DenAll.take {xs : List Addr} {h : Heap} : ∀ (n : Nat) {vs ds}, DenAll xs h vs ds → DenAll xs h (vs.take n) (ds.take n)
  | 0, _, _, _ => .nil
  | _ + 1, _, _, .nil => .nil
  | n + 1, _, _, .cons a r => .cons a (DenAll.take n r)
theorem DenAll.reverse {xs : List Addr} {h : Heap} : ∀ {vs ds}, DenAll xs h vs ds → DenAll xs h vs.reverse ds.reverse
  | _, _, .nil => .nil
  | _, _, .cons a r => by simpa using DenAll.append (DenAll.reverse r) (.cons a .nil)
theorem DenAll.ints {xs : List Addr} {h : Heap} : ∀ {vs : List Value} {ns : List Int}, IntsAre vs ns → DenAll xs h vs (ns.map .int) := by
  intro vs ns q
  induction q with
  | nil => exact .nil
  | cons _ _ _ ih => exact .cons (.int ..) ih
theorem DenAll.intsAre {xs : List Addr} {h : Heap} : ∀ {vs : List Value} {ns : List Int}, DenAll xs h vs (ns.map .int) → IntsAre vs ns
  | _, [], .nil => .nil
  | _, n :: ns, .cons (.int _ _) r => .cons _ _ (DenAll.intsAre r)

mutual
theorem Den.reads {xs : List Addr} {h : Heap} : ∀ {v d}, Den xs h v d → ∃ as, Reads h v d as
  | _, _, .none => ⟨_, .none⟩
  | _, _, .bool b => ⟨_, .bool b⟩
  | _, _, .int i t => ⟨_, .int i t⟩
  | _, _, .list _ ⟨_, ho, hc, _, hd⟩ r => let ⟨_, q⟩ := DenAll.reads r; ⟨_, .list ho hc hd q⟩
  | _, _, .tuple _ ⟨_, ho, hc, _, hd⟩ r => let ⟨_, q⟩ := DenAll.reads r; ⟨_, .tuple ho hc hd q⟩
theorem DenAll.reads {xs : List Addr} {h : Heap} : ∀ {vs ds}, DenAll xs h vs ds → ∃ as, ReadsAll h vs ds as
  | _, _, .nil => ⟨_, .nil⟩
  | _, _, .cons x r => let ⟨_, p⟩ := Den.reads x; let ⟨_, q⟩ := DenAll.reads r; ⟨_, .cons p q⟩
end

structure Tab where
  c : Addr
  P : Addr
  pos : Pos
  qual : Str

def TabIn (h : Heap) (t : Tab) : Prop := ∃ ps, h.get? t.P = some (tabObj ps) ∧ TriplesOk ps.toList ∧
  (codeAmong t.pos ps.toList = none ∨ ∃ c', codeAmong t.pos ps.toList = some (.ref c') ∧ h.CodeRec (.ref c') t.qual)
def TabOk (tabs : List Tab) (h : Heap) : Prop := ∀ t ∈ tabs, TabIn h t

def Plainish (o : Obj) : Prop := ∀ vs, o.data = .fields vs → o.cls ≠ .none ∧ ∀ q t, vs[1]? ≠ some (.str q t)

theorem TabIn.keep {h h' : Heap} {t : Tab} (k : ∀ b o, ¬ Plainish o → h.get? b = some o → h'.get? b = some o) (x : TabIn h t) : TabIn h' t := by
  obtain ⟨ps, h1, h2, h3⟩ := x
  refine ⟨ps, k _ _ (fun q => (q _ rfl).1 rfl) h1, h2, h3.imp id ?_⟩
  rintro ⟨c', e, c, o, vs, tq, e1, e2, e3, e4⟩
  exact ⟨c', e, c, o, vs, tq, e1, k _ _ (fun q => (q _ e3).2 _ _ e4) e2, e3, e4⟩
theorem TabOk.keep {tabs : List Tab} {h h' : Heap} (k : ∀ b o, ¬ Plainish o → h.get? b = some o → h'.get? b = some o) (x : TabOk tabs h) : TabOk tabs h' := fun t ht => (x t ht).keep k

abbrev tsOf (tabs : List Tab) : List Addr := tabs.map (·.P)

structure Step (tabs : List Tab) (xs : List Addr) (s s' : Shared) : Prop where
  same : ∃ h tk, s' = { s with heap := h, toks := tk }
  keep : ∀ b o, b ∉ xs → s.heap.get? b = some o → s'.heap.get? b = some o
  tab : TabOk tabs s.heap → TabOk tabs s'.heap

section
variable {tabs : List Tab} {xs ys : List Addr} {s s' s'' : Shared}
theorem Step.refl : Step tabs xs s s := ⟨⟨_, _, rfl⟩, fun _ _ _ e => e, id⟩
theorem Step.trans (x : Step tabs xs s s') (y : Step tabs xs s' s'') : Step tabs xs s s'' := by
  obtain ⟨h, tk, rfl⟩ := x.same
  obtain ⟨h', tk', rfl⟩ := y.same
  exact ⟨⟨_, _, rfl⟩, fun b o hb e => y.keep b o hb (x.keep b o hb e), fun t => y.tab (x.tab t)⟩
theorem Step.mono (x : Step tabs xs s s') (hx : ∀ b ∈ xs, b ∈ ys) : Step tabs ys s s' := ⟨x.same, fun b o hb e => x.keep b o (fun q => hb (hx b q)) e, x.tab⟩
theorem Step.tok {t : Nat} (x : Step tabs xs s s') : Step tabs xs s { s' with toks := t } := ⟨let ⟨h, _, e⟩ := x.same; ⟨h, t, by rw [e]⟩, x.keep, x.tab⟩
theorem Step.toks {t : Nat} : Step tabs xs s { s with toks := t } := Step.refl.tok
theorem Step.of_keeps {h' : Heap} {tk : Nat} (k : ∀ b o, s.heap.get? b = some o → h'.get? b = some o) : Step tabs xs s { s with heap := h', toks := tk } :=
  ⟨⟨_, _, rfl⟩, fun b o _ e => k b o e, fun t => t.keep fun b o _ e => k b o e⟩
theorem Step.push {o : Obj} {tk : Nat} : Step tabs xs s { s with heap := s.heap.push o, toks := tk } := .of_keeps (fun _ _ e => Heap.get?_push_of_some _ e)
theorem Step.seq (x : Step tabs xs s s') (hx : ∀ b ∈ xs, b ∈ ys) : SeqKeep ys s.heap s'.heap := fun b o hb e _ => x.keep b o (fun q => hb (hx b q)) e
end

/-- the world: what the ghost heap holds lies in h, beside the tables. -/
def Wd (tabs : List Tab) (G h : Heap) : Prop := ∀ b o, G.get? b = some o → b ∉ tsOf tabs ∧ h.get? b = some o

def Holds (ts : List Addr) (env : Env) (h : Heap) (x : Str) (v : Value) : Prop :=
  (env.kindOf x = some .local ∧ ∃ m, h.Ns env.locals m ∧ m x = some v) ∨
  ((env.kindOf x = some .cell ∨ (env.kindOf x = some .free ∧ (x == ("__classdict__" : Str)) = false)) ∧ ∃ c, env.cells.lookup x = some c ∧ c ∉ ts ∧ h.IsCell c (some v))

structure Fm (tabs : List Tab) (G : Heap) (S : Shared) (X : List Addr) (π : List (Addr × Obj)) (η : List (Value × PyData)) (xs : List Addr) (env : Env) (ρ : List (Str × PyData)) (μ : List (Str × Addr × List PyData)) (s : Shared) : Prop where
  kind : env.scope.kind = .function
  same : ∃ h tk, s = { S with heap := h, toks := tk }
  wd : Wd tabs G s.heap
  tab : TabOk tabs s.heap
  base : ∀ b o, b ∉ tsOf tabs → S.heap.get? b = some o → s.heap.get? b = some o
  lB : S.heap.objs.size ≤ env.locals
  gB : G.objs.size ≤ S.heap.objs.size
  ns : ∃ m, s.heap.Ns env.locals m
  below0 : ∀ x ∈ X, x < S.heap.objs.size
  sub0 : ∀ x ∈ tsOf tabs, x ∈ X
  alive : ∀ x ∈ xs, x ∉ tsOf tabs → ∃ o, s.heap.get? x = some o
  sub1 : ∀ x ∈ X, x ∈ xs
  cells : ∀ x c, env.cells.lookup x = some c → env.kindOf x = some .cell → S.heap.objs.size ≤ c → ∃ v, s.heap.IsCell c v
  apart : ∀ x y c, env.cells.lookup x = some c → env.cells.lookup y = some c → x = y
  vars : ∀ x d, ρ.lookup x = some d → ∃ v, Den xs s.heap v d ∧ Holds (tsOf tabs) env s.heap x v
  muts : ∀ x l ds, (x, l, ds) ∈ μ → l ∈ xs ∧ l ∉ tsOf tabs ∧ Holds (tsOf tabs) env s.heap x (.ref l) ∧ ∃ vs, s.heap.PlainList l vs ∧ DenAll xs s.heap vs.toList ds
  prot : ∀ p ∈ π, s.heap.get? p.1 = some p.2 ∧ p.1 ∉ xs ∧ (∀ es ep, p.2.data ≠ .dict es ep) ∧ ∀ v, p.2.data ≠ .cell v
  held : ∀ p ∈ η, Den xs s.heap p.1 p.2

section
variable {tabs : List Tab} {G : Heap} {S : Shared} {X xs : List Addr} {π : List (Addr × Obj)} {η : List (Value × PyData)} {env : Env} {ρ : List (Str × PyData)} {μ : List (Str × Addr × List PyData)} {s s' : Shared}
theorem Fm.sub (f : Fm tabs G S X π η xs env ρ μ s) : ∀ x ∈ tsOf tabs, x ∈ xs := fun x h => f.sub1 x (f.sub0 x h)
theorem Fm.high (f : Fm tabs G S X π η xs env ρ μ s) {a : Addr} (h : S.heap.objs.size ≤ a) : a ∉ X := fun q => Nat.lt_irrefl _ (Nat.lt_of_lt_of_le (f.below0 a q) h)
theorem below_of {h : Heap} (ht : TabOk tabs h) (ha : ∀ x ∈ xs, x ∉ tsOf tabs → ∃ o, h.get? x = some o) : ∀ x ∈ xs, x < h.objs.size := fun x hx => by
  by_cases q : x ∈ tsOf tabs
  · obtain ⟨t, h1, rfl⟩ := List.mem_map.mp q
    obtain ⟨ps, h2, _⟩ := ht t h1
    exact Heap.lt_size h2
  · obtain ⟨o, ho⟩ := ha x hx q
    exact Heap.lt_size ho
theorem Fm.below (f : Fm tabs G S X π η xs env ρ μ s) : ∀ x ∈ xs, x < s.heap.objs.size := below_of f.tab f.alive
theorem Fm.bsz (f : Fm tabs G S X π η xs env ρ μ s) : S.heap.objs.size ≤ s.heap.objs.size := let ⟨_, q⟩ := f.ns; Nat.le_of_lt (Nat.lt_of_le_of_lt f.lB q.lt)
theorem Fm.gsz (f : Fm tabs G S X π η xs env ρ μ s) : G.objs.size ≤ s.heap.objs.size := Nat.le_trans f.gB f.bsz
theorem Fm.lt (f : Fm tabs G S X π η xs env ρ μ s) : env.locals ∉ tsOf tabs := fun q => f.high f.lB (f.sub0 _ q)
theorem Heap.Ns_keep {h h' : Heap} {a : Addr} {m} (hn : h.Ns a m) (e : ∀ o, h.get? a = some o → h'.get? a = some o) : h'.Ns a m :=
  let ⟨o, es, ep, x, r⟩ := hn; ⟨o, es, ep, e _ x, r⟩
theorem Holds.keep {ts : List Addr} {h h' : Heap} {x : Str} {v : Value} (hl : env.locals ∉ ts) (k : ∀ b o, b ∉ ts → h.get? b = some o → h'.get? b = some o) (q : Holds ts env h x v) : Holds ts env h' x v := by
  rcases q with ⟨q, m, hm, hx⟩ | ⟨q, c, hc, hcl, o, ho, hd⟩
  · exact .inl ⟨q, m, Heap.Ns_keep hm fun o e => k _ o hl e, hx⟩
  · exact .inr ⟨q, c, hc, hcl, o, k _ _ hcl ho, hd⟩
theorem Fm.step (f : Fm tabs G S X π η xs env ρ μ s) (x : Step tabs (tsOf tabs) s s') : Fm tabs G S X π η xs env ρ μ s' where
  kind := f.kind
  same := by
    obtain ⟨h, tk, rfl⟩ := f.same
    obtain ⟨h', tk', rfl⟩ := x.same
    exact ⟨_, _, rfl⟩
  wd := fun b o e => ⟨(f.wd b o e).1, x.keep b o (f.wd b o e).1 (f.wd b o e).2⟩
  tab := x.tab f.tab
  base := fun b o hb e => x.keep b o hb (f.base b o hb e)
  lB := f.lB
  gB := f.gB
  ns := let ⟨m, hm⟩ := f.ns; ⟨m, Heap.Ns_keep hm fun o e => x.keep _ o f.lt e⟩
  below0 := f.below0
  sub0 := f.sub0
  alive := fun y hy hn => let ⟨o, ho⟩ := f.alive y hy hn; ⟨o, x.keep _ _ hn ho⟩
  sub1 := f.sub1
  cells := fun y c h1 h2 p => let ⟨v, o, ho, hd⟩ := f.cells y c h1 h2 p; ⟨v, o, x.keep _ _ (fun q => f.high p (f.sub0 _ q)) ho, hd⟩
  apart := f.apart
  vars := fun y d e => let ⟨v, h1, h2⟩ := f.vars y d e; ⟨v, h1.keep (x.seq f.sub), h2.keep f.lt x.keep⟩
  muts := fun y l ds e => let ⟨h1, h3, h4, vs, h5, h6⟩ := f.muts y l ds e
    ⟨h1, h3, h4.keep f.lt x.keep, vs, let ⟨n, ho⟩ := h5; ⟨n, x.keep _ _ h3 ho⟩, h6.keep (x.seq f.sub)⟩
  prot := fun p hp => ⟨x.keep _ _ (fun q => (f.prot p hp).2.1 (f.sub _ q)) (f.prot p hp).1, (f.prot p hp).2⟩
  held := fun p hp => (f.held p hp).keep (x.seq f.sub)
end

section
variable {M : Model} {A : Around} {E : Value → Shared → Prop} {s : Shared} {env : Env}
theorem Holds.load {ts : List Addr} {x : Str} {v : Value} {Q : Value → Shared → Prop} (hk : env.scope.kind = .function) (q : Holds ts env s.heap x v) (h : Q v s) : wpAny M A (loadName env x) Q E s := by
  rcases q with ⟨q, m, hm, hx⟩ | ⟨q | ⟨q, q'⟩, c, hc, _, hv⟩
  · exact wpAny_loadName_local hk q hm hx h
  · exact wpAny_loadName_cell hk q hc hv h
  · exact wpAny_loadName_free hk q hc hv h q'
end

def Room (A : Around) (n : Nat) : Prop := A.handled = none ∧ A.depth + n < recursionLimit ∧ A.units + 10 * n + 20 < cLine
theorem Room.deeper {A : Around} {n : Nat} {env : Env} (r : Room A (n + 1)) : Room (A.deeper env) n := ⟨r.1, by have := r.2.1; show A.depth + 1 + n < _; omega, by have := r.2.2; show A.units + 3 + _ + _ < _; omega⟩
theorem Room.mono {A : Around} {n m : Nat} (r : Room A n) (h : m ≤ n) : Room A m := ⟨r.1, by have := r.2.1; omega, by have := r.2.2; omega⟩

end Mine
namespace Mine
open PySem PySem.W PySem.Calls PyProof.Rows

structure Kx where
  prog : Program
  w : World
  tabs : List Tab
  G : Heap
  S : Shared
  X : List Addr
  A : Around
  env : Env
  pi : List (Addr × Obj) := []
  eta : List (Value × PyData) := []

abbrev Mu := List (Str × Addr × List PyData)
abbrev Rho := List (Str × PyData)
abbrev Kx.ts (k : Kx) : List Addr := tsOf k.tabs
abbrev Kx.M (k : Kx) : Model := model k.prog k.w
abbrev Kx.Fm (k : Kx) (xs : List Addr) (μ : Mu) (ρ : Rho) (s : Shared) : Prop := Mine.Fm k.tabs k.G k.S k.X k.pi k.eta xs k.env ρ μ s
abbrev Kx.Step (k : Kx) (s s' : Shared) : Prop := Mine.Step k.tabs (tsOf k.tabs) s s'

def Ev (k : Kx) (xs : List Addr) (μ : Mu) (ρ : Rho) (e : Expr) (d : PyData) : Prop :=
  ∀ s E, k.Fm xs μ ρ s → wpAny k.M k.A (eval e k.env) (fun v s' => k.Step s s' ∧ Den xs s'.heap v d) E s
def Tr (k : Kx) (xs : List Addr) (μ : Mu) (ρ : Rho) (e : Expr) (b : Bool) : Prop :=
  ∀ s E, k.Fm xs μ ρ s → wpAny k.M k.A (isTrue e k.env (eval e k.env)) (fun r s' => k.Step s s' ∧ r = b) E s
/-- an operation on two values that are read as a and b -/
def Bin (k : Kx) (xs : List Addr) (op : Operator) (a b d : PyData) : Prop :=
  ∀ s E v u, (∀ x ∈ xs, x < s.heap.objs.size) → Den xs s.heap v a → Den xs s.heap u b → wpAny k.M k.A (binaryOp op v u) (fun r s' => k.Step s s' ∧ Den xs s'.heap r d) E s
def Cmp (k : Kx) (xs : List Addr) (op : CmpOp) (a b : PyData) (r : Bool) : Prop :=
  ∀ s E v u, Den xs s.heap v a → Den xs s.heap u b → wpAny k.M k.A (compareOp op v u) (fun x s' => k.Step s s' ∧ x = .bool r) E s
def Tru (k : Kx) (xs : List Addr) (a : PyData) (r : Bool) : Prop :=
  ∀ s E v, Den xs s.heap v a → wpAny k.M k.A (truthy v) (fun x s' => k.Step s s' ∧ x = r) E s

section
variable {k : Kx} {xs : List Addr} {μ : Mu} {ρ : Rho} {a b d : PyData} {pos : Pos}

theorem wm {α : Type} {M : Model} {A : Around} {t : Sem α} {Q Q' : α → Shared → Prop} {E : Value → Shared → Prop} {s : Shared} (h : wpAny M A t Q E s) (hQ : ∀ a s, Q a s → Q' a s) : wpAny M A t Q' E s := wpAny_mono h hQ fun _ _ x => x

theorem Ev.name {x : Str} (h : ρ.lookup x = some d) (hd : (x == ("__debug__" : Str)) = false := by decide) : Ev k xs μ ρ (.Name x pos) d := fun s E f => by
  obtain ⟨v, hv, hh⟩ := f.vars x d h
  exact wpAny_Name (hh.load f.kind ⟨Step.refl, hv⟩) hd
theorem Ev.int {i : Int} {n : Nat} : Ev k xs μ ρ (.Constant (.int i) n pos) (.int i) := fun s E f => wpAny_Constant_int ⟨Step.toks, .int _ _⟩
theorem Ev.none {n : Nat} : Ev k xs μ ρ (.Constant .none n pos) .none := fun s E f => Constant_none ⟨Step.refl, .none⟩
theorem Ev.boo {b : Bool} {n : Nat} : Ev k xs μ ρ (.Constant (.bool b) n pos) (.bool b) := fun s E f => Constant_bool ⟨Step.refl, .bool _⟩
theorem Ev.bin {l r : Expr} {op : Operator} (hl : Ev k xs μ ρ l a) (hr : Ev k xs μ ρ r b) (ho : Bin k xs op a b d) : Ev k xs μ ρ (.BinOp l op r pos) d := fun s E f =>
  wpAny_BinOp (wm (hl s E f) fun v s₁ ⟨st₁, d₁⟩ => wm (hr s₁ E (f.step st₁)) fun u s₂ ⟨st₂, d₂⟩ =>
    wm (ho s₂ E v u ((f.step st₁).step st₂).below (d₁.keep (st₂.seq f.sub)) d₂) fun r s₃ ⟨st₃, d₃⟩ => ⟨(st₁.trans st₂).trans st₃, d₃⟩)
theorem Ev.cmp {l r : Expr} {op : CmpOp} {c : Bool} (hl : Ev k xs μ ρ l a) (hr : Ev k xs μ ρ r b) (ho : Cmp k xs op a b c) (hm : behindInMarks op r = false := by with_unfolding_all rfl) : Ev k xs μ ρ (.Compare l [op] [r] pos) (.bool c) := fun s E f =>
  wpAny_Compare1 (wm (hl s E f) fun v s₁ ⟨st₁, d₁⟩ => wm (hr s₁ E (f.step st₁)) fun u s₂ ⟨st₂, d₂⟩ =>
    wm (ho s₂ E v u (d₁.keep (st₂.seq f.sub)) d₂) fun r s₃ ⟨st₃, d₃⟩ => ⟨(st₁.trans st₂).trans st₃, d₃ ▸ .bool _⟩) hm
theorem Tr.cmp {l r : Expr} {op : CmpOp} {c : Bool} (hl : Ev k xs μ ρ l a) (hr : Ev k xs μ ρ r b) (ho : Cmp k xs op a b c) (hm : behindInMarks op r = false := by with_unfolding_all rfl) : Tr k xs μ ρ (.Compare l [op] [r] pos) c := fun s E f =>
  wpAny_isTrue_Compare1 (wm (hl s E f) fun v s₁ ⟨st₁, d₁⟩ => wm (hr s₁ E (f.step st₁)) fun u s₂ ⟨st₂, d₂⟩ =>
    wm (ho s₂ E v u (d₁.keep (st₂.seq f.sub)) d₂) fun r s₃ ⟨st₃, d₃⟩ => by subst d₃; exact wpAny_truthy_bool ⟨(st₁.trans st₂).trans st₃, rfl⟩) hm
theorem Tr.plain {e : Expr} {c : Bool} (he : Ev k xs μ ρ e a) (ht : Tru k xs a c) (hi : ∀ whole, isTrue e k.env whole = (do let v ← whole; standAt e.pos; holding [v] (truthy v)) := by intro _; rfl) : Tr k xs μ ρ e c := fun s E f =>
  isTrue_plain (wm (he s E f) fun v s₁ ⟨st₁, d₁⟩ => wm (ht s₁ E v d₁) fun x s₂ ⟨st₂, q⟩ => ⟨st₁.trans st₂, q⟩) (hi _)
theorem Tr.and_nil : Tr k xs μ ρ (.BoolOp .And [] pos) true := fun s E f => isTrue_and_nil ⟨Step.refl, rfl⟩
theorem Tr.or_nil : Tr k xs μ ρ (.BoolOp .Or [] pos) false := fun s E f => isTrue_or_nil ⟨Step.refl, rfl⟩
theorem Tr.and {x : Expr} {rest : List Expr} {p q : Bool} (hx : Tr k xs μ ρ x p) (hr : p = true → Tr k xs μ ρ (.BoolOp .And rest pos) q) : Tr k xs μ ρ (.BoolOp .And (x :: rest) pos) (p && q) := fun s E f =>
  isTrue_and (wm (hx s E f) fun c s₁ ⟨st₁, e⟩ => by
    subst e
    cases c with
    | false => exact ⟨st₁, rfl⟩
    | true => exact wm (hr rfl s₁ E (f.step st₁)) fun _ _ ⟨st₂, e⟩ => ⟨st₁.trans st₂, by rw [e]; rfl⟩)
theorem Tr.or {x : Expr} {rest : List Expr} {p q : Bool} (hx : Tr k xs μ ρ x p) (hr : p = false → Tr k xs μ ρ (.BoolOp .Or rest pos) q) : Tr k xs μ ρ (.BoolOp .Or (x :: rest) pos) (p || q) := fun s E f =>
  isTrue_or (wm (hx s E f) fun c s₁ ⟨st₁, e⟩ => by
    subst e
    cases c with
    | true => exact ⟨st₁, rfl⟩
    | false => exact wm (hr rfl s₁ E (f.step st₁)) fun _ _ ⟨st₂, e⟩ => ⟨st₁.trans st₂, by rw [e]; rfl⟩)
theorem Ev.ite {t x y : Expr} {c : Bool} (ht : Tr k xs μ ρ t c) (hx : c = true → Ev k xs μ ρ x d) (hy : c = false → Ev k xs μ ρ y d) : Ev k xs μ ρ (.IfExp t x y pos) d := fun s E f =>
  IfExp_ (wm (ht s E f) fun r s₁ ⟨st₁, e⟩ => by
    subst e
    cases r with
    | true => exact wm (hx rfl s₁ E (f.step st₁)) fun _ _ ⟨st₂, e⟩ => ⟨st₁.trans st₂, e⟩
    | false => exact wm (hy rfl s₁ E (f.step st₁)) fun _ _ ⟨st₂, e⟩ => ⟨st₁.trans st₂, e⟩)
theorem Ev.ite' {t x y : Expr} {c : Bool} {d' : PyData} (ht : Tr k xs μ ρ t c) (hx : c = true → Ev k xs μ ρ x d) (hy : c = false → Ev k xs μ ρ y d') : Ev k xs μ ρ (.IfExp t x y pos) (if c then d else d') :=
  .ite ht (fun e => by subst e; exact hx rfl) (fun e => by subst e; exact hy rfl)

-- ints
theorem Bin.add {i j : Int} : Bin k xs .Add (.int i) (.int j) (.int (i + j)) := fun s E v u _ hv hu => by
  cases hv; cases hu; exact PyProof.Rows.add_int ⟨Step.toks, .int _ _⟩
theorem Bin.sub {i j : Int} : Bin k xs .Sub (.int i) (.int j) (.int (i - j)) := fun s E v u _ hv hu => by
  cases hv; cases hu; exact sub_int' ⟨Step.toks, .int _ _⟩
theorem Bin.mul {i j : Int} (hm : IntMulOk i j) : Bin k xs .Mult (.int i) (.int j) (.int (i * j)) := fun s E v u _ hv hu => by
  cases hv; cases hu; exact PyProof.Rows.mul_int ⟨Step.toks, .int _ _⟩ hm
theorem Bin.div {i j : Int} (hj : 0 < j) (h2 : j < 1073741824) : Bin k xs .FloorDiv (.int i) (.int j) (.int (i / j)) := fun s E v u _ hv hu => by
  cases hv; cases hu
  refine floordiv_int (by omega) ?_ (.inl (PyProof.noPylong_small (by omega)))
  rw [Int.fdiv_eq_ediv_of_nonneg _ (by omega)]
  exact ⟨Step.toks, .int _ _⟩
theorem Bin.mod {i j : Int} (hj : 0 < j) : Bin k xs .Mod (.int i) (.int j) (.int (i % j)) := fun s E v u _ hv hu => by
  cases hv; cases hu
  refine mod_int' (by omega) ?_
  rw [Int.fmod_eq_emod_of_nonneg _ (by omega)]
  exact ⟨Step.toks, .int _ _⟩
theorem Bin.shr {i j : Int} (hj : 0 ≤ j) : Bin k xs .RShift (.int i) (.int j) (.int (i / (2 ^ j.toNat))) := fun s E v u _ hv hu => by
  cases hv; cases hu
  refine rshift_int hj ?_
  rw [Int.fdiv_eq_ediv_of_nonneg _ (Int.le_of_lt (Int.pow_pos (by omega)))]
  exact ⟨Step.toks, .int _ _⟩
theorem Bin.shl {i j : Int} (hj : 0 ≤ j) (h2 : j ≤ 1000000) (hi : i.natAbs < 2 ^ 64) : Bin k xs .LShift (.int i) (.int j) (.int (i * 2 ^ j.toNat)) := fun s E v u _ hv hu => by
  cases hv; cases hu; exact lshift_int_small hj h2 hi ⟨Step.toks, .int _ _⟩
theorem Bin.xor {i j : Int} : Bin k xs .BitXor (.int i) (.int j) (.int (Builtin.bitXor i j)) := fun s E v u _ hv hu => by
  cases hv; cases hu; exact xor_int ⟨Step.toks, .int _ _⟩
theorem Cmp.eq {i j : Int} : Cmp k xs .Eq (.int i) (.int j) (i == j) := fun s E v u hv hu => by
  cases hv; cases hu; exact PyProof.Rows.eq_int ⟨Step.refl, rfl⟩
theorem Cmp.ne {i j : Int} : Cmp k xs .NotEq (.int i) (.int j) (i != j) := fun s E v u hv hu => by
  cases hv; cases hu; exact PyProof.Rows.ne_int ⟨Step.refl, rfl⟩
theorem Cmp.lt {i j : Int} : Cmp k xs .Lt (.int i) (.int j) (decide (i < j)) := fun s E v u hv hu => by
  cases hv; cases hu; exact PyProof.Rows.lt_int ⟨Step.refl, rfl⟩
theorem Cmp.le {i j : Int} : Cmp k xs .LtE (.int i) (.int j) (decide (i ≤ j)) := fun s E v u hv hu => by
  cases hv; cases hu; exact PyProof.Rows.le_int ⟨Step.refl, rfl⟩
theorem Cmp.gt {i j : Int} : Cmp k xs .Gt (.int i) (.int j) (decide (j < i)) := fun s E v u hv hu => by
  cases hv; cases hu; exact PyProof.Rows.gt_int ⟨Step.refl, rfl⟩
theorem Cmp.ge {i j : Int} : Cmp k xs .GtE (.int i) (.int j) (decide (j ≤ i)) := fun s E v u hv hu => by
  cases hv; cases hu; exact PyProof.Rows.ge_int ⟨Step.refl, rfl⟩
theorem Cmp.isNone : Cmp k xs .Is a .none (match a with | .none => true | _ => false) := fun s E v u hv hu => by
  cases hu
  cases hv <;> exact PySem.is_none ⟨Step.refl, rfl⟩
theorem Tru.int {i : Int} : Tru k xs (.int i) (i != 0) := fun s E v hv => by
  cases hv; exact PyProof.Rows.truthy_int ⟨Step.refl, rfl⟩
theorem Tru.boo {c : Bool} : Tru k xs (.bool c) c := fun s E v hv => by
  cases hv; exact wpAny_truthy_bool ⟨Step.refl, rfl⟩
end

end Mine
namespace Mine
open PySem PySem.W PySem.Calls PyProof.Rows

theorem Ns_uniq {h : Heap} {a : Addr} {m m' : Str → Option Value} (x : h.Ns a m) (y : h.Ns a m') (n : Str) : m n = m' n := by
  obtain ⟨o, es, ep, e, hd, _, q⟩ := x
  obtain ⟨o', es', ep', e', hd', _, q'⟩ := y
  rw [e] at e'; cases e'
  rw [hd] at hd'; cases hd'
  rw [← q, ← q']

def Stores (k : Kx) (x : Str) : Prop := k.env.kindOf x = some .local ∨ (k.env.kindOf x = some .cell ∧ ∃ c, k.env.cells.lookup x = some c ∧ k.S.heap.objs.size ≤ c)
/-- no object is changed but dicts and cells -/
def NonDC (s s' : Shared) : Prop := ∀ b o, (∀ es ep, o.data ≠ .dict es ep) → (∀ v, o.data ≠ .cell v) → s.heap.get? b = some o → s'.heap.get? b = some o
theorem NonDC.trans {s s' s'' : Shared} (x : NonDC s s') (y : NonDC s' s'') : NonDC s s'' := fun b o h1 h2 e => y b o h1 h2 (x b o h1 h2 e)

section
variable {k : Kx} {xs : List Addr} {μ : Mu} {ρ : Rho} {a b d : PyData} {pos : Pos}

/-- storing keeps the frame: x now means what w means. -/
theorem Fm.store_core {s s' : Shared} {x : Str} {v : Value} {c : Addr} (f : k.Fm xs μ ρ s) (hsame : ∃ h tk, s' = { s with heap := h, toks := tk }) (hs : Heap.SameBut c s.heap s'.heap) (hc : k.S.heap.objs.size ≤ c)
    (hob : ∀ o, s.heap.get? c = some o → (∀ vs, o.data ≠ .fields vs) ∧ (∀ vs n, o.data ≠ .seq vs n)) (hob2 : ∀ o, s.heap.get? c = some o → (∃ es ep, o.data = .dict es ep) ∨ ∃ v, o.data = .cell v)
    (halive : ∃ o, s'.heap.get? c = some o)
    (hns : ∃ m, s'.heap.Ns k.env.locals m)
    (hold : ∀ y w, y ≠ x → Holds k.ts k.env s.heap y w → Holds k.ts k.env s'.heap y w)
    (hcell : ∀ y c', k.env.cells.lookup y = some c' → k.env.kindOf y = some .cell → (∃ v, s.heap.IsCell c' v) → ∃ v, s'.heap.IsCell c' v)
    (hx : Holds k.ts k.env s'.heap x v) (hm : ∀ m ∈ μ, m.1 ≠ x) :
    (∀ {ρ' : Rho}, (∀ d, ρ'.lookup x = some d → Den xs s.heap v d) → (∀ y d, y ≠ x → ρ'.lookup y = some d → ρ.lookup y = some d) → k.Fm xs μ ρ' s' ∧ NonDC s s') := by
  intro ρ' hv hρ'
  have keep : ∀ b o, b ≠ c → s.heap.get? b = some o → s'.heap.get? b = some o := fun b o hb e => (hs.2 b hb).trans e
  have sk : SeqKeep xs s.heap s'.heap := fun b o hb e ⟨vs, n, hd⟩ => keep b o (fun q => (hob o (q ▸ e)).2 _ _ hd) e
  refine ⟨?_, fun b o h3 h4 e => keep b o (fun q => (hob2 o (q ▸ e)).elim (fun ⟨_, _, e⟩ => h3 _ _ e) fun ⟨_, e⟩ => h4 _ e) e⟩
  refine ⟨f.kind, ?_, fun b o e => ?_, f.tab.keep fun b o hp e => keep b o (fun q => hp fun vs hd => absurd hd ((hob o (q ▸ e)).1 vs)) e, fun b o hb e => keep b o (fun q => ?_) (f.base b o hb e), f.lB, f.gB, hns, f.below0, f.sub0,
    fun y hy hn => ?_, f.sub1, fun y c' h1 h2 h3 => hcell y c' h1 h2 (f.cells y c' h1 h2 h3), f.apart, ?_, ?_, fun p hp => ⟨keep _ _ (fun q => ?_) (f.prot p hp).1, (f.prot p hp).2⟩, fun p hp => (f.held p hp).keep sk⟩
  · obtain ⟨h1, tk1, rfl⟩ := f.same
    obtain ⟨h2, tk2, rfl⟩ := hsame
    exact ⟨_, _, rfl⟩
  · have hlt : b < k.S.heap.objs.size := Nat.lt_of_lt_of_le (Heap.lt_size e) f.gB
    exact ⟨(f.wd b o e).1, keep b o (Nat.ne_of_lt (Nat.lt_of_lt_of_le hlt hc)) (f.wd b o e).2⟩
  · exact Nat.lt_irrefl _ (Nat.lt_of_lt_of_le (Heap.lt_size e) (q ▸ hc))
  · obtain ⟨o, ho⟩ := f.alive y hy hn
    by_cases q : y = c
    · subst q
      obtain ⟨i, hi⟩ := halive
      exact ⟨i, hi⟩
    · exact ⟨o, keep _ _ q ho⟩
  · intro y e he
    by_cases hb : y = x
    · subst hb; exact ⟨v, (hv e he).keep sk, hx⟩
    · obtain ⟨w, h1, h2⟩ := f.vars y e (hρ' y e hb he)
      exact ⟨w, h1.keep sk, hold y w hb h2⟩
  · intro y l ds hml
    obtain ⟨h1, h2, h3, vs, ⟨n, ho⟩, h5⟩ := f.muts y l ds hml
    exact ⟨h1, h2, hold y _ (hm _ hml) h3, vs, ⟨n, keep _ _ (fun q => (hob _ (q ▸ ho)).2 _ _ rfl) ho⟩, h5.keep sk⟩
  · obtain ⟨h1, h2, h3, h4⟩ := f.prot p hp
    rcases hob2 p.2 (q ▸ h1) with ⟨es, ep, e⟩ | ⟨v, e⟩
    · exact h3 _ _ e
    · exact h4 _ e

theorem Fm.storeG {s : Shared} {E : Value → Shared → Prop} {x : Str} {v : Value} {ρ' : Rho} (f : k.Fm xs μ ρ s) (hx : Stores k x) (hv : ∀ d, ρ'.lookup x = some d → Den xs s.heap v d) (hρ' : ∀ y d, y ≠ x → ρ'.lookup y = some d → ρ.lookup y = some d) (hm : ∀ m ∈ μ, m.1 ≠ x) :
    wpAny k.M k.A (storeName k.env x v) (fun _ s' => k.Fm xs μ ρ' s' ∧ NonDC s s' ∧ Holds k.ts k.env s'.heap x v ∧ ∃ c, Heap.SameBut c s.heap s'.heap ∧ (c = k.env.locals ∨ ∃ v, s.heap.IsCell c v)) E s := by
  rcases hx with hx | ⟨hx, c, hc, hB⟩
  · obtain ⟨m, hm0⟩ := f.ns
    refine wpAny_storeName_local hx hm0 (fun h' hn' hs' => ?_) (by rw [f.kind]; rfl)
    have hob : ∀ o, s.heap.get? k.env.locals = some o → (∀ vs, o.data ≠ .fields vs) ∧ (∀ vs n, o.data ≠ .seq vs n) ∧ (∀ v, o.data ≠ .cell v) := fun o e => by
      obtain ⟨o', es, ep, e', hd, _⟩ := hm0
      rw [e] at e'; cases e'
      rw [hd]; exact ⟨nofun, nofun, nofun⟩
    have hne : ∀ c v, s.heap.IsCell c v → c ≠ k.env.locals := fun c v ⟨o, ho, hd⟩ q => (hob o (q ▸ ho)).2.2 _ hd
    refine and_assoc.mp ⟨?_, (.inl ⟨hx, _, hn', by simp⟩ : Holds _ _ _ _ _), _, hs', .inl rfl⟩
    refine Fm.store_core (s' := { s with heap := h', toks := s.toks + 1 }) f ⟨_, _, rfl⟩ hs' f.lB (fun o e => ⟨(hob o e).1, (hob o e).2.1⟩) (fun o e => by obtain ⟨o', es, ep, e', hd, _⟩ := hm0; rw [e] at e'; cases e'; exact .inl ⟨_, _, hd⟩) (let ⟨o, _, _, q, _⟩ := hn'; ⟨o, q⟩) ⟨_, hn'⟩ (fun y w hy q => ?_) (fun y c' _ _ ⟨v, q⟩ => ⟨v, q.sameBut hs' (hne _ _ q)⟩) (.inl ⟨hx, _, hn', by simp⟩) hm hv hρ'
    rcases q with ⟨q, m2, hm2, e⟩ | ⟨q, c, h1, h2, h3⟩
    · exact .inl ⟨q, _, hn', by rw [if_neg hy, Ns_uniq hm0 hm2]; exact e⟩
    · exact .inr ⟨q, c, h1, h2, h3.sameBut hs' (hne _ _ h3)⟩
  · obtain ⟨v₀, hv0⟩ := f.cells x c hc hx hB
    refine wpAny_storeName_cell f.kind hx hc hv0 fun h' hv' hs' => ?_
    have hob : ∀ o, s.heap.get? c = some o → (∀ vs, o.data ≠ .fields vs) ∧ (∀ vs n, o.data ≠ .seq vs n) ∧ (∀ es ep, o.data ≠ .dict es ep) := fun o e => by
      obtain ⟨o', e', hd⟩ := hv0
      rw [e] at e'; cases e'
      rw [hd]; exact ⟨nofun, nofun, nofun⟩
    have hL : k.env.locals ≠ c := fun q => by
      obtain ⟨m, o, es, ep, e, hd, _⟩ := f.ns
      exact (hob o (q ▸ e)).2.2 _ _ hd
    refine and_assoc.mp ⟨?_, (.inr ⟨.inl hx, c, hc, fun q => f.high hB (f.sub0 _ q), hv'⟩ : Holds _ _ _ _ _), _, hs', .inr ⟨_, hv0⟩⟩
    refine Fm.store_core (s' := { s with heap := h' }) f ⟨_, _, rfl⟩ hs' hB (fun o e => ⟨(hob o e).1, (hob o e).2.1⟩) (fun o e => by obtain ⟨o', e', hd⟩ := hv0; rw [e] at e'; cases e'; exact .inr ⟨_, hd⟩) (let ⟨o, q, _⟩ := hv'; ⟨o, q⟩) (let ⟨m, q⟩ := f.ns; ⟨m, q.sameBut hs' hL⟩) (fun y w hy q => ?_) (fun y c' h1 h2 ⟨v, q⟩ => ?_) (.inr ⟨.inl hx, c, hc, fun q => f.high hB (f.sub0 _ q), hv'⟩) hm hv hρ'
    · rcases q with ⟨q, m2, hm2, e⟩ | ⟨q, c', h1, h2, h3⟩
      · exact .inl ⟨q, m2, hm2.sameBut hs' hL, e⟩
      · exact .inr ⟨q, c', h1, h2, h3.sameBut hs' fun e => hy (f.apart y x c (e ▸ h1) hc)⟩
    · by_cases e : c' = c
      · subst e; exact ⟨_, hv'⟩
      · exact ⟨v, q.sameBut hs' e⟩

theorem Fm.store {s : Shared} {E : Value → Shared → Prop} {x : Str} {v : Value} (f : k.Fm xs μ ρ s) (hx : Stores k x) (hv : Den xs s.heap v d) (hm : ∀ m ∈ μ, m.1 ≠ x) :
    wpAny k.M k.A (storeName k.env x v) (fun _ s' => k.Fm xs μ ((x, d) :: ρ) s' ∧ NonDC s s' ∧ ∃ c, Heap.SameBut c s.heap s'.heap ∧ (c = k.env.locals ∨ ∃ v, s.heap.IsCell c v)) E s :=
  wpAny_mono (f.storeG (ρ' := (x, d) :: ρ) hx (fun e he => by rw [List.lookup_cons, beq_self_eq_true] at he; cases he; exact hv) (fun y e hy he => by
    rw [List.lookup_cons] at he
    have : (y == x) = false := by simpa using hy
    rw [this] at he; exact he) hm) (fun _ _ q => ⟨q.1, q.2.1, q.2.2.2⟩) fun _ _ q => q

def Out (k : Kx) (s : Shared) (s' : Shared) (v : Value) (d : PyData) : Prop := Step k.tabs k.ts k.S s' ∧ Den k.X s'.heap v d

abbrev RP := List Addr → Mu → Rho → Prop
def Post (k : Kx) (R : RP) (T : PyData → Prop) (f : Flow) (s' : Shared) : Prop := match f with
  | .next => ∃ xs' μ' ρ', R xs' μ' ρ' ∧ k.Fm xs' μ' ρ' s'
  | .ret v => ∃ d, T d ∧ Out k k.S s' v d
  | _ => False
/-- a block: it ends at a frame that R speaks of, or gives back what T speaks of. -/
def Xs (k : Kx) (xs : List Addr) (μ : Mu) (ρ : Rho) (sts : List Stmt) (R : RP) (T : PyData → Prop) : Prop :=
  ∀ s E, k.Fm xs μ ρ s → wpAny k.M k.A (execs sts k.env) (Post k R T) E s

theorem Fm.out {s : Shared} {v : Value} (f : k.Fm xs μ ρ s) (hv : Den xs s.heap v d) : Out k k.S s v d :=
  ⟨⟨f.same, f.base, fun _ => f.tab⟩, hv.shift fun a ha _ q => ha (f.sub1 a q)⟩
theorem Xs.first {st : Stmt} {rest : List Stmt} {R : RP} {T : PyData → Prop} {E : Value → Shared → Prop} {s : Shared} (h : wpAny k.M k.A (exec st k.env) (Post k (fun xs' μ' ρ' => Xs k xs' μ' ρ' rest R T) T) E s) :
    wpAny k.M k.A (execs (st :: rest) k.env) (Post k R T) E s :=
  wpAny_execs_cons (wm h fun f s' q => by
    cases f with
    | next => obtain ⟨_, _, _, q, f2⟩ := q; exact q s' E f2
    | ret v => exact q
    | brk => exact q
    | cont => exact q)
theorem Post.mono {R R' : RP} {T T' : PyData → Prop} (hR : ∀ xs' μ' ρ', R xs' μ' ρ' → R' xs' μ' ρ') (hT : ∀ d, T d → T' d) (f : Flow) (s' : Shared) (q : Post k R T f s') : Post k R' T' f s' := by
  cases f with
  | next => obtain ⟨a, b, c, q, f2⟩ := q; exact ⟨a, b, c, hR _ _ _ q, f2⟩
  | ret v => obtain ⟨d, q, r⟩ := q; exact ⟨d, hT _ q, r⟩
  | brk => exact q
  | cont => exact q
theorem Xs.mono {sts : List Stmt} {R R' : RP} {T T' : PyData → Prop} (h : Xs k xs μ ρ sts R T) (hR : ∀ xs' μ' ρ', R xs' μ' ρ' → R' xs' μ' ρ') (hT : ∀ d, T d → T' d) : Xs k xs μ ρ sts R' T' := fun s E f =>
  wm (h s E f) (Post.mono hR hT)
theorem Xs.nil {R : RP} {T : PyData → Prop} (h : R xs μ ρ) : Xs k xs μ ρ [] R T := fun s E f => wpAny_execs_nil ⟨_, _, _, h, f⟩
theorem Xs.ret {e : Expr} {rest : List Stmt} {R : RP} {T : PyData → Prop} (he : Ev k xs μ ρ e d) (h : T d) : Xs k xs μ ρ (.Return (some e) pos :: rest) R T := fun s E f =>
  Xs.first (wpAny_Return_some (wm (he s E f) fun v s₁ ⟨st, hd⟩ => ⟨d, h, (f.step st).out hd⟩))
theorem Xs.ret_mut {x : Str} {l : Addr} {ds : List PyData} {p : Pos} {rest : List Stmt} {R : RP} {T : PyData → Prop} (hm : (x, l, ds) ∈ μ) (hS : k.S.heap.objs.size ≤ l) (h : T (.list ds)) (hd : (x == ("__debug__" : Str)) = false := by decide) :
    Xs k xs μ ρ (.Return (some (.Name x p)) pos :: rest) R T := fun s E f => by
  obtain ⟨h1, h2, h3, vs, h4, h5⟩ := f.muts x l ds hm
  refine Xs.first (wpAny_Return_some (wpAny_Name (h3.load f.kind ?_) hd))
  exact ⟨.list ds, h, ⟨f.same, f.base, fun _ => f.tab⟩, .list (f.high hS) h4.isList (h5.shift fun a ha _ q => ha (f.sub1 a q))⟩
theorem Xs.asg {x : Str} {p : Pos} {e : Expr} {rest : List Stmt} {R : RP} {T : PyData → Prop} (he : Ev k xs μ ρ e d) (hx : Stores k x) (hm : ∀ m ∈ μ, m.1 ≠ x) (h : Xs k xs μ ((x, d) :: ρ) rest R T)
    (hs : swapsWith e (some (.Name x p)) pos.line k.env = pure false := by rfl) : Xs k xs μ ρ (.Assign [.Name x p] e pos :: rest) R T := fun s E f =>
  Xs.first (wpAny_Assign_Name (wm (he s E f) fun v s₁ ⟨st, hv⟩ => wm ((f.step st).store hx hv hm) fun _ s₂ f₂ => ⟨_, _, _, h, f₂.1⟩) hs)
theorem Xs.iff {t : Expr} {body orelse rest : List Stmt} {R : RP} {T : PyData → Prop} {c : Bool} (ht : Tr k xs μ ρ t c) (h1 : c = true → Xs k xs μ ρ body (fun xs' μ' ρ' => Xs k xs' μ' ρ' rest R T) T)
    (h2 : c = false → Xs k xs μ ρ orelse (fun xs' μ' ρ' => Xs k xs' μ' ρ' rest R T) T) : Xs k xs μ ρ (.If t body orelse pos :: rest) R T := fun s E f =>
  Xs.first (wpAny_If (wm (ht s E f) fun r s₁ ⟨st, e⟩ => by
    subst e
    cases r with
    | true => exact h1 rfl s₁ E (f.step st)
    | false => exact h2 rfl s₁ E (f.step st)))
end

/-- what a function answers: for every state that holds the world. -/
def Spec (prog : Program) (w : World) (tabs : List Tab) (G : Heap) (f : Addr) (args : List PyData) (n : Nat) (T : PyData → Prop) : Prop :=
  ∀ A s xs vs E, Room A n → Wd tabs G s.heap → TabOk tabs s.heap → (∀ x ∈ tsOf tabs, x ∈ xs) → (∀ x ∈ xs, x ∉ tsOf tabs → ∃ o, s.heap.get? x = some o) → G.objs.size ≤ s.heap.objs.size → DenAll xs s.heap vs args →
    wpAny (model prog w) A (call (.ref f) vs) (fun v s' => Step tabs (tsOf tabs) s s' ∧ ∃ d, T d ∧ Den xs s'.heap v d) E s

/-- a def's object in the ghost heap -/
structure FnAt0 (G : Heap) (f : Addr) (name : Str) (params : Arguments) (body : List Stmt) (scope : Scope) (dV kV cdv : Value) : Prop where
  obj : ∃ oc od sl doc pm an ct, G.get? f = some ⟨oc, od, .func (fnOf name name params body scope dV kV doc pm an cdv ct), sl⟩
  code : G.CodeRec cdv name
  lim : G.NoLimit

theorem Wd.keep {tabs : List Tab} {G h h' : Heap} (W : Wd tabs G h) (k : ∀ b o, b ∉ tsOf tabs → h.get? b = some o → h'.get? b = some o) : Wd tabs G h' := fun b o e => ⟨(W b o e).1, k b o (W b o e).1 (W b o e).2⟩

theorem bindL_other {kindOf : Str → Option NameKind} {x : Str} : ∀ (bs : List (Str × Value)) (m : Str → Option Value), x ∉ bs.map (·.1) → bindL kindOf bs m x = m x
  | [], _, _ => rfl
  | (n, v) :: r, m, h => by
    simp only [List.map_cons, List.mem_cons, not_or] at h
    unfold bindL
    rw [bindL_other r _ h.2]
    split
    · simp [h.1]
    · rfl
theorem bindC_other {kindOf : Str → Option NameKind} {x : Str} : ∀ (bs : List (Str × Value)) (m : Str → Option Value), x ∉ bs.map (·.1) → bindC kindOf bs m x = m x
  | [], _, _ => rfl
  | (n, v) :: r, m, h => by
    simp only [List.map_cons, List.mem_cons, not_or] at h
    unfold bindC
    rw [bindC_other r _ h.2]
    split
    · rfl
    · simp [h.1]
theorem bindL_get {kindOf : Str → Option NameKind} {x : Str} {v : Value} (hl : kindOf x = some .local) : ∀ (bs : List (Str × Value)) (m : Str → Option Value), (bs.map (·.1)).Nodup → (x, v) ∈ bs → bindL kindOf bs m x = some v
  | (n, u) :: r, m, hn, hm => by
    obtain ⟨h1, h2⟩ := List.nodup_cons.mp hn
    unfold bindL
    rcases List.mem_cons.mp hm with e | hm
    · cases e; rw [bindL_other r _ h1, if_pos hl]; simp
    · exact bindL_get hl r _ h2 hm
theorem bindC_get {kindOf : Str → Option NameKind} {x : Str} {v : Value} (hl : ¬ kindOf x = some .local) : ∀ (bs : List (Str × Value)) (m : Str → Option Value), (bs.map (·.1)).Nodup → (x, v) ∈ bs → bindC kindOf bs m x = some v
  | (n, u) :: r, m, hn, hm => by
    obtain ⟨h1, h2⟩ := List.nodup_cons.mp hn
    unfold bindC
    rcases List.mem_cons.mp hm with e | hm
    · cases e; rw [bindC_other r _ h1, if_neg hl]; simp
    · exact bindC_get hl r _ h2 hm
theorem rho_get {xs : List Addr} {h : Heap} {x : Str} {d : PyData} : ∀ {bs : List (Str × Value)} {ρ : Rho}, bs.map (·.1) = ρ.map (·.1) → DenAll xs h (bs.map (·.2)) (ρ.map (·.2)) → ρ.lookup x = some d → ∃ v, (x, v) ∈ bs ∧ Den xs h v d
  | [], (n, e) :: r, hn, _, _ => by cases hn
  | (n, u) :: bs, (n', e) :: r, hn, hd, hl => by
    simp only [List.map_cons] at hn hd
    obtain ⟨rfl, hn2⟩ := List.cons.inj hn
    cases hd with | cons h1 h2 =>
    rw [List.lookup_cons] at hl
    cases hb : x == n with
    | true => rw [hb] at hl; cases hl; rw [beq_iff_eq.mp hb]; exact ⟨u, .head _, h1⟩
    | false => rw [hb] at hl; dsimp only at hl; obtain ⟨v, q, r⟩ := rho_get hn2 h2 hl; exact ⟨v, .tail _ q, r⟩

abbrev fnEnv (scope : Scope) (L : Addr) (name : Str) (f : Addr) (cdv : Value) : Env := newEnv scope L mainGlobals (cellsFrom (L + 1) scope.names []) (name ++ ".<locals>.") (some f) cdv none builtinsNs

theorem call_bodyG {prog : Program} {w : World} {tabs : List Tab} {G : Heap} {f : Addr} {name : Str} {params : Arguments} {body : List Stmt} {scope : Scope} {dV kV cdv : Value} {n : Nat} {A : Around} {s : Shared} {xs : List Addr} {vs : List Value}
    {E : Value → Shared → Prop} {Q : Value → Shared → Prop} {binds : List (Str × Value)} {ρ : Rho} (F : FnAt0 G f name params body scope dV kV cdv) (hr : Room A (n + 1)) (hW : Wd tabs G s.heap) (hT : TabOk tabs s.heap) (hx1 : ∀ x ∈ tsOf tabs, x ∈ xs)
    (hx3 : ∀ x ∈ xs, x ∉ tsOf tabs → ∃ o, s.heap.get? x = some o) (hG : G.objs.size ≤ s.heap.objs.size)
    (hb : ∀ doc pm an ct, BindsTo s (fnOf name name params body scope dV kV doc pm an cdv ct) ⟨vs, []⟩ binds) (hden : ∀ x d, ρ.lookup x = some d → ∃ v, (x, v) ∈ binds ∧ Den xs s.heap v d)
    (hkind : ∀ L, (binds.all fun x => scope.names.lookup x.1 == some .local || (scope.names.lookup x.1 == some .cell && ((cellsFrom L scope.names []).lookup x.1).isSome)) = true)
    (hnd' : (binds.map (·.1)).Nodup) (hco : scope.isCoroutine = false) (hgen : scope.isGenerator = false) (hk : scope.kind = .function)
    (h : ∀ (k : Kx) (s₁ : Shared), k = ⟨prog, w, tabs, G, s, xs, A.deeper (fnEnv scope s.heap.objs.size name f cdv), fnEnv scope s.heap.objs.size name f cdv, [], []⟩ → Room k.A n → k.Fm xs [] ρ s₁ → (∀ x v, (x, v) ∈ binds → Holds (tsOf tabs) k.env s₁.heap x v) → (∀ b o, s.heap.get? b = some o → s₁.heap.get? b = some o) →
      wpAny k.M k.A (execs body k.env) (fun fl s' => Q (match fl with | .ret v => v | _ => .none) s') (fun e s' => wpAny k.M k.A (leaving k.env e) (fun _ s'' => E e s'') (fun e' s'' => E e' s'') s') s₁) :
    wpAny (model prog w) A (call (.ref f) vs) Q E s := by
  obtain ⟨oc, od, sl, doc, pm, an, ct, ho⟩ := F.obj
  have hx2 := below_of hT hx3
  have hk2 : ∀ x ∈ binds, scope.names.lookup x.1 = some .local ∨ (scope.names.lookup x.1 = some .cell ∧ ((cellsFrom (s.heap.objs.size + 1) scope.names []).lookup x.1).isSome = true) := fun x hx => by
    have := List.all_eq_true.mp (hkind (s.heap.objs.size + 1)) x hx
    simpa using this
  refine wpAny_call (codeAny_call_function (fd := fnOf name name params body scope dV kV doc pm an cdv ct) (body := body) (by have := hr.2.1; omega) (hW _ _ ho).2 rfl hco hgen rfl (F.code.keeps fun b o e => (hW b o e).2) ?_)
  refine hb doc pm an ct _ _ _ _ (wpAny_newFunctionEnv_cells hk hk2 fun env he s₁ x => ?_)
  subst he
  refine ⟨(F.lim.keeps fun b o e => (hW b o e).2).keeps x.toInCall.keep, codeAny_func ?_⟩
  have hL : s.heap.objs.size < s₁.heap.objs.size := x.toInCall.ns.lt
  have hold : ∀ y v, (y, v) ∈ binds → Holds (tsOf tabs) (fnEnv scope s.heap.objs.size name f cdv) s₁.heap y v := fun y v hm => by
    rcases hk2 _ hm with hl | ⟨hl, hc⟩
    · exact .inl ⟨hl, _, x.toInCall.ns, bindL_get hl binds _ hnd' hm⟩
    · obtain ⟨c, hc⟩ := Option.isSome_iff_exists.mp hc
      refine .inr ⟨.inl hl, c, hc, fun q => ?_, ?_⟩
      · have h1 : c < s.heap.objs.size := hx2 c (hx1 c q)
        have h2 : s.heap.objs.size < c := x.above y c (mem_of_lookup hc)
        exact Nat.lt_asymm h1 h2
      · have := x.cell y c hc
        rwa [bindC_get (by show ¬ scope.names.lookup y = _; rw [hl]; decide) binds _ hnd' hm] at this
  refine h ⟨prog, w, tabs, G, s, xs, _, fnEnv scope s.heap.objs.size name f cdv, [], []⟩ s₁ rfl hr.deeper
    ⟨hk, x.toInCall.same, fun b o e => ⟨(hW b o e).1, x.toInCall.keep b o (hW b o e).2⟩, hT.keep fun b o _ e => x.toInCall.keep b o e, fun b o _ e => x.toInCall.keep b o e, Nat.le_refl _, hG, ⟨_, x.toInCall.ns⟩, hx2, hx1,
      fun y hy hn => let ⟨o, ho⟩ := hx3 y hy hn; ⟨o, x.toInCall.keep _ _ ho⟩, fun y hy => hy, fun y c h1 h2 _ => ⟨_, x.cell y c h1⟩, fun a b c h1 h2 => name_of_addr x.apart (mem_of_lookup h1) (mem_of_lookup h2), fun y d e => ?_, fun _ _ _ q => (nomatch q), fun _ q => (nomatch q), fun _ q => (nomatch q)⟩ hold x.toInCall.keep
  obtain ⟨v, hm, hv⟩ := hden y d e
  exact ⟨v, hv.keep fun b o _ e _ => x.toInCall.keep b o e, hold y v hm⟩

theorem call_body {prog : Program} {w : World} {tabs : List Tab} {G : Heap} {f : Addr} {name : Str} {params : Arguments} {body : List Stmt} {scope : Scope} {dV kV cdv : Value} {n : Nat} {A : Around} {s : Shared} {xs : List Addr} {vs : List Value}
    {E : Value → Shared → Prop} {Q : Value → Shared → Prop} {binds : List (Str × Value)} {ρ : Rho} (F : FnAt0 G f name params body scope dV kV cdv) (hr : Room A (n + 1)) (hW : Wd tabs G s.heap) (hT : TabOk tabs s.heap) (hx1 : ∀ x ∈ tsOf tabs, x ∈ xs)
    (hx3 : ∀ x ∈ xs, x ∉ tsOf tabs → ∃ o, s.heap.get? x = some o) (hG : G.objs.size ≤ s.heap.objs.size)
    (hb : ∀ doc pm an ct, BindsTo s (fnOf name name params body scope dV kV doc pm an cdv ct) ⟨vs, []⟩ binds) (hden : DenAll xs s.heap (binds.map (·.2)) (ρ.map (·.2))) (hnames : binds.map (·.1) = ρ.map (·.1))
    (hkind : ∀ L, (ρ.all fun x => scope.names.lookup x.1 == some .local || (scope.names.lookup x.1 == some .cell && ((cellsFrom L scope.names []).lookup x.1).isSome)) = true)
    (hnd : (ρ.map (·.1)).Nodup) (hco : scope.isCoroutine = false) (hgen : scope.isGenerator = false) (hk : scope.kind = .function)
    (h : ∀ (k : Kx) (s₁ : Shared), k = ⟨prog, w, tabs, G, s, xs, A.deeper (fnEnv scope s.heap.objs.size name f cdv), fnEnv scope s.heap.objs.size name f cdv, [], []⟩ → Room k.A n → k.Fm xs [] ρ s₁ →
      wpAny k.M k.A (execs body k.env) (fun fl s' => Q (match fl with | .ret v => v | _ => .none) s') (fun e s' => wpAny k.M k.A (leaving k.env e) (fun _ s'' => E e s'') (fun e' s'' => E e' s'') s') s₁) :
    wpAny (model prog w) A (call (.ref f) vs) Q E s := by
  refine call_bodyG F hr hW hT hx1 hx3 hG hb (fun x d e => rho_get hnames hden e) (fun L => List.all_eq_true.mpr fun x hx => ?_) (hnames ▸ hnd) hco hgen hk fun k s₁ e r f _ _ => h k s₁ e r f
  obtain ⟨y, hy, e⟩ := List.mem_map.mp (hnames ▸ List.mem_map_of_mem hx : x.1 ∈ ρ.map (·.1))
  rw [← e]
  exact List.all_eq_true.mp (hkind L) y hy

theorem Spec.of_body {prog : Program} {w : World} {tabs : List Tab} {G : Heap} {f : Addr} {name : Str} {params : Arguments} {body : List Stmt} {scope : Scope} {dV kV cdv : Value} {args : List PyData} {n : Nat} {T : PyData → Prop} {ρ : Rho}
    (F : FnAt0 G f name params body scope dV kV cdv)
    (hb : ∀ s xs vs, Wd tabs G s.heap → DenAll xs s.heap vs args → ∃ binds, (∀ doc pm an ct, BindsTo s (fnOf name name params body scope dV kV doc pm an cdv ct) ⟨vs, []⟩ binds) ∧ DenAll xs s.heap (binds.map (·.2)) (ρ.map (·.2)) ∧ binds.map (·.1) = ρ.map (·.1))
    (hkind : ∀ L, (ρ.all fun x => scope.names.lookup x.1 == some .local || (scope.names.lookup x.1 == some .cell && ((cellsFrom L scope.names []).lookup x.1).isSome)) = true)
    (hnd : (ρ.map (·.1)).Nodup) (hco : scope.isCoroutine = false) (hgen : scope.isGenerator = false) (hk : scope.kind = .function)
    (h : ∀ (A : Around) (s : Shared) (k : Kx) (xs : List Addr), k = ⟨prog, w, tabs, G, s, xs, A.deeper (fnEnv scope s.heap.objs.size name f cdv), fnEnv scope s.heap.objs.size name f cdv, [], []⟩ → Room k.A n → Xs k xs [] ρ body (fun _ _ _ => T .none) T) :
    Spec prog w tabs G f args (n + 1) T := fun A s xs vs E hr hW hT h1 h2 hG hd => by
  obtain ⟨binds, hb, hden, hnames⟩ := hb s xs vs hW hd
  refine call_body F hr hW hT h1 h2 hG hb hden hnames hkind hnd hco hgen hk fun k s₁ hk hr f => ?_
  refine wm (h A s k xs hk hr s₁ _ f) fun fl s' q => ?_
  subst hk
  cases fl with
  | next => obtain ⟨_, _, _, q, f2⟩ := q; exact ⟨⟨f2.same, f2.base, fun _ => f2.tab⟩, _, q, .none⟩
  | ret v => obtain ⟨d, q, r, r2⟩ := q; exact ⟨r, d, q, r2⟩
  | brk => exact q.elim
  | cont => exact q.elim

end Mine
namespace Mine
open PySem PySem.W PySem.Calls PyProof.Rows

def GName (G : Heap) (x : Str) (v : Value) : Prop := ∃ mg, G.Ns mainGlobals mg ∧ mg x = some v
def BName (G : Heap) (x : Str) (v : Value) : Prop := ∃ mg mb, G.Ns mainGlobals mg ∧ G.Ns builtinsNs mb ∧ mg x = none ∧ mb x = some v
/-- the frame's env stands on the module's own names -/
def OnMain (k : Kx) : Prop := k.env.scope.kind = .function ∧ k.env.globals = mainGlobals ∧ k.env.builtins = builtinsNs

section
variable {k : Kx} {xs : List Addr} {μ : Mu} {ρ : Rho} {a b d : PyData} {pos : Pos}

theorem gname {G : Heap} {tabs : List Tab} {A : Around} {s : Shared} {E : Value → Shared → Prop} {Q : Value → Shared → Prop} {M : Model} {env : Env} {x : Str} {v : Value} (hW : Wd tabs G s.heap) (hg : GName G x v)
    (hk : env.scope.kind = .function) (he : env.globals = mainGlobals) (hx : env.kindOf x = some .globalImplicit) (h : Q v s) (hd : (x == ("__debug__" : Str)) = false := by decide) : wpAny M A (eval (.Name x pos) env) Q E s := by
  obtain ⟨mg, h1, h2⟩ := hg
  exact Name_function_global hk hx (loadGlobal_global (he ▸ h1.keeps fun b o e => (hW b o e).2) h2 h) hd
theorem bname {G : Heap} {tabs : List Tab} {A : Around} {s : Shared} {E : Value → Shared → Prop} {Q : Value → Shared → Prop} {M : Model} {env : Env} {x : Str} {v : Value} (hW : Wd tabs G s.heap) (hg : BName G x v)
    (hk : env.scope.kind = .function) (he : env.globals = mainGlobals) (hb : env.builtins = builtinsNs) (hx : env.kindOf x = some .globalImplicit) (h : Q v s) (hd : (x == ("__debug__" : Str)) = false := by decide) : wpAny M A (eval (.Name x pos) env) Q E s := by
  obtain ⟨mg, mb, h1, h2, h3, h4⟩ := hg
  exact Name_function_global hk hx (loadGlobal_builtin (he ▸ h1.keeps fun b o e => (hW b o e).2) h3 (hb ▸ h2.keeps fun b o e => (hW b o e).2) h4 h) hd

def EvL (k : Kx) (xs : List Addr) (μ : Mu) (ρ : Rho) (es : List Expr) (ds : List PyData) : Prop :=
  ∀ s E pos, k.Fm xs μ ρ s → wpAny k.M k.A (spliced (backTo pos (starEach es k.env))) (fun vs s' => k.Step s s' ∧ DenAll xs s'.heap vs ds) E s
theorem EvL.nil : EvL k xs μ ρ [] [] := fun s E pos f => args_nil ⟨Step.refl, .nil⟩
theorem EvL.cons {e : Expr} {es : List Expr} {ds : List PyData} (h1 : Ev k xs μ ρ e d) (h2 : EvL k xs μ ρ es ds) (he : starEach (e :: es) k.env = (false, eval e k.env) :: starEach es k.env := by rfl) : EvL k xs μ ρ (e :: es) (d :: ds) := fun s E pos f =>
  args_cons (wm (h1 s E f) fun v s₁ ⟨st₁, d₁⟩ => wm (h2 s₁ E pos (f.step st₁)) fun vs s₂ ⟨st₂, d₂⟩ => ⟨st₁.trans st₂, .cons (d₁.keep (st₂.seq f.sub)) d₂⟩) he

theorem Ev.tup {es : List Expr} {ds : List PyData} {n : Nat} (h : EvL k xs μ ρ es ds) (hn : ds.length ≤ 1000) : Ev k xs μ ρ (.Tuple es n pos) (.tuple ds) := fun s E f =>
  Tuple_ (wm (h s E pos f) fun vs s₁ ⟨st, d⟩ => wpAny_newTuple (by
    have hx := (f.step st).below
    refine ⟨st.trans Step.push, .tuple (vs := vs.toArray) (fun q => Nat.lt_irrefl _ (hx _ q)) ⟨_, Heap.get?_push_size _ rfl, rfl, _, rfl⟩ ?_⟩
    exact d.keep fun b o _ e _ => Heap.get?_push_of_some _ e) (by rw [d.length]; exact Nat.le_trans hn (by decide)))
theorem Ev.lst {es : List Expr} {ds : List PyData} (h : EvL k xs μ ρ es ds) (hn : ds.length ≤ 1000) : Ev k xs μ ρ (.List es pos) (.list ds) := fun s E f =>
  List_ (wm (h s E pos f) fun vs s₁ ⟨st, d⟩ => wpAny_newList (by
    have hx := (f.step st).below
    refine ⟨st.trans Step.push, .list (vs := vs.toArray) (fun q => Nat.lt_irrefl _ (hx _ q)) ⟨_, Heap.get?_push_size _ rfl, rfl, _, rfl⟩ ?_⟩
    exact d.keep fun b o _ e _ => Heap.get?_push_of_some _ e) (by rw [d.length]; exact Nat.le_trans hn (by decide)))

theorem Fm.fnAt {s : Shared} {f₀ : Addr} (f : k.Fm xs μ ρ s) (hf : FnAt f₀ k.G) : FnAt f₀ s.heap := by
  obtain ⟨oc, od, fd, sl, e⟩ := hf
  exact ⟨oc, od, fd, sl, (f.wd _ _ e).2⟩
/-- what the call of a function of the module answers -/
def EvT (k : Kx) (xs : List Addr) (μ : Mu) (ρ : Rho) (e : Expr) (T : PyData → Prop) : Prop :=
  ∀ s E, k.Fm xs μ ρ s → wpAny k.M k.A (eval e k.env) (fun v s' => k.Step s s' ∧ ∃ d, T d ∧ Den xs s'.heap v d) E s
theorem EvT.ev {e : Expr} (h : EvT k xs μ ρ e (· = d)) : Ev k xs μ ρ e d := fun s E f => wm (h s E f) fun v s' ⟨st, d', e, q⟩ => ⟨st, e ▸ q⟩
theorem EvT.call {x : Str} {p : Pos} {e : Expr} {es : List Expr} {ds : List PyData} {f₀ : Addr} {n : Nat} {T : PyData → Prop} (hm : OnMain k) (hx : k.env.kindOf x = some .globalImplicit) (hg : GName k.G x (.ref f₀)) (hf : FnAt f₀ k.G)
    (hr : Room k.A n) (hS : Spec k.prog k.w k.tabs k.G f₀ ds n T) (h : EvL k xs μ ρ (e :: es) ds) (hd : (x == ("__debug__" : Str)) = false := by decide)
    (he : starEach (e :: es) k.env = (false, eval e k.env) :: starEach es k.env := by rfl) (hp : (backTo pos (starEach es k.env)).any (·.1) = false := by rfl) :
    EvT k xs μ ρ (.Call (.Name x p) (e :: es) [] pos) T := fun s E f =>
  Call_ (gname f.wd hg hm.1 hm.2.1 hx (callWith_F (f.fnAt hf) (wm (h s E pos f) fun vs s₁ ⟨st, d⟩ =>
    have f₁ := f.step st
    ⟨f₁.fnAt hf, wm (hS k.A s₁ xs vs E hr f₁.wd f₁.tab f₁.sub f₁.alive f₁.gsz d) fun v s₂ ⟨st₂, r⟩ => ⟨st.trans st₂, r⟩⟩) he hp) hd)
theorem EvT.call0 {x : Str} {p : Pos} {f₀ : Addr} {n : Nat} {T : PyData → Prop} (hm : OnMain k) (hx : k.env.kindOf x = some .globalImplicit) (hg : GName k.G x (.ref f₀)) (hf : FnAt f₀ k.G)
    (hr : Room k.A n) (hS : Spec k.prog k.w k.tabs k.G f₀ [] n T) (hd : (x == ("__debug__" : Str)) = false := by decide) :
    EvT k xs μ ρ (.Call (.Name x p) [] [] pos) T := fun s E f =>
  Call_ (gname f.wd hg hm.1 hm.2.1 hx (callWith_F0 (f.fnAt hf) (wm (hS k.A s xs [] E hr f.wd f.tab f.sub f.alive f.gsz .nil) fun v s₂ q => q)) hd)

/-- a builtin's answer -/
def Bi (k : Kx) (xs : List Addr) (c : Value) (ds : List PyData) (d : PyData) : Prop :=
  ∀ s E vs, Wd k.tabs k.G s.heap → (∀ x ∈ xs, x < s.heap.objs.size) → DenAll xs s.heap vs ds → wpAny k.M k.A (PySem.call c vs) (fun v s' => k.Step s s' ∧ Den xs s'.heap v d) E s
theorem Ev.bi {x : Str} {p : Pos} {id : String} {e : Expr} {es : List Expr} {ds : List PyData} (hm : OnMain k) (hx : k.env.kindOf x = some .globalImplicit) (hg : BName k.G x (.builtin id))
    (hS : Bi k xs (.builtin id) ds d) (h : EvL k xs μ ρ (e :: es) ds) (hd : (x == ("__debug__" : Str)) = false := by decide)
    (he : starEach (e :: es) k.env = (false, eval e k.env) :: starEach es k.env := by rfl) (hp : (backTo pos (starEach es k.env)).any (·.1) = false := by rfl) :
    Ev k xs μ ρ (.Call (.Name x p) (e :: es) [] pos) d := fun s E f =>
  Call_ (bname f.wd hg hm.1 hm.2.1 hm.2.2 hx (callWith_builtin1 (wm (h s E pos f) fun vs s₁ ⟨st, d⟩ =>
    wm (hS s₁ E vs (f.step st).wd (f.step st).below d) fun v s₂ ⟨st₂, r⟩ => ⟨st.trans st₂, r⟩) he hp) hd)
theorem Ev.ty {x : Str} {p : Pos} {id : String} {e : Expr} {es : List Expr} {ds : List PyData} (hm : OnMain k) (hx : k.env.kindOf x = some .globalImplicit) (hg : BName k.G x (.type id))
    (hS : Bi k xs (.type id) ds d) (h : EvL k xs μ ρ (e :: es) ds) (hd : (x == ("__debug__" : Str)) = false := by decide)
    (he : starEach (e :: es) k.env = (false, eval e k.env) :: starEach es k.env := by rfl) (hp : (backTo pos (starEach es k.env)).any (·.1) = false := by rfl) :
    Ev k xs μ ρ (.Call (.Name x p) (e :: es) [] pos) d := fun s E f =>
  Call_ (bname f.wd hg hm.1 hm.2.1 hm.2.2 hx (callWith_type1 (wm (h s E pos f) fun vs s₁ ⟨st, d⟩ =>
    wm (hS s₁ E vs (f.step st).wd (f.step st).below d) fun v s₂ ⟨st₂, r⟩ => ⟨st.trans st₂, r⟩) he hp) hd)

-- subscripts
theorem Ev.sub_of {value slice : Expr} {T id : String} (hv : Ev k xs μ ρ value a) (hi : Ev k xs μ ρ slice b)
    (hT : ∀ (s : Shared) (v : Value), Den xs s.heap v a → s.TypeIs v T) (hl : typeLookup (.type T) "__getitem__" = pure (some (.builtin id)))
    (hs : ∀ o i, subscripted slice false o i = operate [o, i] (getItem o i))
    (hg : ∀ s E v u, Den xs s.heap v a → Den xs s.heap u b → wpAny k.M k.A (getItem v u) (fun r s' => k.Step s s' ∧ Den xs s'.heap r d) E s) : Ev k xs μ ρ (.Subscript value slice pos) d := fun s E f => by
  refine Subscript_ (wm (hv s E f) fun v s₁ ⟨st₁, d₁⟩ => wm (hi s₁ E (f.step st₁)) fun u s₂ ⟨st₂, d₂⟩ => ?_)
  have d₁' := d₁.keep (st₂.seq f.sub)
  have hT' := hT s₂ v d₁'
  unfold subscriptTail
  refine wpAny_bind ?_
  rw [getitemInPython_of_ne hT'.not_modules]
  refine wpAny_bind (wpAny_specialOf hT' hl ?_)
  have fin : wpAny k.M k.A (subscripted slice false v u) (fun r s₃ => wpAny k.M k.A (letTemporaryGo value v r >>= fun _ => pure r) (fun v s' => k.Step s s' ∧ Den xs s'.heap v d) E s₃) E s₂ := by
    rw [hs]
    refine wpAny_operating (wm (hg s₂ E v u d₁' d₂) fun r s₃ ⟨st₃, d₃⟩ => wpAny_bind (wpAny_letTemporaryGo (wpAny_pure ⟨(st₁.trans st₂).trans st₃, d₃⟩)))
  first
    | exact wpAny_pure (wpAny_bind fin)
    | exact wpAny_bind (wpAny_pure (wpAny_bind fin))
    | exact wpAny_bind fin

theorem getItem_list_any {prog : Program} {w : World} {A : Around} {E : Value → Shared → Prop} {s : Shared} {l : Addr} {items : Array Value} {i : Int} {t : Tok} {j : Nat} {x : Value} {Q : Value → Shared → Prop} (hl : s.heap.IsList l items)
    (hi : -1000 ≤ i) (hi2 : i ≤ 1000) (hj : seqIndex? i items.size = some j) (hx : items[j]? = some x) (h : Q x s) : wpAny (model prog w) A (getItem (.ref l) (.int i t)) Q E s := by
  by_cases h0 : 0 ≤ i
  · unfold seqIndex? at hj
    have h1 : ¬ i < 0 := by omega
    simp only [h1, if_false] at hj
    split at hj
    · simp only [Option.some.injEq] at hj
      subst hj
      exact wpAny_getItem_list hl h0 (by omega) hx h
    · cases hj
  · unfold seqIndex? at hj
    have h1 : i < 0 := by omega
    simp only [h1, if_true] at hj
    split at hj
    · rename_i q
      simp only [Option.some.injEq] at hj
      subst hj
      simp only [Bool.and_eq_true, decide_eq_true_eq] at q
      exact wpAny_getItem_list_neg hl (by omega) (by omega) (by omega) hx h
    · cases hj

theorem Ev.item {value slice : Expr} {ds : List PyData} {i : Int} {j : Nat} (hv : Ev k xs μ ρ value (.list ds)) (hi : Ev k xs μ ρ slice (.int i)) (h1 : -1000 ≤ i) (h2 : i ≤ 1000)
    (hj : seqIndex? i ds.length = some j) (hd : ds[j]? = some d) (hs : ∀ o i, subscripted slice false o i = operate [o, i] (getItem o i) := by intro _ _; with_unfolding_all rfl) : Ev k xs μ ρ (.Subscript value slice pos) d :=
  Ev.sub_of (T := "list") hv hi (fun s v q => by cases q with | list _ hl _ => exact hl.typeIs) slot_list_getitem.lookup hs fun s E v u hv hu => by
    cases hu
    cases hv with | list ha hl hr =>
    obtain ⟨x, hx, hx2⟩ := hr.get hd
    exact getItem_list_any hl h1 h2 (by rw [← Array.length_toList, hr.length]; exact hj) (by simpa using hx) ⟨Step.refl, hx2⟩
theorem Ev.tupItem {value slice : Expr} {ds : List PyData} {i : Int} {j : Nat} (hv : Ev k xs μ ρ value (.tuple ds)) (hi : Ev k xs μ ρ slice (.int i)) (h1 : -1000 ≤ i) (h2 : i ≤ 1000)
    (hj : seqIndex? i ds.length = some j) (hd : ds[j]? = some d) (hs : ∀ o i, subscripted slice false o i = operate [o, i] (getItem o i) := by intro _ _; with_unfolding_all rfl) : Ev k xs μ ρ (.Subscript value slice pos) d :=
  Ev.sub_of (T := "tuple") hv hi (fun s v q => by cases q with | tuple _ hl _ => exact IsTup.typeIs hl) PyProof.Rows.slot_tuple_getitem.lookup hs fun s E v u hv hu => by
    cases hu
    cases hv with | tuple ha hl hr =>
    obtain ⟨x, hx, hx2⟩ := hr.get hd
    exact getItem_tuple hl (by omega) (by omega) (by rw [← Array.length_toList, hr.length]; exact hj) (by simpa using hx) ⟨Step.refl, hx2⟩
end

end Mine
namespace Mine
open PySem PySem.W PySem.Calls PyProof.Rows

section
variable {k : Kx} {xs : List Addr} {μ : Mu} {ρ ρ' : Rho} {a b d : PyData} {pos : Pos}

theorem Fm.weaken {s : Shared} (f : k.Fm xs μ ρ s) (h : ∀ x d, ρ'.lookup x = some d → ρ.lookup x = some d) : k.Fm xs μ ρ' s := { f with vars := fun x d e => f.vars x d (h x d e) }

/-- neither the world nor what was there at the call knows this address -/
def Own (k : Kx) (c : Addr) : Prop := k.S.heap.get? c = none ∧ k.G.get? c = none
theorem get_none {h : Heap} {x : Addr} (hx : h.objs.size ≤ x) : h.get? x = none := by
  cases e : h.get? x with
  | none => rfl
  | some o => exact absurd (Heap.lt_size e) (Nat.not_lt.mpr hx)
theorem Fm.own {s : Shared} {c : Addr} (f : k.Fm xs μ ρ s) (hc : k.S.heap.objs.size ≤ c) : Own k c := ⟨get_none hc, get_none (Nat.le_trans f.gB hc)⟩
/-- one object, foreign to the frame, is turned into another; tables may have grown. -/
theorem Fm.otherT {s s' : Shared} {c : Addr} (f : k.Fm xs μ ρ s) (hsame : ∃ h tk, s' = { s with heap := h, toks := tk }) (keep : ∀ b o, b ∉ k.ts → b ≠ c → s.heap.get? b = some o → s'.heap.get? b = some o) (ht : TabOk k.tabs s'.heap) (hc : Own k c)
    (hl : c ≠ k.env.locals) (hob : ∀ o, s.heap.get? c = some o → (∀ v, o.data ≠ .cell v) ∧ ((∃ vs n, o.data = .seq vs n) → c ∈ xs)) (hμ : ∀ m ∈ μ, m.2.1 ≠ c) (hal : c ∈ xs → ∃ o, s'.heap.get? c = some o)
    (hπ : ∀ p ∈ k.pi, p.1 ≠ c) : k.Fm xs μ ρ s' := by
  have sk : SeqKeep xs s.heap s'.heap := fun b o hb e hd => keep b o (fun q => hb (f.sub _ q)) (fun q => hb (q ▸ (hob o (q ▸ e)).2 hd)) e
  have hold : ∀ y w, Holds k.ts k.env s.heap y w → Holds k.ts k.env s'.heap y w := fun y w q => by
    rcases q with ⟨q, m, hm, e⟩ | ⟨q, c', h1, h2, o, ho, hd⟩
    · exact .inl ⟨q, m, Heap.Ns_keep hm fun o e => keep _ _ f.lt (Ne.symm hl) e, e⟩
    · exact .inr ⟨q, c', h1, h2, o, keep _ _ h2 (fun q => (hob o (q ▸ ho)).1 _ hd) ho, hd⟩
  refine ⟨f.kind, ?_, fun b o e => ⟨(f.wd b o e).1, keep b o (f.wd b o e).1 (fun q => by rw [q, hc.2] at e; cases e) (f.wd b o e).2⟩, ht,
    fun b o hb e => keep b o hb (fun q => by rw [q, hc.1] at e; cases e) (f.base b o hb e), f.lB, f.gB, let ⟨m, q⟩ := f.ns; ⟨m, Heap.Ns_keep q fun o e => keep _ _ f.lt (Ne.symm hl) e⟩, f.below0, f.sub0,
    fun y hy hn => ?_, f.sub1, fun y c' h1 h2 h3 => let ⟨v, o, ho, hd⟩ := f.cells y c' h1 h2 h3; ⟨v, o, keep _ _ (fun q => f.high h3 (f.sub0 _ q)) (fun q => (hob o (q ▸ ho)).1 _ hd) ho, hd⟩, f.apart,
    fun y e he => let ⟨w, h1, h2⟩ := f.vars y e he; ⟨w, h1.keep sk, hold y w h2⟩, fun y l ds hm => ?_, fun p hp => ⟨keep _ _ (fun q => (f.prot p hp).2.1 (f.sub _ q)) (hπ p hp) (f.prot p hp).1, (f.prot p hp).2⟩, fun p hp => (f.held p hp).keep sk⟩
  · obtain ⟨h1, tk1, rfl⟩ := f.same
    obtain ⟨h2, tk2, rfl⟩ := hsame
    exact ⟨_, _, rfl⟩
  · by_cases q : y = c
    · subst q; exact hal hy
    · obtain ⟨o, ho⟩ := f.alive y hy hn
      exact ⟨o, keep _ _ hn q ho⟩
  · obtain ⟨h1, h2, h3, vs, ⟨n, ho⟩, h5⟩ := f.muts y l ds hm
    exact ⟨h1, h2, hold _ _ h3, vs, ⟨n, keep _ _ h2 (hμ _ hm) ho⟩, h5.keep sk⟩
theorem Fm.other {s s' : Shared} {c : Addr} (f : k.Fm xs μ ρ s) (hsame : ∃ h tk, s' = { s with heap := h, toks := tk }) (keep : ∀ b o, b ≠ c → s.heap.get? b = some o → s'.heap.get? b = some o) (hc : k.S.heap.objs.size ≤ c)
    (hl : c ≠ k.env.locals) (hob : ∀ o, s.heap.get? c = some o → Plainish o ∧ (∀ v, o.data ≠ .cell v) ∧ ((∃ vs n, o.data = .seq vs n) → c ∈ xs)) (hμ : ∀ m ∈ μ, m.2.1 ≠ c) (hal : c ∈ xs → ∃ o, s'.heap.get? c = some o)
    (hπ : ∀ p ∈ k.pi, p.1 ≠ c) : k.Fm xs μ ρ s' :=
  f.otherT hsame (fun b o _ hb e => keep b o hb e) (f.tab.keep fun b o hp e => keep b o (fun q => hp (hob o (q ▸ e)).1) e) (f.own hc) hl (fun o ho => (hob o ho).2) hμ hal hπ

def rangeL (x step : Int) : Nat → List PyData
  | 0 => []
  | n + 1 => .int x :: rangeL (x + step) step n

inductive ItAt (xs : List Addr) (h : Heap) (I : Addr) : List PyData → Prop
  | list {l i vs ds} : h.IsListIter I l i → l ∉ xs → h.IsList l vs → DenAll xs h vs.toList ds → ItAt xs h I (ds.drop i)
  | range {x step n} : IsRangeIter h I x ((n : Nat) : Int) step → ItAt xs h I (rangeL x step n)
  | rev {l i vs ds} : PySem.Heap.IsRevIter h I l (((i : Nat) : Int) - 1) → l ∉ xs → h.IsList l vs → DenAll xs h vs.toList ds → i ≤ ds.length → ItAt xs h I (ds.take i).reverse

theorem ItAt.obj {h : Heap} {I : Addr} {ds : List PyData} (q : ItAt xs h I ds) : ∃ o vs, h.get? I = some o ∧ o.data = .fields vs ∧ Plainish o ∧ (o.cls = .type "list_iterator" ∨ o.cls = .type "range_iterator" ∨ o.cls = .type "list_reverseiterator") := by
  cases q with
  | list h1 _ _ _ =>
    obtain ⟨o, ho, hc, hd⟩ := h1
    refine ⟨o, _, ho, hd, fun vs e => ?_, .inl hc⟩
    rw [hd] at e; cases e
    exact ⟨by rw [hc]; nofun, fun q t e => by simp at e⟩
  | range h1 =>
    refine ⟨_, _, h1, rfl, fun vs e => ?_, .inr (.inl rfl)⟩
    cases e
    exact ⟨nofun, fun q t e => by simp [rawInt] at e⟩
  | rev h1 _ _ _ _ =>
    obtain ⟨o, ho, hc, hd⟩ := h1
    refine ⟨o, _, ho, hd, fun vs e => ?_, .inr (.inr hc)⟩
    rw [hd] at e; cases e
    exact ⟨by rw [hc]; nofun, fun q t e => by simp [rawInt] at e⟩
theorem ItAt.keep {h h' : Heap} {I : Addr} {ds : List PyData} (q : ItAt xs h I ds) (hI : ∀ o, h.get? I = some o → h'.get? I = some o) (sk : SeqKeep xs h h') : ItAt xs h' I ds := by
  cases q with
  | list h1 h2 h3 h4 => exact .list (let ⟨o, ho, r⟩ := h1; ⟨o, hI _ ho, r⟩) h2 (let ⟨o, ho, hc, n, hd⟩ := h3; ⟨o, sk _ _ h2 ho ⟨_, n, hd⟩, hc, n, hd⟩) (h4.keep sk)
  | range h1 => exact .range (hI _ h1)
  | rev h1 h2 h3 h4 h5 => exact .rev (let ⟨o, ho, r⟩ := h1; ⟨o, hI _ ho, r⟩) h2 (let ⟨o, ho, hc, n, hd⟩ := h3; ⟨o, sk _ _ h2 ho ⟨_, n, hd⟩, hc, n, hd⟩) (h4.keep sk) h5

section
variable {prog : Program} {w : World} {A : Around} {E : Value → Shared → Prop} {s : Shared} {I : Addr}
theorem next_item {ds : List PyData} {Q : Option Value → Shared → Prop} (q : ItAt xs s.heap I (d :: ds))
    (h : ∀ v h' tk, Den xs h' v d → ItAt xs h' I ds → (∀ b o, b ≠ I → s.heap.get? b = some o → h'.get? b = some o) → Q (some v) { s with heap := h', toks := tk }) : wpAny (model prog w) A (pyNext (.ref I)) Q E s := by
  generalize hds : d :: ds = ds' at q
  cases q with
  | @list l i vs es h1 h2 h3 h4 =>
    have hi : es[i]? = some d := by
      have : (es.drop i)[0]? = some d := by rw [← hds]; rfl
      simpa using this
    have hrest : ds = es.drop (i + 1) := by
      have : (es.drop i).drop 1 = ds := by rw [← hds]; rfl
      rw [← this, List.drop_drop]
    obtain ⟨v, hv, hd⟩ := h4.get hi
    refine wpAny_pyNext_list_item h1 h3 (by simpa using hv) fun h' hit' hs' => ?_
    have keep : ∀ b o, b ≠ I → s.heap.get? b = some o → h'.get? b = some o := fun b o hb e => (hs'.2 b hb).trans e
    have sk : SeqKeep xs s.heap h' := fun b o hb e ⟨us, n, hd⟩ => keep b o (fun q => by
      obtain ⟨o', ho', _, hd'⟩ := h1
      rw [q, ho'] at e; cases e
      rw [hd'] at hd; cases hd) e
    subst hrest
    exact h v h' _ (hd.keep sk) (.list hit' h2 (let ⟨o, ho, hc, n, hd⟩ := h3; ⟨o, sk _ _ h2 ho ⟨_, n, hd⟩, hc, n, hd⟩) (h4.keep sk)) keep
  | @range x step n h1 =>
    cases n with
    | zero => cases hds
    | succ n =>
      cases hds
      refine wpAny_pyNext_range_item h1 (by omega) fun h' hit' hs' => ?_
      refine h _ h' _ (.int _ _) (.range ?_) fun b o hb e => (hs'.2 b hb).trans e
      have : ((n + 1 : Nat) : Int) - 1 = (n : Int) := by omega
      rwa [this] at hit'
  | @rev l i vs es h1 h2 h3 h4 h5 =>
    cases i with
    | zero => simp at hds
    | succ j =>
      have hj : j < es.length := h5
      have e : (es.take (j + 1)).reverse = es[j] :: (es.take j).reverse := by rw [List.take_succ_eq_append_getElem hj, List.reverse_append]; rfl
      rw [e] at hds
      cases hds
      obtain ⟨v, hv, hd⟩ := h4.get (List.getElem?_eq_getElem hj)
      have e1 : ((j + 1 : Nat) : Int) - 1 = (j : Int) := by omega
      rw [e1] at h1
      refine wpAny_pyNext_rev_item h1 h3 (by simpa using hv) fun h' hit' hs' => ?_
      have keep : ∀ b o, b ≠ I → s.heap.get? b = some o → h'.get? b = some o := fun b o hb e => (hs'.2 b hb).trans e
      have sk : SeqKeep xs s.heap h' := fun b o hb e ⟨us, n, hd⟩ => keep b o (fun q => by
        obtain ⟨o', ho', _, hd'⟩ := h1
        rw [q, ho'] at e; cases e
        rw [hd'] at hd; cases hd) e
      exact h v h' _ (hd.keep sk) (.rev hit' h2 (let ⟨o, ho, hc, n, hd⟩ := h3; ⟨o, sk _ _ h2 ho ⟨_, n, hd⟩, hc, n, hd⟩) (h4.keep sk) (by omega)) keep
theorem next_end {Q : Option Value → Shared → Prop} (hh : A.handled = none) (q : ItAt xs s.heap I [])
    (h : ∀ h' tk, (∀ b o, b ≠ I → s.heap.get? b = some o → h'.get? b = some o) → Q none { s with heap := h', toks := tk }) : wpAny (model prog w) A (pyNext (.ref I)) Q E s := by
  generalize hds : ([] : List PyData) = ds' at q
  cases q with
  | @list l i vs es h1 h2 h3 h4 =>
    refine wpAny_pyNext_list_end hh h1 h3 ?_ fun h' hs' => h h' _ fun b o hb e => hs' b o hb e
    have h5 : es.length ≤ i := by simpa using hds.symm
    have h6 := h4.length
    simp at h6 ⊢
    omega
  | @range x step n h1 =>
    cases n with
    | zero => exact wpAny_pyNext_range_end hh h1 (by omega) fun h' hs' => h h' _ fun b o hb e => hs' b o hb e
    | succ n => cases hds
  | @rev l i vs es h1 h2 h3 h4 h5 =>
    cases i with
    | zero => exact wpAny_pyNext_rev_end hh h1 fun h' hs' => h h' _ fun b o hb e => hs' b o hb e
    | succ j =>
      have e : (es.take (j + 1)).reverse = es[j] :: (es.take j).reverse := by rw [List.take_succ_eq_append_getElem h5, List.reverse_append]; rfl
      rw [e] at hds; cases hds
theorem own_go {target : Expr} {v : Value} {ds : List PyData} {Q : Unit → Shared → Prop} (q : ItAt xs s.heap I ds) (h : Q () s) : wpAny (model prog w) A (letOwnedTupleGo target (.ref I) v) Q E s := by
  obtain ⟨o, vs, ho, hd, _, hc⟩ := q.obj
  have key : ∀ r, wpAny (model prog w) A (do
      let o ← load I
      match o.cls, o.data with
      | .type n, .fields vs =>
        if (["enumerate", "zip", "dict_itemiterator", "dict_reverseitemiterator", "odict_iterator", "itertools.zip_longest", "itertools.pairwise"].contains n && vs[0]? == some (rawInt r)) = true then do
          rule "for.unpacks-the-owned-tuple"
          updateField I 0 .none
        else pure ()
      | _, _ => pure ()) Q E s := fun r => by
    refine wpAny_bind (wpAny_load ho ?_)
    rw [hd]
    rcases hc with hc | hc | hc <;> rw [hc] <;> exact wpAny_pure h
  unfold letOwnedTupleGo
  split
  · cases v <;> first | exact wpAny_pure h | exact key _
  · cases v <;> first | exact wpAny_pure h | exact key _
  · exact wpAny_pure h
end

theorem Fm.protect {s : Shared} {I : Addr} {o : Obj} (f : k.Fm xs μ ρ s) (h : s.heap.get? I = some o) (hI : I ∉ xs) (h1 : ∀ es ep, o.data ≠ .dict es ep) (h2 : ∀ v, o.data ≠ .cell v) : ({ k with pi := (I, o) :: k.pi } : Kx).Fm xs μ ρ s :=
  { f with prot := fun p hp => (List.mem_cons.mp hp).elim (fun e => e ▸ ⟨h, hI, h1, h2⟩) (f.prot p) }
theorem Fm.hold {s : Shared} {v : Value} (f : k.Fm xs μ ρ s) (h : Den xs s.heap v d) : ({ k with eta := (v, d) :: k.eta } : Kx).Fm xs μ ρ s :=
  { f with held := fun p hp => (List.mem_cons.mp hp).elim (fun e => e ▸ h) (f.held p) }
theorem Fm.unprotect {s : Shared} {p : Addr × Obj} {π : List (Addr × Obj)} (f : ({ k with pi := p :: π } : Kx).Fm xs μ ρ s) : ({ k with pi := π } : Kx).Fm xs μ ρ s := { f with prot := fun q hq => f.prot q (.tail _ hq) }
theorem Fm.unhold {s : Shared} {p : Value × PyData} {η : List (Value × PyData)} (f : ({ k with eta := p :: η } : Kx).Fm xs μ ρ s) : ({ k with eta := η } : Kx).Fm xs μ ρ s := { f with held := fun q hq => f.held q (.tail _ hq) }

/-- what an assignment to a target leaves -/
def As (k : Kx) (xs : List Addr) (μ : Mu) (ρ : Rho) (target : Expr) (d : PyData) (ρ' : Rho) : Prop :=
  ∀ s E v, k.Fm xs μ ρ s → Den xs s.heap v d → wpAny k.M k.A (assign target k.env v) (fun _ s' => k.Fm xs μ ρ' s' ∧ NonDC s s') E s
theorem As.name {x : Str} (hx : Stores k x) (hm : ∀ m ∈ μ, m.1 ≠ x) : As k xs μ ρ (.Name x pos) d ((x, d) :: ρ) := fun s E v f hv => wpAny_assign_Name (wm (f.store hx hv hm) fun _ _ q => ⟨q.1, q.2.1⟩)
theorem As.tup2 {x y : Str} {px py : Pos} {n : Nat} (hh : k.A.handled = none) (hx : Stores k x) (hy : Stores k y) (hmx : ∀ m ∈ μ, m.1 ≠ x) (hmy : ∀ m ∈ μ, m.1 ≠ y) :
    As k xs μ ρ (.Tuple [.Name x px, .Name y py] n pos) (.tuple [a, b]) ((y, b) :: (x, a) :: ρ) := fun s E v f hv => by
  cases hv with | @tuple t vs _ ht hit hd =>
  obtain ⟨l⟩ := vs
  cases hd with | @cons v₁ _ _ _ h1 h2 =>
  cases h2 with | @cons v₂ _ _ _ h2 h3 =>
  cases h3
  refine wpAny_assign_Tuple hh hit rfl rfl fun h₁ he₁ => ?_
  have st : k.Step s { s with heap := h₁ } := Step.of_keeps fun b o e => he₁ b o (Nat.ne_of_lt (Heap.lt_size e)) e
  have f₁ := f.step st
  have n₁ : NonDC s { s with heap := h₁ } := fun b o _ _ e => he₁ b o (Nat.ne_of_lt (Heap.lt_size e)) e
  refine assignInOrder_cons ?_
  refine wpAny_assign_Name (wm ((f₁.hold (h2.keep (st.seq f.sub))).store (k := { k with eta := (v₂, b) :: k.eta }) hx (h1.keep (st.seq f.sub)) hmx) fun _ s₂ ⟨f₂, n₂, _⟩ => ?_)
  refine assignInOrder_cons ?_
  have hv2 : Den xs s₂.heap v₂ b := f₂.held _ (.head _)
  exact wpAny_assign_Name (wm (Fm.store (k := k) f₂.unhold hy hv2 hmy) fun _ s₃ f₃ => assignInOrder_nil ⟨f₃.1, (n₁.trans n₂).trans f₃.2.1⟩)

theorem forLoop_gen {prog : Program} {w : World} {A : Around} {R : Result → Shared → Prop} {s : Shared} {target : Expr} {it : Value} {body orelse : List Stmt} {env : Env} (I : Nat → Shared → Prop)
    (turn : ∀ n s, I n s → wpAny (model prog w) A (pyNext it) (fun r s₁ => match r with
      | none => wpAny (model prog w) A (execs orelse env) (fun f s₃ => R (.ok f) s₃) (notedBy (model prog w) A env fun e s' => R (.error e) s') s₁
      | some v => wpAny (model prog w) A (letOwnedTupleGo target it v) (fun _ s₀ => wpAny (model prog w) A (assign target env v) (fun _ s₂ => wpAny (model prog w) A (execs body env) (fun f s₃ => match f with
          | .next | .cont => ∃ m, m < n ∧ I m s₃
          | .brk => R (.ok .next) s₃
          | .ret v => R (.ok (.ret v)) s₃) (notedBy (model prog w) A env fun e s' => R (.error e) s') s₂) (notedBy (model prog w) A env fun e s' => R (.error e) s') s₀) (notedBy (model prog w) A env fun e s' => R (.error e) s') s₁) (notedBy (model prog w) A env fun e s' => R (.error e) s') s)
    (n : Nat) (h : I n s) : codeAny (model prog w) A (.forLoop target it body orelse env) R s := by
  refine codeAny_loop' rfl I (fun n s hI => ?_) n h
  show wpAny _ _ ((forTurn target it body orelse env).onRaise (fun x => do noteFrame x env; theTreesLotGoes x)) _ _ s
  refine wpAny_noted ?_
  simp only [forTurn]
  refine wpAny_bind (wpAny_standAt (wpAny_bind (wpAny_onRaise (wpAny_mono (turn n s hI) (fun r s₁ h₁ => ?_) fun _ _ h' => wpAny_standAt h'))))
  cases r with
  | none => exact wpAny_pure (.inr ⟨rfl, codeAny_block h₁⟩)
  | some v =>
    refine wpAny_bind (wpAny_mono h₁ (fun _ s₀ h₀ => ?_) fun _ _ h' => h')
    refine wpAny_bind (wpAny_mono h₀ (fun _ s₂ h₂ => wpAny_bind (wpAny_mono h₂ (fun f s₃ h₃ => ?_) fun _ _ h' => h')) fun _ _ h' => h')
    cases f with
    | next => exact wpAny_pure (.inl ⟨rfl, h₃⟩)
    | cont => exact wpAny_pure (.inl ⟨rfl, h₃⟩)
    | brk => exact wpAny_pure h₃
    | ret v => exact wpAny_pure h₃

/-- an expression whose value is walked through as ds -/
def Itb (k : Kx) (xs : List Addr) (μ : Mu) (ρ : Rho) (e : Expr) (ds : List PyData) : Prop :=
  ∀ s E, k.Fm xs μ ρ s → wpAny k.M k.A (eval e k.env) (fun v s₁ => k.Step s s₁ ∧ ∀ E', wpAny k.M k.A (pyIter v) (fun it s₂ => k.Step s₁ s₂ ∧ ∃ I, it = .ref I ∧ s₁.heap.objs.size ≤ I ∧ ItAt xs s₂.heap I ds) E' s₁) E s
theorem Itb.list {e : Expr} {ds : List PyData} (h : Ev k xs μ ρ e (.list ds)) : Itb k xs μ ρ e ds := fun s E f => wm (h s E f) fun v s₁ ⟨st, d⟩ => ⟨st, fun E' => by
  cases d with | list ha hl hd =>
  refine wpAny_pyIter_list hl ⟨Step.push, _, rfl, Nat.le_refl _, ?_⟩
  have keep : ∀ (h : Heap) (o' : Obj) b o, h.get? b = some o → (h.push o').get? b = some o := fun h o' b o e => Heap.get?_push_of_some _ e
  exact .list (i := 0) ⟨_, Heap.get?_push_size _ rfl, rfl, rfl⟩ ha (let ⟨o, ho, r⟩ := hl; ⟨o, Heap.get?_push_of_some _ ho, r⟩) (hd.keep fun b o _ e _ => Heap.get?_push_of_some _ e)⟩

/-- the same, the iterator made at any time since -/
def Itw (k : Kx) (xs : List Addr) (μ : Mu) (ρ : Rho) (e : Expr) (ds : List PyData) : Prop :=
  ∀ s E, k.Fm xs μ ρ s → wpAny k.M k.A (eval e k.env) (fun v s₁ => k.Step s s₁ ∧ ∀ E', wpAny k.M k.A (pyIter v) (fun it s₂ => k.Step s₁ s₂ ∧ ∃ I, it = .ref I ∧ (I ∉ xs ∧ s.heap.get? I = none ∧ k.S.heap.objs.size ≤ I) ∧ ItAt xs s₂.heap I ds) E' s₁) E s
theorem Itb.w {e : Expr} {ds : List PyData} (h : Itb k xs μ ρ e ds) : Itw k xs μ ρ e ds := fun s E f => wm (h s E f) fun v s₁ ⟨st, q⟩ => ⟨st, fun E' => wm (q E') fun it s₂ ⟨st₂, I, e, hI, hit⟩ => ⟨st₂, I, e, by
  have f₁ := f.step st
  refine ⟨fun q => Nat.lt_irrefl _ (Nat.lt_of_lt_of_le (f₁.below _ q) hI), ?_, Nat.le_trans f₁.bsz hI⟩
  cases q : s.heap.get? I with
  | none => rfl
  | some o =>
    exfalso
    by_cases q2 : I ∈ k.ts
    · exact Nat.lt_irrefl _ (Nat.lt_of_lt_of_le (f₁.below _ (f₁.sub _ q2)) hI)
    · exact Nat.lt_irrefl _ (Nat.lt_of_lt_of_le (Heap.lt_size (st.keep _ o q2 q)) hI), hit⟩⟩
theorem Xs.for {target e : Expr} {body rest : List Stmt} {R : RP} {T : PyData → Prop} {ds : List PyData} (Inv : List PyData → Mu → Rho → Prop) (hh : k.A.handled = none) (he : Itw k xs μ ρ e ds) (h0 : Inv ds μ ρ)
    (hstep : ∀ d r μ ρ π η, Inv (d :: r) μ ρ → ∃ ρ₁, As { k with pi := π, eta := η } xs μ ρ target d ρ₁ ∧ Xs { k with pi := π, eta := η } xs μ ρ₁ body (fun xs' μ' ρ' => xs' = xs ∧ Inv r μ' ρ') T)
    (hend : ∀ μ ρ, Inv [] μ ρ → Xs k xs μ ρ rest R T) (hs : ∀ x, foldedSetIterable e k.env x = pure x := by intro _; rfl) : Xs k xs μ ρ (.For target e body [] pos :: rest) R T := fun s E f => by
  refine Xs.first (wpAny_For (wm (he s E f) fun v s₁ ⟨st₁, hi⟩ => wm (hi E) fun it s₂ ⟨st₂, I, e, ⟨hI1, hI0, hI2⟩, hit⟩ => ?_) hs)
  subst e
  have f₁ := f.step st₁
  have f₂ := f₁.step st₂
  have hI3 : I ≠ k.env.locals := fun q => by
    obtain ⟨m, o, _, _, ho, _⟩ := f.ns
    rw [← q, hI0] at ho; cases ho
  have hI4 : ∀ p ∈ k.pi, p.1 ≠ I := fun p hp q => by
    have := (f.prot p hp).1
    rw [q, hI0] at this; cases this
  refine forLoop_gen (fun n s' => ∃ r μ' ρ', n = r.length ∧ Inv r μ' ρ' ∧ k.Fm xs μ' ρ' s' ∧ ItAt xs s'.heap I r) (fun n s' ⟨r, μ', ρ', hn, hinv, f', it'⟩ => ?_) ds.length ⟨ds, μ, ρ, rfl, h0, f₂, hit⟩
  have step : ∀ {h' : Heap} {tk : Nat}, (∀ b o, b ≠ I → s'.heap.get? b = some o → h'.get? b = some o) → k.Fm xs μ' ρ' { s' with heap := h', toks := tk } := fun keep =>
    f'.other ⟨_, _, rfl⟩ keep hI2 hI3 (fun o ho => by
      obtain ⟨o', vs, h1, h2, h3, _⟩ := it'.obj
      rw [ho] at h1; cases h1
      exact ⟨h3, fun v q => (by rw [h2] at q; cases q), fun ⟨_, _, q⟩ => (by rw [h2] at q; cases q)⟩) (fun m hm q => hI1 (q ▸ (f'.muts m.1 m.2.1 m.2.2 hm).1)) (fun q => (hI1 q).elim) hI4
  cases r with
  | nil =>
    refine next_end hh it' fun h' tk keep => ?_
    exact wpAny_execs_nil ⟨_, _, _, hend μ' ρ' hinv, step keep⟩
  | cons d r =>
    refine next_item it' fun v h' tk hv it₁ keep => ?_
    refine own_go it₁ ?_
    have fs := step (tk := tk) keep
    obtain ⟨o, vs, ho, hd, hp, _⟩ := it₁.obj
    have nd : (∀ es ep, o.data ≠ .dict es ep) ∧ ∀ v, o.data ≠ .cell v := by rw [hd]; exact ⟨nofun, nofun⟩
    have fp := fs.protect ho hI1 nd.1 nd.2
    cases it₁ with
    | @list l i us es h1 h2 h3 h4 =>
      have fh := Fm.hold (k := { k with pi := (I, o) :: k.pi }) fp (.list h2 h3 h4)
      obtain ⟨ρ₁, ha, hb⟩ := hstep d _ μ' ρ' ((I, o) :: k.pi) ((.ref l, .list es) :: k.eta) hinv
      refine wm (ha _ _ v fh hv) fun _ s₂ ⟨f₂, _⟩ => wm (hb s₂ _ f₂) fun fl s₃ q => ?_
      cases fl with
      | next =>
        obtain ⟨_, μ'', ρ'', ⟨rfl, hinv'⟩, f₃⟩ := q
        refine ⟨_, Nat.lt_of_lt_of_eq (Nat.lt_succ_self _) hn.symm, _, μ'', ρ'', rfl, hinv', Fm.unprotect (k := k) (p := (I, o)) (π := k.pi) (Fm.unhold (k := { k with pi := (I, o) :: k.pi }) (p := (.ref l, .list es)) (η := k.eta) f₃), ?_⟩
        have hd3 := f₃.held _ (.head _)
        cases hd3 with | list g1 g2 g3 =>
        refine .list ?_ g1 g2 g3
        obtain ⟨o', ho', r⟩ := h1
        have ho : h'.get? I = some o := ho
        rw [ho] at ho'; cases ho'
        exact ⟨o, (f₃.prot _ (.head _)).1, r⟩
      | ret v => exact q
      | brk => exact q.elim
      | cont => exact q.elim
    | @range x stp n h1 =>
      obtain ⟨ρ₁, ha, hb⟩ := hstep d _ μ' ρ' ((I, o) :: k.pi) k.eta hinv
      refine wm (ha _ _ v fp hv) fun _ s₂ ⟨f₂, _⟩ => wm (hb s₂ _ f₂) fun fl s₃ q => ?_
      cases fl with
      | next =>
        obtain ⟨_, μ'', ρ'', ⟨rfl, hinv'⟩, f₃⟩ := q
        refine ⟨_, Nat.lt_of_lt_of_eq (Nat.lt_succ_self _) hn.symm, _, μ'', ρ'', rfl, hinv', Fm.unprotect (k := k) (p := (I, o)) (π := k.pi) f₃, .range ?_⟩
        have ho : h'.get? I = some o := ho
        have h1' : h'.get? I = _ := h1
        rw [ho] at h1'; cases h1'
        exact (f₃.prot _ (.head _)).1
      | ret v => exact q
      | brk => exact q.elim
      | cont => exact q.elim
    | @rev l i us es h1 h2 h3 h4 h5 =>
      have fh := Fm.hold (k := { k with pi := (I, o) :: k.pi }) fp (.list h2 h3 h4)
      obtain ⟨ρ₁, ha, hb⟩ := hstep d _ μ' ρ' ((I, o) :: k.pi) ((.ref l, .list es) :: k.eta) hinv
      refine wm (ha _ _ v fh hv) fun _ s₂ ⟨f₂, _⟩ => wm (hb s₂ _ f₂) fun fl s₃ q => ?_
      cases fl with
      | next =>
        obtain ⟨_, μ'', ρ'', ⟨rfl, hinv'⟩, f₃⟩ := q
        refine ⟨_, Nat.lt_of_lt_of_eq (Nat.lt_succ_self _) hn.symm, _, μ'', ρ'', rfl, hinv', Fm.unprotect (k := k) (p := (I, o)) (π := k.pi) (Fm.unhold (k := { k with pi := (I, o) :: k.pi }) (p := (.ref l, .list es)) (η := k.eta) f₃), ?_⟩
        have hd3 := f₃.held _ (.head _)
        cases hd3 with | list g1 g2 g3 =>
        refine .rev ?_ g1 g2 g3 h5
        obtain ⟨o', ho', r⟩ := h1
        have ho : h'.get? I = some o := ho
        rw [ho] at ho'; cases ho'
        exact ⟨o, (f₃.prot _ (.head _)).1, r⟩
      | ret v => exact q
      | brk => exact q.elim
      | cont => exact q.elim
end

end Mine
namespace Mine
open PySem PySem.W PySem.Calls PyProof.Rows

theorem compTurn_gen (elt target iter : Expr) (ifs : List Expr) (scope : Scope) (pos : Pos) (it acc : Value) (env : Env) :
    compTurn (.ListComp elt [⟨target, iter, ifs, 0⟩] scope pos) 0 it acc env = (standAt iter.pos >>= fun _ => pyNext it >>= fun r => match r with
      | none => pure (.done .next)
      | some v => letOwnedTupleGo target it v >>= fun _ => assign target env v >>= fun _ => do
        let ok ← forIn ifs true fun c r => if r = true then do let ok ← isTrue c env (eval c env); pure (ForInStep.yield ok) else pure (ForInStep.yield r)
        if ok then
          (do let _ ← call (.builtin "list.append") [acc, ← eval elt env])
        again (.compLoop (.ListComp elt [⟨target, iter, ifs, 0⟩] scope pos) 0 it acc env)) := compTurn_list elt target iter ifs scope pos it acc env

theorem compLoop_gen {prog : Program} {w : World} {A : Around} {elt target iter : Expr} {ifs : List Expr} {scope : Scope} {pos : Pos} {it acc : Value} {env : Env} {R : Result → Shared → Prop} {s : Shared} (I : Nat → Shared → Prop)
    (turn : ∀ n s, I n s → wpAny (model prog w) A (pyNext it) (fun r s₁ => match r with
      | none => R (.ok .next) s₁
      | some v => wpAny (model prog w) A (letOwnedTupleGo target it v) (fun _ s₀ => wpAny (model prog w) A (assign target env v) (fun _ s₂ =>
          wpAny (model prog w) A (forIn ifs true fun c r => if r = true then do let ok ← isTrue c env (eval c env); pure (ForInStep.yield ok) else pure (ForInStep.yield r)) (fun ok s₃ =>
            if ok = true then wpAny (model prog w) A (eval elt env) (fun x s₄ =>
              wpAny (model prog w) A (call (.builtin "list.append") [acc, x]) (fun _ s₅ => ∃ m, m < n ∧ I m s₅) (notedBy (model prog w) A env fun e s' => R (.error e) s') s₄) (notedBy (model prog w) A env fun e s' => R (.error e) s') s₃
            else ∃ m, m < n ∧ I m s₃) (notedBy (model prog w) A env fun e s' => R (.error e) s') s₂) (notedBy (model prog w) A env fun e s' => R (.error e) s') s₀) (notedBy (model prog w) A env fun e s' => R (.error e) s') s₁) (notedBy (model prog w) A env fun e s' => R (.error e) s') s)
    (n : Nat) (h : I n s) : codeAny (model prog w) A (.compLoop (.ListComp elt [⟨target, iter, ifs, 0⟩] scope pos) 0 it acc env) R s := by
  refine codeAny_loop rfl I (fun n s hI => ?_) n h
  show wpAny _ A ((compTurn (.ListComp elt [⟨target, iter, ifs, 0⟩] scope pos) 0 it acc env).onRaise (fun x => do noteFrame x env; theTreesLotGoes x)) _ _ s
  refine wpAny_noted ?_
  rw [compTurn_gen]
  refine wpAny_bind (wpAny_standAt (wpAny_bind (wpAny_mono (turn n s hI) (fun r s₁ h₁ => ?_) fun _ _ h' => h')))
  cases r with
  | none => exact wpAny_pure h₁
  | some v =>
    refine wpAny_bind (wpAny_mono h₁ (fun _ s₀ h₀' => ?_) fun _ _ h' => h')
    refine wpAny_bind (wpAny_mono h₀' (fun _ s₂ h₂ => wpAny_bind (wpAny_mono h₂ (fun ok s₃ h₃ => ?_) fun _ _ h' => h')) fun _ _ h' => h')
    cases ok with
    | false => exact wpAny_pure ⟨rfl, h₃⟩
    | true =>
      exact wpAny_bind (wpAny_bind (wpAny_mono h₃ (fun x s₄ h₄ => wpAny_bind (wpAny_mono h₄ (fun _ s₅ h₅ => wpAny_pure (wpAny_pure ⟨rfl, h₅⟩)) fun _ _ h' => h')) fun _ _ h' => h'))

abbrev Kx.comp (k : Kx) (scope : Scope) (cl : List (Str × Addr)) (xs : List Addr) (S : Shared) (C : Addr) : Kx := ⟨k.prog, k.w, k.tabs, k.G, S, xs, k.A, compEnvC scope cl C k.env, [], []⟩

def Tes (k : Kx) (xs : List Addr) (μ : Mu) (ρ : Rho) (ifs : List Expr) (b : Bool) : Prop :=
  ∀ s E, k.Fm xs μ ρ s → wpAny k.M k.A (forIn ifs true fun c r => if r = true then do let ok ← isTrue c k.env (eval c k.env); pure (ForInStep.yield ok) else pure (ForInStep.yield r)) (fun r s' => k.Step s s' ∧ r = b) E s

section
variable {k : Kx} {xs : List Addr} {μ : Mu} {ρ ρ' : Rho} {a b d : PyData} {pos : Pos}
theorem Tes.nil : Tes k xs μ ρ [] true := fun s E f => wpAny_pure ⟨Step.refl, rfl⟩
theorem Tes.one {c : Expr} {r : Bool} (h : Tr k xs μ ρ c r) : Tes k xs μ ρ [c] r := fun s E f => wpAny_tests_one (h s E f)

theorem ltN {a b : Nat} (h : a < b) : a < b := h
theorem relabel_cell {env : Env} {x : Str} : ∀ {names : List (Str × NameKind)}, (∀ y ∈ names, y.2 ≠ .cell) →
    (names.map fun (n, k) => if (k == NameKind.free && env.scope.kind == .function && env.kindOf n == some .cell) then (n, NameKind.cell) else (n, k)).lookup x = some .cell → env.kindOf x = some .cell
  | [], _, h => by simp at h
  | (n, k) :: r, hc, h => by
    have ih := @relabel_cell env x r fun y hy => hc y (.tail _ hy)
    have h' : List.lookup x ((if (k == NameKind.free && env.scope.kind == .function && env.kindOf n == some .cell) = true then (n, NameKind.cell) else (n, k)) :: r.map fun (n, k) => if (k == NameKind.free && env.scope.kind == .function && env.kindOf n == some .cell) then (n, NameKind.cell) else (n, k)) = some .cell := h
    by_cases q : (k == NameKind.free && env.scope.kind == .function && env.kindOf n == some .cell) = true
    · rw [if_pos q, List.lookup_cons] at h'
      cases hx : x == n with
      | true =>
        rw [beq_iff_eq.mp hx]
        simp only [Bool.and_eq_true, beq_iff_eq] at q
        exact q.2
      | false => rw [hx] at h'; exact ih h'
    · rw [if_neg q, List.lookup_cons] at h'
      cases hx : x == n with
      | true => rw [hx] at h'; cases h'; exact absurd rfl (hc _ (.head _))
      | false => rw [hx] at h'; exact ih h'
/-- the names that a comprehension's scope takes from the frame around it -/
structure CompScope (k : Kx) (scope : Scope) (cl : List (Str × Addr)) (ρ ρ₂ : Rho) : Prop where
  clos : closureFor scope k.env = pure cl
  cell : ∀ y ∈ scope.names, y.2 ≠ .cell
  kind : scope.kind = .function
  names : ∀ y ∈ scope.names, y.2 = .local → scope.names.lookup y.1 = some .local
  cls : ∀ x c, cl.lookup x = some c → k.env.cells.lookup x = some c
  vars : ∀ x d, ρ₂.lookup x = some d → ρ.lookup x = some d ∧ k.env.kindOf x ≠ some .local ∧ (cl.lookup x).isSome = true ∧ ((relabel scope k.env).names.lookup x = some .cell ∨ ((relabel scope k.env).names.lookup x = some .free ∧ (x == ("__classdict__" : Str)) = false))

/-- a new list -/
def DenP (xs : List Addr) (h : Heap) (v : Value) (ds : List PyData) : Prop := ∃ D ys, v = .ref D ∧ D ∉ xs ∧ h.PlainList D ys ∧ DenAll xs h ys.toList ds
theorem DenP.den {h : Heap} {v : Value} {ds : List PyData} : DenP xs h v ds → Den xs h v (.list ds)
  | ⟨_, _, e, h1, h2, h3⟩ => e ▸ .list h1 h2.isList h3
theorem DenP.keep {h h' : Heap} {v : Value} {ds : List PyData} (k : SeqKeep xs h h') : DenP xs h v ds → DenP xs h' v ds
  | ⟨D, ys, e, h1, ⟨n, h2⟩, h3⟩ => ⟨D, ys, e, h1, ⟨n, k _ _ h1 h2 ⟨_, _, rfl⟩⟩, h3.keep k⟩
def EvPl (k : Kx) (xs : List Addr) (μ : Mu) (ρ : Rho) (e : Expr) (ds : List PyData) : Prop :=
  ∀ s E, k.Fm xs μ ρ s → wpAny k.M k.A (eval e k.env) (fun v s' => k.Step s s' ∧ DenP xs s'.heap v ds) E s
theorem EvPl.ev {e : Expr} {ds : List PyData} (h : EvPl k xs μ ρ e ds) : Ev k xs μ ρ e (.list ds) := fun s E f => wm (h s E f) fun _ _ q => ⟨q.1, q.2.den⟩
theorem comp_core {elt target iter : Expr} {ifs : List Expr} {scope : Scope} {cl : List (Str × Addr)} {ds : List PyData} {ρ₂ : Rho} (p : PyData → Bool) (F : PyData → PyData) {s : Shared} {E : Value → Shared → Prop} {Q : Value → Shared → Prop} {use : Option (Value → Sem Unit)}
    (f : k.Fm xs μ ρ s) (hh : k.A.handled = none) (he : Itb k xs μ ρ iter ds) (hsz : ds.length ≤ 10000) (cs : CompScope k scope cl ρ ρ₂) (hs : ∀ x, foldedSetIterable iter k.env x = pure x)
    (hbody : ∀ d ∈ ds, ∀ S C xs', ∃ ρ', (∀ x e, ρ₂.lookup x = some e → ρ'.lookup x = some e) ∧ As (k.comp scope cl xs S C) xs' [] ρ₂ target d ρ' ∧ Tes (k.comp scope cl xs S C) xs' [] ρ' ifs (p d) ∧ (p d = true → Ev (k.comp scope cl xs S C) xs' [] ρ' elt (F d)))
    (hQ : ∀ s₁ D C m, k.Step s s₁ → DenP xs s₁.heap (.ref D) ((ds.filter p).map F) → s₁.heap.Ns C m → C ≠ k.env.locals → (∀ v, ¬ s.heap.IsCell C v) → s.heap.get? C = Option.none → k.S.heap.objs.size ≤ C → compPost k.M k.A E use Q (.ref D) C (.ok .next) s₁) :
    wpAny k.M k.A (comprehension (.ListComp elt [⟨target, iter, ifs, 0⟩] scope pos) scope k.env (firstIterPos [⟨target, iter, ifs, 0⟩] pos) (newList []) false (eval iter k.env) use) Q E s := by
  refine wpAny_comprehension_free rfl hs cs.clos cs.kind cs.names (wm (he s E f) fun v s₁ ⟨st₁, hi⟩ => wm (hi E) fun it s₂ ⟨st₂, I, e, hI, hit⟩ => ?_)
  subst e
  have f₁ := f.step st₁
  have f₂ := f₁.step st₂
  refine wpAny_newObj_type (wpAny_newFunctionEnv cs.cell (by intro y hy; simp at hy) (fun h₁ hns₁ hsb₁ => ?_) cs.kind)
  dsimp only at hns₁ hsb₁ ⊢
  generalize hH2 : s₂.heap.push { cls := .type "list", dict := none, data := .seq ([] : List Value).toArray } = H2 at hns₁ hsb₁ ⊢
  have hC : H2.objs.size = s₂.heap.objs.size + 1 := by rw [← hH2, Heap.size_push]
  have hDC : s₂.heap.objs.size ≠ H2.objs.size := by rw [hC]; exact Nat.ne_of_lt (Nat.lt_succ_self _)
  have old : ∀ b o, s₂.heap.get? b = some o → h₁.get? b = some o := fun b o e => hsb₁.extBut b o (by rw [hC]; exact Nat.ne_of_lt (Nat.lt_succ_of_lt (Heap.lt_size e))) (Heap.get?_push_of_some _ (hH2 ▸ Heap.get?_push_of_some _ e))
  have hacc : h₁.PlainList s₂.heap.objs.size #[] := ⟨_, hsb₁.extBut _ _ hDC (Heap.get?_push_of_some _ (hH2 ▸ Heap.get?_push_size _ rfl))⟩
  generalize hDd : s₂.heap.objs.size = D at hacc hDC hC ⊢
  generalize hCc : H2.objs.size = C at hns₁ hsb₁ hDC hC ⊢
  have sz : s₁.heap.objs.size ≤ D := by
    obtain ⟨o, vs, ho, _⟩ := hit.obj
    have := ltN (Heap.lt_size ho)
    rw [← hDd]; exact Nat.le_of_lt (Nat.lt_of_le_of_lt hI this)
  have hID : I ≠ D := fun q => by
    obtain ⟨o, vs, ho, _⟩ := hit.obj
    have := ltN (Heap.lt_size ho)
    rw [hDd, q] at this
    exact Nat.lt_irrefl _ this
  have hIC : I ≠ C := fun q => by
    obtain ⟨o, vs, ho, _⟩ := hit.obj
    have := ltN (Heap.lt_size ho)
    rw [hDd, q] at this
    omega
  have none_of : ∀ {h : Heap} {x : Addr}, h.objs.size ≤ x → h.get? x = none := fun {h x} hx => by
    cases e : h.get? x with
    | none => rfl
    | some o => exact absurd (Heap.lt_size e) (Nat.not_lt.mpr hx)
  have hD0 : s₂.heap.get? D = none := none_of (Nat.le_of_eq hDd)
  -- values known before D lies there do not reach it
  have shiftD : ∀ {v d}, Den xs s₂.heap v d → Den (D :: xs) s₂.heap v d := fun q => q.shift fun a ha ⟨o, _, _, ho, _⟩ hm => by
    rcases List.mem_cons.mp hm with rfl | hm
    · rw [hD0] at ho; cases ho
    · exact ha hm
  have shiftDs : ∀ {vs ds}, DenAll xs s₂.heap vs ds → DenAll (D :: xs) s₂.heap vs ds := fun q => q.shift fun a ha ⟨o, _, _, ho, _⟩ hm => by
    rcases List.mem_cons.mp hm with rfl | hm
    · rw [hD0] at ho; cases ho
    · exact ha hm
  have hxD : D ∉ xs := fun q => by have := ltN (f₂.below D q); omega
  have hIx : I ∉ D :: xs := fun q => by
    rcases List.mem_cons.mp q with q | q
    · exact hID q
    · exact Nat.lt_irrefl _ (Nat.lt_of_lt_of_le (f₁.below _ q) hI)
  have hit2 : ItAt (D :: xs) h₁ I ds := by
    have h2 : ItAt (D :: xs) s₂.heap I ds := by
      cases hit with
      | @list l i us es g1 g2 g3 g4 =>
        refine .list g1 (fun q => ?_) g3 (shiftDs g4)
        rcases List.mem_cons.mp q with rfl | q
        · obtain ⟨o, ho, _⟩ := g3; rw [hD0] at ho; cases ho
        · exact g2 q
      | range g => exact .range g
      | @rev l i us es g1 g2 g3 g4 g5 =>
        refine .rev g1 (fun q => ?_) g3 (shiftDs g4) g5
        rcases List.mem_cons.mp q with rfl | q
        · obtain ⟨o, ho, _⟩ := g3; rw [hD0] at ho; cases ho
        · exact g2 q
    exact h2.keep (fun o e => old _ _ e) fun b o _ e _ => old b o e
  have old1 : ∀ b o, b ∉ k.ts → s₁.heap.get? b = some o → h₁.get? b = some o := fun b o hb e => old b o (st₂.keep b o hb e)
  have CD : D < C := by omega
  have hCn : s.heap.get? C = Option.none := by
    cases e : s.heap.get? C with
    | none => rfl
    | some o =>
      exfalso
      by_cases q : C ∈ k.ts
      · have := ltN (f₁.below C (f₁.sub C q)); omega
      · have := ltN (Heap.lt_size (st₁.keep C o q e)); omega
  have f₃ : ∀ tk, (k.comp scope cl xs s₁ C).Fm (D :: xs) [] ρ₂ { s₂ with heap := h₁, toks := tk } := fun tk => by
    have holdsC : ∀ x d, ρ₂.lookup x = some d → ∃ v, Den (D :: xs) h₁ v d ∧ Holds k.ts (compEnvC scope cl C k.env) h₁ x v := fun x d e => by
      obtain ⟨e1, e2, e3, e4⟩ := cs.vars x d e
      obtain ⟨v, hv, hh⟩ := f₂.vars x d e1
      refine ⟨v, (shiftD hv).keep fun b o _ e _ => old b o e, ?_⟩
      rcases hh with ⟨q, _⟩ | ⟨_, c, h1, h2, o, ho, hd⟩
      · exact absurd q e2
      · obtain ⟨c', hc'⟩ := Option.isSome_iff_exists.mp e3
        have h1' := cs.cls _ _ hc'
        rw [h1] at h1'; cases h1'
        exact .inr ⟨e4, c, hc', h2, o, old _ _ ho, hd⟩
    refine ⟨cs.kind, ?_, fun b o e => ⟨(f₂.wd b o e).1, old b o (f₂.wd b o e).2⟩, f₂.tab.keep fun b o _ e => old b o e, old1, ?_, f₁.gsz, ⟨_, hns₁⟩, f₁.below, f₁.sub, fun y hy hn => ?_, fun y hy => .tail _ hy,
      fun x c h1 h2 h3 => ?_, fun x y c h1 h2 => f₂.apart x y c (cs.cls _ _ h1) (cs.cls _ _ h2), holdsC, fun _ _ _ q => (nomatch q), fun _ q => (nomatch q), fun _ q => (nomatch q)⟩
    · obtain ⟨h, tk', rfl⟩ := st₂.same
      exact ⟨_, _, rfl⟩
    · show s₁.heap.objs.size ≤ C; omega
    · rcases List.mem_cons.mp hy with rfl | hy
      · obtain ⟨n, q⟩ := hacc; exact ⟨_, q⟩
      · obtain ⟨o, ho⟩ := f₂.alive y hy hn; exact ⟨o, old _ _ ho⟩
    · obtain ⟨v, q⟩ := f₁.cells x c (cs.cls _ _ h1) (relabel_cell cs.cell h2) (Nat.le_trans f₁.bsz h3)
      exact absurd q.lt (Nat.not_lt.mpr h3)
  have loop : ∀ tk, codeAny k.M k.A (.compLoop (.ListComp elt [⟨target, iter, ifs, 0⟩] scope pos) 0 (.ref I) (.ref D) (compEnvC scope cl C k.env)) (compPost k.M k.A E use Q (.ref D) C) { s₂ with heap := h₁, toks := tk } := fun tk => by
    refine compLoop_gen (fun n s' => ∃ r done ys, n = r.length ∧ ds = done ++ r ∧ (k.comp scope cl xs s₁ C).Fm (D :: xs) [] ρ₂ s' ∧ ItAt (D :: xs) s'.heap I r ∧ s'.heap.PlainList D ys ∧ DenAll (D :: xs) s'.heap ys.toList ((done.filter p).map F))
      (fun n s' ⟨r, done, ys, hn, hds, f', it', acc', hys⟩ => ?_) ds.length ⟨ds, [], #[], rfl, rfl, f₃ tk, hit2, hacc, .nil⟩
    have hID' : ∀ {h' : Heap} {tk : Nat}, (∀ b o, b ≠ I → s'.heap.get? b = some o → h'.get? b = some o) → (k.comp scope cl xs s₁ C).Fm (D :: xs) [] ρ₂ { s' with heap := h', toks := tk } := fun keep =>
      f'.other ⟨_, _, rfl⟩ keep hI hIC (fun o ho => by
        obtain ⟨o', vs, h1, h2, h3, _⟩ := it'.obj
        rw [ho] at h1; cases h1
        exact ⟨h3, fun v q => (by rw [h2] at q; cases q), fun ⟨_, _, q⟩ => (by rw [h2] at q; cases q)⟩) (fun _ hm => nomatch hm) (fun q => (hIx q).elim) (fun _ hm => nomatch hm)
    have skI : ∀ {h' : Heap}, (∀ b o, b ≠ I → s'.heap.get? b = some o → h'.get? b = some o) → SeqKeep (D :: xs) s'.heap h' := fun keep b o hb e ⟨_, _, hd⟩ => keep b o (fun q => by
      obtain ⟨o', vs, h1, h2, h3, _⟩ := it'.obj
      rw [q, h1] at e; cases e
      rw [h2] at hd; cases hd) e
    cases r with
    | nil =>
      refine next_end hh it' fun h' tk' keep => ?_
      have f'' := hID' (tk := tk') keep
      obtain ⟨m, hm⟩ := f''.ns
      have hac : h'.PlainList D ys := let ⟨n, q⟩ := acc'; ⟨n, keep _ _ (Ne.symm hID) q⟩
      rw [List.append_nil] at hds
      refine hQ _ D C m ⟨?_, fun b o hb e => f''.base b o hb (st₁.keep b o hb e), fun _ => f''.tab⟩ ⟨D, ys, rfl, hxD, hac, ?_⟩ hm ?_ ?_ ?_ ?_
      · obtain ⟨h1, tk1, rfl⟩ := st₁.same
        obtain ⟨h2, tk2, q⟩ := f''.same
        exact ⟨h2, tk2, q⟩
      · rw [hds]
        exact (hys.keep (skI keep)).shift fun a ha _ q => ha (.tail _ q)
      · intro q
        obtain ⟨m1, q3⟩ := f₁.ns
        have h5 := ltN q3.lt
        rw [← q] at h5
        omega
      · intro v ⟨o, ho, _⟩
        rw [hCn] at ho; cases ho
      · exact hCn
      · exact Nat.le_trans f₁.bsz (by show s₁.heap.objs.size ≤ C; omega)
    | cons d r =>
      refine next_item it' fun v h' tk' hv it₁ keep => ?_
      refine own_go it₁ ?_
      have fs := hID' (tk := tk') keep
      obtain ⟨ρ', hρ', ha, ht, hel⟩ := hbody d (by rw [hds]; simp) s₁ C (D :: xs)
      refine wm (ha _ _ v fs hv) fun _ s₄ ⟨f₄, n₄⟩ => ?_
      have hac : h'.PlainList D ys := let ⟨n, q⟩ := acc'; ⟨n, keep _ _ (Ne.symm hID) q⟩
      have hac4 : s₄.heap.PlainList D ys := let ⟨n, q⟩ := hac; ⟨n, n₄ _ _ nofun nofun q⟩
      have sk4 : SeqKeep (D :: xs) h' s₄.heap := fun b o _ e ⟨_, _, hd⟩ => n₄ b o (fun _ _ q => by rw [hd] at q; cases q) (fun _ q => by rw [hd] at q; cases q) e
      have it4 : ItAt (D :: xs) s₄.heap I r := it₁.keep (fun o e => by
        obtain ⟨o', vs, h1, h2, _⟩ := it₁.obj
        rw [e] at h1; cases h1
        exact n₄ _ _ (fun _ _ q => by rw [h2] at q; cases q) (fun _ q => by rw [h2] at q; cases q) e) sk4
      have hys4 := (hys.keep (skI keep)).keep sk4
      refine wm (ht _ _ f₄) fun ok s₅ ⟨st₅, e⟩ => ?_
      subst e
      have f₅ := f₄.step st₅
      have hac5 : s₅.heap.PlainList D ys := let ⟨n, q⟩ := hac4; ⟨n, st₅.keep _ _ (fun q => hxD (f₁.sub _ q)) q⟩
      have it5 : ItAt (D :: xs) s₅.heap I r := it4.keep (fun o e => st₅.keep _ _ (fun q => hIx (.tail _ (f₁.sub _ q))) e) (st₅.seq f₄.sub)
      have hys5 := hys4.keep (st₅.seq f₄.sub)
      cases hp : p d with
      | false =>
        simp only [Bool.false_eq_true, if_false]
        exact ⟨_, Nat.lt_of_lt_of_eq (Nat.lt_succ_self _) hn.symm, r, done ++ [d], ys, rfl, by simp [hds], f₅.weaken hρ', it5, hac5, by rw [List.filter_append]; simpa [hp] using hys5⟩
      | true =>
        simp only [if_true]
        refine wm (hel hp _ _ f₅) fun x s₆ ⟨st₆, hx⟩ => ?_
        have f₆ := f₅.step st₆
        have hac6 : s₆.heap.PlainList D ys := let ⟨n, q⟩ := hac5; ⟨n, st₆.keep _ _ (fun q => hxD (f₁.sub _ q)) q⟩
        have it6 : ItAt (D :: xs) s₆.heap I r := it5.keep (fun o e => st₆.keep _ _ (fun q => hIx (.tail _ (f₁.sub _ q))) e) (st₆.seq f₄.sub)
        have hys6 := hys5.keep (st₆.seq f₄.sub)
        have hlen : ys.size ≤ sizeLine := by
          have e1 := hys6.length
          have e2 : (done.filter p).length ≤ done.length := List.length_filter_le _ _
          have e3 : ds.length = done.length + (r.length + 1) := by rw [hds]; simp
          have e4 : ys.toList.length = ys.size := by simp
          have e5 : (10000 : Nat) ≤ sizeLine := by decide
          rw [List.length_map] at e1
          omega
        refine wpAny_list_append_plain (hsz := hlen) hac6 fun h₇ hl₇ hs₇ => ?_
        have sk7 : SeqKeep (D :: xs) s₆.heap h₇ := fun b o hb e _ => (hs₇.2 b (fun q => hb (q ▸ .head _))).trans e
        refine ⟨_, Nat.lt_of_lt_of_eq (Nat.lt_succ_self _) hn.symm, r, done ++ [d], ys.push x, rfl, by simp [hds], ?_, it6.keep (fun o e => (hs₇.2 _ hID).trans e) sk7, hl₇, ?_⟩
        · refine (Fm.other (s' := { s₆ with heap := h₇ }) (c := D) f₆ ⟨_, _, rfl⟩ (fun b o hb e => (hs₇.2 b hb).trans e) sz (Nat.ne_of_lt CD) (fun o ho => ?_) (fun _ hm => nomatch hm) (fun _ => let ⟨n, q⟩ := hl₇; ⟨_, q⟩) (fun _ hm => nomatch hm)).weaken hρ'
          obtain ⟨n, q⟩ := hac6
          rw [ho] at q; cases q
          exact ⟨nofun, nofun, fun _ => .head _⟩
        · rw [Array.toList_push, List.filter_append, List.map_append]
          refine (hys6.keep sk7).append ?_
          simp only [hp, List.filter_cons_of_pos, List.filter_nil, List.map_cons, List.map_nil]
          exact .cons (hx.keep sk7) .nil
  refine codeAny_compStart_list (loop _) ?_
  cases hit2 with
  | list g1 g2 g3 g4 => exact wpAny_pyIter_listiter g1 (loop _)
  | range g => exact wpAny_pyIter_rangeiter g (loop _)
  | rev g1 g2 g3 g4 g5 => exact wpAny_pyIter_revIter g1 (loop _)

theorem evCompPl {elt target iter : Expr} {ifs : List Expr} {scope : Scope} {cl : List (Str × Addr)} {ds : List PyData} {ρ₂ : Rho} (p : PyData → Bool) (F : PyData → PyData)
    (hh : k.A.handled = none) (he : Itb k xs μ ρ iter ds) (hsz : ds.length ≤ 10000) (cs : CompScope k scope cl ρ ρ₂)
    (hbody : ∀ d ∈ ds, ∀ S C xs', ∃ ρ', (∀ x e, ρ₂.lookup x = some e → ρ'.lookup x = some e) ∧ As (k.comp scope cl xs S C) xs' [] ρ₂ target d ρ' ∧ Tes (k.comp scope cl xs S C) xs' [] ρ' ifs (p d) ∧ (p d = true → Ev (k.comp scope cl xs S C) xs' [] ρ' elt (F d)))
    (hs : ∀ x, foldedSetIterable iter k.env x = pure x := by intro _; rfl) : EvPl k xs μ ρ (.ListComp elt [⟨target, iter, ifs, 0⟩] scope pos) ((ds.filter p).map F) := fun s E f => by
  rw [eval_ListComp]
  refine comp_core (use := Option.none) p F f hh he hsz cs hs hbody fun s₁ D C m st hd hm hC hC2 hC3 hge => ?_
  refine ⟨m, hm, fun h' hs' => ?_⟩
  obtain ⟨o, es, ep, ho, hod, _⟩ := hm
  have keep : ∀ b o, b ≠ C → s₁.heap.get? b = some o → h'.get? b = some o := fun b o hb e => (hs'.2 b hb).trans e
  refine ⟨⟨?_, fun b o hb e => keep _ _ (fun q => by rw [q, hC3] at e; cases e) (st.keep b o hb e), fun t => (st.tab t).keep fun b o' hp e => keep b o' (fun q => hp fun vs q2 => ?_) e⟩, hd.keep fun b o' hb e ⟨_, _, q2⟩ => keep b o' (fun q => ?_) e⟩
  · obtain ⟨h1, tk1, rfl⟩ := st.same; exact ⟨_, _, rfl⟩
  · rw [q, ho] at e; cases e; rw [hod] at q2; cases q2
  · rw [q, ho] at e; cases e; rw [hod] at q2; cases q2

theorem evComp {elt target iter : Expr} {ifs : List Expr} {scope : Scope} {cl : List (Str × Addr)} {ds : List PyData} {ρ₂ : Rho} (p : PyData → Bool) (F : PyData → PyData)
    (hh : k.A.handled = none) (he : Itb k xs μ ρ iter ds) (hsz : ds.length ≤ 10000) (cs : CompScope k scope cl ρ ρ₂)
    (hbody : ∀ d ∈ ds, ∀ S C xs', ∃ ρ', (∀ x e, ρ₂.lookup x = some e → ρ'.lookup x = some e) ∧ As (k.comp scope cl xs S C) xs' [] ρ₂ target d ρ' ∧ Tes (k.comp scope cl xs S C) xs' [] ρ' ifs (p d) ∧ (p d = true → Ev (k.comp scope cl xs S C) xs' [] ρ' elt (F d)))
    (hs : ∀ x, foldedSetIterable iter k.env x = pure x := by intro _; rfl) : Ev k xs μ ρ (.ListComp elt [⟨target, iter, ifs, 0⟩] scope pos) (.list ((ds.filter p).map F)) :=
  (evCompPl p F hh he hsz cs hbody hs).ev

/-- a comprehension whose list is bound to a name of the frame on the same line -/
theorem Xs.asgComp {x : Str} {px : Pos} {rest : List Stmt} {R : RP} {T : PyData → Prop} {elt target iter : Expr} {ifs : List Expr} {scope : Scope} {cpos : Pos} {cl : List (Str × Addr)} {ds : List PyData} {ρ₂ : Rho} (p : PyData → Bool) (F : PyData → PyData)
    (hh : k.A.handled = none) (he : Itb k xs μ ρ iter ds) (hsz : ds.length ≤ 10000) (cs : CompScope k scope cl ρ ρ₂)
    (hbody : ∀ d ∈ ds, ∀ S C xs', ∃ ρ', (∀ x e, ρ₂.lookup x = some e → ρ'.lookup x = some e) ∧ As (k.comp scope cl xs S C) xs' [] ρ₂ target d ρ' ∧ Tes (k.comp scope cl xs S C) xs' [] ρ' ifs (p d) ∧ (p d = true → Ev (k.comp scope cl xs S C) xs' [] ρ' elt (F d)))
    (hx : Stores k x) (hm : ∀ m ∈ μ, m.1 ≠ x) (h : Xs k xs μ ((x, .list ((ds.filter p).map F)) :: ρ) rest R T)
    (hsw : swapsWith (.ListComp elt [⟨target, iter, ifs, 0⟩] scope cpos) (some (.Name x px)) pos.line k.env = pure true := by rfl) (hs : ∀ x, foldedSetIterable iter k.env x = pure x := by intro _; rfl) :
    Xs k xs μ ρ (.Assign [.Name x px] (.ListComp elt [⟨target, iter, ifs, 0⟩] scope cpos) pos :: rest) R T := fun s E f => by
  refine Xs.first ?_
  rw [exec_Assign_Name_used _ _ _ _ hsw]
  refine wpAny_bind (wpAny_standAt (wpAny_bind ?_))
  show wpAny _ _ (do let _ ← comprehension (.ListComp elt [⟨target, iter, ifs, 0⟩] scope cpos) scope k.env _ (newList []) false (eval iter k.env) (some (assign (.Name x px) k.env))) _ _ s
  refine wpAny_bind (comp_core (Q := fun _ s' => wpAny k.M k.A (pure PUnit.unit) (fun a s' => wpAny k.M k.A (pure Flow.next) (Post k (fun xs' μ' ρ' => Xs k xs' μ' ρ' rest R T) T) E s') E s') (use := some (assign (.Name x px) k.env)) p F f hh he hsz cs hs hbody fun s₁ D C m st hd hmC hC hC2 hC3 hge => ?_)
  have f₁ := f.step st
  show wpAny _ _ (assign (.Name x px) k.env (.ref D)) _ _ _
  refine wpAny_assign_Name (wm (f₁.store hx hd.den hm) fun _ s₂ ⟨f₂, n₂, c, hs2, hc⟩ => ?_)
  obtain ⟨o, es, ep, ho, hod, r⟩ := id hmC
  have hCc : C ≠ c := fun q => by
    rcases hc with hc | ⟨v, o', ho', hd'⟩
    · exact hC (q.trans hc)
    · rw [← q, ho] at ho'; cases ho'; rw [hod] at hd'; cases hd'
  refine ⟨m, hmC.sameBut hs2 hCc, fun h' hs' => wpAny_pure (wpAny_pure ⟨_, _, _, h, ?_⟩)⟩
  have ho2 : s₂.heap.get? C = some o := (hs2.2 _ hCc).trans ho
  exact Fm.other (s' := { s₂ with heap := h' }) f₂ ⟨_, _, rfl⟩ (fun b o hb e => (hs'.2 b hb).trans e) hge hC (fun o' ho' => by
    rw [ho2] at ho'; cases ho'
    exact ⟨fun vs q => (by rw [hod] at q; cases q), fun v q => (by rw [hod] at q; cases q), fun ⟨_, _, q⟩ => (by rw [hod] at q; cases q)⟩) (fun mm hmm q => by
      obtain ⟨_, _, _, vs, ⟨n, ho'⟩, _⟩ := f₂.muts mm.1 mm.2.1 mm.2.2 hmm
      rw [q, ho2] at ho'; cases ho'; cases hod) (fun q => by
      exfalso
      by_cases q2 : C ∈ tsOf k.tabs
      · obtain ⟨t, h1, e⟩ := List.mem_map.mp q2
        obtain ⟨ps, h2, _⟩ := f.tab t h1
        rw [e, hC3] at h2; cases h2
      · obtain ⟨o', ho'⟩ := f.alive C q q2
        rw [hC3] at ho'; cases ho') (fun pp hpp q => by
      have h1 := f₂.prot pp hpp
      rw [q, ho2] at h1
      exact h1.2.2.1 es ep (by rw [← Option.some.inj h1.1]; exact hod))
end
end Mine
namespace Mine
open PySem PySem.W PySem.Calls PyProof.Rows

section
variable {k : Kx} {xs : List Addr} {μ : Mu} {ρ ρ' : Rho} {a b d : PyData} {pos : Pos}
theorem Xs.while {test : Expr} {body rest : List Stmt} {R : RP} {T : PyData → Prop} (Inv : Nat → Mu → Rho → Prop) (n : Nat) (h0 : Inv n μ ρ)
    (hstep : ∀ n μ ρ, Inv n μ ρ → ∃ c, Tr k xs μ ρ test c ∧ (c = true → Xs k xs μ ρ body (fun xs' μ' ρ' => xs' = xs ∧ ∃ m, m < n ∧ Inv m μ' ρ') T) ∧ (c = false → Xs k xs μ ρ rest R T)) :
    Xs k xs μ ρ (.While test body [] pos :: rest) R T := fun s E f => by
  refine Xs.first (wpAny_While (codeAny_whileLoop (fun n s' => ∃ μ' ρ', Inv n μ' ρ' ∧ k.Fm xs μ' ρ' s') (fun n s' ⟨μ', ρ', hinv, f'⟩ => ?_) n ⟨μ, ρ, h0, f⟩))
  obtain ⟨c, ht, h1, h2⟩ := hstep n μ' ρ' hinv
  refine wm (ht s' _ f') fun r s₂ ⟨st, e⟩ => ?_
  subst e
  cases r with
  | false => exact wpAny_execs_nil ⟨_, _, _, h2 rfl, f'.step st⟩
  | true =>
    refine wm (h1 rfl s₂ _ (f'.step st)) fun fl s₃ q => ?_
    cases fl with
    | next => obtain ⟨_, μ'', ρ'', ⟨rfl, m, hm, hi⟩, f₃⟩ := q; exact ⟨m, hm, μ'', ρ'', hi, f₃⟩
    | ret v => exact q
    | brk => exact q.elim
    | cont => exact q.elim
end
end Mine
namespace Mine
open PySem PySem.W PySem.Calls PyProof.Rows

abbrev Lk (ρ : Rho) (x : Str) (d : PyData) : Prop := ρ.lookup x = some d
def stAt (p : Program) (n : Nat) : Stmt := p.main.body.getD n (.Pass default)
def fBody : Stmt → List Stmt
  | .FunctionDef _ _ b _ _ _ _ _ _ _ => b
  | _ => []
def fParams : Stmt → Arguments
  | .FunctionDef _ a _ _ _ _ _ _ _ _ => a
  | _ => ⟨[], [], none, [], [], none, []⟩
def fPos : Stmt → Pos
  | .FunctionDef _ _ _ _ _ _ _ _ _ p => p
  | _ => default
def fScope : Stmt → Scope
  | .FunctionDef _ _ _ _ _ _ s _ _ _ => s
  | _ => default

section
variable {k : Kx} {xs : List Addr} {μ : Mu} {ρ ρ' : Rho} {a b d : PyData} {pos : Pos}
theorem Bi.len {ds : List PyData} (h : ds.length ≤ 100000) : Bi k xs (.builtin "len") [.list ds] (.int ds.length) := fun s E vs _ _ hv => by
  cases hv with | cons h1 h2 =>
  cases h2
  cases h1 with | @list l its _ ha hl hd =>
  have e : ((its.size : Nat) : Int) = ds.length := by rw [← hd.length]; simp
  refine call_len_list hl (by rw [e]; omega) ?_
  rw [e]
  exact ⟨Step.toks, .int _ _⟩
end

/-- the search of bisect_left, with fuel -/
def bl (a : List Int) (x : Int) : Nat → Int → Int → Int
  | 0, lo, _ => lo
  | n + 1, lo, hi => if lo < hi then (if a.getD ((lo + hi) / 2).toNat 0 < x then bl a x n ((lo + hi) / 2 + 1) hi else bl a x n lo ((lo + hi) / 2)) else lo
theorem bl_more (a : List Int) (x : Int) : ∀ (n m : Nat) (lo hi : Int), hi - lo ≤ n → hi - lo ≤ m → bl a x n lo hi = bl a x m lo hi
  | 0, 0, _, _, _, _ => rfl
  | 0, m + 1, lo, hi, h, _ => by unfold bl; rw [if_neg (by omega)]
  | n + 1, 0, lo, hi, _, h => by unfold bl; rw [if_neg (by omega)]
  | n + 1, m + 1, lo, hi, h, h' => by
    unfold bl
    by_cases q : lo < hi
    · rw [if_pos q, if_pos q, bl_more a x n m _ hi (by omega) (by omega), bl_more a x n m lo _ (by omega) (by omega)]
    · rw [if_neg q, if_neg q]

end Mine
namespace Mine
open PySem PySem.W PySem.Calls PyProof.Rows

section
variable {k : Kx} {xs : List Addr} {μ : Mu} {ρ ρ' : Rho} {a b d : PyData} {pos : Pos}

theorem Fm.mutate {s s' : Shared} {x : Str} {l : Addr} {ds ds' : List PyData} {vs' : Array Value} (f : k.Fm xs [(x, l, ds)] ρ s) (h2 : Own k l) (hsame : ∃ h tk, s' = { s with heap := h, toks := tk }) (hs : ∀ b o, b ∉ k.ts → b ≠ l → s.heap.get? b = some o → s'.heap.get? b = some o) (ht : TabOk k.tabs s'.heap)
    (hl : s'.heap.PlainList l vs') (hd : DenAll xs s'.heap vs'.toList ds') : k.Fm xs [(x, l, ds')] ρ s' := by
  obtain ⟨h1, h2t, h3, vs, ⟨n, h4⟩, h5⟩ := f.muts x l ds (.head _)
  have hll : l ≠ k.env.locals := fun q => by
    obtain ⟨m, o, es, ep, e, hd, _⟩ := f.ns
    rw [← q, h4] at e; cases e; cases hd
  have f0 : k.Fm xs [] ρ s := { f with muts := fun _ _ _ q => (nomatch q) }
  have f1 : k.Fm xs [] ρ s' := f0.otherT hsame hs ht h2 hll (fun o ho => by rw [h4] at ho; cases ho; exact ⟨nofun, fun _ => h1⟩) (fun _ q => nomatch q) (fun _ => let ⟨n, q⟩ := hl; ⟨_, q⟩) (fun p hp q => (f.prot p hp).2.1 (q ▸ h1))
  refine { f1 with muts := fun y l' es hm => ?_ }
  simp only [List.mem_singleton, Prod.mk.injEq] at hm
  obtain ⟨rfl, rfl, rfl⟩ := hm
  refine ⟨h1, h2t, ?_, vs', hl, hd⟩
  rcases h3 with ⟨q, m, hm, e⟩ | ⟨q, c, h6, h7, o, ho, hdc⟩
  · exact .inl ⟨q, m, Heap.Ns_keep hm fun o e => hs _ _ f.lt (Ne.symm hll) e, e⟩
  · exact .inr ⟨q, c, h6, h7, o, hs _ _ h7 (fun q => by rw [q, h4] at ho; cases ho; cases hdc) ho, hdc⟩

/-- x = []: a list of the frame's own that is going to be changed -/
theorem Xs.newList {x : Str} {px p2 : Pos} {rest : List Stmt} {R : RP} {T : PyData → Prop} (hx : Stores k x) (hρ : ρ.lookup x = none)
    (h : ∀ l, k.S.heap.objs.size ≤ l → Own k l → Xs k (l :: xs) [(x, l, [])] ρ rest R T) : Xs k xs [] ρ (.Assign [.Name x px] (.List [] p2) pos :: rest) R T := fun s E f => by
  refine Xs.first (wpAny_Assign_Name (List_ (args_nil (wpAny_newList ?_))))
  generalize hl : s.heap.objs.size = l
  have hl0 : s.heap.get? l = none := by
    cases e : s.heap.get? l with
    | none => rfl
    | some o => exact absurd (Heap.lt_size e) (by rw [hl]; exact Nat.lt_irrefl _)
  have hlx : l ∉ xs := fun q => by have := f.below l q; rw [hl] at this; exact Nat.lt_irrefl _ this
  have hkeep : ∀ b o, s.heap.get? b = some o → (s.heap.push { cls := .type "list", data := .seq ([] : List Value).toArray }).get? b = some o := fun b o e => Heap.get?_push_of_some _ e
  have hlp : (s.heap.push { cls := .type "list", data := .seq ([] : List Value).toArray }).PlainList l #[] := ⟨_, hl ▸ Heap.get?_push_size _ rfl⟩
  have sh : ∀ {v d}, Den xs s.heap v d → Den (l :: xs) s.heap v d := fun q => q.shift fun a ha ⟨o, _, _, ho, _⟩ hm => by
    rcases List.mem_cons.mp hm with rfl | hm
    · rw [hl0] at ho; cases ho
    · exact ha hm
  have st : k.Step s { s with heap := s.heap.push { cls := .type "list", data := .seq ([] : List Value).toArray } } := Step.push
  have f0 := f.step st
  have f1 : k.Fm (l :: xs) [] ρ { s with heap := s.heap.push { cls := .type "list", data := .seq ([] : List Value).toArray } } :=
    { f0 with
      alive := fun y hy hn => (List.mem_cons.mp hy).elim (fun e => e ▸ let ⟨n, q⟩ := hlp; ⟨_, q⟩) fun hy => f0.alive y hy hn
      sub1 := fun y hy => .tail _ (f0.sub1 y hy)
      vars := fun y d e => let ⟨v, h1, h2⟩ := f.vars y d e; ⟨v, (sh h1).keep fun b o _ e _ => hkeep b o e, h2.keep f.lt fun b o _ e => hkeep b o e⟩
      muts := fun _ _ _ q => (nomatch q)
      prot := fun p hp => ⟨(f0.prot p hp).1, fun q => (List.mem_cons.mp q).elim (fun e => by
        have := (f.prot p hp).1
        rw [e, hl0] at this; cases this) (f0.prot p hp).2.1, (f0.prot p hp).2.2⟩
      held := fun p hp => (sh (f.held p hp)).keep fun b o _ e _ => hkeep b o e }
  refine wm (f1.storeG (ρ' := ρ) (v := .ref l) hx (fun d e => by rw [hρ] at e; cases e) (fun _ _ _ e => e) (fun _ q => nomatch q)) fun _ s₂ ⟨f₂, n₂, hh, _⟩ => ⟨_, _, _, h l (hl ▸ f.bsz) (f.own (hl ▸ f.bsz)), ?_⟩
  refine { f₂ with muts := fun y l' es hm => ?_ }
  simp only [List.mem_singleton, Prod.mk.injEq] at hm
  obtain ⟨rfl, rfl, rfl⟩ := hm
  exact ⟨.head _, fun q => hlx (f.sub _ q), hh, #[], let ⟨n, q⟩ := hlp; ⟨n, n₂ _ _ nofun nofun q⟩, .nil⟩

theorem Fm.drop {s : Shared} (f : k.Fm xs μ ρ s) : k.Fm xs [] ρ s := { f with muts := fun _ _ _ q => (nomatch q) }

/-- x.append(e) -/
theorem Xs.append {x : Str} {px pa p2 : Pos} {l : Addr} {ds : List PyData} {e : Expr} {rest : List Stmt} {R : RP} {T : PyData → Prop} (hS : Own k l) (he : Ev k xs [(x, l, ds)] ρ e d) (hn : ds.length ≤ 10000) (hd : (x == ("__debug__" : Str)) = false)
    (h : Xs k xs [(x, l, ds ++ [d])] ρ rest R T) (hi : interactive k.env = false)
    (hc : ∃ pl, eval (.Call (.Attribute (.Name x px) "append" pa) [e] [] pos) k.env = (do
      let ov ← eval (.Name x px) k.env
      standAt pa.atName
      let (f, first) ← holding [ov] (getMethod ov "append" pl)
      callWith pos f first (backTo pos (starEach [e] k.env)) []))
    (hst : starEach [e] k.env = (false, eval e k.env) :: starEach [] k.env) : Xs k xs [(x, l, ds)] ρ (.Expr (.Call (.Attribute (.Name x px) "append" pa) [e] [] pos) p2 :: rest) R T := fun s E f => by
  obtain ⟨pl, hc⟩ := hc
  obtain ⟨h1, h2, h3, vs, ⟨n, h4⟩, h5⟩ := f.muts x l ds (.head _)
  refine Xs.first (wpAny_Expr (MethodCall_ (pl := pl) (wpAny_Name (h3.load f.kind ?_) hd) hc) hi rfl)
  refine getMethod_list_append h4 rfl rfl ?_
  refine callWith_builtin (by rw [hst]; rfl) ?_
  rw [hst]
  refine evalArgs_plain (spliced_cons (wm (he s E f) fun v s₁ ⟨st, hv⟩ => spliced_nil ?_))
  have f₁ := f.step st
  obtain ⟨_, _, _, vs₁, hp, hd₁⟩ := f₁.muts x l ds (.head _)
  have hsz : vs₁.size ≤ sizeLine := by
    have := hd₁.length
    have e5 : (10000 : Nat) ≤ sizeLine := by decide
    simp at this; omega
  refine wpAny_list_append_plain (hsz := hsz) hp fun h' hp' hs' => ⟨_, _, _, h, ?_⟩
  have keep : ∀ b o, b ≠ l → s₁.heap.get? b = some o → h'.get? b = some o := fun b o hb e => (hs'.2 b hb).trans e
  have sk : SeqKeep xs s₁.heap h' := fun b o hb e _ => keep b o (fun q => hb (q ▸ h1)) e
  exact f₁.mutate (s' := { s₁ with heap := h' }) hS ⟨_, _, rfl⟩ (fun b o _ hb e => keep b o hb e) (f₁.tab.keep fun b o hp2 e => keep b o (fun q => by
    obtain ⟨n, hp⟩ := hp
    rw [q, hp] at e; cases e; exact hp2 nofun) e) hp' (by rw [Array.toList_push]; exact (hd₁.keep sk).append (.cons (hv.keep sk) .nil))
end

theorem execs_one {M : Model} {A : Around} {E : Value → Shared → Prop} {s : Shared} {env : Env} {st : Stmt} {Q : Flow → Shared → Prop} (h : wpAny M A (execs [st] env) Q E s) : wpAny M A (exec st env) Q E s := fun Γ p hΓ => by
  have := h Γ p hΓ
  rw [execs_cons, Sem.wp_bind'] at this
  refine Sem.wp_mono M Γ _ (fun f p' s' h' => ?_) (fun _ _ _ h' => h') _ _ this
  cases f <;> exact h'

def listIns (a : List Int) (i : Int) (x : Int) : List Int := a.take i.toNat ++ x :: a.drop i.toNat
def insort (a : List Int) (x : Int) : List Int := listIns a (bl a x a.length 0 a.length) x

def insF (i : Int) (y : Value) : Array Value → Array Value := fun xs => have k := if i < 0 then (i + (xs.size : Int)).toNat else min i.toNat xs.size; (xs.extract 0 k).push y ++ xs.extract k
theorem call_insert {prog : Program} {w : World} {A : Around} {E : Value → Shared → Prop} {s : Shared} {l : Addr} {vs : Array Value} {i : Int} {t : Tok} {y : Value} {Q : Value → Shared → Prop} (hl : s.heap.PlainList l vs) (h0 : 0 ≤ i) (h1 : i ≤ vs.size) (hz : vs.size ≤ 10000)
    (h : ∀ h', h'.PlainList l (vs.toList.take i.toNat ++ y :: vs.toList.drop i.toNat).toArray → Heap.SameBut l s.heap h' → Q .none { s with heap := h' }) : wpAny (model prog w) A (call (.builtin "list.insert") [.ref l, .int i t, y]) Q E s := by
  obtain ⟨n, ho⟩ := hl
  obtain ⟨li, rfl⟩ : ∃ li : List Value, vs = li.toArray := ⟨vs.toList, by rw [Array.toArray_toList]⟩
  have hf : Builtin.List.listFitsIndex i = true := fitsIndex_of h0 (by omega)
  refine call_meets PySem.F.slot_list_insert ⟨_, ho, rfl⟩ PySem.F.entry_list_insert (PySem.F.args_list_insert_3 _ _ _) (PySem.AutoSeq1.list_insert_list_int_val_1 l _ n i t y (by simp [hf]) (Nat.le_trans hz (by decide))) ⟨ho, h _ ?_ (Heap.SameBut.update ..)⟩
  have q := PySem.IsL.update ho (insF i y)
  have e : insF i y li.toArray = (li.take i.toNat ++ y :: li.drop i.toNat).toArray := by
    have hk : (if i < 0 then (i + (li.toArray.size : Int)).toNat else min i.toNat li.toArray.size) = i.toNat := by
      rw [if_neg (by omega)]; simp at h1 ⊢; omega
    show (li.toArray.extract 0 (if i < 0 then (i + (li.toArray.size : Int)).toNat else min i.toNat li.toArray.size)).push y ++ li.toArray.extract (if i < 0 then (i + (li.toArray.size : Int)).toNat else min i.toNat li.toArray.size) = _
    rw [hk]
    exact kl_ins_eq li i.toNat y
  rw [e] at q
  exact ⟨_, q⟩

theorem IntsAre.app {vs us : List Value} {ns ms : List Int} (x : IntsAre vs ns) (y : IntsAre us ms) : IntsAre (vs ++ us) (ns ++ ms) := by
  induction x with
  | nil => exact y
  | cons n t _ ih => exact .cons n t ih
theorem IntsAre.tak : ∀ (k : Nat) {vs : List Value} {ns : List Int}, IntsAre vs ns → IntsAre (vs.take k) (ns.take k)
  | 0, _, _, _ => .nil
  | _ + 1, _, _, .nil => .nil
  | k + 1, _, _, .cons n t r => .cons n t (IntsAre.tak k r)
theorem IntsAre.drp : ∀ (k : Nat) {vs : List Value} {ns : List Int}, IntsAre vs ns → IntsAre (vs.drop k) (ns.drop k)
  | 0, _, _, x => x
  | _ + 1, _, _, .nil => .nil
  | k + 1, _, _, .cons _ _ r => IntsAre.drp k r
theorem IntsAre.len {vs : List Value} {ns : List Int} (x : IntsAre vs ns) : vs.length = ns.length := by
  induction x with
  | nil => rfl
  | cons _ _ _ ih => simp [ih]

theorem bl_range (a : List Int) (x : Int) : ∀ (n : Nat) (lo hi : Int), lo ≤ hi → lo ≤ bl a x n lo hi ∧ bl a x n lo hi ≤ hi
  | 0, lo, hi, h => ⟨Int.le_refl _, h⟩
  | n + 1, lo, hi, h => by
    unfold bl
    by_cases q : lo < hi
    · rw [if_pos q]
      by_cases q2 : a.getD ((lo + hi) / 2).toNat 0 < x
      · rw [if_pos q2]; have := bl_range a x n ((lo + hi) / 2 + 1) hi (by omega); omega
      · rw [if_neg q2]; have := bl_range a x n lo ((lo + hi) / 2) (by omega); omega
    · rw [if_neg q]; omega

def InsSpec (prog : Program) (w : World) (tabs : List Tab) (G : Heap) (f : Addr) (n : Nat) : Prop :=
  ∀ A s l ns x t vs E, Room A n → Wd tabs G s.heap → TabOk tabs s.heap → G.objs.size ≤ s.heap.objs.size → l ∉ tsOf tabs → s.heap.PlainList l vs → IntsAre vs.toList ns → ns.length ≤ 1000 →
    wpAny (model prog w) A (call (.ref f) [.ref l, .int x t]) (fun v s' => v = .none ∧ (∃ h tk, s' = { s with heap := h, toks := tk }) ∧ (∀ b o, b ∉ tsOf tabs → b ≠ l → s.heap.get? b = some o → s'.heap.get? b = some o) ∧ TabOk tabs s'.heap ∧
      ∃ vs', s'.heap.PlainList l vs' ∧ IntsAre vs'.toList (insort ns x)) E s

section
variable {k : Kx} {xs : List Addr} {μ : Mu} {ρ ρ' : Rho} {a b d : PyData} {pos : Pos}
/-- insort_left(x, e) -/
theorem Xs.insort {g x : Str} {pg px p2 : Pos} {l f₀ : Addr} {ns : List Int} {i : Int} {n : Nat} {e : Expr} {rest : List Stmt} {R : RP} {T : PyData → Prop} (hm : OnMain k) (hg : k.env.kindOf g = some .globalImplicit) (hG : GName k.G g (.ref f₀)) (hf : FnAt f₀ k.G)
    (hr : Room k.A n) (hI : InsSpec k.prog k.w k.tabs k.G f₀ n) (hS : Own k l) (he : Ev k xs [(x, l, ns.map .int)] ρ e (.int i)) (hn : ns.length ≤ 1000) (hd : (x == ("__debug__" : Str)) = false) (hd2 : (g == ("__debug__" : Str)) = false)
    (h : Xs k xs [(x, l, (Mine.insort ns i).map .int)] ρ rest R T) (hi : interactive k.env = false) (hst : starEach [e] k.env = (false, eval e k.env) :: starEach [] k.env) :
    Xs k xs [(x, l, ns.map .int)] ρ (.Expr (.Call (.Name g pg) [.Name x px, e] [] pos) p2 :: rest) R T := fun s E f => by
  obtain ⟨h1, h2, h3, vs, h4, h5⟩ := f.muts x l _ (.head _)
  refine Xs.first (wpAny_Expr (Call_ (gname f.wd hG hm.1 hm.2.1 hg (callWith_F (f.fnAt hf) (args_cons (wpAny_Name (h3.load f.kind (args_cons (wm (he s _ f) fun v s₁ ⟨st, hv⟩ => args_nil ?_) hst)) hd)) rfl (by rw [hst]; rfl)) hd2)) hi rfl)
  have f₁ := f.step st
  refine ⟨f₁.fnAt hf, ?_⟩
  obtain ⟨_, _, _, vs₁, hp, hd₁⟩ := f₁.muts x l _ (.head _)
  cases hv with | int _ t =>
  show wpAny _ _ (PySem.call (.ref f₀) [.ref l, .int i t]) _ _ _
  refine wm (hI k.A s₁ l ns i t vs₁ _ hr f₁.wd f₁.tab f₁.gsz h2 hp hd₁.intsAre hn) fun v s₂ ⟨e, hsm, hk, ht, vs', hp', hi'⟩ => ?_
  subst e
  refine ⟨_, _, _, h, ?_⟩
  exact f₁.mutate hS hsm hk ht hp' (.ints hi')
/-- a call whose first argument is a list of the frame's own that is being changed; it answers an int -/
theorem Ev.callMut {g x : Str} {pg px : Pos} {l f₀ : Addr} {ds ds' : List PyData} {r : Int} {n : Nat} {es : List Expr} (hm : OnMain k) (hg : k.env.kindOf g = some .globalImplicit) (hG : GName k.G g (.ref f₀)) (hf : FnAt f₀ k.G)
    (hr : Room k.A n) (hS : Spec k.prog k.w k.tabs k.G f₀ (.list ds :: ds') n (· = .int r)) (hmem : (x, l, ds) ∈ μ) (he : EvL k xs μ ρ es ds') (hd : (x == ("__debug__" : Str)) = false := by decide) (hd2 : (g == ("__debug__" : Str)) = false := by decide)
    (hp : (backTo pos (starEach es k.env)).any (·.1) = false := by rfl) : Ev k xs μ ρ (.Call (.Name g pg) (.Name x px :: es) [] pos) (.int r) := fun s E f => by
  obtain ⟨h1, h2, h3, vs, h4, h5⟩ := f.muts x l _ hmem
  refine Call_ (gname f.wd hG hm.1 hm.2.1 hg (callWith_F (f.fnAt hf) (args_cons (wpAny_Name (h3.load f.kind (wm (he s _ pos f) fun us s₁ ⟨st, hv⟩ => ?_)) hd)) rfl hp) hd2)
  have f₁ := f.step st
  obtain ⟨_, _, _, vs₁, hp₁, hd₁⟩ := f₁.muts x l _ hmem
  refine ⟨f₁.fnAt hf, wm (hS k.A s₁ k.ts (.ref l :: us) E hr f₁.wd f₁.tab (fun _ q => q) (fun _ q q2 => absurd q q2) f₁.gsz (.cons (.list h2 hp₁.isList (hd₁.shift fun a ha _ q => ha (f.sub a q))) (hv.shift fun a ha _ q => ha (f.sub a q)))) fun v s₂ ⟨st₂, d, e, q⟩ => ⟨st.trans st₂, ?_⟩⟩
  subst e
  cases q
  exact .int _ _
end

end Mine
namespace Mine
open PySem PySem.W PySem.Calls PyProof.Rows

section
variable {prog : Program} {w : World} {A : Around} {E : Value → Shared → Prop} {s : Shared}
theorem raw_mul_list {l : Addr} {vs : List Value} {x : Int} {u : Tok} {Q : Value → Shared → Prop} (hl : s.heap.IsList l vs.toArray) (hlo : 0 ≤ x) (hhi : x ≤ 1000) (hn : vs.length ≤ 100)
    (h : Q (.ref s.heap.objs.size) { s with heap := s.heap.push { cls := .type "list", data := .seq (List.replicate x.toNat vs).flatten.toArray } }) : wpAny (model prog w) A (binaryOp .Mult (.ref l) (.int x u)) Q E s := by
  obtain ⟨⟨cls, d, data, sl⟩, ho, hcl, k, hd⟩ := id hl
  simp only at hcl hd
  subst hcl hd
  have hsz' : vs.toArray.size * x.toNat ≤ 2 ^ 24 := by
    have : vs.toArray.size * x.toNat ≤ 100 * 1000 := Nat.mul_le_mul (by simpa using hn) (by omega)
    omega
  refine wpAny_binaryOp_repeat_ref (T := "list") (U := "int") (by decide) ⟨_, ho, rfl⟩ (fun s' => typeIs_int s' x u) noFill_list_mul F.fills_int_mul F.slot_int_rmul repeat_list F.slot_int_index.lookup
    (call_meets F.slot_int_rmul (typeIs_int s x u) F.entry_int_rmul (F.args_int_rmul_2 _ _) (lm_int_rmul_list_any x u l vs.toArray k d sl)
      ⟨ho, rfl, ⟨_, ho, rfl⟩, call_meets F.slot_list_mul ⟨_, ho, rfl⟩ F.entry_list_mul (F.args_list_mul_2 _ _)
        (lm_list_mul_any l vs.toArray k d sl x u (by simp [Builtin.List.listFitsIndex]; omega) (by omega) (by simp [Builtin.List.listTooLong, sizeLine]; omega))
        ⟨ho, ?_⟩⟩)
  rw [listMul_foldl_if]
  exact h
theorem raw_add_lists {l b : Addr} {vs ws : List Value} {Q : Value → Shared → Prop} (hl : s.heap.IsList l vs.toArray) (hb : s.heap.IsList b ws.toArray) (hn : vs.length + ws.length ≤ 10000)
    (h : Q (.ref s.heap.objs.size) { s with heap := s.heap.push { cls := .type "list", data := .seq (vs ++ ws).toArray } }) : wpAny (model prog w) A (binaryOp .Add (.ref l) (.ref b)) Q E s := by
  obtain ⟨⟨cls, dd, data, sl⟩, ho, hc, n, hd⟩ := id hl
  obtain ⟨⟨cls2, dd2, data2, sl2⟩, ho2, hc2, n2, hd2⟩ := id hb
  simp only at hc hd hc2 hd2
  subst hc hd hc2 hd2
  have e : vs.toArray ++ ws.toArray = (vs ++ ws).toArray := by simp
  refine concat_meets ⟨_, ho, rfl⟩ ⟨_, ho2, rfl⟩ noFill_list_add seq_list_add PySem.F.slot_list_add PySem.F.entry_list_add (PySem.F.args_list_add_2 _ _) (list_addW l b vs.toArray ws.toArray n n2 dd dd2 sl sl2 (by simp; exact Nat.le_trans hn (by decide))) ⟨ho, ho2, ?_⟩
  rw [e]
  exact h
end

section
variable {k : Kx} {xs : List Addr} {μ : Mu} {ρ ρ' : Rho} {a b d : PyData} {pos : Pos}
theorem Ev.bitlen {x : Str} {px pa : Pos} {i : Int} (h : ρ.lookup x = some (.int i)) (hd : (x == ("__debug__" : Str)) = false := by decide)
    (hc : ∃ pl, eval (.Call (.Attribute (.Name x px) "bit_length" pa) [] [] pos) k.env = (do
      let ov ← eval (.Name x px) k.env
      standAt pa.atName
      let (f, first) ← holding [ov] (getMethod ov "bit_length" pl)
      callWith pos f first (backTo pos (starEach [] k.env)) []) := by exact ⟨_, rfl⟩) : Ev k xs μ ρ (.Call (.Attribute (.Name x px) "bit_length" pa) [] [] pos) (.int (Builtin.Int.intBits i : Nat)) := fun s E f => by
  obtain ⟨pl, hc⟩ := hc
  refine MethodCall_ (pl := pl) (wm (Ev.name h hd s E f) fun v s₁ ⟨st, hv⟩ => ?_) hc
  cases hv with | int _ t =>
  refine getMethod_int_bit_length ?_
  exact callWith_builtin rfl (evalArgs_nil3 (call_int_bit_length ⟨st.tok, .int _ _⟩))
theorem Bi.divmod {i j : Int} (hj : 0 < j) (h2 : j < 1073741824) : Bi k xs (.builtin "divmod") [.int i, .int j] (.tuple [.int (i / j), .int (i % j)]) := fun s E vs _ hx hv => by
  cases hv with | cons h1 r =>
  cases r with | cons h3 r =>
  cases r
  cases h1; cases h3
  refine divmod_int (by omega) ?_ (.inl (PyProof.noPylong_small (by omega)))
  refine ⟨⟨⟨_, _, rfl⟩, fun b o _ e => Heap.get?_push_of_some _ e, fun t => t.keep fun b o _ e => Heap.get?_push_of_some _ e⟩, .tuple (vs := #[_, _]) (fun q => Nat.lt_irrefl _ (hx _ q)) ⟨_, Heap.get?_push_size _ rfl, rfl, _, rfl⟩ ?_⟩
  rw [Int.fdiv_eq_ediv_of_nonneg _ (by omega), Int.fmod_eq_emod_of_nonneg _ (by omega)]
  exact .cons (.int _ _) (.cons (.int _ _) .nil)
theorem Ev.gint {x : Str} {i : Int} (hm : OnMain k) (hx : k.env.kindOf x = some .globalImplicit) (hg : ∃ t, GName k.G x (.int i t)) (hd : (x == ("__debug__" : Str)) = false := by decide) : Ev k xs μ ρ (.Name x pos) (.int i) := fun s E f => by
  obtain ⟨t, hg⟩ := hg
  exact gname f.wd hg hm.1 hm.2.1 hx ⟨Step.refl, .int _ _⟩ hd
theorem Bi.abs {i : Int} : Bi k xs (.builtin "abs") [.int i] (.int (if i < 0 then -i else i)) := fun s E vs _ hx hv => by
  cases hv with | cons h1 r =>
  cases r
  cases h1
  exact call_abs_int fun u tk => ⟨Step.toks, .int _ _⟩
theorem Bin.addList {ds es : List PyData} (h : ds.length + es.length ≤ 10000) : Bin k xs .Add (.list ds) (.list es) (.list (ds ++ es)) := fun s E v u hx hv hu => by
  cases hv with | @list l vs _ h1 h2 h3 =>
  cases hu with | @list b us _ g1 g2 g3 =>
  obtain ⟨vs⟩ := vs
  obtain ⟨us⟩ := us
  refine raw_add_lists h2 g2 (by have := h3.length; have := g3.length; simp at *; omega) ⟨Step.push, .list (vs := (vs ++ us).toArray) (fun q => Nat.lt_irrefl _ (hx _ q)) ⟨_, Heap.get?_push_size _ rfl, rfl, _, rfl⟩ ?_⟩
  exact (h3.append g3).keep fun b o _ e _ => Heap.get?_push_of_some _ e
theorem Tru.list {ds : List PyData} (h : ds.length ≤ 100000) : Tru k xs (.list ds) (ds.length != 0) := fun s E v hv => by
  cases hv with | @list l vs _ h1 h2 h3 =>
  have e : vs.size = ds.length := by rw [← h3.length]; simp
  refine wpAny_truthy_list h2 (by omega) ?_
  rw [← e]
  first
    | exact fun tk => ⟨Step.toks, rfl⟩
    | exact ⟨Step.toks, rfl⟩
end
end Mine
namespace Mine
open PySem PySem.W PySem.Calls PyProof.Rows

def Kept (ts : List Addr) (hs : List Addr) (ps : List (Addr × Obj)) (h : Heap) : Prop := ∀ p ∈ ps, p.1 ∉ ts ∧ p.1 ∉ hs ∧ h.get? p.1 = some p.2
theorem Kept.keep {ts hs : List Addr} {ps : List (Addr × Obj)} {h h' : Heap} (x : Kept ts hs ps h) (k : ∀ b o, b ∉ ts → b ∉ hs → h.get? b = some o → h'.get? b = some o) : Kept ts hs ps h' := fun p hp => ⟨(x p hp).1, (x p hp).2.1, k _ _ (x p hp).1 (x p hp).2.1 (x p hp).2.2⟩

abbrev cloEnv (scope : Scope) (L : Addr) (qual : Str) (f : Addr) (cdv : Value) (cl : List (Str × Addr)) : Env := newEnv scope L mainGlobals cl (qual ++ ".<locals>.") (some f) cdv none builtinsNs

theorem call_clo {prog : Program} {w : World} {tabs : List Tab} {G : Heap} {f : Addr} {name qual : Str} {params : Arguments} {body : List Stmt} {scope : Scope} {cdv : Value} {n : Nat} {A : Around} {s : Shared} {xs hs : List Addr} {vs : List Value} {cl : List (Str × Addr)}
    {E : Value → Shared → Prop} {Q : Value → Shared → Prop} {binds : List (Str × Value)} {ρ : Rho} {doc pm ct : Value}
    (ho : s.heap.get? f = some { cls := .type "function", data := .func (fnX name qual params body scope cl .none .none doc pm none cdv ct) }) (hcd : s.heap.CodeRec cdv qual) (hlim : s.heap.NoLimit)
    (hr : Room A (n + 1)) (hW : Wd tabs G s.heap) (hT : TabOk tabs s.heap) (hx1 : ∀ x ∈ tsOf tabs, x ∈ xs) (hx3 : ∀ x ∈ xs, x ∉ tsOf tabs → ∃ o, s.heap.get? x = some o) (hG : G.objs.size ≤ s.heap.objs.size)
    (hb : bindArgs (fnX name qual params body scope cl .none .none doc pm none cdv ct) ⟨vs, []⟩ = pure binds)
    (hden : ∀ x d, ρ.lookup x = some d → ∃ v, Den xs s.heap v d ∧ ((x, v) ∈ binds ∨ (scope.names.lookup x = some .free ∧ (x == ("__classdict__" : Str)) = false ∧ ∃ c, cl.lookup x = some c ∧ c ∉ tsOf tabs ∧ s.heap.IsCell c (some v))))
    (hloc : ∀ x ∈ binds, scope.names.lookup x.1 = some .local) (hnd' : (binds.map (·.1)).Nodup) (hcell : ∀ x ∈ scope.names, x.2 ≠ .cell) (hap : ∀ x y c, cl.lookup x = some c → cl.lookup y = some c → x = y)
    (hco : scope.isCoroutine = false) (hgen : scope.isGenerator = false) (hk : scope.kind = .function)
    (h : ∀ (k : Kx) (s₁ : Shared), k = ⟨prog, w, tabs, G, { s with heap := hideAll s.heap hs }, tsOf tabs, A.deeper (cloEnv scope s.heap.objs.size qual f cdv cl), cloEnv scope s.heap.objs.size qual f cdv cl, [], []⟩ → Room k.A n → k.Fm xs [] ρ s₁ →
      (∀ b o, s.heap.get? b = some o → s₁.heap.get? b = some o) →
      wpAny k.M k.A (execs body k.env) (fun fl s' => Q (match fl with | .ret v => v | _ => .none) s') (fun e s' => wpAny k.M k.A (leaving k.env e) (fun _ s'' => E e s'') (fun e' s'' => E e' s'') s') s₁) :
    wpAny (model prog w) A (call (.ref f) vs) Q E s := by
  have hx2 := below_of hT hx3
  refine wpAny_call (codeAny_call_function (fd := fnX name qual params body scope cl .none .none doc pm none cdv ct) (body := body) (by have := hr.2.1; omega) ho rfl hco hgen rfl hcd ?_)
  rw [hb]
  refine wpAny_pure (wpAny_newFunctionEnv hcell hloc (fun h' hns hsb => ?_) hk)
  have keep : ∀ b o, s.heap.get? b = some o → h'.get? b = some o := fun b o e => (hsb.2 b (Nat.ne_of_lt (Heap.lt_size e))).trans (Heap.get?_push_of_some _ e)
  refine ⟨hlim.keeps keep, codeAny_func ?_⟩
  have base0 : ∀ b o, (hideAll s.heap hs).get? b = some o → s.heap.get? b = some o := fun b o e => of_hideAll _ e
  refine h ⟨prog, w, tabs, G, { s with heap := hideAll s.heap hs }, tsOf tabs, _, cloEnv scope s.heap.objs.size qual f cdv cl, [], []⟩ _ rfl hr.deeper
    ⟨hk, ⟨_, _, rfl⟩, fun b o e => ⟨(hW b o e).1, keep b o (hW b o e).2⟩, hT.keep fun b o _ e => keep b o e, fun b o _ e => keep b o (base0 b o e), ?_, ?_, ⟨_, hns⟩, fun y hy => ?_, fun y hy => hy,
      fun y hy hn => let ⟨o, ho⟩ := hx3 y hy hn; ⟨o, keep _ _ ho⟩, hx1, fun y c h1 h2 _ => ?_, hap, fun y d e => ?_, fun _ _ _ q => (nomatch q), fun _ q => (nomatch q), fun _ q => (nomatch q)⟩ keep
  · show (hideAll s.heap hs).objs.size ≤ s.heap.objs.size
    rw [hideAll_size]; exact Nat.le_refl _
  · show G.objs.size ≤ (hideAll s.heap hs).objs.size
    rw [hideAll_size]; exact hG
  · show y < (hideAll s.heap hs).objs.size
    rw [hideAll_size]; exact hx2 y (hx1 y hy)
  · exact absurd rfl (hcell _ (mem_of_lookup (h2 : scope.names.lookup y = some .cell)))
  · obtain ⟨v, hv, q⟩ := hden y d e
    refine ⟨v, hv.keep fun b o _ e _ => keep b o e, ?_⟩
    rcases q with hm | ⟨q1, q2, c, q3, q4, o, q5, q6⟩
    · refine .inl ⟨hloc _ hm, _, hns, ?_⟩
      have := bindL_get (kindOf := fun _ => some .local) rfl binds (fun _ => none) hnd' hm
      have e2 : ∀ (bs : List (Str × Value)) (m : Str → Option Value), bindL (fun _ => some .local) bs m y = ((bs.reverse.lookup y).or (m y)) := by
        intro bs
        induction bs with
        | nil => intro m; rfl
        | cons p r ih =>
          intro m
          obtain ⟨n', u⟩ := p
          unfold bindL
          rw [if_pos rfl, ih, List.reverse_cons, List.lookup_append, Option.or_assoc]
          congr 1
          by_cases q : y = n'
          · subst q; simp [List.lookup_cons]
          · have : (y == n') = false := by simpa using q
            simp [List.lookup_cons, this, q]
      rw [e2] at this
      simpa using this
    · exact .inr ⟨.inr ⟨q1, q2⟩, c, q3, q4, o, keep _ _ q5, q6⟩

section
variable {k : Kx} {xs : List Addr} {μ : Mu} {ρ ρ' : Rho} {a b d : PyData} {pos : Pos}
/-- x[i] = v on a list of the frame's own -/
theorem Xs.setItem {x : Str} {px sp : Pos} {l : Addr} {ns : List Int} {ie ve : Expr} {i v : Int} {rest : List Stmt} {R : RP} {T : PyData → Prop} (hS : Own k l) (hi : Ev k xs [(x, l, ns.map .int)] ρ ie (.int i)) (hv : Ev k xs [(x, l, ns.map .int)] ρ ve (.int v))
    (h0 : 0 ≤ i) (h1 : i < ns.length) (hn : ns.length ≤ 10000) (h : Xs k xs [(x, l, (ns.set i.toNat v).map .int)] ρ rest R T) (hd : (x == ("__debug__" : Str)) = false := by decide)
    (hs : swapsWith ve (some (.Subscript (.Name x px) ie sp)) pos.line k.env = pure false := by rfl) : Xs k xs [(x, l, ns.map .int)] ρ (.Assign [.Subscript (.Name x px) ie sp] ve pos :: rest) R T := fun s E f => by
  refine Xs.first ?_
  rw [exec_Assign_Subscript _ _ _ _ _ hs]
  refine wpAny_bind (wpAny_standAt (wpAny_bind (wm (hv s _ f) fun u s₁ ⟨st₁, d₁⟩ => wpAny_bind ?_)))
  have f₁ := f.step st₁
  obtain ⟨h2, _, h3, vs, h4, h5⟩ := f₁.muts x l _ (.head _)
  refine kas_sub (wpAny_Name (h3.load f₁.kind (wm (hi s₁ _ f₁) fun j s₂ ⟨st₂, d₂⟩ => ?_)) hd)
  have f₂ := f₁.step st₂
  obtain ⟨_, _, _, vs₂, ⟨n, hp⟩, hd₂⟩ := f₂.muts x l _ (.head _)
  cases d₂ with | int _ t =>
  cases d₁ with | int _ t1 =>
  have hi2 := hd₂.intsAre
  have hlen := hi2.length
  have hlen2 : vs₂.size = ns.length := by simpa using hlen
  refine ki_setAt hp h0 (by omega) (by omega) (wpAny_pure ⟨_, _, _, h, ?_⟩)
  have hs' := Heap.SameBut.update s₂.heap l (Obj.mapSeq (·.setIfInBounds i.toNat (.int v t1)))
  have q := PySem.IsL.update hp (·.setIfInBounds i.toNat (.int v t1))
  refine f₂.mutate hS ⟨_, _, rfl⟩ (fun b o _ hb e => (hs'.2 b hb).trans e) (f₂.tab.keep fun b o hpl e => (hs'.2 b fun q => by rw [q, hp] at e; cases e; exact hpl nofun).trans e) ⟨_, q⟩ ?_
  rw [Array.toList_setIfInBounds]
  exact .ints (ints_set hi2 _)
/-- the ground of a def's own code object, in the world -/
structure TabG (G : Heap) (t : Tab) : Prop where
  hd : CodeHd G t.c t.P
  main : ∃ mg, G.Ns mainGlobals mg ∧ G.BuiltinsAt mg t.P

theorem mk_clo {s : Shared} {E : Value → Shared → Prop} (f : k.Fm xs μ ρ s) {t : Tab} {params : Arguments} {body : List Stmt} {scope : Scope} {cl : List (Str × Addr)} (ht : t ∈ k.tabs) (hnd : k.tabs.Pairwise fun a b => a.P ≠ b.P) (hcode : k.env.code = .ref t.c) (C : TabG k.G t) (hm : OnMain k)
    (hq : qualnameIn k.env "inner" "inner" = t.qual) (hcl : closureFor scope k.env = pure cl) (hst : Stores k "inner") (hρ : ρ.lookup ("inner" : Str) = none) (hμ : ∀ m ∈ μ, m.1 ≠ ("inner" : Str)) (hd0 : params.defaults = []) (hk0 : params.kw_defaults = []) (ha : annTrees params none k.env = []) :
    wpAny k.M k.A (exec (.FunctionDef "inner" params body [] none [] scope none "inner" t.pos) k.env) (fun fl s' => fl = .next ∧ k.Fm xs μ ρ s' ∧ ∃ fa doc pm c' ctv oc vs tq, s'.heap.get? fa = some (fnMade "inner" t.qual params body scope cl doc pm c' ctv) ∧ s.heap.objs.size ≤ fa ∧
      s'.heap.get? c' = some oc ∧ oc.data = .fields vs ∧ vs[1]? = some (.str t.qual tq) ∧ Holds k.ts k.env s'.heap "inner" (.ref fa)) E s := by
  obtain ⟨mg, hg, hb⟩ := C.main
  have hgs : s.heap.Ns mainGlobals mg := hg.keeps fun b o e => (f.wd b o e).2
  obtain ⟨ps, hP, hto, hcase⟩ := f.tab t ht
  have hgP : mainGlobals ≠ t.P := fun q => by
    obtain ⟨o, es, ep, e, hd, _⟩ := hgs
    rw [q, hP] at e; cases e; cases hd
  have Cs : CodeHd s.heap t.c t.P := C.hd.keeps fun b o e => (f.wd b o e).2
  have hbs : s.heap.BuiltinsAt mg t.P := hb.keeps fun b o e => (f.wd b o e).2
  have fin : ∀ (s₁ : Shared) fa doc pm c' ctv oc vs tq, k.Step s s₁ → s₁.heap.get? fa = some (fnMade "inner" t.qual params body scope cl doc pm c' ctv) → s.heap.objs.size ≤ fa → s₁.heap.get? c' = some oc → oc.data = .fields vs → vs[1]? = some (.str t.qual tq) →
      wpAny k.M k.A (storeName k.env "inner" (.ref fa)) (fun _ s' => Flow.next = .next ∧ k.Fm xs μ ρ s' ∧ ∃ fa doc pm c' ctv oc vs tq, s'.heap.get? fa = some (fnMade "inner" t.qual params body scope cl doc pm c' ctv) ∧ s.heap.objs.size ≤ fa ∧
      s'.heap.get? c' = some oc ∧ oc.data = .fields vs ∧ vs[1]? = some (.str t.qual tq) ∧ Holds k.ts k.env s'.heap "inner" (.ref fa)) E s₁ := fun s₁ fa doc pm c' ctv oc vs tq st h1 h2 h3 h4 h5 =>
    wm ((f.step st).storeG (ρ' := ρ) hst (fun d e => by rw [hρ] at e; cases e) (fun _ _ _ e => e) hμ) fun _ s₂ ⟨f₂, n₂, hh, _⟩ =>
      ⟨rfl, f₂, fa, doc, pm, c', ctv, oc, vs, tq, n₂ _ _ nofun nofun h1, h2, n₂ _ _ (fun _ _ q => by rw [h4] at q; cases q) (fun _ q => by rw [h4] at q; cases q) h3, h4, h5, hh⟩
  refine nestDef_K hd0 hk0 ha ?_
  rw [hq]
  rcases hcase with hnone | ⟨cc, hsome, hrec⟩
  · refine makeFunction_K hcl hm.2.1 hgs hcode Cs hP hto hnone hgP hbs fun c' ctv doc h' tk hx hge hlt hrec htb => ?_
    obtain ⟨c₂, oc, vs, tq, e2, hoc, hd, hv⟩ := hrec
    cases e2
    refine fin _ h'.objs.size doc _ c' ctv oc vs tq ⟨⟨_, _, rfl⟩, fun b o hb e => Heap.get?_push_of_some _ (hx b o (fun q => hb (q ▸ List.mem_map_of_mem ht)) e), fun tb t' ht' => ?_⟩ (Heap.get?_push_size _ rfl) (Nat.le_of_lt (Nat.lt_of_le_of_lt hge hlt)) (Heap.get?_push_of_some _ hoc) hd hv
    by_cases q : t'.P = t.P
    · have : t' = t := by
        apply Classical.byContradiction
        intro hne
        rcases List.mem_iff_getElem.mp ht with ⟨i, hi, rfl⟩
        rcases List.mem_iff_getElem.mp ht' with ⟨j, hj, rfl⟩
        have hp := List.pairwise_iff_getElem.mp hnd
        rcases Nat.lt_trichotomy i j with h | h | h
        · exact hp i j hi hj h q.symm
        · subst h; exact hne rfl
        · exact hp j i hj hi h q
      subst this
      refine ⟨_, Heap.get?_push_of_some _ htb, ?_, .inr ⟨c', ?_, c', oc, vs, tq, rfl, Heap.get?_push_of_some _ hoc, hd, hv⟩⟩
      · rw [Array.toList_append]; exact TriplesOk_snoc _ _ _ _ hto
      · rw [Array.toList_append]; exact codeAmong_snoc _ hto hnone
    · obtain ⟨ps', h1, h2, h3⟩ := tb t' ht'
      refine ⟨ps', Heap.get?_push_of_some _ (hx _ _ q h1), h2, h3.imp id ?_⟩
      rintro ⟨cc, e, c3, o3, vs3, t3, e1, e2, e3, e4⟩
      refine ⟨cc, e, c3, o3, vs3, t3, e1, Heap.get?_push_of_some _ (hx _ _ (fun q => ?_) e2), e3, e4⟩
      rw [q, hP] at e2; cases e2
      cases e3
      exact triples_no_str hto _ _ (by rw [Array.getElem?_toList]; exact e4)
  · refine makeFunction_hit hcl hm.2.1 hgs hcode Cs hP hto hsome hbs fun ctv doc h' tk hk hsz => ?_
    obtain ⟨c₂, oc, vs, tq, e2, hoc, hd, hv⟩ := hrec
    cases e2
    exact fin _ h'.objs.size doc _ cc ctv oc vs tq (Step.of_keeps fun b o e => Heap.get?_push_of_some _ (hk b o e)) (Heap.get?_push_size _ rfl) hsz (Heap.get?_push_of_some _ (hk _ _ hoc)) hd hv

/-- x = e, where e makes a new list of ints: from now on a list of the frame's own -/
theorem Fm.newListOf {x : Str} {px : Pos} {e : Expr} {ns : List Int} {s : Shared} {E : Value → Shared → Prop} (f : k.Fm xs [] ρ s) (hx : Stores k x) (hρ : ρ.lookup x = none)
    (he : wpAny k.M k.A (eval e k.env) (fun v s₁ => k.Step s s₁ ∧ ∃ l vs, v = .ref l ∧ l ∉ xs ∧ s.heap.get? l = none ∧ k.S.heap.objs.size ≤ l ∧ s₁.heap.PlainList l vs ∧ IntsAre vs.toList ns) E s) (hs : swapsWith e (some (.Name x px)) pos.line k.env = pure false) :
    wpAny k.M k.A (exec (.Assign [.Name x px] e pos) k.env) (fun fl s' => fl = .next ∧ ∃ l, k.S.heap.objs.size ≤ l ∧ l ∉ xs ∧ Own k l ∧ k.Fm (l :: xs) [(x, l, ns.map .int)] ρ s') E s := by
  refine wpAny_Assign_Name (wm he fun v s₁ ⟨st, l, vs, e1, hlx, hl0, hlS, hp, hi⟩ => ?_) hs
  subst e1
  have sh : ∀ {v d}, Den xs s.heap v d → Den (l :: xs) s.heap v d := fun q => q.shift fun a ha ⟨o, _, _, ho, _⟩ hm => by
    rcases List.mem_cons.mp hm with rfl | hm
    · rw [hl0] at ho; cases ho
    · exact ha hm
  have skk : SeqKeep (l :: xs) s.heap s₁.heap := fun b o hb e _ => st.keep b o (fun q => hb (.tail _ (f.sub _ q))) e
  have f0 := f.step st
  have f1 : k.Fm (l :: xs) [] ρ s₁ :=
    { f0 with
      alive := fun y hy hn => (List.mem_cons.mp hy).elim (fun e => e ▸ let ⟨n, q⟩ := hp; ⟨_, q⟩) fun hy => f0.alive y hy hn
      sub1 := fun y hy => .tail _ (f0.sub1 y hy)
      vars := fun y d e => let ⟨v, h1, h2⟩ := f.vars y d e; ⟨v, (sh h1).keep skk, h2.keep f.lt st.keep⟩
      muts := fun _ _ _ q => (nomatch q)
      prot := fun p hp => ⟨(f0.prot p hp).1, fun q => (List.mem_cons.mp q).elim (fun e => by
        have := (f.prot p hp).1
        rw [e, hl0] at this; cases this) (f0.prot p hp).2.1, (f0.prot p hp).2.2⟩
      held := fun p hp => (sh (f.held p hp)).keep skk }
  refine wm (f1.storeG (ρ' := ρ) (v := .ref l) hx (fun d e => by rw [hρ] at e; cases e) (fun _ _ _ e => e) (fun _ q => nomatch q)) fun _ s₂ ⟨f₂, n₂, hh, _⟩ => ⟨rfl, l, hlS, hlx, f.own hlS, ?_⟩
  refine { f₂ with muts := fun y l' es hm => ?_ }
  simp only [List.mem_singleton, Prod.mk.injEq] at hm
  obtain ⟨rfl, rfl, rfl⟩ := hm
  exact ⟨.head _, fun q => hlx (f.sub _ q), hh, vs, let ⟨n, q⟩ := hp; ⟨n, n₂ _ _ nofun nofun q⟩, .ints hi⟩
theorem Ev.lenMut {x : Str} {px pl pos : Pos} {l : Addr} {ds : List PyData} (hm : OnMain k) (hx : k.env.kindOf "len" = some .globalImplicit) (hg : BName k.G "len" (.builtin "len")) (hmem : (x, l, ds) ∈ μ) (hn : ds.length ≤ 100000) (hd : (x == ("__debug__" : Str)) = false := by decide) :
    Ev k xs μ ρ (.Call (.Name "len" pl) [.Name x px] [] pos) (.int ds.length) := fun s E f => by
  obtain ⟨h1, h2, h3, vs, h4, h5⟩ := f.muts x l _ hmem
  refine Call_ (bname f.wd hg hm.1 hm.2.1 hm.2.2 hx (callWith_builtin1 (args_cons (wpAny_Name (h3.load f.kind (args_nil ?_)) hd))))
  have e : ((vs.size : Nat) : Int) = ds.length := by rw [← h5.length]; simp
  refine call_len_list h4.isList (by rw [e]; omega) ?_
  rw [e]
  exact ⟨Step.toks, .int _ _⟩
theorem fresh_now {s s' : Shared} {l : Addr} (f : k.Fm xs μ ρ s) (st : k.Step s s') (f' : k.Fm xs μ ρ s') (hl : l = s'.heap.objs.size) : l ∉ xs ∧ s.heap.get? l = none ∧ k.S.heap.objs.size ≤ l := by
  subst hl
  refine ⟨fun q => Nat.lt_irrefl _ (f'.below _ q), ?_, f'.bsz⟩
  cases e : s.heap.get? s'.heap.objs.size with
  | none => rfl
  | some o =>
    exfalso
    by_cases q : s'.heap.objs.size ∈ k.ts
    · exact Nat.lt_irrefl _ (f'.below _ (f'.sub _ q))
    · exact Nat.lt_irrefl _ (Heap.lt_size (st.keep _ o q e))
theorem Itw.cast {e : Expr} {ds ds' : List PyData} (h : Itw k xs μ ρ e ds') (q : ds' = ds) : Itw k xs μ ρ e ds := q ▸ h
theorem Itw.reversed {p : Pos} {e : Expr} {ds : List PyData} (hm : OnMain k) (hx : k.env.kindOf "reversed" = some .globalImplicit) (hg : BName k.G "reversed" (.type "reversed")) (h : Ev k xs μ ρ e (.list ds))
    (he : starEach [e] k.env = (false, eval e k.env) :: starEach [] k.env := by rfl) : Itw k xs μ ρ (.Call (.Name "reversed" p) [e] [] pos) ds.reverse := fun s E f => by
  refine Call_ (bname f.wd hg hm.1 hm.2.1 hm.2.2 hx (callWith_type1 (args_cons (wm (h s E f) fun v s₁ ⟨st, hd⟩ => args_nil ?_) he) he))
  have f₁ := f.step st
  cases hd with | @list l us _ g1 g2 g3 =>
  refine call_reversed_list g2 ⟨st.trans Step.push, fun E' => ?_⟩
  have hit : PySem.Heap.IsRevIter (s₁.heap.push (revObj l ((us.size : Int) - 1))) s₁.heap.objs.size l ((us.size : Int) - 1) := ⟨_, Heap.get?_push_size _ rfl, rfl, rfl⟩
  refine wpAny_pyIter_revIter hit ⟨Step.refl, _, rfl, fresh_now f st f₁ rfl, ?_⟩
  have e2 : us.size = ds.length := by rw [← g3.length]; simp
  rw [e2] at hit
  have := ItAt.rev (xs := xs) hit g1 (let ⟨o, ho, r⟩ := g2; ⟨o, Heap.get?_push_of_some _ ho, r⟩) (g3.keep fun b o _ e _ => Heap.get?_push_of_some _ e) (Nat.le_refl _)
  rw [List.take_length] at this
  rw [e2]
  exact this
/-- x, y = e, where e makes a pair -/
theorem Xs.asgTup {x y : Str} {px py tp : Pos} {n : Nat} {e : Expr} {rest : List Stmt} {R : RP} {T : PyData → Prop} (hh : k.A.handled = none) (he : Ev k xs μ ρ e (.tuple [a, b])) (hx : Stores k x) (hy : Stores k y) (hmx : ∀ m ∈ μ, m.1 ≠ x) (hmy : ∀ m ∈ μ, m.1 ≠ y)
    (h : Xs k xs μ ((y, b) :: (x, a) :: ρ) rest R T) (hs : swapsWithSole [.Tuple [.Name x px, .Name y py] n tp] e pos.line k.env = pure false := by rfl) (hw : swappedStores [.Tuple [.Name x px, .Name y py] n tp] e k.env = pure none := by rfl) :
    Xs k xs μ ρ (.Assign [.Tuple [.Name x px, .Name y py] n tp] e pos :: rest) R T := fun s E f =>
  Xs.first (Assign_Tuple (wm (he s E f) fun v s₁ ⟨st, hv⟩ => wm (As.tup2 hh hx hy hmx hmy s₁ E v (f.step st) hv) fun _ s₂ ⟨f₂, _⟩ => ⟨_, _, _, h, f₂⟩) hs hw)
/-- x.reverse() -/
theorem Xs.reverse {x : Str} {px pa p2 : Pos} {l : Addr} {ds : List PyData} {rest : List Stmt} {R : RP} {T : PyData → Prop} (hS : Own k l) (hn : ds.length ≤ 10000)
    (h : Xs k xs [(x, l, ds.reverse)] ρ rest R T) (hi : interactive k.env = false) (hd : (x == ("__debug__" : Str)) = false := by decide)
    (hc : ∃ pl, eval (.Call (.Attribute (.Name x px) "reverse" pa) [] [] pos) k.env = (do
      let ov ← eval (.Name x px) k.env
      standAt pa.atName
      let (f, first) ← holding [ov] (getMethod ov "reverse" pl)
      callWith pos f first (backTo pos (starEach [] k.env)) []) := by exact ⟨_, rfl⟩) : Xs k xs [(x, l, ds)] ρ (.Expr (.Call (.Attribute (.Name x px) "reverse" pa) [] [] pos) p2 :: rest) R T := fun s E f => by
  obtain ⟨pl, hc⟩ := hc
  obtain ⟨h1, h2, h3, vs, ⟨n, h4⟩, h5⟩ := f.muts x l ds (.head _)
  refine Xs.first (wpAny_Expr (MethodCall_ (pl := pl) (wpAny_Name (h3.load f.kind ?_) hd) hc) hi rfl)
  refine getMethod_builtin (id := "list.reverse") ⟨_, h4, rfl⟩ PySem.F.plainAttrs_list PySem.F.slot_list_reverse PySem.F.type_list_reverse (fun a e => by cases e; exact ⟨_, h4, rfl⟩) ?_
  refine callWith_builtin rfl (evalArgs_nil3 ?_)
  have hlen : vs.size = ds.length := by rw [← h5.length]; simp
  refine call_meets PySem.F.slot_list_reverse ⟨_, h4, rfl⟩ PySem.F.entry_list_reverse (PySem.F.args_list_reverse_1 _) (PySem.AutoSeq1.list_reverse_list_0 l vs n (Nat.le_trans (by omega : vs.size ≤ 10000) (by decide))) ⟨h4, ⟨_, _, _, h, ?_⟩⟩
  have hs' := Heap.SameBut.update s.heap l (Obj.mapSeq (fun x => x.reverse))
  have q := PySem.IsL.update h4 (fun x => x.reverse)
  have sk : SeqKeep xs s.heap (s.heap.update l (Obj.mapSeq fun x => x.reverse)) := fun b o hb e _ => (hs'.2 b (fun q => hb (q ▸ h1))).trans e
  refine f.mutate hS ⟨_, _, rfl⟩ (fun b o _ hb e => (hs'.2 b hb).trans e) (f.tab.keep fun b o hpl e => (hs'.2 b fun q => by rw [q, h4] at e; cases e; exact hpl nofun).trans e) ⟨_, q⟩ ?_
  rw [Array.toList_reverse]
  exact (h5.keep sk).reverse
end

end Mine
namespace Mine

def val (B : Int) : List Int → Int
  | [] => 0
  | d :: r => d + B * val B r
def digs (B : Int) : Int → Nat → List Int
  | _, 0 => []
  | x, k + 1 => x % B :: digs B (x / B) k
def ldiv (b B : Int) : List Int → Int → List Int × Int
  | [], r => ([], r)
  | d :: ds, r => ((r * B + d) / b :: (ldiv b B ds ((r * B + d) % b)).1, (ldiv b B ds ((r * B + d) % b)).2)

theorem val_append (B : Int) : ∀ u v, val B (u ++ v) = val B u + B ^ u.length * val B v
  | [], v => by simp [val]
  | d :: u, v => by
    simp only [List.cons_append, val, val_append B u v, List.length_cons]
    have : B ^ (u.length + 1) = B * B ^ u.length := by rw [Int.pow_succ, Int.mul_comm]
    rw [this, Int.mul_add, Int.mul_assoc, Int.add_assoc]
theorem digs_length (B : Int) : ∀ (k : Nat) (x : Int), (digs B x k).length = k
  | 0, _ => rfl
  | k + 1, x => by simp [digs, digs_length B k]
theorem digs_bound {B : Int} (hB : 0 < B) : ∀ (k : Nat) (x d : Int), d ∈ digs B x k → 0 ≤ d ∧ d < B
  | 0, _, _, h => by simp [digs] at h
  | k + 1, x, d, h => by
    simp only [digs, List.mem_cons] at h
    rcases h with rfl | h
    · exact ⟨Int.emod_nonneg _ (by omega), Int.emod_lt_of_pos _ hB⟩
    · exact digs_bound hB k _ _ h
theorem val_digs {B : Int} (hB : 0 < B) : ∀ (k : Nat) (x : Int), 0 ≤ x → x < B ^ k → val B (digs B x k) = x
  | 0, x, h0, h1 => by simp at h1; simp [digs, val]; omega
  | k + 1, x, h0, h1 => by
    simp only [digs, val]
    rw [val_digs hB k (x / B) (Int.ediv_nonneg h0 (by omega)) (by
      rw [Int.pow_succ] at h1
      exact Int.ediv_lt_of_lt_mul hB h1)]
    have := Int.mul_ediv_add_emod x B
    omega
theorem mod_mul_div {x B K : Int} (hx : 0 ≤ x) (hB : 0 < B) (hK : 0 < K) : x % (B * K) / B = x / B % K := by
  obtain ⟨n, rfl⟩ := Int.eq_ofNat_of_zero_le hx
  obtain ⟨m, rfl⟩ := Int.eq_ofNat_of_zero_le (Int.le_of_lt hB)
  obtain ⟨k, rfl⟩ := Int.eq_ofNat_of_zero_le (Int.le_of_lt hK)
  have := Nat.mod_mul_right_div_self n m k
  have h : ((n % (m * k) / m : Nat) : Int) = ((n / m % k : Nat) : Int) := by rw [this]
  push_cast at h
  exact h
theorem digs_add {B : Int} (hB : 0 < B) : ∀ (a b : Nat) (x : Int), 0 ≤ x → digs B x (a + b) = digs B (x % B ^ a) a ++ digs B (x / B ^ a) b
  | 0, b, x, _ => by simp [digs]
  | a + 1, b, x, hx => by
    have e : a + 1 + b = (a + b) + 1 := by omega
    rw [e]
    simp only [digs, List.cons_append]
    have hp : 0 < B ^ a := Int.pow_pos hB
    have h1 : B ^ (a + 1) = B * B ^ a := by rw [Int.pow_succ, Int.mul_comm]
    rw [digs_add hB a b _ (Int.ediv_nonneg hx (Int.le_of_lt hB)), h1]
    rw [Int.emod_emod_of_dvd x (Int.dvd_mul_right B (B ^ a)), mod_mul_div hx hB hp, Int.ediv_ediv_of_nonneg (Int.le_of_lt hB)]

theorem ldiv_length (b B : Int) : ∀ (ds : List Int) (r : Int), (ldiv b B ds r).1.length = ds.length
  | [], _ => rfl
  | d :: ds, r => by simp [ldiv, ldiv_length b B ds]
theorem ldiv_nonneg {b B : Int} (hb : 0 < b) (hB : 0 < B) : ∀ (ds : List Int) (r : Int), 0 ≤ r → (∀ d ∈ ds, 0 ≤ d) → ∀ q ∈ (ldiv b B ds r).1, 0 ≤ q
  | [], _, _, _, q, h => by simp [ldiv] at h
  | d :: ds, r, hr, hd, q, h => by
    simp only [ldiv, List.mem_cons] at h
    have hx : 0 ≤ r * B + d := by
      have := Int.mul_nonneg hr (Int.le_of_lt hB)
      have := hd d (.head _)
      omega
    rcases h with rfl | h
    · exact Int.ediv_nonneg hx (by omega)
    · exact ldiv_nonneg hb hB ds _ (Int.emod_nonneg _ (by omega)) (fun d hd' => hd d (.tail _ hd')) q h
theorem ldiv_spec {b B : Int} (hb : 0 < b) : ∀ (ds : List Int) (r : Int), 0 ≤ r → r < b → r * B ^ ds.length + val B ds.reverse = b * val B (ldiv b B ds r).1.reverse + (ldiv b B ds r).2 ∧ 0 ≤ (ldiv b B ds r).2 ∧ (ldiv b B ds r).2 < b
  | [], r, h0, h1 => by simp [ldiv, val]; omega
  | d :: ds, r, h0, h1 => by
    have ih := ldiv_spec (B := B) hb ds ((r * B + d) % b) (Int.emod_nonneg _ (by omega)) (Int.emod_lt_of_pos _ hb)
    refine ⟨?_, ih.2⟩
    simp only [ldiv, List.reverse_cons, List.length_cons, val_append, List.length_reverse, val, ldiv_length]
    have h2 := Int.mul_ediv_add_emod (r * B + d) b
    have h3 := ih.1
    generalize (r * B + d) / b = q at *
    generalize (r * B + d) % b = m at *
    generalize val B ds.reverse = V at *
    generalize val B (ldiv b B ds m).1.reverse = W at *
    generalize (ldiv b B ds m).2 = t at *
    have h4 : B ^ (ds.length + 1) = B ^ ds.length * B := Int.pow_succ _ _
    rw [h4]
    generalize B ^ ds.length = K at *
    have : r * (K * B) + (V + K * (d + B * 0)) = (r * B + d) * K + V := by
      simp only [Int.mul_zero, Int.add_zero, Int.add_mul]
      rw [Int.mul_comm K d, Int.mul_comm K B, ← Int.mul_assoc]
      omega
    rw [this, ← h2, Int.add_mul]
    have e2 : b * (W + K * (q + B * 0)) = b * W + b * q * K := by
      simp only [Int.mul_zero, Int.add_zero, Int.mul_add]
      rw [Int.mul_comm K q, ← Int.mul_assoc]
    rw [e2]
    omega
def i2d (n : Int) : Nat → List Int → Int → Int → Int → List Int
  | 0, ds, _, _, _ => ds
  | f + 1, ds, x, L, R => if L + 1 = R then ds.set L.toNat x else i2d n f (i2d n f ds (x % 2 ^ (((L + R) / 2 - L) * n).toNat) L ((L + R) / 2)) (x / 2 ^ (((L + R) / 2 - L) * n).toNat) ((L + R) / 2) R
theorem i2d_length (n : Int) : ∀ (f : Nat) (ds : List Int) (x L R : Int), (i2d n f ds x L R).length = ds.length
  | 0, _, _, _, _ => rfl
  | f + 1, ds, x, L, R => by
    unfold i2d
    split
    · simp
    · rw [i2d_length n f, i2d_length n f]


def d2i (n : Int) : Nat → List Int → Int → Int → Int
  | 0, _, _, _ => 0
  | f + 1, ds, L, R => if L + 1 = R then ds.getD L.toNat 0 else d2i n f ds ((L + R) / 2) R * 2 ^ (((L + R) / 2 - L) * n).toNat + d2i n f ds L ((L + R) / 2)

theorem pow_shift (N : Nat) {m : Int} (hm : 0 ≤ m) : (2 : Int) ^ (m * (N : Int)).toNat = (2 ^ N) ^ m.toNat := by
  obtain ⟨k, rfl⟩ := Int.eq_ofNat_of_zero_le hm
  rw [← Int.natCast_mul, Int.toNat_natCast, Int.toNat_natCast, ← Int.pow_mul, Nat.mul_comm]

theorem i2d_digs (N : Nat) : ∀ (f : Nat) (ds : List Int) (x L R : Int), 0 ≤ x → 0 ≤ L → L < R → R ≤ ds.length → R - L ≤ 2 ^ f → x < (2 ^ N) ^ (R - L).toNat →
    i2d N (f + 1) ds x L R = ds.take L.toNat ++ digs (2 ^ N) x (R - L).toNat ++ ds.drop R.toNat := by
  have hB : (0 : Int) < 2 ^ N := Int.pow_pos (by omega)
  have leaf : ∀ (ds : List Int) (x L R : Int), 0 ≤ x → 0 ≤ L → L + 1 = R → R ≤ ds.length → x < (2 ^ N) ^ (R - L).toNat → ds.set L.toNat x = ds.take L.toNat ++ digs (2 ^ N) x (R - L).toNat ++ ds.drop R.toNat := by
    intro ds x L R hx hL hR hl hb
    have e1 : (R - L).toNat = 1 := by omega
    have e2 : R.toNat = L.toNat + 1 := by omega
    rw [e1] at hb ⊢
    rw [e2]
    simp only [digs, Int.pow_one, Int.pow_succ, Int.pow_zero, Int.one_mul] at hb ⊢
    rw [Int.emod_eq_of_lt hx hb, List.set_eq_take_append_cons_drop, if_pos (by omega)]
    simp
  intro f
  induction f with
  | zero =>
    intro ds x L R hx hL hLR hR hf hb
    have hleaf : L + 1 = R := by simp at hf; omega
    unfold i2d
    rw [if_pos hleaf]
    exact leaf ds x L R hx hL hleaf hR hb
  | succ f ih =>
    intro ds x L R hx hL hLR hR hf hb
    unfold i2d
    by_cases hleaf : L + 1 = R
    · rw [if_pos hleaf]
      exact leaf ds x L R hx hL hleaf hR hb
    · rw [if_neg hleaf]
      have hpow : (2 : Int) ^ (f + 1) = 2 * 2 ^ f := by rw [Int.pow_succ]; omega
      rw [hpow] at hf
      generalize hmid : (L + R) / 2 = mid
      rw [pow_shift N (by omega)]
      have hp : (0 : Int) < (2 ^ N) ^ (mid - L).toNat := Int.pow_pos hB
      have hsplit : (R - L).toNat = (mid - L).toNat + (R - mid).toNat := by omega
      have hb2 : x / (2 ^ N) ^ (mid - L).toNat < (2 ^ N) ^ (R - mid).toNat := by
        rw [hsplit, Int.pow_add] at hb
        exact Int.ediv_lt_of_lt_mul hp (by rw [Int.mul_comm]; exact hb)
      rw [ih ds _ L mid (Int.emod_nonneg _ (by omega)) hL (by omega) (by omega) (by omega) (Int.emod_lt_of_pos _ hp)]
      have hlen1 : (digs (2 ^ N) (x % (2 ^ N) ^ (mid - L).toNat) (mid - L).toNat).length = (mid - L).toNat := digs_length _ _ _
      rw [ih _ _ mid R (Int.ediv_nonneg hx (by omega)) (by omega) (by omega) (by simp [hlen1]; omega) (by omega) hb2]
      rw [hsplit, digs_add hB _ _ x hx]
      have e1 : (ds.take L.toNat ++ digs (2 ^ N) (x % (2 ^ N) ^ (mid - L).toNat) (mid - L).toNat).length = mid.toNat := by simp [hlen1]; omega
      rw [List.take_append_of_le_length (by omega), List.take_of_length_le (by omega), List.drop_append, List.drop_of_length_le (by omega)]
      simp only [List.nil_append, List.drop_drop, e1, List.append_assoc]
      congr 4
      omega

theorem d2i_val (N : Nat) : ∀ (f : Nat) (ds : List Int) (L R : Int), 0 ≤ L → L < R → R ≤ ds.length → R - L ≤ 2 ^ f → d2i N (f + 1) ds L R = val (2 ^ N) ((ds.drop L.toNat).take (R - L).toNat) := by
  have leaf : ∀ (ds : List Int) (L R : Int), 0 ≤ L → L + 1 = R → R ≤ ds.length → ds.getD L.toNat 0 = val (2 ^ N) ((ds.drop L.toNat).take (R - L).toNat) := by
    intro ds L R hL hR hl
    have e1 : (R - L).toNat = 1 := by omega
    have e2 : L.toNat < ds.length := by omega
    rw [e1, List.drop_eq_getElem_cons e2]
    show ds.getD L.toNat 0 = val (2 ^ N) [ds[L.toNat]]
    simp only [val]
    rw [List.getD_eq_getElem?_getD, List.getElem?_eq_getElem e2]
    simp
  intro f
  induction f with
  | zero =>
    intro ds L R hL hLR hR hf
    have hleaf : L + 1 = R := by simp at hf; omega
    unfold d2i
    rw [if_pos hleaf]
    exact leaf ds L R hL hleaf hR
  | succ f ih =>
    intro ds L R hL hLR hR hf
    unfold d2i
    by_cases hleaf : L + 1 = R
    · rw [if_pos hleaf]
      exact leaf ds L R hL hleaf hR
    · rw [if_neg hleaf]
      have hpow : (2 : Int) ^ (f + 1) = 2 * 2 ^ f := by rw [Int.pow_succ]; omega
      rw [hpow] at hf
      generalize hmid : (L + R) / 2 = mid
      rw [pow_shift N (by omega), ih ds mid R (by omega) (by omega) hR (by omega), ih ds L mid hL (by omega) (by omega) (by omega)]
      have e : (ds.drop L.toNat).take (R - L).toNat = (ds.drop L.toNat).take (mid - L).toNat ++ (ds.drop mid.toNat).take (R - mid).toNat := by
        have hsplit : (R - L).toNat = (mid - L).toNat + (R - mid).toNat := by omega
        rw [hsplit, List.take_add, List.drop_drop]
        congr 3
        omega
      rw [e, val_append]
      have : ((ds.drop L.toNat).take (mid - L).toNat).length = (mid - L).toNat := by simp; omega
      rw [this, Int.mul_comm, Int.add_comm]

theorem val_nonneg {B : Int} (hB : 0 < B) : ∀ ds : List Int, (∀ d ∈ ds, 0 ≤ d) → 0 ≤ val B ds
  | [], _ => by simp [val]
  | d :: r, h => by
    have h1 := h d (.head _)
    have h2 := Int.mul_nonneg (Int.le_of_lt hB) (val_nonneg hB r fun d hd => h d (.tail _ hd))
    simp only [val]
    omega
theorem val_block {B : Int} (hB : 0 < B) (u v w : List Int) (h : ∀ d ∈ u ++ v ++ w, 0 ≤ d) : val B v ≤ val B (u ++ v ++ w) := by
  have hu := val_nonneg hB u fun d hd => h d (by simp [hd])
  have hv := val_nonneg hB v fun d hd => h d (by simp [hd])
  have hw := val_nonneg hB w fun d hd => h d (by simp [hd])
  rw [val_append, val_append]
  have hp1 : 1 ≤ B ^ u.length := Int.pow_pos hB
  have hp2 : 0 < B ^ (u ++ v).length := Int.pow_pos hB
  have h1 := Int.mul_nonneg (Int.le_of_lt hp2) hw
  have h2 : 1 * val B v ≤ B ^ u.length * val B v := Int.mul_le_mul_of_nonneg_right hp1 hv
  omega
end Mine
namespace Mine
open PySem PySem.W PySem.Calls PyProof.Rows

abbrev P := PySem.Challenge.pw_hk0004_03
abbrev sBis : Stmt := stAt P 10
theorem bis_binds2 {s : Shared} {T D : Addr} {o : Obj} {n : Nat} {t : Tok} {m : Str → Option Value} (ho : s.heap.get? T = some o) (hs : o.data = .seq #[.int 0 t, .none] n) (hn : s.heap.Ns D m) (hm : m "key" = some .none) (v1 v2 doc pm ct cdv : Value) (an : Option Addr) :
    BindsTo s (fnOf "bisect_left" "bisect_left" (fParams sBis) (fBody sBis) (fScope sBis) (.ref T) (.ref D) doc pm an cdv ct) ⟨[v1, v2], []⟩ [("a", v1), ("x", v2), ("lo", .int 0 t), ("hi", .none), ("key", .none)] := fun M A E Q hq => by
  show wpAny M A (seqItems? (.ref T) >>= _) Q E s
  refine wpAny_bind (wpAny_seqItems ho hs ?_)
  show wpAny M A ((((nsGet D (Str.ofString "key")) >>= _) >>= _ ) >>= _) Q E s
  refine wpAny_bind (wpAny_bind (wpAny_bind (wpAny_nsGet hn ?_)))
  rw [hm]
  exact wpAny_pure (wpAny_pure (wpAny_pure hq))
theorem bis_binds4 {s : Shared} {T D : Addr} {o : Obj} {n : Nat} {t : Tok} {m : Str → Option Value} (ho : s.heap.get? T = some o) (hs : o.data = .seq #[.int 0 t, .none] n) (hn : s.heap.Ns D m) (hm : m "key" = some .none) (v1 v2 v3 v4 doc pm ct cdv : Value) (an : Option Addr) :
    BindsTo s (fnOf "bisect_left" "bisect_left" (fParams sBis) (fBody sBis) (fScope sBis) (.ref T) (.ref D) doc pm an cdv ct) ⟨[v1, v2, v3, v4], []⟩ [("a", v1), ("x", v2), ("lo", v3), ("hi", v4), ("key", .none)] := fun M A E Q hq => by
  show wpAny M A (seqItems? (.ref T) >>= _) Q E s
  refine wpAny_bind (wpAny_seqItems ho hs ?_)
  show wpAny M A ((((nsGet D (Str.ofString "key")) >>= _) >>= _ ) >>= _) Q E s
  refine wpAny_bind (wpAny_bind (wpAny_bind (wpAny_nsGet hn ?_)))
  rw [hm]
  exact wpAny_pure (wpAny_pure (wpAny_pure hq))

structure BisAt (G : Heap) (f : Addr) : Prop where
  fn : ∃ T D t n o m cdv, FnAt0 G f "bisect_left" (fParams sBis) (fBody sBis) (fScope sBis) (.ref T) (.ref D) cdv ∧ G.get? T = some o ∧ o.data = .seq #[.int 0 t, .none] n ∧ G.Ns D m ∧ m "key" = some .none
  len : BName G "len" (.builtin "len")

section
variable {prog : Program} {w : World} {tabs : List Tab} {G : Heap} {f : Addr}

theorem bis_body (k : Kx) (hm : OnMain k) (hs : k.env.scope = fScope sBis) (hG : BName k.G "len" (.builtin "len")) (xs : List Addr) (a : List Int) (x : Int) (ha : a.length ≤ 1000) (ρ : Rho) 
    (h1 : Lk ρ "a" (.list (a.map .int))) (h2 : Lk ρ "x" (.int x)) (h3 : Lk ρ "lo" (.int 0)) (h4 : Lk ρ "hi" .none) (h5 : Lk ρ "key" .none) :
    Xs k xs [] ρ (fBody sBis) (fun _ _ _ => False) (· = .int (bl a x a.length 0 a.length)) := by
  have st : ∀ y, (fScope sBis).names.lookup y = some NameKind.local → Stores k y := fun y hy => .inl (by unfold Env.kindOf; rw [hs]; exact hy)
  refine Xs.iff (.cmp (.name h3) .int .lt) (fun q => absurd q (by decide)) fun _ => Xs.nil ?_
  refine Xs.iff (.cmp (.name h4) .none .isNone) (fun _ => ?_) (fun q => absurd q (by decide))
  refine Xs.asg (.bi hm (by unfold Env.kindOf; rw [hs]; rfl) hG (.len (by simpa using by omega)) (.cons (.name h1) .nil)) (st _ rfl) nofun (Xs.nil ?_)
  refine Xs.iff (.cmp (.name (by exact h5)) .none .isNone) (fun _ => ?_) (fun q => absurd q (by decide))
  refine Xs.while (fun n μ ρ => μ = [] ∧ ∃ lo hi : Int, 0 ≤ lo ∧ hi ≤ a.length ∧ n = (hi - lo).toNat ∧ Lk ρ "a" (.list (a.map .int)) ∧ Lk ρ "x" (.int x) ∧ Lk ρ "lo" (.int lo) ∧ Lk ρ "hi" (.int hi) ∧ bl a x n lo hi = bl a x a.length 0 a.length)
    a.length ⟨rfl, 0, a.length, by omega, by omega, by simp, h1, h2, h3, by simp; rfl, rfl⟩ ?_
  rintro n μ ρ ⟨rfl, lo, hi, g1, g2, rfl, g4, g5, g6, g7, g8⟩
  refine ⟨decide (lo < hi), .cmp (.name g6) (.name g7) .lt, fun q => ?_, fun q => ?_⟩
  · have q : lo < hi := of_decide_eq_true q
    refine Xs.asg (.bin (.bin (.name g6) (.name g7) .add) .int (.div (by decide) (by decide))) (st _ rfl) nofun ?_
    have hmid : ((lo + hi) / 2).toNat < a.length := by omega
    refine Xs.iff (c := decide (a.getD ((lo + hi) / 2).toNat 0 < x)) (.cmp (.item (j := ((lo + hi) / 2).toNat) (d := .int (a.getD ((lo + hi) / 2).toNat 0)) (.name g4) (.name rfl) (by omega) (by omega) (by rw [List.length_map]; exact seqIndex_of (by omega) (by omega)) ?_) (.name g5) .lt) (fun q2 => ?_) (fun q2 => ?_)
    · rw [List.getElem?_map, List.getD_eq_getElem?_getD, List.getElem?_eq_getElem hmid]; rfl
    · refine Xs.asg (.bin (.name rfl) .int .add) (st _ rfl) nofun (Xs.nil (Xs.nil ⟨rfl, _, ?_, rfl, (lo + hi) / 2 + 1, hi, by omega, g2, rfl, g4, g5, rfl, g7, ?_⟩))
      · omega
      · rw [← g8]
        have e : (hi - lo).toNat = ((hi - lo).toNat - 1) + 1 := by omega
        rw [e, bl, if_pos q, if_pos (of_decide_eq_true q2)]
        exact bl_more a x _ _ _ _ (by omega) (by omega)
    · refine Xs.asg (.name rfl) (st _ rfl) nofun (Xs.nil (Xs.nil ⟨rfl, _, ?_, rfl, lo, (lo + hi) / 2, by omega, by omega, rfl, g4, g5, g6, rfl, ?_⟩))
      · omega
      · rw [← g8]
        have e : (hi - lo).toNat = ((hi - lo).toNat - 1) + 1 := by omega
        rw [e, bl, if_pos q, if_neg (of_decide_eq_false q2)]
        exact bl_more a x _ _ _ _ (by omega) (by omega)
  · have q : ¬ lo < hi := of_decide_eq_false q
    refine Xs.nil (Xs.ret (.name g6) ?_)
    rw [← g8]
    have e : (hi - lo).toNat = 0 := by omega
    rw [e, bl]
end
end Mine
namespace Mine
open PySem PySem.W PySem.Calls PyProof.Rows
section
variable {prog : Program} {w : World} {tabs : List Tab} {G : Heap} {f : Addr}

structure DfltAt (G : Heap) (dV kV : Value) : Prop where
  pos : ∃ T t n o, dV = .ref T ∧ G.get? T = some o ∧ o.data = .seq #[.int 0 t, .none] n
  kw : ∃ D m, kV = .ref D ∧ G.Ns D m ∧ m "key" = some .none

theorem fn_main {k : Kx} {scope : Scope} {L : Addr} {name : Str} {f : Addr} {cdv : Value} (hk : scope.kind = .function) (e : k.env = fnEnv scope L name f cdv) : OnMain k := by
  unfold OnMain; rw [e]; exact ⟨hk, rfl, rfl⟩

theorem bis_spec2 {dV kV cdv : Value} (F : FnAt0 G f "bisect_left" (fParams sBis) (fBody sBis) (fScope sBis) dV kV cdv) (D : DfltAt G dV kV) (hl : BName G "len" (.builtin "len")) (a : List Int) (x : Int) (ha : a.length ≤ 1000) :
    Spec prog w tabs G f [.list (a.map .int), .int x] 1 (· = .int (bl a x a.length 0 a.length)) := by
  obtain ⟨⟨T, t, n, o, rfl, h1, h2⟩, Dk, m, rfl, h3, h4⟩ := D
  refine Spec.of_body (ρ := [("a", .list (a.map .int)), ("x", .int x), ("lo", .int 0), ("hi", .none), ("key", .none)]) F (fun s xs vs hW hd => ?_) (fun L => rfl) (by simp only [List.map_cons, List.map_nil]; decide) rfl rfl rfl fun A s k xs e hr => ?_
  · cases hd with | @cons v1 _ _ _ q1 r =>
    cases r with | @cons v2 _ _ _ q2 r =>
    cases r
    exact ⟨_, fun doc pm an ct => bis_binds2 (hW _ _ h1).2 h2 (h3.keeps fun b o e => (hW b o e).2) h4 v1 v2 doc pm ct cdv an, .cons q1 (.cons q2 (.cons (.int _ _) (.cons .none (.cons .none .nil)))), rfl⟩
  · subst e
    exact (bis_body _ (fn_main rfl rfl) rfl hl xs a x ha _ rfl rfl rfl rfl rfl).mono (fun _ _ _ q => q.elim) fun _ q => q
theorem bis_spec4 {dV kV cdv : Value} (F : FnAt0 G f "bisect_left" (fParams sBis) (fBody sBis) (fScope sBis) dV kV cdv) (D : DfltAt G dV kV) (hl : BName G "len" (.builtin "len")) (a : List Int) (x : Int) (ha : a.length ≤ 1000) :
    Spec prog w tabs G f [.list (a.map .int), .int x, .int 0, .none] 1 (· = .int (bl a x a.length 0 a.length)) := by
  obtain ⟨⟨T, t, n, o, rfl, h1, h2⟩, Dk, m, rfl, h3, h4⟩ := D
  refine Spec.of_body (ρ := [("a", .list (a.map .int)), ("x", .int x), ("lo", .int 0), ("hi", .none), ("key", .none)]) F (fun s xs vs hW hd => ?_) (fun L => rfl) (by simp only [List.map_cons, List.map_nil]; decide) rfl rfl rfl fun A s k xs e hr => ?_
  · cases hd with | @cons v1 _ _ _ q1 r =>
    cases r with | @cons v2 _ _ _ q2 r =>
    cases r with | @cons v3 _ _ _ q3 r =>
    cases r with | @cons v4 _ _ _ q4 r =>
    cases r
    exact ⟨_, fun doc pm an ct => bis_binds4 (hW _ _ h1).2 h2 (h3.keeps fun b o e => (hW b o e).2) h4 v1 v2 v3 v4 doc pm ct cdv an, .cons q1 (.cons q2 (.cons q3 (.cons q4 (.cons .none .nil)))), rfl⟩
  · subst e
    exact (bis_body _ (fn_main rfl rfl) rfl hl xs a x ha _ rfl rfl rfl rfl rfl).mono (fun _ _ _ q => q.elim) fun _ q => q

abbrev sIns : Stmt := stAt P 9
theorem ins_binds2 {s : Shared} {T D : Addr} {o : Obj} {n : Nat} {t : Tok} {m : Str → Option Value} (ho : s.heap.get? T = some o) (hs : o.data = .seq #[.int 0 t, .none] n) (hn : s.heap.Ns D m) (hm : m "key" = some .none) (v1 v2 doc pm ct cdv : Value) (an : Option Addr) :
    BindsTo s (fnOf "insort_left" "insort_left" (fParams sIns) (fBody sIns) (fScope sIns) (.ref T) (.ref D) doc pm an cdv ct) ⟨[v1, v2], []⟩ [("a", v1), ("x", v2), ("lo", .int 0 t), ("hi", .none), ("key", .none)] := fun M A E Q hq => by
  show wpAny M A (seqItems? (.ref T) >>= _) Q E s
  refine wpAny_bind (wpAny_seqItems ho hs ?_)
  show wpAny M A ((((nsGet D (Str.ofString "key")) >>= _) >>= _ ) >>= _) Q E s
  refine wpAny_bind (wpAny_bind (wpAny_bind (wpAny_nsGet hn ?_)))
  rw [hm]
  exact wpAny_pure (wpAny_pure (wpAny_pure hq))

theorem ins_spec {fb : Addr} {dV kV cdv : Value} (F : FnAt0 G f "insort_left" (fParams sIns) (fBody sIns) (fScope sIns) dV kV cdv) (D : DfltAt G dV kV) (hb : GName G "bisect_left" (.ref fb)) (hbf : FnAt fb G)
    (hB : ∀ a x, a.length ≤ 1000 → Spec prog w tabs G fb [.list (a.map .int), .int x, .int 0, .none] 1 (· = .int (bl a x a.length 0 a.length))) : InsSpec prog w tabs G f 2 := by
  obtain ⟨⟨T, t, n, o, rfl, h1, h2⟩, Dk, m, rfl, h3, h4⟩ := D
  intro A s l ns x t vs E hr hW hT hG hl hp hi hn
  have hpo : ∃ o, s.heap.get? l = some o := let ⟨n, q⟩ := hp; ⟨_, q⟩
  refine call_bodyG (ρ := [("x", .int x), ("lo", .int 0), ("hi", .none), ("key", .none)]) (xs := l :: tsOf tabs) F hr hW hT (fun _ q => .tail _ q) (fun y hy hn => (List.mem_cons.mp hy).elim (fun e => e ▸ hpo) fun q => absurd q hn) hG
    (fun doc pm an ct => ins_binds2 (hW _ _ h1).2 h2 (h3.keeps fun b o e => (hW b o e).2) h4 (.ref l) (.int x t) doc pm ct cdv an) (fun y d e => ?_) (fun L => rfl) (by simp only [List.map_cons, List.map_nil]; decide) rfl rfl rfl fun k s₁ hk hr1 f₁ hold keep => ?_
  · exact rho_get (bs := [("x", .int x t), ("lo", .int 0 _), ("hi", .none), ("key", .none)]) rfl (.cons (.int _ _) (.cons (.int _ _) (.cons .none (.cons .none .nil)))) e |>.imp fun v q => ⟨.tail _ q.1, q.2⟩
  · have hp1 : s₁.heap.PlainList l vs := let ⟨n, q⟩ := hp; ⟨n, keep _ _ q⟩
    have f₂ : k.Fm (l :: tsOf tabs) [("a", l, ns.map .int)] [("x", .int x), ("lo", .int 0), ("hi", .none), ("key", .none)] s₁ := by
      refine { f₁ with muts := fun y l' es hm => ?_ }
      simp only [List.mem_singleton, Prod.mk.injEq] at hm
      obtain ⟨rfl, rfl, rfl⟩ := hm
      subst hk
      exact ⟨.head _, hl, hold _ _ (.head _), vs, hp1, .ints hi⟩
    have hkm : OnMain k := by subst hk; exact ⟨rfl, rfl, rfl⟩
    have hks : k.env.scope = fScope sIns := by subst hk; rfl
    have st : ∀ y, (fScope sIns).names.lookup y = some NameKind.local → Stores k y := fun y hy => .inl (by unfold Env.kindOf; rw [hks]; exact hy)
    have gl : ∀ y, (fScope sIns).names.lookup y = some NameKind.globalImplicit → k.env.kindOf y = some .globalImplicit := fun y hy => by unfold Env.kindOf; rw [hks]; exact hy
    have hkG : k.G = G ∧ k.prog = prog ∧ k.w = w ∧ k.tabs = tabs := by subst hk; exact ⟨rfl, rfl, rfl, rfl⟩
    obtain ⟨e1, e2, e3, e4⟩ := hkG
    have X : Xs k (l :: tsOf tabs) [("a", l, ns.map .int)] [("x", .int x), ("lo", .int 0), ("hi", .none), ("key", .none)] ((fBody sIns).take 1)
        (fun xs' μ' ρ' => xs' = l :: tsOf tabs ∧ μ' = ([("a", l, ns.map .int)] : Mu) ∧ Lk ρ' "lo" (.int (bl ns x ns.length 0 ns.length)) ∧ Lk ρ' "x" (.int x)) (fun _ => False) := by
      refine Xs.iff (.cmp (.name rfl) .none .isNone) (fun _ => ?_) (fun q => absurd q (by decide))
      refine Xs.asg (.callMut (n := 1) hkm (gl _ rfl) (e1 ▸ hb) (e1 ▸ hbf) hr1 (by rw [e1, e2, e3, e4]; exact hB ns x hn) (.head _) (.cons (.name rfl) (.cons (.name rfl) (.cons (.name rfl) .nil)))) (st _ rfl) (by simp; decide) (Xs.nil (Xs.nil ⟨rfl, rfl, rfl, rfl⟩))
    refine wpAny_execs_cons (wm (execs_one (X s₁ _ f₂)) fun fl s₂ q => ?_)
    cases fl with
    | ret v => obtain ⟨d, q, _⟩ := q; exact q.elim
    | brk => exact q.elim
    | cont => exact q.elim
    | next =>
      obtain ⟨_, _, ρ', ⟨rfl, rfl, g1, g2⟩, f₃⟩ := q
      obtain ⟨_, _, h5, vs₂, hp₂, hd₂⟩ := f₃.muts "a" l _ (.head _)
      refine wpAny_execs_cons (wpAny_Expr (MethodCall_ (wpAny_Name (h5.load f₃.kind ?_) (by decide))) (by subst hk; rfl) rfl)
      refine getMethod_builtin (id := "list.insert") hp₂.isList.typeIs PySem.F.plainAttrs_list PySem.F.slot_list_insert PySem.F.type_list_insert (fun a e => by cases e; obtain ⟨n, q⟩ := hp₂; exact ⟨_, q, rfl⟩) ?_
      refine callWith_builtin (args := (false, _) :: backTo _ (starEach [_] _)) rfl (evalArgs_plain (spliced_cons (wm (Ev.name g1 (by decide) s₂ _ f₃) fun v1 s₃ ⟨st₃, hv1⟩ => spliced_cons (wm (Ev.name g2 (by decide) s₃ _ (f₃.step st₃)) fun v2 s₄ ⟨st₄, hv2⟩ => spliced_nil ?_))))
      have f₄ := (f₃.step st₃).step st₄
      obtain ⟨_, _, _, vs₄, hp₄, hd₄⟩ := f₄.muts "a" l _ (.head _)
      cases hv1 with | int _ t1 =>
      cases hv2 with | int _ t2 =>
      have hi4 := hd₄.intsAre
      have hlen := IntsAre.len hi4
      simp at hlen
      have hr2 := bl_range ns x ns.length 0 ns.length (by omega)
      refine call_insert hp₄ hr2.1 (by rw [hlen]; exact hr2.2) (by omega) fun h' hp' hs' => wpAny_execs_nil ⟨rfl, ?_, fun b o hb hbl e => ?_, ?_, _, hp', ?_⟩
      · have := f₄.same
        subst hk
        obtain ⟨h, tk, e⟩ := this
        exact ⟨h', tk, by rw [e]⟩
      · refine (hs'.2 b hbl).trans (f₄.base b o ?_ ?_)
        · rw [e4]; exact hb
        · subst hk; exact e
      · have ht := f₄.tab
        rw [e4] at ht
        exact ht.keep fun b o hpl e => (hs'.2 b fun q => by obtain ⟨n, q2⟩ := hp₄; rw [q, q2] at e; cases e; exact hpl nofun).trans e
      · exact Mine.IntsAre.app (IntsAre.tak _ hi4) (.cons _ _ (IntsAre.drp _ hi4))
end
end Mine
namespace Mine
open PySem PySem.W PySem.Calls PyProof.Rows
section
variable {prog : Program} {w : World} {tabs : List Tab} {G : Heap} {f : Addr}

abbrev sDv : Stmt := stAt P 2
theorem dv_spec {cdv : Value} (F : FnAt0 G f "_div2n1n" (fParams sDv) (fBody sDv) (fScope sDv) .none .none cdv) (hL : ∃ t, GName G "_DIV_LIMIT" (.int 4000 t)) (hd : BName G "divmod" (.builtin "divmod")) (i j n : Int) (hj : 0 < j) (hj2 : j < 1073741824)
    (hb : (Builtin.Int.intBits i : Int) - n ≤ 4000) : Spec prog w tabs G f [.int i, .int j, .int n] 1 (· = .tuple [.int (i / j), .int (i % j)]) := by
  refine Spec.of_body (ρ := [("a", .int i), ("b", .int j), ("n", .int n)]) F (fun s xs vs hW hd => ?_) (fun L => rfl) (by simp only [List.map_cons, List.map_nil]; decide) rfl rfl rfl fun A s k xs e hr => ?_
  · cases hd with | @cons v1 _ _ _ q1 r =>
    cases r with | @cons v2 _ _ _ q2 r =>
    cases r with | @cons v3 _ _ _ q3 r =>
    cases r
    exact ⟨[("a", v1), ("b", v2), ("n", v3)], fun doc pm an ct => BindsTo.of_eq rfl, .cons q1 (.cons q2 (.cons q3 .nil)), rfl⟩
  · subst e
    refine Xs.iff (c := decide ((Builtin.Int.intBits i : Int) - n ≤ 4000)) (.cmp (.bin (.bitlen rfl) (.name rfl) .sub) (.gint (fn_main rfl rfl) rfl hL) .le) (fun q => Xs.ret (.bi (fn_main rfl rfl) rfl hd (.divmod hj hj2) (.cons (.name rfl) (.cons (.name rfl) .nil))) rfl) (fun q => absurd hb (of_decide_eq_false q))
end
end Mine
namespace Mine
open PySem PySem.W PySem.Calls PyProof.Rows

theorem wp_execs_app {M : Model} {Γ : Ctx} {E : Value → Pos → Shared → Prop} {env : Env} {Q : Flow → Pos → Shared → Prop} {l2 : List Stmt} : ∀ (l1 : List Stmt) (p : Pos) (s : Shared),
    Sem.wp M Γ (execs l1 env) (fun f p' s' => match f with | .next => Sem.wp M Γ (execs l2 env) Q E p' s' | f => Q f p' s') E p s → Sem.wp M Γ (execs (l1 ++ l2) env) Q E p s
  | [], p, s, h => h
  | st :: r, p, s, h => by
    rw [List.cons_append, execs_cons, Sem.wp_bind']
    rw [execs_cons, Sem.wp_bind'] at h
    refine Sem.wp_mono M Γ _ (fun f p' s' h' => ?_) (fun _ _ _ h' => h') _ _ h
    cases f with
    | next => exact wp_execs_app r p' s' h'
    | ret v => exact h'
    | brk => exact h'
    | cont => exact h'
theorem execs_app {M : Model} {A : Around} {E : Value → Shared → Prop} {env : Env} {Q : Flow → Shared → Prop} {l2 : List Stmt} (l1 : List Stmt) {s : Shared}
    (h : wpAny M A (execs l1 env) (fun f s' => match f with | .next => wpAny M A (execs l2 env) Q E s' | f => Q f s') E s) : wpAny M A (execs (l1 ++ l2) env) Q E s := fun Γ p hΓ =>
  wp_execs_app l1 p s (Sem.wp_mono M Γ _ (fun f p' s' h' => by
    cases f with
    | next => exact h' Γ p' hΓ
    | ret v => exact h'
    | brk => exact h'
    | cont => exact h') (fun _ _ _ x => x) _ _ (h Γ p hΓ))

theorem and_high (x s : Nat) : x &&& (x / 2 ^ s * 2 ^ s) = x / 2 ^ s * 2 ^ s := by
  apply Nat.eq_of_testBit_eq
  intro i
  rw [Nat.testBit_and, Nat.testBit_mul_two_pow, Nat.testBit_div_two_pow]
  by_cases h : s ≤ i
  · rw [Nat.sub_add_cancel h]
    cases x.testBit i <;> simp [h]
  · simp [h]
theorem bitXor_low (x : Int) (s : Nat) (hx : 0 ≤ x) : Builtin.bitXor x (x / 2 ^ s * 2 ^ s) = x % 2 ^ s := by
  obtain ⟨n, rfl⟩ := Int.eq_ofNat_of_zero_le hx
  have e : ((n : Int) / 2 ^ s * 2 ^ s) = ((n / 2 ^ s * 2 ^ s : Nat) : Int) := by push_cast; rfl
  rw [bitXor_and, e, bitAnd_pp (by omega) (by omega)]
  rw [Int.toNat_natCast, Int.toNat_natCast, and_high]
  have h := Nat.div_add_mod n (2 ^ s)
  have h2 : ((n : Int) % 2 ^ s) = ((n % 2 ^ s : Nat) : Int) := by push_cast; rfl
  rw [h2]
  have h3 : n / 2 ^ s * 2 ^ s = 2 ^ s * (n / 2 ^ s) := Nat.mul_comm _ _
  omega

structure InnAt (ts hs : List Addr) (h : Heap) (fa : Addr) (st : Stmt) (qual : Str) (cl : List (Str × Addr)) (vals : List (Str × Value)) : Prop where
  obj : ∃ doc pm c' ctv oc vs t, h.get? fa = some (fnMade "inner" qual (fParams st) (fBody st) (fScope st) cl doc pm c' ctv) ∧ fa ∉ ts ∧ fa ∉ hs ∧ h.get? c' = some oc ∧ oc.data = .fields vs ∧ vs[1]? = some (.str qual t) ∧ c' ∉ ts ∧ c' ∉ hs
  cells : ∀ p ∈ vals, ∃ c o, cl.lookup p.1 = some c ∧ c ∉ ts ∧ c ∉ hs ∧ h.get? c = some o ∧ o.data = .cell (some p.2)
  ap : ∀ x y c, cl.lookup x = some c → cl.lookup y = some c → x = y
theorem InnAt.keep {ts hs : List Addr} {h h' : Heap} {fa : Addr} {st : Stmt} {qual : Str} {cl : List (Str × Addr)} {vals : List (Str × Value)} (x : InnAt ts hs h fa st qual cl vals) (k : ∀ b o, b ∉ ts → b ∉ hs → h.get? b = some o → h'.get? b = some o) : InnAt ts hs h' fa st qual cl vals where
  obj := let ⟨doc, pm, c', ctv, oc, vs, t, h1, h2, h3, h4, h5, h6, h7, h8⟩ := x.obj; ⟨doc, pm, c', ctv, oc, vs, t, k _ _ h2 h3 h1, h2, h3, k _ _ h7 h8 h4, h5, h6, h7, h8⟩
  cells := fun p hp => let ⟨c, o, h1, h2, h3, h4, h5⟩ := x.cells p hp; ⟨c, o, h1, h2, h3, k _ _ h2 h3 h4, h5⟩
  ap := x.ap

def MutPost (tabs : List Tab) (s : Shared) (l : Addr) (ns : List Int) (v : Value) (s' : Shared) : Prop :=
  v = .none ∧ (∃ h tk, s' = { s with heap := h, toks := tk }) ∧ (∀ b o, b ∉ tsOf tabs → b ≠ l → s.heap.get? b = some o → s'.heap.get? b = some o) ∧ TabOk tabs s'.heap ∧ ∃ vs', s'.heap.PlainList l vs' ∧ IntsAre vs'.toList ns

section
variable {k : Kx} {xs : List Addr} {μ : Mu} {ρ ρ' : Rho} {a b d : PyData} {pos : Pos}
theorem Bin.shr1 {i : Int} : Bin k xs .RShift (.int i) (.int 1) (.int (i / 2)) := by
  have := Bin.shr (k := k) (xs := xs) (i := i) (j := 1) (by decide)
  exact this
end
section
variable {k : Kx} {xs : List Addr} {μ : Mu} {ρ : Rho} {d : PyData}
theorem Tr.go {e : Expr} {b : Bool} {s : Shared} {E : Value → Shared → Prop} {Q : Bool → Shared → Prop} (f : k.Fm xs μ ρ s) (ht : Tr k xs μ ρ e b) (h : ∀ s', k.Step s s' → k.Fm xs μ ρ s' → Q b s') : wpAny k.M k.A (isTrue e k.env (eval e k.env)) Q E s :=
  wm (ht s E f) fun c s' ⟨st, q⟩ => q ▸ h s' st (f.step st)
theorem Tr.cast {e : Expr} {b c : Bool} (h : Tr k xs μ ρ e c) (q : c = b) : Tr k xs μ ρ e b := q ▸ h
theorem Ev.cast {e : Expr} {d' : PyData} (h : Ev k xs μ ρ e d') (q : d' = d) : Ev k xs μ ρ e d := q ▸ h
theorem Ev.go {e : Expr} {s : Shared} {E : Value → Shared → Prop} {Q : Value → Shared → Prop} (f : k.Fm xs μ ρ s) (ht : Ev k xs μ ρ e d) (h : ∀ v s', k.Step s s' → k.Fm xs μ ρ s' → Den xs s'.heap v d → Q v s') : wpAny k.M k.A (eval e k.env) Q E s :=
  wm (ht s E f) fun c s' ⟨st, q⟩ => h c s' st (f.step st) q
theorem Xs.go {sts : List Stmt} {s : Shared} {E : Value → Shared → Prop} {Q : Flow → Shared → Prop} {R : RP} (f : k.Fm xs μ ρ s) (ht : Xs k xs μ ρ sts R (fun _ => False)) (h : ∀ xs' μ' ρ' s', R xs' μ' ρ' → k.Fm xs' μ' ρ' s' → Q .next s') : wpAny k.M k.A (execs sts k.env) Q E s :=
  wm (ht s E f) fun fl s' q => by
    cases fl with
    | ret v => obtain ⟨d, q, _⟩ := q; exact q.elim
    | brk => exact q.elim
    | cont => exact q.elim
    | next => obtain ⟨_, _, _, q, f'⟩ := q; exact h _ _ _ _ q f'
theorem EvL.go {es : List Expr} {ds : List PyData} {pos : Pos} {s : Shared} {E : Value → Shared → Prop} {Q : List Value → Shared → Prop} (f : k.Fm xs μ ρ s) (ht : EvL k xs μ ρ es ds) (h : ∀ v s', k.Step s s' → k.Fm xs μ ρ s' → DenAll xs s'.heap v ds → Q v s') :
    wpAny k.M k.A (spliced (backTo pos (starEach es k.env))) Q E s :=
  wm (ht s E pos f) fun c s' ⟨st, q⟩ => h c s' st (f.step st) q
end
section
variable {prog : Program} {w : World} {tabs : List Tab} {G : Heap} {f : Addr}
abbrev sI2d : Stmt := stAt P 4
abbrev sInn : Stmt := (fBody sI2d).getD 1 (.Pass default)
abbrev qI : Str := "_int2digits.<locals>.inner"

theorem lk_cons {x y : Str} {d e : PyData} {r : Rho} (h : List.lookup y ((x, e) :: r) = some d) : (y = x ∧ d = e) ∨ r.lookup y = some d := by
  rw [List.lookup_cons] at h
  cases hb : y == x with
  | true => rw [hb] at h; cases h; exact .inl ⟨beq_iff_eq.mp hb, rfl⟩
  | false => rw [hb] at h; exact .inr h

/-- what holds when inner runs: its frame -/
theorem inn_enter (hlim : G.NoLimit) (n : Int) (fa l : Addr) (cl : List (Str × Addr)) (tn : Tok) (hGl : G.objs.size ≤ l) (hl : l ∉ tsOf tabs) {m : Nat} {A : Around} {s : Shared} {x L R : Int} {ds : List Int} {vs : Array Value} {t1 t2 t3 : Tok} {E Q : Value → Shared → Prop}
    (hr : Room A (m + 1)) (hW : Wd tabs G s.heap) (hT : TabOk tabs s.heap) (hG : G.objs.size ≤ s.heap.objs.size) (I : InnAt (tsOf tabs) [l] s.heap fa sInn qI cl [("a_digits", .ref l), ("inner", .ref fa), ("n", .int n tn)]) (hp : s.heap.PlainList l vs) (hi : IntsAre vs.toList ds)
    (h : ∀ (k : Kx) (s₁ : Shared), k.prog = prog → k.w = w → k.tabs = tabs → k.G = G → k.S = { s with heap := hideAll s.heap [l] } → k.env.scope = fScope sInn → k.env.cells = cl → interactive k.env = false → Room k.A m → Own k l → k.Fm (l :: tsOf tabs) [("a_digits", l, ds.map .int)] [("x", .int x), ("L", .int L), ("R", .int R), ("n", .int n)] s₁ →
      wpAny k.M k.A (execs (fBody sInn) k.env) (fun fl s' => Q (match fl with | .ret v => v | _ => .none) s') (fun e s' => wpAny k.M k.A (leaving k.env e) (fun _ s'' => E e s'') (fun e' s'' => E e' s'') s') s₁) :
    wpAny (model prog w) A (call (.ref fa) [.int x t1, .int L t2, .int R t3]) Q E s := by
  obtain ⟨doc, pm, c', ctv, oc, ovs, ot, g1, g2, g3, g4, g5, g6, g7, g8⟩ := I.obj
  have hpo : ∃ o, s.heap.get? l = some o := let ⟨n, q⟩ := hp; ⟨_, q⟩
  refine call_clo (ρ := [("x", .int x), ("L", .int L), ("R", .int R), ("n", .int n)]) (xs := l :: tsOf tabs) (hs := [l]) (binds := [("x", .int x t1), ("L", .int L t2), ("R", .int R t3)]) g1 ⟨c', oc, ovs, ot, rfl, g4, g5, g6⟩ (hlim.keeps fun b o e => (hW b o e).2) hr hW hT (fun _ q => .tail _ q) (fun y hy hn => (List.mem_cons.mp hy).elim (fun e => e ▸ hpo) fun q => absurd q hn) hG
    rfl (fun y d e => ?_) (locs rfl) (by simp only [List.map_cons, List.map_nil]; decide) (by decide) I.ap rfl rfl rfl fun k s₁ hk hr1 f₁ keep => ?_
  · rcases lk_cons e with ⟨rfl, rfl⟩ | e
    · exact ⟨_, .int _ _, .inl (.head _)⟩
    · rcases lk_cons e with ⟨rfl, rfl⟩ | e
      · exact ⟨_, .int _ _, .inl (.tail _ (.head _))⟩
      · rcases lk_cons e with ⟨rfl, rfl⟩ | e
        · exact ⟨_, .int _ _, .inl (.tail _ (.tail _ (.head _)))⟩
        · rcases lk_cons e with ⟨rfl, rfl⟩ | e
          · obtain ⟨c, o, q1, q2, _, q3, q4⟩ := I.cells _ (.tail _ (.tail _ (.head _)))
            exact ⟨_, .int _ _, .inr ⟨rfl, by decide, c, q1, q2, o, q3, q4⟩⟩
          · cases e
  · subst hk
    refine h _ s₁ rfl rfl rfl rfl rfl rfl rfl rfl hr1 ⟨hideAll_none _ (.head _), get_none hGl⟩ ?_
    refine { f₁ with muts := fun y l' es hm => ?_ }
    simp only [List.mem_singleton, Prod.mk.injEq] at hm
    obtain ⟨rfl, rfl, rfl⟩ := hm
    obtain ⟨c, o, q1, q2, _, q3, q4⟩ := I.cells _ (.head _)
    exact ⟨.head _, hl, .inr ⟨.inr ⟨rfl, by decide⟩, c, q1, q2, o, keep _ _ q3, q4⟩, vs, let ⟨n, q⟩ := hp; ⟨n, keep _ _ q⟩, .ints hi⟩

theorem mut_fin {k : Kx} {s s' : Shared} {l : Addr} {ns : List Int} {v : Value} {ρ : Rho} (e3 : k.tabs = tabs) (e5 : k.S = { s with heap := hideAll s.heap [l] }) (f' : k.Fm (l :: tsOf tabs) [("a_digits", l, ns.map .int)] ρ s') (hv : v = .none) : MutPost tabs s l ns v s' := by
  obtain ⟨_, _, _, vs', hp', hd'⟩ := f'.muts "a_digits" l _ (.head _)
  refine ⟨hv, ?_, fun b o hb hbl e => f'.base b o (by rw [e3]; exact hb) ?_, by have := f'.tab; rwa [e3] at this, vs', hp', hd'.intsAre⟩
  · obtain ⟨h, tk, q⟩ := f'.same
    rw [e5] at q
    exact ⟨h, tk, q⟩
  · rw [e5]; exact hideAll_get _ e (by simpa using hbl)

theorem inn_leaf (hlim : G.NoLimit) (n : Int) (fa l : Addr) (cl : List (Str × Addr)) (tn : Tok) (hGl : G.objs.size ≤ l) (hl : l ∉ tsOf tabs) {m : Nat} {A : Around} {s : Shared} {x L R : Int} {ds : List Int} {vs : Array Value} {t1 t2 t3 : Tok} {E : Value → Shared → Prop}
    (hr : Room A (m + 1)) (hW : Wd tabs G s.heap) (hT : TabOk tabs s.heap) (hG : G.objs.size ≤ s.heap.objs.size) (I : InnAt (tsOf tabs) [l] s.heap fa sInn qI cl [("a_digits", .ref l), ("inner", .ref fa), ("n", .int n tn)]) (hp : s.heap.PlainList l vs) (hi : IntsAre vs.toList ds)
    (hL : 0 ≤ L) (hleaf : L + 1 = R) (hR : R ≤ ds.length) (hds : ds.length ≤ 100) : wpAny (model prog w) A (call (.ref fa) [.int x t1, .int L t2, .int R t3]) (MutPost tabs s l (ds.set L.toNat x)) E s := by
  refine inn_enter hlim n fa l cl tn hGl hl hr hW hT hG I hp hi fun k s₁ e1 e2 e3 e4 e5 e6 e7 e8 hr1 hown f₁ => ?_
  refine wpAny_execs_cons (wpAny_If (Tr.go f₁ (b := true) (.cast (.cmp (.bin (.name rfl) .int .add) (.name rfl) .eq) (by simpa using hleaf)) fun s₂ st₂ f₂ => ?_))
  simp only [if_true]
  refine wpAny_execs_cons (execs_one (Xs.go (R := fun xs' μ' ρ' => xs' = l :: tsOf tabs ∧ μ' = ([("a_digits", l, (ds.set L.toNat x).map .int)] : Mu)) f₂ (Xs.setItem hown (.name rfl) (.name rfl) hL (by omega) (by omega) (Xs.nil ⟨rfl, rfl⟩)) fun _ _ ρ' s₃ q f₃ => ?_))
  obtain ⟨rfl, rfl⟩ := q
  exact wpAny_execs_cons (wpAny_Return_none (mut_fin e3 e5 f₃ rfl))

theorem inn_stmt {k : Kx} {s s₂ : Shared} {l fa : Addr} {cl : List (Str × Addr)} {n : Int} {tn : Tok} {ns ns' : List Int} {ρ : Rho} {E : Value → Shared → Prop} {a1 a2 a3 : Str} {p0 p1 p2 p3 pos pos2 : Pos} {x L R : Int} (e1 : k.prog = prog) (e2 : k.w = w) (e3 : k.tabs = tabs) (e5 : k.S = { s with heap := hideAll s.heap [l] })
    (e6 : k.env.scope = fScope sInn) (e7 : k.env.cells = cl) (e8 : interactive k.env = false) (hown : Own k l) (I : InnAt (tsOf tabs) [l] s.heap fa sInn qI cl [("a_digits", .ref l), ("inner", .ref fa), ("n", .int n tn)])
    (f : k.Fm (l :: tsOf tabs) [("a_digits", l, ns.map .int)] ρ s₂) (h1 : Lk ρ a1 (.int x)) (h2 : Lk ρ a2 (.int L)) (h3 : Lk ρ a3 (.int R)) (d1 : (a1 == ("__debug__" : Str)) = false) (d2 : (a2 == ("__debug__" : Str)) = false) (d3 : (a3 == ("__debug__" : Str)) = false)
    (hc : ∀ (s' : Shared) (t1 t2 t3 : Tok) (vs : Array Value), Wd tabs k.G s'.heap → TabOk tabs s'.heap → k.G.objs.size ≤ s'.heap.objs.size → InnAt (tsOf tabs) [l] s'.heap fa sInn qI cl [("a_digits", .ref l), ("inner", .ref fa), ("n", .int n tn)] → s'.heap.PlainList l vs → IntsAre vs.toList ns →
      wpAny (model prog w) k.A (call (.ref fa) [.int x t1, .int L t2, .int R t3]) (MutPost tabs s' l ns') E s') :
    wpAny k.M k.A (exec (.Expr (.Call (.Name "inner" p0) [.Name a1 p1, .Name a2 p2, .Name a3 p3] [] pos) pos2) k.env) (fun fl s' => fl = .next ∧ k.Fm (l :: tsOf tabs) [("a_digits", l, ns'.map .int)] ρ s') E s₂ := by
  have up : ∀ {s' : Shared}, (∀ b o, b ∉ k.ts → k.S.heap.get? b = some o → s'.heap.get? b = some o) → InnAt (tsOf tabs) [l] s'.heap fa sInn qI cl [("a_digits", .ref l), ("inner", .ref fa), ("n", .int n tn)] := fun hb =>
    I.keep fun b o hb1 hb2 e => hb b o (by show b ∉ tsOf k.tabs; rw [e3]; exact hb1) (by rw [e5]; exact hideAll_get _ e hb2)
  have I₂ := up f.base
  obtain ⟨c, o, q1, q2, _, q3, q4⟩ := I₂.cells _ (.tail _ (.head _))
  obtain ⟨doc, pm, c', ctv, oc, ovs, ot, g1, g2, g3, _⟩ := I₂.obj
  refine wpAny_Expr (Call_ (wpAny_Name (wpAny_loadName_free f.kind (by unfold Env.kindOf; rw [e6]; rfl) (by rw [e7]; exact q1) ⟨o, q3, q4⟩ ?_))) e8 rfl
  refine callWith_F ⟨_, _, _, _, g1⟩ (EvL.go f (.cons (.name h1 d1) (.cons (.name h2 d2) (.cons (.name h3 d3) .nil))) fun us s₃ st₃ f₃ hd => ?_)
  cases hd with | cons r1 hd =>
  cases hd with | cons r2 hd =>
  cases hd with | cons r3 hd =>
  cases hd
  cases r1 with | int _ t1 =>
  cases r2 with | int _ t2 =>
  cases r3 with | int _ t3 =>
  have I₃ := up f₃.base
  obtain ⟨_, _, _, vs, hp, hd⟩ := f₃.muts "a_digits" l _ (.head _)
  refine ⟨let ⟨_, _, _, _, _, _, _, g, _⟩ := I₃.obj; ⟨_, _, _, _, g⟩, ?_⟩
  have ht := f₃.tab
  have hw := f₃.wd
  rw [e3] at ht hw
  show wpAny (model k.prog k.w) k.A (call (.ref fa) ([] ++ [.int x t1, .int L t2, .int R t3])) _ _ _
  rw [e1, e2]
  refine wm (hc s₃ t1 t2 t3 vs hw ht f₃.gsz I₃ hp hd.intsAre) fun v s₄ ⟨hv, hsm, hk4, ht4, vs', hp', hi'⟩ => ?_
  subst hv
  exact ⟨rfl, f₃.mutate hown hsm (by show ∀ b o, b ∉ tsOf k.tabs → _; rw [e3]; exact hk4) (by rw [e3]; exact ht4) hp' (.ints hi')⟩

theorem inn_spec (hlim : G.NoLimit) (n : Int) (hn1 : 1 ≤ n) (hn2 : n ≤ 64) (fa l : Addr) (cl : List (Str × Addr)) (tn : Tok) (hGl : G.objs.size ≤ l) (hl : l ∉ tsOf tabs) : ∀ (fuel : Nat) (A : Around) (s : Shared) (x L R : Int) (ds : List Int) (vs : Array Value) (t1 t2 t3 : Tok) (E : Value → Shared → Prop),
    Room A (fuel + 1) → Wd tabs G s.heap → TabOk tabs s.heap → G.objs.size ≤ s.heap.objs.size → InnAt (tsOf tabs) [l] s.heap fa sInn qI cl [("a_digits", .ref l), ("inner", .ref fa), ("n", .int n tn)] → s.heap.PlainList l vs → IntsAre vs.toList ds →
    0 ≤ x → x < 2 ^ 60 → 0 ≤ L → L < R → R ≤ ds.length → ds.length ≤ 100 → R - L ≤ 2 ^ fuel →
    wpAny (model prog w) A (call (.ref fa) [.int x t1, .int L t2, .int R t3]) (MutPost tabs s l (i2d n (fuel + 1) ds x L R)) E s := by
  intro fuel
  induction fuel with
  | zero =>
    intro A s x L R ds vs t1 t2 t3 E hr hW hT hG I hp hi hx0 hx1 hL hLR hR hds hf
    have hleaf : L + 1 = R := by simp at hf; omega
    have : i2d n (0 + 1) ds x L R = ds.set L.toNat x := by unfold i2d; rw [if_pos hleaf]
    rw [this]
    exact inn_leaf hlim n fa l cl tn hGl hl hr hW hT hG I hp hi hL hleaf hR hds
  | succ fuel ih =>
    intro A s x L R ds vs t1 t2 t3 E hr hW hT hG I hp hi hx0 hx1 hL hLR hR hds hf
    by_cases hleaf : L + 1 = R
    · have : i2d n (fuel + 1 + 1) ds x L R = ds.set L.toNat x := by unfold i2d; rw [if_pos hleaf]
      rw [this]
      exact inn_leaf hlim n fa l cl tn hGl hl hr hW hT hG I hp hi hL hleaf hR hds
    · refine inn_enter hlim n fa l cl tn hGl hl hr hW hT hG I hp hi fun k s₁ e1 e2 e3 e4 e5 e6 e7 e8 hr1 hown f₁ => ?_
      have st : ∀ y, (fScope sInn).names.lookup y = some NameKind.local → Stores k y := fun y hy => .inl (by unfold Env.kindOf; rw [e6]; exact hy)
      generalize hmid : (L + R) / 2 = mid
      have hm1 : L < mid := by omega
      have hm2 : mid < R := by omega
      have hpow : (2 : Int) ^ (fuel + 1) = 2 * 2 ^ fuel := by rw [Int.pow_succ]; omega
      rw [hpow] at hf
      have hsh0 : 0 ≤ (mid - L) * n := Int.mul_nonneg (by omega) (by omega)
      have hsh1 : (mid - L) * n ≤ 100 * 64 := Int.mul_le_mul (by omega) hn2 (by omega) (by omega)
      generalize hsh : (mid - L) * n = sh at hsh0 hsh1
      have hup : 0 ≤ x / 2 ^ sh.toNat := Int.ediv_nonneg hx0 (Int.le_of_lt (Int.pow_pos (by omega)))
      have hup2 : x / 2 ^ sh.toNat ≤ x := Int.ediv_le_self _ hx0
      have hlo : 0 ≤ x % 2 ^ sh.toNat := Int.emod_nonneg _ (Int.ne_of_gt (Int.pow_pos (by omega)))
      have hlo2 : x % 2 ^ sh.toNat ≤ x := by
        have h1 := Int.mul_ediv_add_emod x (2 ^ sh.toNat)
        have h2 : 0 ≤ 2 ^ sh.toNat * (x / 2 ^ sh.toNat) := Int.mul_nonneg (Int.le_of_lt (Int.pow_pos (by omega))) hup
        omega
      have hml : mid - L ≤ 2 ^ fuel := by omega
      have hmr : R - mid ≤ 2 ^ fuel := by omega
      have hres : i2d n (fuel + 1 + 1) ds x L R = i2d n (fuel + 1) (i2d n (fuel + 1) ds (x % 2 ^ sh.toNat) L mid) (x / 2 ^ sh.toNat) mid R := by
        conv => lhs; unfold i2d
        rw [if_neg hleaf, hmid, hsh]
      rw [hres]
      show wpAny _ _ (execs ((fBody sInn).take 5 ++ (fBody sInn).drop 5) k.env) _ _ _
      refine execs_app _ (Xs.go (R := fun xs' μ' ρ' => xs' = l :: tsOf tabs ∧ μ' = ([("a_digits", l, ds.map .int)] : Mu) ∧ Lk ρ' "lower" (.int (x % 2 ^ sh.toNat)) ∧ Lk ρ' "upper" (.int (x / 2 ^ sh.toNat)) ∧ Lk ρ' "mid" (.int mid) ∧ Lk ρ' "L" (.int L) ∧ Lk ρ' "R" (.int R)) f₁ ?_ fun _ _ ρ' s₂ q f₂ => ?_)
      · refine Xs.iff (c := false) (.cast (.cmp (.bin (.name rfl) .int .add) (.name rfl) .eq) (by simpa using hleaf)) nofun fun _ => Xs.nil ?_
        have nm : ∀ (y : Str), (y == "a_digits") = false → ∀ m ∈ ([("a_digits", l, ds.map .int)] : Mu), m.1 ≠ y := fun y hy m hm q => by
          simp only [List.mem_singleton] at hm
          rw [hm] at q
          rw [← q] at hy
          simp at hy
        refine Xs.asg (d := .int mid) (.cast (.bin (.bin (.name rfl) (.name rfl) .add) .int .shr1) (by rw [hmid])) (st _ rfl) (nm _ (by decide)) ?_
        refine Xs.asg (d := .int sh) (.cast (.bin (.bin (.name rfl) (.name rfl) .sub) (.name rfl) (.mul (.of_right (intBits_le_64 (by omega) (by omega))))) (by rw [hsh])) (st _ rfl) (nm _ (by decide)) ?_
        refine Xs.asg (d := .int (x / 2 ^ sh.toNat)) (.bin (.name rfl) (.name rfl) (.shr hsh0)) (st _ rfl) (nm _ (by decide)) ?_
        refine Xs.asg (d := .int (x % 2 ^ sh.toNat)) (.cast (.bin (.name rfl) (.bin (.name rfl) (.name rfl) (.shl hsh0 (by omega) (by omega))) .xor) (by rw [bitXor_low x _ hx0])) (st _ rfl) (nm _ (by decide)) (Xs.nil ⟨rfl, rfl, rfl, rfl, rfl, rfl, rfl⟩)
      · obtain ⟨rfl, rfl, b1, b2, b3, b4, b5⟩ := q
        refine wpAny_execs_cons (wm (inn_stmt e1 e2 e3 e5 e6 e7 e8 hown I f₂ b1 b4 b3 (by decide) (by decide) (by decide) fun s' u1 u2 u3 vs' hW' hT' hG' I' hp' hi' => ih k.A s' _ L mid ds vs' u1 u2 u3 _ hr1 (e4 ▸ hW') hT' (e4 ▸ hG') I' hp' hi' hlo (by omega) hL hm1 (by omega) hds hml) fun fl s₃ ⟨hfl, f₃⟩ => ?_)
        subst hfl
        refine wpAny_execs_cons (wm (inn_stmt e1 e2 e3 e5 e6 e7 e8 hown I f₃ b2 b3 b5 (by decide) (by decide) (by decide) fun s' u1 u2 u3 vs' hW' hT' hG' I' hp' hi' => ih k.A s' _ mid R _ vs' u1 u2 u3 _ hr1 (e4 ▸ hW') hT' (e4 ▸ hG') I' hp' hi' hup (by omega) (by omega) hm2 (by rw [i2d_length]; omega) (by rw [i2d_length]; omega) hmr) fun fl s₄ ⟨hfl, f₄⟩ => ?_)
        subst hfl
        exact wpAny_execs_nil (mut_fin e3 e5 f₄ rfl)
end
end Mine
namespace Mine
open PySem PySem.W PySem.Calls PyProof.Rows
section
variable {k : Kx} {xs : List Addr} {μ : Mu} {ρ ρ' : Rho} {a b d : PyData} {pos : Pos}

theorem Holds.isCell {ts : List Addr} {env : Env} {h : Heap} {x : Str} {v : Value} (q : Holds ts env h x v) (hc : env.kindOf x = some .cell) : ∃ c o, env.cells.lookup x = some c ∧ c ∉ ts ∧ h.get? c = some o ∧ o.data = .cell (some v) := by
  rcases q with ⟨q, _⟩ | ⟨_, c, h1, h2, o, h3, h4⟩
  · rw [hc] at q; cases q
  · exact ⟨c, o, h1, h2, h3, h4⟩

theorem InnAt.of {s : Shared} {hs : List Addr} {fa c' : Addr} {st : Stmt} {qual : Str} {doc pm ctv : Value} {oc : Obj} {vs : Array Value} {tq : Tok} {cl : List (Str × Addr)} {vals : List (Str × Value)} (f : k.Fm xs μ ρ s) (hl : ∀ l ∈ hs, ∃ us, s.heap.PlainList l us)
    (h1 : s.heap.get? fa = some (fnMade "inner" qual (fParams st) (fBody st) (fScope st) cl doc pm c' ctv)) (h2 : s.heap.get? c' = some oc) (h3 : oc.data = .fields vs) (h4 : vs[1]? = some (.str qual tq))
    (hcl : ∀ x c, cl.lookup x = some c → k.env.cells.lookup x = some c) (hv : ∀ p ∈ vals, Holds k.ts k.env s.heap p.1 p.2 ∧ k.env.kindOf p.1 = some .cell ∧ ∀ c, k.env.cells.lookup p.1 = some c → cl.lookup p.1 = some c) : InnAt k.ts hs s.heap fa st qual cl vals where
  obj := by
    have nt : ∀ a ∈ k.ts, ∃ ps, s.heap.get? a = some (tabObj ps) ∧ TriplesOk ps.toList := fun a ha => by
      obtain ⟨t, ht, rfl⟩ := List.mem_map.mp ha
      obtain ⟨ps, g1, g2, _⟩ := f.tab t ht
      exact ⟨ps, g1, g2⟩
    refine ⟨doc, pm, c', ctv, oc, vs, tq, h1, fun q => ?_, fun q => ?_, h2, h3, h4, fun q => ?_, fun q => ?_⟩
    · obtain ⟨ps, g1, _⟩ := nt _ q; rw [h1] at g1; cases g1
    · obtain ⟨us, n, g⟩ := hl _ q; rw [h1] at g; have := congrArg Obj.data (Option.some.inj g); cases this
    · obtain ⟨ps, g1, g2⟩ := nt _ q
      rw [h2] at g1; cases g1; cases h3
      exact triples_no_str g2 _ _ (by rw [Array.getElem?_toList]; exact h4)
    · obtain ⟨us, n, g⟩ := hl _ q; rw [h2] at g; cases g; cases h3
  cells := fun p hp => by
    obtain ⟨g1, g2, g3⟩ := hv p hp
    obtain ⟨c, o, q1, q2, q3, q4⟩ := g1.isCell g2
    refine ⟨c, o, g3 c q1, q2, fun q => ?_, q3, q4⟩
    obtain ⟨us, n, g⟩ := hl _ q; rw [q3] at g; cases g; cases q4
  ap := fun x y c h1 h2 => f.apart x y c (hcl _ _ h1) (hcl _ _ h2)
end

def digitsOf (a n : Int) : List Int :=
  let D := ((Builtin.Int.intBits a : Int) + n - 1) / n
  if a = 0 then List.replicate D.toNat 0 else i2d n 8 (List.replicate D.toNat 0) a 0 D

section
variable {prog : Program} {w : World} {tabs : List Tab} {G : Heap} {f : Addr}
theorem i2d_spec {t : Tab} (F : FnAt0 G f "_int2digits" (fParams sI2d) (fBody sI2d) (fScope sI2d) .none .none (.ref t.c)) (ht : t ∈ tabs) (hnd : tabs.Pairwise fun a b => a.P ≠ b.P) (C : TabG G t) (hq : t.qual = qI) (hpos : t.pos = fPos sInn) (hlen : BName G "len" (.builtin "len")) (a n : Int) (ha0 : 0 ≤ a) (ha : a < 2 ^ 60) (hn1 : 1 ≤ n) (hn2 : n ≤ 64) :
    Spec prog w tabs G f [.int a, .int n] 10 (· = .list ((digitsOf a n).map .int)) := fun A s xs vs E hr hW hT h1 h2 hG hd => by
  cases hd with | @cons v1 _ _ _ q1 r =>
  cases r with | @cons v2 _ _ _ q2 r =>
  cases r
  have hbits : Builtin.Int.intBits a ≤ 60 := intBits_le_iff.mpr (by omega)
  generalize hD : ((Builtin.Int.intBits a : Int) + n - 1) / n = D
  have hD0 : 0 ≤ D := by rw [← hD]; exact Int.ediv_nonneg (by omega) (by omega)
  have hD1 : D ≤ 100 := by
    rw [← hD]
    refine Int.le_of_lt_add_one (Int.ediv_lt_of_lt_mul (by omega) ?_)
    have : (100 + 1) * 1 ≤ (100 + 1) * n := Int.mul_le_mul_of_nonneg_left hn1 (by omega)
    omega
  refine call_body (ρ := [("a", .int a), ("n", .int n)]) (binds := [("a", v1), ("n", v2)]) F hr hW hT h1 h2 hG (fun doc pm an ct => BindsTo.of_eq rfl) (.cons q1 (.cons q2 .nil)) rfl (fun L => rfl) (by simp only [List.map_cons, List.map_nil]; decide) rfl rfl rfl fun k s₁ hk hr1 f₁ => ?_
  have hm : OnMain k := by subst hk; exact ⟨rfl, rfl, rfl⟩
  have hkG : k.G = G ∧ k.tabs = tabs ∧ k.prog = prog ∧ k.w = w ∧ k.env.code = .ref t.c ∧ k.env.scope = fScope sI2d ∧ k.S = s ∧ interactive k.env = false := by subst hk; exact ⟨rfl, rfl, rfl, rfl, rfl, rfl, rfl, rfl⟩
  obtain ⟨e1, e2, e3, e4, e5, e6, e7, e8⟩ := hkG
  have kd : ∀ y kd, (fScope sI2d).names.lookup y = some kd → k.env.kindOf y = some kd := fun y kd hy => by unfold Env.kindOf; rw [e6]; exact hy
  have st : ∀ (y : Str) (j : Nat), (fScope sI2d).names.lookup y = some NameKind.cell → (∃ c, k.env.cells.lookup y = some c ∧ s.heap.objs.size ≤ c) → Stores k y := fun y j hy ⟨c, q1, q2⟩ => .inr ⟨kd _ _ hy, c, q1, by rw [e7]; exact q2⟩
  refine wpAny_execs_cons (wm (Fm.newListOf (ns := List.replicate D.toNat 0) f₁ (st _ 0 rfl (by subst hk; exact ⟨s.heap.objs.size + 2, rfl, by omega⟩)) rfl ?_ rfl) fun fl s₂ ⟨efl, l, hlS, hlx, hown, f₂⟩ => ?_)
  · refine wpAny_BinOp (Ev.go f₁ (.lst (.cons .int .nil) (by decide)) fun v s₂ st₂ f₂ hd => ?_)
    refine Ev.go f₂ (d := .int D) (.cast (.bin (.bin (.bin (.bitlen rfl) (.name rfl) .add) .int .sub) (.name rfl) (.div (by omega) (by omega))) (by rw [hD])) fun u s₃ st₃ f₃ hd3 => ?_
    have hd' := hd.keep (st₃.seq f₂.sub)
    cases hd' with | @list l0 us _ g1 g2 g3 =>
    cases hd3 with | int _ tt =>
    obtain ⟨us⟩ := us
    have hi : IntsAre us [0] := DenAll.intsAre (ns := [0]) g3
    refine raw_mul_list g2 hD0 (by omega) (by have := hi.length; simp at this; omega) ⟨(st₂.trans st₃).trans Step.push, _, (List.replicate D.toNat us).flatten.toArray, rfl, ?_⟩
    obtain ⟨a1, a2, a3⟩ := fresh_now f₁ (st₂.trans st₃) f₃ rfl
    refine ⟨a1, a2, a3, ⟨_, Heap.get?_push_size _ rfl⟩, ?_⟩
    have := KM.ints_rep hi D.toNat
    have e : ∀ m : Nat, (List.replicate m ([0] : List Int)).flatten = List.replicate m 0 := fun m => by
      induction m with
      | zero => rfl
      | succ m ih => rw [List.replicate_succ, List.flatten_cons, ih]; rfl
    rw [e] at this
    exact this
  · subst efl
    have hcell : ∀ y : Str, (y = "n" ∨ y = "a_digits" ∨ y = "inner") → ∃ c, k.env.cells.lookup y = some c ∧ s.heap.objs.size ≤ c := fun y hy => by
      subst hk
      rcases hy with rfl | rfl | rfl
      · exact ⟨s.heap.objs.size + 1, rfl, by omega⟩
      · exact ⟨s.heap.objs.size + 2, rfl, by omega⟩
      · exact ⟨s.heap.objs.size + 3, rfl, by omega⟩
    have hcl : closureFor (fScope sInn) k.env = pure ([("n", s.heap.objs.size + 1), ("inner", s.heap.objs.size + 3), ("a_digits", s.heap.objs.size + 2)] : List (Str × Addr)) := by subst hk; rfl
    have hc1 : k.env.cells.lookup ("n" : Str) = some (s.heap.objs.size + 1) := by subst hk; rfl
    have hc2 : k.env.cells.lookup ("a_digits" : Str) = some (s.heap.objs.size + 2) := by subst hk; rfl
    have hc3 : k.env.cells.lookup ("inner" : Str) = some (s.heap.objs.size + 3) := by subst hk; rfl
    have nm : ∀ (y : Str), (y == "a_digits") = false → ∀ m ∈ ([("a_digits", l, (List.replicate D.toNat (0 : Int)).map .int)] : Mu), m.1 ≠ y := fun y hy m hm q => by
      simp only [List.mem_singleton] at hm
      rw [hm] at q
      rw [← q] at hy
      simp at hy
    have hann : annTrees (fParams sInn) none k.env = [] := rfl
    refine wpAny_execs_cons (wm (show wpAny k.M k.A (exec (.FunctionDef "inner" (fParams sInn) (fBody sInn) [] none [] (fScope sInn) none "inner" (fPos sInn)) k.env) _ _ _ from hpos ▸ mk_clo f₂ (t := t) (e2 ▸ ht) (e2 ▸ hnd) e5 (e1 ▸ C) hm (by rw [hq]; subst hk; rfl) hcl (st _ 0 rfl (hcell _ (.inr (.inr rfl)))) rfl (nm _ (by decide)) rfl rfl hann) fun fl s₃ ⟨efl, f₃, fa, doc, pm, c', ctv, oc, ovs, tq, g1, g2, g3, g4, g5, hh⟩ => ?_)
    subst efl
    have hres : digitsOf a n = if a = 0 then List.replicate D.toNat 0 else i2d n 8 (List.replicate D.toNat 0) a 0 D := by unfold digitsOf; rw [hD]
    have hlen0 : (List.replicate D.toNat (0 : Int)).length = D.toNat := by simp
    have fin : ∀ (ns : List Int) s' E', k.Fm (l :: xs) [("a_digits", l, ns.map .int)] [("a", .int a), ("n", .int n)] s' → ns = digitsOf a n → wpAny k.M k.A (execs ((fBody sI2d).drop 3) k.env) (fun fl s' => Step tabs (tsOf tabs) s s' ∧ ∃ d, d = .list ((digitsOf a n).map .int) ∧ Den xs s'.heap (match fl with | .ret v => v | _ => .none) d) E' s' := fun ns s' E' f' hns => by
      obtain ⟨_, _, h3, us, hp, hd⟩ := f'.muts "a_digits" l _ (.head _)
      refine wpAny_execs_cons (wpAny_Return_some (wpAny_Name (h3.load f'.kind ?_)))
      refine ⟨⟨by have := f'.same; rwa [e7] at this, fun b o hb e => f'.base b o (by rw [e2]; exact hb) (by rw [e7]; exact e), fun _ => by have := f'.tab; rwa [e2] at this⟩, _, rfl, .list hlx hp.isList ?_⟩
      rw [← hns]
      exact hd.shift fun a ha _ q => ha (.tail _ q)
    have hold1 : Holds k.ts k.env s₃.heap "a_digits" (.ref l) := (f₃.muts "a_digits" l _ (.head _)).2.2.1
    obtain ⟨vn, hvn, hholdn⟩ := f₃.vars "n" _ rfl
    cases hvn with | int _ tn =>
    have I : InnAt k.ts [l] s₃.heap fa sInn qI [("n", s.heap.objs.size + 1), ("inner", s.heap.objs.size + 3), ("a_digits", s.heap.objs.size + 2)] [("a_digits", .ref l), ("inner", .ref fa), ("n", .int n tn)] := by
      refine InnAt.of f₃ (fun l' hl' => ?_) (by rw [← hq]; exact g1) g3 g4 (by rw [← hq]; exact g5) (fun x c hx => ?_) (fun p hp => ?_)
      · simp only [List.mem_singleton] at hl'
        subst hl'
        obtain ⟨_, _, _, us, hp, _⟩ := f₃.muts "a_digits" _ _ (.head _)
        exact ⟨us, hp⟩
      · have := mem_of_lookup hx
        simp only [List.mem_cons, Prod.mk.injEq, List.not_mem_nil, or_false] at this
        rcases this with ⟨rfl, rfl⟩ | ⟨rfl, rfl⟩ | ⟨rfl, rfl⟩
        · exact hc1
        · exact hc3
        · exact hc2
      · simp only [List.mem_cons, List.not_mem_nil, or_false] at hp
        rcases hp with rfl | rfl | rfl
        · exact ⟨hold1, kd _ _ rfl, fun c hc => by rw [hc2] at hc; exact hc ▸ rfl⟩
        · exact ⟨hh, kd _ _ rfl, fun c hc => by rw [hc3] at hc; exact hc ▸ rfl⟩
        · exact ⟨hholdn, kd _ _ rfl, fun c hc => by rw [hc1] at hc; exact hc ▸ rfl⟩
    refine wpAny_execs_cons (wpAny_If (Tr.go f₃ (b := (a != 0)) (.plain (.name rfl) .int) fun s₄ st₄ f₄ => ?_))
    by_cases hz : a = 0
    · have : (a != 0) = false := by simpa using hz
      rw [this]
      simp only [Bool.false_eq_true, if_false]
      refine wpAny_execs_nil (fin _ s₄ _ f₄ ?_)
      rw [hres, if_pos hz]
    · have : (a != 0) = true := by simpa using hz
      rw [this]
      simp only [if_true]
      have keep4 : ∀ b o, b ∉ tsOf tabs → s₃.heap.get? b = some o → s₄.heap.get? b = some o := fun b o hb e => st₄.keep b o (by show b ∉ tsOf k.tabs; rw [e2]; exact hb) e
      have fnA : ∀ s', k.Step s₃ s' → PySem.W.FnAt fa s'.heap := fun s' st' => by
        obtain ⟨_, _, _, _, _, _, _, q1, q2, _⟩ := I.obj
        exact ⟨_, _, _, _, st'.keep _ _ q2 q1⟩
      refine wpAny_execs_cons (wpAny_Expr (Call_ (wpAny_Name ((hh.keep f₃.lt st₄.keep).load f₄.kind ?_))) e8 rfl)
      refine callWith_F (fnA _ st₄) (EvL.go f₄ (.cons (.name rfl) (.cons .int (.cons (.lenMut hm (kd _ _ rfl) (e1 ▸ hlen) (.head _) (by simp; omega)) .nil))) fun us s₅ st₅ f₅ hd => ?_)
      cases hd with | cons r1 hd =>
      cases hd with | cons r2 hd =>
      cases hd with | cons r3 hd =>
      cases hd
      cases r1 with | int _ t1 =>
      cases r2 with | int _ t2 =>
      cases r3 with | int _ t3 =>
      refine ⟨fnA _ (st₄.trans st₅), ?_⟩
      have I₅ : InnAt (tsOf tabs) [l] s₅.heap fa sInn qI [("n", s.heap.objs.size + 1), ("inner", s.heap.objs.size + 3), ("a_digits", s.heap.objs.size + 2)] [("a_digits", .ref l), ("inner", .ref fa), ("n", .int n tn)] := by
        rw [← e2]; exact I.keep fun b o hb _ e => (st₄.trans st₅).keep b o hb e
      obtain ⟨_, hlt, _, vs5, hp5, hd5⟩ := f₅.muts "a_digits" l _ (.head _)
      have ht5 := f₅.tab
      have hw5 := f₅.wd
      have hG5 := f₅.gsz
      rw [e2] at ht5 hw5
      rw [e1] at hw5 hG5
      have eD : (((List.replicate D.toNat (0 : Int)).map PyData.int).length : Int) = D := by simp; omega
      rw [eD]
      show wpAny (model k.prog k.w) k.A (call (.ref fa) ([] ++ [.int a t1, .int 0 t2, .int D t3])) _ _ _
      rw [e3, e4]
      have hDpos : 0 < D := by
        rw [← hD]
        have hb1 : 1 ≤ Builtin.Int.intBits a := by
          unfold Builtin.Int.intBits
          have : (a == 0) = false := by simpa using hz
          rw [this]
          simp
        have : 1 * n ≤ (Builtin.Int.intBits a : Int) + n - 1 := by omega
        exact (Int.le_ediv_iff_mul_le (by omega)).mpr this
      have hGl : G.objs.size ≤ l := Nat.le_trans (by have := f₅.gB; rw [e1] at this; exact this) hlS
      refine wm (inn_spec F.lim n hn1 hn2 fa l _ tn hGl (by have := hlt; rwa [e2] at this) 7 k.A s₅ a 0 D (List.replicate D.toNat 0) vs5 t1 t2 t3 _ (hr1.mono (by omega)) hw5 ht5 hG5 I₅ hp5 hd5.intsAre ha0 ha (by omega) hDpos (by rw [hlen0]; omega) (by rw [hlen0]; omega) (by omega)) fun v s₆ ⟨hv, hsm, hk6, ht6, vs', hp', hi'⟩ => ?_
      subst hv
      have f₆ := f₅.mutate hown hsm (by show ∀ b o, b ∉ tsOf k.tabs → _; rw [e2]; exact hk6) (by rw [e2]; exact ht6) hp' (DenAll.ints hi')
      refine wpAny_execs_nil (fin _ s₆ _ f₆ ?_)
      rw [hres, if_neg hz]
end
end Mine
namespace Mine
open PySem PySem.W PySem.Calls PyProof.Rows
section
variable {prog : Program} {w : World} {tabs : List Tab} {G : Heap} {f : Addr}
abbrev sD2i : Stmt := stAt P 5
abbrev sIn2 : Stmt := (fBody sD2i).getD 0 (.Pass default)
abbrev qJ : Str := "_digits2int.<locals>.inner"

theorem in2_raw {k : Kx} {xs : List Addr} {ρ : Rho} {fa : Addr} {cl : List (Str × Addr)} {vd : Value} {n : Int} {tn : Tok} {ea eb : Expr} {p0 pos : Pos} {L R r : Int} {ds : List Int} {s : Shared} {E : Value → Shared → Prop} (f : k.Fm xs [] ρ s) (e3 : k.tabs = tabs)
    (hin : ∀ s', k.Step s s' → k.Fm xs [] ρ s' → wpAny k.M k.A (loadName k.env "inner") (fun v s'' => v = .ref fa ∧ s'' = s') (fun _ _ => False) s' ∧ InnAt (tsOf tabs) [] s'.heap fa sIn2 qJ cl [("digits", vd), ("inner", .ref fa), ("n", .int n tn)] ∧ Den (tsOf tabs) s'.heap vd (.list (ds.map .int)))
    (he : EvL k xs [] ρ [ea, eb] [.int L, .int R])
    (hc : ∀ (s' : Shared) (E : Value → Shared → Prop) (t2 t3 : Tok), Wd tabs k.G s'.heap → TabOk tabs s'.heap → k.G.objs.size ≤ s'.heap.objs.size → InnAt (tsOf tabs) [] s'.heap fa sIn2 qJ cl [("digits", vd), ("inner", .ref fa), ("n", .int n tn)] → Den (tsOf tabs) s'.heap vd (.list (ds.map .int)) →
      wpAny k.M k.A (call (.ref fa) [.int L t2, .int R t3]) (fun v s'' => Step tabs (tsOf tabs) s' s'' ∧ ∃ t, v = .int r t) E s')
    (hs1 : starEach [ea, eb] k.env = (false, eval ea k.env) :: starEach [eb] k.env := by rfl) (hs2 : (backTo pos (starEach [eb] k.env)).any (·.1) = false := by rfl) :
    wpAny k.M k.A (eval (.Call (.Name "inner" p0) [ea, eb] [] pos) k.env) (fun v s' => k.Step s s' ∧ Den xs s'.heap v (.int r)) E s := by
  obtain ⟨hl, I, _⟩ := hin s Step.refl f
  refine Call_ (wpAny_Name ?_)
  refine wpAny_mono hl (fun v s' ⟨ev, es⟩ => ?_) fun _ _ q => q.elim
  subst ev es
  obtain ⟨doc, pm, c', ctv, oc, ovs, ot, g1, _⟩ := I.obj
  refine callWith_F ⟨_, _, _, _, g1⟩ (EvL.go f he fun us s₁ st₁ f₁ hd => ?_) hs1 hs2
  cases hd with | cons r1 hd =>
  cases hd with | cons r2 hd =>
  cases hd
  cases r1 with | int _ t1 =>
  cases r2 with | int _ t2 =>
  obtain ⟨_, I₁, D₁⟩ := hin s₁ st₁ f₁
  obtain ⟨_, _, _, _, _, _, _, g1, _⟩ := I₁.obj
  have ht := f₁.tab
  have hw := f₁.wd
  rw [e3] at ht hw
  refine ⟨⟨_, _, _, _, g1⟩, wm (hc s₁ E t1 t2 hw ht f₁.gsz I₁ D₁) fun v s₂ ⟨st₂, t, ev⟩ => ⟨st₁.trans (by show Step k.tabs (tsOf k.tabs) _ _; rw [e3]; exact st₂), ?_⟩⟩
  subst ev
  exact .int _ _
theorem in2_call {k : Kx} {xs : List Addr} {ρ : Rho} {fa : Addr} {cl : List (Str × Addr)} {vd : Value} {n : Int} {tn : Tok} {a1 a2 : Str} {p0 p1 p2 pos : Pos} {L R r : Int} {ds : List Int} (e3 : k.tabs = tabs)
    (hin : ∀ s', k.Fm xs [] ρ s' → wpAny k.M k.A (loadName k.env "inner") (fun v s'' => v = .ref fa ∧ s'' = s') (fun _ _ => False) s' ∧ InnAt (tsOf tabs) [] s'.heap fa sIn2 qJ cl [("digits", vd), ("inner", .ref fa), ("n", .int n tn)] ∧ Den (tsOf tabs) s'.heap vd (.list (ds.map .int)))
    (h1 : Lk ρ a1 (.int L)) (h2 : Lk ρ a2 (.int R)) (d1 : (a1 == ("__debug__" : Str)) = false) (d2 : (a2 == ("__debug__" : Str)) = false)
    (hc : ∀ (s' : Shared) (E : Value → Shared → Prop) (t2 t3 : Tok), Wd tabs k.G s'.heap → TabOk tabs s'.heap → k.G.objs.size ≤ s'.heap.objs.size → InnAt (tsOf tabs) [] s'.heap fa sIn2 qJ cl [("digits", vd), ("inner", .ref fa), ("n", .int n tn)] → Den (tsOf tabs) s'.heap vd (.list (ds.map .int)) →
      wpAny k.M k.A (call (.ref fa) [.int L t2, .int R t3]) (fun v s'' => Step tabs (tsOf tabs) s' s'' ∧ ∃ t, v = .int r t) E s') :
    Ev k xs [] ρ (.Call (.Name "inner" p0) [.Name a1 p1, .Name a2 p2] [] pos) (.int r) := fun s E f =>
  in2_raw f e3 (fun s' _ f' => hin s' f') (.cons (.name h1 d1) (.cons (.name h2 d2) .nil)) hc

theorem in2_enter (hlim : G.NoLimit) (N : Nat) (fa : Addr) (cl : List (Str × Addr)) (tn : Tok) (vd : Value) (ds : List Int) {m : Nat} {A : Around} {s : Shared} {L R r : Int} {t2 t3 : Tok} {E : Value → Shared → Prop} (hr : Room A (m + 1)) (hW : Wd tabs G s.heap) (hT : TabOk tabs s.heap) (hG : G.objs.size ≤ s.heap.objs.size)
    (I : InnAt (tsOf tabs) [] s.heap fa sIn2 qJ cl [("digits", vd), ("inner", .ref fa), ("n", .int N tn)]) (hD : Den (tsOf tabs) s.heap vd (.list (ds.map .int)))
    (hX : ∀ k : Kx, k.G = G → k.tabs = tabs → k.prog = prog → k.w = w → (∀ y, (fScope sIn2).names.lookup y = some NameKind.local → Stores k y) → Room k.A m →
      (∀ ρ s', k.Fm (tsOf tabs) [] ρ s' → wpAny k.M k.A (loadName k.env "inner") (fun v s'' => v = .ref fa ∧ s'' = s') (fun _ _ => False) s' ∧ InnAt (tsOf tabs) [] s'.heap fa sIn2 qJ cl [("digits", vd), ("inner", .ref fa), ("n", .int N tn)] ∧ Den (tsOf tabs) s'.heap vd (.list (ds.map .int))) →
      Xs k (tsOf tabs) [] [("L", .int L), ("R", .int R), ("n", .int N), ("digits", .list (ds.map .int))] (fBody sIn2) (fun _ _ _ => False) (· = .int r)) :
    wpAny (model prog w) A (call (.ref fa) [.int L t2, .int R t3]) (fun v s'' => Step tabs (tsOf tabs) s s'' ∧ ∃ t, v = .int r t) E s := by
  obtain ⟨doc, pm, c', ctv, oc, ovs, ot, g1, g2, g3, g4, g5, g6, g7, g8⟩ := I.obj
  refine call_clo (ρ := [("L", .int L), ("R", .int R), ("n", .int N), ("digits", .list (ds.map .int))]) (xs := tsOf tabs) (hs := []) (binds := [("L", .int L t2), ("R", .int R t3)]) g1 ⟨c', oc, ovs, ot, rfl, g4, g5, g6⟩ (hlim.keeps fun b o e => (hW b o e).2) hr hW hT (fun _ q => q) (fun y hy hn => absurd hy hn) hG
    rfl (fun y d e => ?_) (locs rfl) (by simp only [List.map_cons, List.map_nil]; decide) (by decide) I.ap rfl rfl rfl fun k s₁ hk hr1 f₁ keep => ?_
  · rcases lk_cons e with ⟨rfl, rfl⟩ | e
    · exact ⟨_, .int _ _, .inl (.head _)⟩
    · rcases lk_cons e with ⟨rfl, rfl⟩ | e
      · exact ⟨_, .int _ _, .inl (.tail _ (.head _))⟩
      · rcases lk_cons e with ⟨rfl, rfl⟩ | e
        · obtain ⟨c, o, q1, q2, _, q3, q4⟩ := I.cells _ (.tail _ (.tail _ (.head _)))
          exact ⟨_, .int _ _, .inr ⟨rfl, by decide, c, q1, q2, o, q3, q4⟩⟩
        · rcases lk_cons e with ⟨rfl, rfl⟩ | e
          · obtain ⟨c, o, q1, q2, _, q3, q4⟩ := I.cells _ (.head _)
            exact ⟨_, hD, .inr ⟨rfl, by decide, c, q1, q2, o, q3, q4⟩⟩
          · cases e
  · have hkG : k.G = G ∧ k.tabs = tabs ∧ k.prog = prog ∧ k.w = w ∧ k.env.scope = fScope sIn2 ∧ k.S = s ∧ k.env.cells = cl ∧ k.X = tsOf tabs := by subst hk; exact ⟨rfl, rfl, rfl, rfl, rfl, rfl, rfl, rfl⟩
    obtain ⟨e1, e2, e3, e4, e6, e7, e8, e9⟩ := hkG
    have st : ∀ y, (fScope sIn2).names.lookup y = some NameKind.local → Stores k y := fun y hy => .inl (by unfold Env.kindOf; rw [e6]; exact hy)
    have hin : ∀ ρ s', k.Fm (tsOf tabs) [] ρ s' → wpAny k.M k.A (loadName k.env "inner") (fun v s'' => v = .ref fa ∧ s'' = s') (fun _ _ => False) s' ∧ InnAt (tsOf tabs) [] s'.heap fa sIn2 qJ cl [("digits", vd), ("inner", .ref fa), ("n", .int N tn)] ∧ Den (tsOf tabs) s'.heap vd (.list (ds.map .int)) := fun ρ s' f' => by
      have kp : ∀ b o, b ∉ tsOf tabs → s.heap.get? b = some o → s'.heap.get? b = some o := fun b o hb e => f'.base b o (by rw [e2]; exact hb) (by rw [e7]; exact e)
      have I' := I.keep (h' := s'.heap) fun b o hb _ e => kp b o hb e
      obtain ⟨c, o, q1, q2, _, q3, q4⟩ := I'.cells _ (.tail _ (.head _))
      exact ⟨wpAny_loadName_free f'.kind (by unfold Env.kindOf; rw [e6]; rfl) (by rw [e8]; exact q1) ⟨o, q3, q4⟩ ⟨rfl, rfl⟩, I', hD.keep fun b o hb e _ => kp b o hb e⟩
    refine wm (hX k e1 e2 e3 e4 st hr1 hin s₁ _ f₁) fun fl s₂ q => ?_
    cases fl with
    | next => obtain ⟨_, _, _, q, _⟩ := q; exact q.elim
    | brk => exact q.elim
    | cont => exact q.elim
    | ret v =>
      obtain ⟨d, rfl, q1, q2⟩ := q
      rw [e7] at q1
      have q1' : Step k.tabs (tsOf k.tabs) s s₂ := q1
      rw [e2] at q1'
      cases q2
      exact ⟨q1', _, rfl⟩

theorem in2_leaf {k : Kx} {N : Nat} {L R : Int} {ds : List Int} {T : PyData → Prop} (hL : 0 ≤ L) (hleaf : L + 1 = R) (hR : R ≤ ds.length) (hds : ds.length ≤ 100) (hT : T (.int (ds.getD L.toNat 0))) :
    Xs k (tsOf tabs) [] [("L", .int L), ("R", .int R), ("n", .int N), ("digits", .list (ds.map .int))] (fBody sIn2) (fun _ _ _ => False) T := by
  refine Xs.iff (c := true) (.cast (.cmp (.bin (.name rfl) .int .add) (.name rfl) .eq) (by simpa using hleaf)) (fun _ => ?_) nofun
  refine Xs.ret (.item (j := L.toNat) (.name rfl) (.name rfl) (by omega) (by omega) (by rw [List.length_map]; exact seqIndex_of hL (by omega)) ?_) hT
  rw [List.getElem?_map, List.getD_eq_getElem?_getD, List.getElem?_eq_getElem (by omega)]; rfl

theorem in2_spec (hlim : G.NoLimit) (N : Nat) (hn1 : 1 ≤ N) (hn2 : N ≤ 64) (fa : Addr) (cl : List (Str × Addr)) (tn : Tok) (vd : Value) (ds : List Int) (hds : ds.length ≤ 100) (hnn : ∀ d ∈ ds, 0 ≤ d) (hval : val (2 ^ N) ds < 2 ^ 60) :
    ∀ (fuel : Nat) (A : Around) (s : Shared) (L R : Int) (t2 t3 : Tok) (E : Value → Shared → Prop), Room A (fuel + 1) → Wd tabs G s.heap → TabOk tabs s.heap → G.objs.size ≤ s.heap.objs.size →
    InnAt (tsOf tabs) [] s.heap fa sIn2 qJ cl [("digits", vd), ("inner", .ref fa), ("n", .int N tn)] → Den (tsOf tabs) s.heap vd (.list (ds.map .int)) → 0 ≤ L → L < R → R ≤ ds.length → R - L ≤ 2 ^ fuel →
    wpAny (model prog w) A (call (.ref fa) [.int L t2, .int R t3]) (fun v s'' => Step tabs (tsOf tabs) s s'' ∧ ∃ t, v = .int (d2i N (fuel + 1) ds L R) t) E s := by
  intro fuel
  induction fuel with
  | zero =>
    intro A s L R t2 t3 E hr hW hT hG I hD hL hLR hR hf
    have hleaf : L + 1 = R := by simp at hf; omega
    exact in2_enter hlim N fa cl tn vd ds hr hW hT hG I hD fun k _ _ _ _ _ _ _ => in2_leaf hL hleaf hR hds (by unfold d2i; rw [if_pos hleaf])
  | succ fuel ih =>
    intro A s L R t2 t3 E hr hW hT hG I hD hL hLR hR hf
    by_cases hleaf : L + 1 = R
    · exact in2_enter hlim N fa cl tn vd ds hr hW hT hG I hD fun k _ _ _ _ _ _ _ => in2_leaf hL hleaf hR hds (by unfold d2i; rw [if_pos hleaf])
    · refine in2_enter hlim N fa cl tn vd ds hr hW hT hG I hD fun k e1 e2 e3 e4 st hr1 hin => ?_
      generalize hmid : (L + R) / 2 = mid
      have hm1 : L < mid := by omega
      have hm2 : mid < R := by omega
      have hpow : (2 : Int) ^ (fuel + 1) = 2 * 2 ^ fuel := by rw [Int.pow_succ]; omega
      rw [hpow] at hf
      have hsh0 : 0 ≤ (mid - L) * (N : Int) := Int.mul_nonneg (by omega) (by omega)
      have hsh1 : (mid - L) * (N : Int) ≤ 100 * 64 := Int.mul_le_mul (by omega) (by omega) (by omega) (by omega)
      have hres : d2i N (fuel + 1 + 1) ds L R = d2i N (fuel + 1) ds mid R * 2 ^ ((mid - L) * (N : Int)).toNat + d2i N (fuel + 1) ds L mid := by
        conv => lhs; unfold d2i
        rw [if_neg hleaf, hmid]
      rw [hres]
      generalize hsh : (mid - L) * (N : Int) = sh at hsh0 hsh1
      have hB : (0 : Int) < 2 ^ N := Int.pow_pos (by omega)
      have hb1 : 0 ≤ d2i N (fuel + 1) ds mid R ∧ d2i N (fuel + 1) ds mid R < 2 ^ 60 := by
        rw [d2i_val N fuel ds mid R (by omega) hm2 hR (by omega)]
        have hsplit : ds = ds.take mid.toNat ++ (ds.drop mid.toNat).take (R - mid).toNat ++ (ds.drop mid.toNat).drop (R - mid).toNat := by
          rw [List.append_assoc, List.take_append_drop, List.take_append_drop]
        have h2 := val_block hB (ds.take mid.toNat) ((ds.drop mid.toNat).take (R - mid).toNat) ((ds.drop mid.toNat).drop (R - mid).toNat) (by rw [← hsplit]; exact hnn)
        rw [← hsplit] at h2
        exact ⟨val_nonneg hB _ fun d hd => hnn d (List.mem_of_mem_drop (List.mem_of_mem_take hd)), by omega⟩
      refine Xs.iff (c := false) (.cast (.cmp (.bin (.name rfl) .int .add) (.name rfl) .eq) (by simpa using hleaf)) nofun fun _ => Xs.nil ?_
      refine Xs.asg (d := .int mid) (.cast (.bin (.bin (.name rfl) (.name rfl) .add) .int .shr1) (by rw [hmid])) (st _ rfl) nofun ?_
      refine Xs.asg (d := .int sh) (.cast (.bin (.bin (.name rfl) (.name rfl) .sub) (.name rfl) (.mul (.of_right (intBits_le_64 (by omega) (by omega))))) (by rw [hsh])) (st _ rfl) nofun ?_
      have cc : ∀ (L' R' : Int), 0 ≤ L' → L' < R' → R' ≤ ds.length → R' - L' ≤ 2 ^ fuel → ∀ (s' : Shared) (E : Value → Shared → Prop) (t2 t3 : Tok), Wd tabs k.G s'.heap → TabOk tabs s'.heap → k.G.objs.size ≤ s'.heap.objs.size → InnAt (tsOf tabs) [] s'.heap fa sIn2 qJ cl [("digits", vd), ("inner", .ref fa), ("n", .int N tn)] → Den (tsOf tabs) s'.heap vd (.list (ds.map .int)) →
          wpAny k.M k.A (call (.ref fa) [.int L' t2, .int R' t3]) (fun v s'' => Step tabs (tsOf tabs) s' s'' ∧ ∃ t, v = .int (d2i N (fuel + 1) ds L' R') t) E s' := fun L' R' q1 q2 q3 q4 s' E' u2 u3 hW' hT' hG' I' D' => by
        show wpAny (model k.prog k.w) k.A _ _ _ _
        rw [e3, e4]
        exact ih k.A s' L' R' u2 u3 E' hr1 (e1 ▸ hW') hT' (e1 ▸ hG') I' D' q1 q2 q3 q4
      exact Xs.ret (.bin (.bin (in2_call e2 (hin _) rfl rfl (by decide) (by decide) (cc mid R (by omega) hm2 hR (by omega))) (.name rfl) (.shl hsh0 (by omega) (by omega))) (in2_call e2 (hin _) rfl rfl (by decide) (by decide) (cc L mid hL hm1 (by omega) (by omega))) .add) rfl
end
end Mine
namespace Mine
open PySem PySem.W PySem.Calls PyProof.Rows
section
variable {prog : Program} {w : World} {tabs : List Tab} {G : Heap} {f : Addr}
theorem d2i_spec {t : Tab} (F : FnAt0 G f "_digits2int" (fParams sD2i) (fBody sD2i) (fScope sD2i) .none .none (.ref t.c)) (ht : t ∈ tabs) (hnd : tabs.Pairwise fun a b => a.P ≠ b.P) (C : TabG G t) (hq : t.qual = qJ) (hpos : t.pos = fPos sIn2) (hlen : BName G "len" (.builtin "len"))
    (N : Nat) (hn1 : 1 ≤ N) (hn2 : N ≤ 64) (ds : List Int) (hds : ds.length ≤ 100) (hnn : ∀ d ∈ ds, 0 ≤ d) (hval : val (2 ^ N) ds < 2 ^ 60) :
    Spec prog w tabs G f [.list (ds.map .int), .int N] 10 (· = .int (if ds.length = 0 then 0 else d2i N 8 ds 0 ds.length)) := fun A s xs vs E hr hW hT h1 h2 hG hd => by
  cases hd with | @cons v1 _ _ _ q1 r =>
  cases r with | @cons v2 _ _ _ q2 r =>
  cases r
  refine call_body (ρ := [("digits", .list (ds.map .int)), ("n", .int N)]) (binds := [("digits", v1), ("n", v2)]) F hr hW hT h1 h2 hG (fun doc pm an ct => BindsTo.of_eq rfl) (.cons q1 (.cons q2 .nil)) rfl (fun L => rfl) (by simp only [List.map_cons, List.map_nil]; decide) rfl rfl rfl fun k s₁ hk hr1 f₁ => ?_
  have hm : OnMain k := by subst hk; exact ⟨rfl, rfl, rfl⟩
  have hkG : k.G = G ∧ k.tabs = tabs ∧ k.prog = prog ∧ k.w = w ∧ k.env.code = .ref t.c ∧ k.env.scope = fScope sD2i ∧ k.S = s ∧ k.X = xs := by subst hk; exact ⟨rfl, rfl, rfl, rfl, rfl, rfl, rfl, rfl⟩
  obtain ⟨e1, e2, e3, e4, e5, e6, e7, e8⟩ := hkG
  have kd : ∀ y kd, (fScope sD2i).names.lookup y = some kd → k.env.kindOf y = some kd := fun y kd hy => by unfold Env.kindOf; rw [e6]; exact hy
  have hc1 : k.env.cells.lookup ("digits" : Str) = some (s.heap.objs.size + 1) := by subst hk; rfl
  have hc2 : k.env.cells.lookup ("n" : Str) = some (s.heap.objs.size + 2) := by subst hk; rfl
  have hc3 : k.env.cells.lookup ("inner" : Str) = some (s.heap.objs.size + 3) := by subst hk; rfl
  have hcl : closureFor (fScope sIn2) k.env = pure ([("n", s.heap.objs.size + 2), ("inner", s.heap.objs.size + 3), ("digits", s.heap.objs.size + 1)] : List (Str × Addr)) := by subst hk; rfl
  have hann : annTrees (fParams sIn2) none k.env = [] := rfl
  have hsti : Stores k "inner" := .inr ⟨kd _ _ rfl, _, hc3, by rw [e7]; omega⟩
  refine wpAny_execs_cons (wm (show wpAny k.M k.A (exec (.FunctionDef "inner" (fParams sIn2) (fBody sIn2) [] none [] (fScope sIn2) none "inner" (fPos sIn2)) k.env) _ _ _ from hpos ▸ mk_clo f₁ (t := t) (e2 ▸ ht) (e2 ▸ hnd) e5 (e1 ▸ C) hm (by rw [hq]; subst hk; rfl) hcl hsti rfl nofun rfl rfl hann) fun fl s₂ ⟨efl, f₂, fa, doc, pm, c', ctv, oc, ovs, tq, g1, g2, g3, g4, g5, hh⟩ => ?_)
  subst efl
  obtain ⟨vd, hvd, hholdd⟩ := f₂.vars "digits" _ rfl
  obtain ⟨vn, hvn, hholdn⟩ := f₂.vars "n" _ rfl
  cases hvn with | int _ tn =>
  have I : InnAt k.ts [] s₂.heap fa sIn2 qJ [("n", s.heap.objs.size + 2), ("inner", s.heap.objs.size + 3), ("digits", s.heap.objs.size + 1)] [("digits", vd), ("inner", .ref fa), ("n", .int N tn)] := by
    refine InnAt.of f₂ (fun l' hl' => nomatch hl') (by rw [← hq]; exact g1) g3 g4 (by rw [← hq]; exact g5) (fun x c hx => ?_) (fun p hp => ?_)
    · have := mem_of_lookup hx
      simp only [List.mem_cons, Prod.mk.injEq, List.not_mem_nil, or_false] at this
      rcases this with ⟨rfl, rfl⟩ | ⟨rfl, rfl⟩ | ⟨rfl, rfl⟩
      · exact hc2
      · exact hc3
      · exact hc1
    · simp only [List.mem_cons, List.not_mem_nil, or_false] at hp
      rcases hp with rfl | rfl | rfl
      · exact ⟨hholdd, kd _ _ rfl, fun c hc => by rw [hc1] at hc; exact hc ▸ rfl⟩
      · exact ⟨hh, kd _ _ rfl, fun c hc => by rw [hc3] at hc; exact hc ▸ rfl⟩
      · exact ⟨hholdn, kd _ _ rfl, fun c hc => by rw [hc2] at hc; exact hc ▸ rfl⟩
  have hvd' : Den (tsOf tabs) s₂.heap vd (.list (ds.map .int)) := hvd.shift fun a ha _ q => ha (h1 a q)
  have fin : ∀ v s' d, k.Fm xs [] [("digits", .list (ds.map .int)), ("n", .int N)] s' → Den xs s'.heap v d → Step tabs (tsOf tabs) s s' ∧ Den xs s'.heap v d := fun v s' d f' hd => by
    have := (f'.out hd).1
    have q : Step k.tabs (tsOf k.tabs) k.S s' := this
    rw [e2, e7] at q
    exact ⟨q, hd⟩
  refine wpAny_execs_cons (wpAny_Return_some (IfExp_ (Tr.go f₂ (b := (ds.length != 0)) (.cast (.plain (.name rfl) (.list (by simp; omega))) (by simp)) fun s₃ st₃ f₃ => ?_)))
  by_cases hz : ds.length = 0
  · have : (ds.length != 0) = false := by simpa using hz
    rw [this]
    simp only [Bool.false_eq_true, if_false]
    rw [if_pos hz]
    refine Ev.go f₃ (d := .int 0) .int fun v s₄ st₄ f₄ hd => ?_
    obtain ⟨a1, a2⟩ := fin v s₄ _ f₄ hd
    exact ⟨a1, _, rfl, a2⟩
  · have : (ds.length != 0) = true := by simpa using hz
    rw [this]
    simp only [if_true]
    rw [if_neg hz]
    refine wm (in2_raw (r := d2i N 8 ds 0 ds.length) (ds := ds) (L := 0) (R := ds.length) (vd := vd) (n := N) (tn := tn) (cl := [("n", s.heap.objs.size + 2), ("inner", s.heap.objs.size + 3), ("digits", s.heap.objs.size + 1)]) (fa := fa) f₃ e2 (fun s' st' f' => ?_) (.cons .int (.cons (.cast (.bi hm (kd _ _ rfl) (e1 ▸ hlen) (.len (by simp; omega)) (.cons (.name rfl) .nil)) (by simp)) .nil)) fun s' E' t2 t3 hW' hT' hG' I' D' => ?_) fun v s₄ q => ?_
    · have I' := I.keep (h' := s'.heap) fun b o hb _ e => (st₃.trans st').keep b o hb e
      rw [show k.ts = tsOf tabs by show tsOf k.tabs = _; rw [e2]] at I'
      exact ⟨((hh.keep f₂.lt (st₃.trans st').keep).load f'.kind ⟨rfl, rfl⟩), I', hvd'.keep fun b o hb e _ => (st₃.trans st').keep b o (by show b ∉ tsOf k.tabs; rw [e2]; exact hb) e⟩
    · show wpAny (model k.prog k.w) k.A _ _ _ _
      rw [e3, e4]
      exact in2_spec F.lim N hn1 hn2 fa _ tn vd ds hds hnn hval 7 k.A s' 0 ds.length t2 t3 E' (hr1.mono (by omega)) (e1 ▸ hW') hT' (e1 ▸ hG') I' D' (by omega) (by omega) (by omega) (by omega)
    · obtain ⟨st₄, hd⟩ := q
      obtain ⟨a1, a2⟩ := fin v s₄ _ (f₃.step st₄) hd
      exact ⟨a1, _, rfl, a2⟩
end
end Mine
namespace Mine
open PySem PySem.W PySem.Calls PyProof.Rows

theorem digitsOf_eq {a : Int} {N : Nat} (ha0 : 0 ≤ a) (ha : a < 2 ^ 60) (hN : 1 ≤ N) : ∃ D : Nat, D ≤ 100 ∧ digitsOf a N = digs (2 ^ N) a D ∧ a < (2 ^ N) ^ D := by
  have hbits : Builtin.Int.intBits a ≤ 60 := intBits_le_iff.mpr (by omega)
  have hb2 : a.natAbs < 2 ^ Builtin.Int.intBits a := intBits_le_iff.mp (Nat.le_refl _)
  have hle : ((Builtin.Int.intBits a : Int)) ≤ (((Builtin.Int.intBits a : Int) + N - 1) / N) * N := by
    have := Int.mul_ediv_add_emod ((Builtin.Int.intBits a : Int) + N - 1) N
    have h2 := Int.emod_lt_of_pos ((Builtin.Int.intBits a : Int) + N - 1) (b := N) (by omega)
    rw [Int.mul_comm]
    omega
  have hD0 : 0 ≤ ((Builtin.Int.intBits a : Int) + N - 1) / N := Int.ediv_nonneg (by omega) (by omega)
  have hD1 : ((Builtin.Int.intBits a : Int) + N - 1) / N ≤ 100 := by
    refine Int.le_of_lt_add_one (Int.ediv_lt_of_lt_mul (by omega) ?_)
    have : ((100 : Int) + 1) * 1 ≤ (100 + 1) * N := Int.mul_le_mul_of_nonneg_left (by omega) (by omega)
    omega
  unfold digitsOf
  generalize ((Builtin.Int.intBits a : Int) + N - 1) / N = D at *
  obtain ⟨d, rfl⟩ := Int.eq_ofNat_of_zero_le hD0
  have hall : a < (2 ^ N) ^ d := by
    have h1 : Builtin.Int.intBits a ≤ d * N := by exact_mod_cast hle
    have h2 : (2 : Nat) ^ Builtin.Int.intBits a ≤ 2 ^ (d * N) := Nat.pow_le_pow_right (by omega) h1
    have h3 : a.natAbs < (2 ^ N) ^ d := by
      rw [← Nat.pow_mul, Nat.mul_comm N d]; omega
    have h4 : ((a.natAbs : Nat) : Int) < (((2 ^ N) ^ d : Nat) : Int) := by exact_mod_cast h3
    push_cast at h4
    omega
  refine ⟨d, by omega, ?_, hall⟩
  · dsimp only
    by_cases hz : a = 0
    · subst hz
      rw [if_pos rfl]
      simp only [Int.toNat_natCast]
      clear hle hD1 hD0 hb2 hbits hall
      induction d with
      | zero => rfl
      | succ d ih => rw [List.replicate_succ, ih]; simp [digs]
    · rw [if_neg hz]
      have hdpos : 0 < d := by
        have hb1 : 1 ≤ Builtin.Int.intBits a := by
          unfold Builtin.Int.intBits
          have : (a == 0) = false := by simpa using hz
          rw [this]; simp
        rcases Nat.eq_zero_or_pos d with h | h
        · subst h; simp at hle; omega
        · exact h
      have hlt : a < (2 ^ N) ^ ((d : Int) - 0).toNat := by simpa using hall
      rw [i2d_digs N 7 _ a 0 d ha0 (by omega) (by omega) (by simp) (by omega) hlt]
      simp

section
variable {prog : Program} {w : World} {tabs : List Tab} {G : Heap} {f : Addr}
abbrev sDp : Stmt := stAt P 6
abbrev sDm : Stmt := stAt P 7

theorem dp_spec {cdv : Value} {fi fv fd : Addr} (F : FnAt0 G f "_divmod_pos" (fParams sDp) (fBody sDp) (fScope sDp) .none .none cdv) (hrev : BName G "reversed" (.type "reversed"))
    (hi : GName G "_int2digits" (.ref fi)) (hif : PySem.W.FnAt fi G) (hv : GName G "_div2n1n" (.ref fv)) (hvf : PySem.W.FnAt fv G) (hd : GName G "_digits2int" (.ref fd)) (hdf : PySem.W.FnAt fd G)
    (hI : ∀ a n : Int, 0 ≤ a → a < 2 ^ 60 → 1 ≤ n → n ≤ 64 → Spec prog w tabs G fi [.int a, .int n] 10 (· = .list ((digitsOf a n).map .int)))
    (hV : ∀ i j n : Int, 0 < j → j < 1073741824 → (Builtin.Int.intBits i : Int) - n ≤ 4000 → Spec prog w tabs G fv [.int i, .int j, .int n] 1 (· = .tuple [.int (i / j), .int (i % j)]))
    (hD : ∀ (N : Nat) (ds : List Int), 1 ≤ N → N ≤ 64 → ds.length ≤ 100 → (∀ d ∈ ds, 0 ≤ d) → val (2 ^ N) ds < 2 ^ 60 → Spec prog w tabs G fd [.list (ds.map .int), .int N] 10 (· = .int (if ds.length = 0 then 0 else d2i N 8 ds 0 ds.length)))
    (a b : Int) (ha0 : 0 ≤ a) (ha : a < 2 ^ 60) (hb0 : 0 < b) (hb : b < 2 ^ 29) : Spec prog w tabs G f [.int a, .int b] 11 (· = .tuple [.int (a / b), .int (a % b)]) := by
  generalize hN : Builtin.Int.intBits b = N
  have hN1 : 1 ≤ N := by
    rw [← hN]; unfold Builtin.Int.intBits
    have : (b == 0) = false := by simpa using (by omega : b ≠ 0)
    rw [this]; simp
  have hN2 : N ≤ 29 := by rw [← hN]; exact intBits_le_iff.mpr (by omega)
  obtain ⟨D, hD1, hD2, hD3⟩ := digitsOf_eq ha0 ha hN1
  have hB : (0 : Int) < 2 ^ N := Int.pow_pos (by omega)
  have hB2 : (2 : Int) ^ N ≤ 2 ^ 29 := by
    have := Nat.pow_le_pow_right (n := 2) (by omega) hN2
    exact_mod_cast this
  generalize hM : (digs (2 ^ N) a D).reverse = M
  have hMlen : M.length = D := by rw [← hM]; simp [digs_length]
  have hMb : ∀ d ∈ M, 0 ≤ d ∧ d < 2 ^ N := fun d hd => digs_bound hB D a d (by rw [← hM] at hd; simpa using hd)
  have hlong := ldiv_spec (B := 2 ^ N) hb0 M 0 (by omega) hb0
  have hval : val (2 ^ N) M.reverse = a := by rw [← hM, List.reverse_reverse]; exact val_digs hB D a ha0 hD3
  rw [hval, Int.zero_mul, Int.zero_add] at hlong
  generalize hQ : (ldiv b (2 ^ N) M 0).1 = Q at hlong
  generalize hR : (ldiv b (2 ^ N) M 0).2 = Rr at hlong
  have hQn : ∀ q ∈ Q, 0 ≤ q := fun q hq => ldiv_nonneg hb0 hB M 0 (by omega) (fun d hd => (hMb d hd).1) q (by rw [hQ]; exact hq)
  have hQl : Q.length = D := by rw [← hQ, ldiv_length, hMlen]
  have hfin : a / b = val (2 ^ N) Q.reverse ∧ a % b = Rr := by
    refine (Int.ediv_emod_unique hb0).mpr ⟨?_, hlong.2.1, hlong.2.2⟩
    omega
  rw [hfin.1, hfin.2]
  have hqv0 : 0 ≤ val (2 ^ N) Q.reverse := val_nonneg hB _ fun d hd => hQn d (by simpa using hd)
  have hqv : val (2 ^ N) Q.reverse < 2 ^ 60 := by
    have : a / b ≤ a := Int.ediv_le_self _ ha0
    omega
  refine Spec.of_body (ρ := [("a", .int a), ("b", .int b)]) F (fun s xs vs hW hd => ?_) (fun L => rfl) (by simp only [List.map_cons, List.map_nil]; decide) rfl rfl rfl fun A s k xs e hr => ?_
  · cases hd with | @cons v1 _ _ _ q1 r =>
    cases r with | @cons v2 _ _ _ q2 r =>
    cases r
    exact ⟨[("a", v1), ("b", v2)], fun doc pm an ct => BindsTo.of_eq rfl, .cons q1 (.cons q2 .nil), rfl⟩
  · have hm : OnMain k := by subst e; exact ⟨rfl, rfl, rfl⟩
    have hkG : k.G = G ∧ k.tabs = tabs ∧ k.prog = prog ∧ k.w = w ∧ k.env.scope = fScope sDp ∧ interactive k.env = false := by subst e; exact ⟨rfl, rfl, rfl, rfl, rfl, rfl⟩
    obtain ⟨e1, e2, e3, e4, e6, e8⟩ := hkG
    have kd : ∀ y kd, (fScope sDp).names.lookup y = some kd → k.env.kindOf y = some kd := fun y kd hy => by unfold Env.kindOf; rw [e6]; exact hy
    have st : ∀ y, (fScope sDp).names.lookup y = some NameKind.local → ∀ π η, Stores { k with pi := π, eta := η } y := fun y hy _ _ => .inl (kd _ _ hy)
    refine Xs.asg (d := .int N) (.cast (.bitlen rfl) (by rw [hN])) (st _ rfl _ _) nofun ?_
    refine Xs.asg (d := .list ((digs (2 ^ N) a D).map .int)) (EvT.ev (EvT.call (n := 10) hm (kd _ _ rfl) (e1 ▸ hi) (e1 ▸ hif) hr (by rw [e1, e2, e3, e4, ← hD2]; exact hI a N ha0 ha (by omega) (by omega)) (.cons (.name rfl) (.cons (.name rfl) .nil)))) (st _ rfl _ _) nofun ?_
    refine Xs.asg .int (st _ rfl _ _) nofun ?_
    refine Xs.newList (st _ rfl _ _) rfl fun l hlS hown => ?_
    have nm : ∀ (ds : List PyData) (y : Str), (y == "q_digits") = false → ∀ m ∈ ([("q_digits", l, ds)] : Mu), m.1 ≠ y := fun ds y hy m hm q => by
      simp only [List.mem_singleton] at hm
      rw [hm] at q
      rw [← q] at hy
      simp at hy
    refine Xs.for (ds := M.map .int) (fun rest μ ρ => ∃ (rem qs : List Int) (r : Int), rest = rem.map .int ∧ μ = ([("q_digits", l, qs.map .int)] : Mu) ∧ Lk ρ "r" (.int r) ∧ Lk ρ "n" (.int N) ∧ Lk ρ "b" (.int b) ∧ 0 ≤ r ∧ r < b ∧ qs ++ (ldiv b (2 ^ N) rem r).1 = Q ∧ (ldiv b (2 ^ N) rem r).2 = Rr ∧ (∀ d ∈ rem, 0 ≤ d ∧ d < 2 ^ N)) hr.1 ?_
      ⟨M, [], 0, rfl, rfl, rfl, rfl, rfl, by omega, hb0, hQ, hR, hMb⟩ ?_ ?_
    · exact Itw.cast (Itw.reversed hm (kd _ _ rfl) (e1 ▸ hrev) (.name rfl)) (by rw [← List.map_reverse, hM])
    · rintro d rest μ ρ π η ⟨rem, qs, r, h1, rfl, h3, h4, h5, h6, h7, h8, h9, h10⟩
      cases rem with
      | nil => cases h1
      | cons x rem =>
        obtain ⟨rfl, rfl⟩ := List.cons.inj h1
        have hx := h10 x (.head _)
        have hxb : 0 ≤ r * 2 ^ N + x ∧ r * 2 ^ N + x < 2 ^ 60 := by
          have h11 : 0 ≤ r * 2 ^ N := Int.mul_nonneg h6 (Int.le_of_lt hB)
          have h12 : r * 2 ^ N ≤ 2 ^ 29 * 2 ^ 29 := Int.mul_le_mul (by omega) hB2 (Int.le_of_lt hB) (by omega)
          omega
        refine ⟨_, As.name (st _ rfl _ _) (nm _ _ (by decide)), ?_⟩
        refine Xs.asgTup hr.1 (EvT.ev (EvT.call (n := 1) hm (kd _ _ rfl) (e1 ▸ hv) (e1 ▸ hvf) (hr.mono (by omega)) (by show Spec k.prog k.w k.tabs k.G _ _ _ _; rw [e1, e2, e3, e4]; exact hV (r * 2 ^ N + x) b N hb0 (by omega) (by have : Builtin.Int.intBits (r * 2 ^ N + x) ≤ 60 := intBits_le_iff.mpr (by omega); omega))
          (.cons (.bin (.bin (.name h3) (.name h4) (.shl (by omega) (by omega) (by omega))) (.name rfl) .add) (.cons (.name h5) (.cons (.name h4) .nil))))) (st _ rfl _ _) (st _ rfl _ _) (nm _ _ (by decide)) (nm _ _ (by decide)) ?_
        refine Xs.append hown (.name rfl) (by have := congrArg List.length h8; simp at this ⊢; omega) (by decide) (Xs.nil ⟨rfl, rem, qs ++ [(r * 2 ^ N + x) / b], (r * 2 ^ N + x) % b, rfl, by simp, rfl, h4, h5, Int.emod_nonneg _ (by omega), Int.emod_lt_of_pos _ hb0, ?_, h9, fun d hd => h10 d (.tail _ hd)⟩) e8 ⟨_, rfl⟩ rfl
        rw [← h8]; simp [ldiv]
    · rintro μ ρ ⟨rem, qs, r, h1, rfl, h3, h4, h5, h6, h7, h8, h9, h10⟩
      have : rem = [] := by cases rem with | nil => rfl | cons _ _ => cases h1
      subst this
      simp only [ldiv, List.append_nil] at h8 h9
      rw [h8]
      rw [h9] at h3
      refine Xs.reverse hown (by simp; omega) ?_ e8
      rw [← List.map_reverse]
      have hlr : Q.reverse.length = D := by simp [hQl]
      refine Xs.asg (d := .int (val (2 ^ N) Q.reverse)) (.callMut (ds := Q.reverse.map .int) (n := 10) hm (kd _ _ rfl) (e1 ▸ hd) (e1 ▸ hdf) hr ?_ (.head _) (.cons (.name h4) .nil)) (st _ rfl _ _) (nm _ _ (by decide)) (Xs.ret (.tup (.cons (.name rfl) (.cons (.name h3) .nil)) (by simp)) rfl)
      have := hD N Q.reverse hN1 (by omega) (by omega) (fun d hd => hQn d (by simpa using hd)) hqv
      have e9 : (if Q.reverse.length = 0 then (0 : Int) else d2i N 8 Q.reverse 0 Q.reverse.length) = val (2 ^ N) Q.reverse := by
        by_cases hz : Q.reverse.length = 0
        · rw [if_pos hz, List.length_eq_zero_iff.mp hz]; rfl
        · rw [if_neg hz, d2i_val N 7 Q.reverse 0 Q.reverse.length (by omega) (by omega) (by omega) (by omega)]
          simp
          rw [← List.length_reverse, List.take_length]
      rw [e9] at this
      rw [e1, e2, e3, e4]
      exact this

theorem dm_spec {cdv : Value} {fp : Addr} (F : FnAt0 G f "int_divmod" (fParams sDm) (fBody sDm) (fScope sDm) .none .none cdv) (hp : GName G "_divmod_pos" (.ref fp)) (hpf : PySem.W.FnAt fp G)
    (hP : ∀ a b : Int, 0 ≤ a → a < 2 ^ 60 → 0 < b → b < 2 ^ 29 → Spec prog w tabs G fp [.int a, .int b] 11 (· = .tuple [.int (a / b), .int (a % b)]))
    (a b : Int) (ha0 : 0 ≤ a) (ha : a < 2 ^ 60) (hb0 : 0 < b) (hb : b < 2 ^ 29) : Spec prog w tabs G f [.int a, .int b] 12 (· = .tuple [.int (a / b), .int (a % b)]) := by
  refine Spec.of_body (ρ := [("a", .int a), ("b", .int b)]) F (fun s xs vs hW hd => ?_) (fun L => rfl) (by simp only [List.map_cons, List.map_nil]; decide) rfl rfl rfl fun A s k xs e hr => ?_
  · cases hd with | @cons v1 _ _ _ q1 r =>
    cases r with | @cons v2 _ _ _ q2 r =>
    cases r
    exact ⟨[("a", v1), ("b", v2)], fun doc pm an ct => BindsTo.of_eq rfl, .cons q1 (.cons q2 .nil), rfl⟩
  · subst e
    refine Xs.iff (c := false) (.cast (.cmp (.name rfl) .int .eq) (by simpa using (by omega : b ≠ 0))) nofun fun _ => ?_
    refine Xs.iff (c := false) (.cast (.cmp (.name rfl) .int .lt) (by simpa using (by omega : 0 ≤ b))) nofun fun _ => ?_
    refine Xs.iff (c := false) (.cast (.cmp (.name rfl) .int .lt) (by simpa using ha0)) nofun fun _ => ?_
    exact Xs.ret (EvT.ev (EvT.call (n := 11) (fn_main rfl rfl) rfl hp hpf hr (hP a b ha0 ha hb0 hb) (.cons (.name rfl) (.cons (.name rfl) .nil)))) rfl
end
end Mine
namespace Mine
open PySem PySem.W PySem.Calls PyProof.Rows

abbrev prD (p : Int × Int) : PyData := .tuple [.int p.1, .int p.2]

section
variable {k : Kx} {xs : List Addr} {μ : Mu} {ρ ρ' : Rho} {a b d : PyData} {pos : Pos}

theorem range_iter {s₁ : Shared} {E' : Value → Shared → Prop} {r : Addr} {x y c : Int} {t u v : Tok} {n : Nat} {N : Nat} (hr : IsRange s₁.heap r x y c t u v) (hs : Builtin.Range.small x y c = true) (hn : Builtin.Range.rangeSize x y c = (n : Int)) (hN : N ≤ s₁.heap.objs.size) :
    wpAny k.M k.A (pyIter (.ref r)) (fun it s₂ => k.Step s₁ s₂ ∧ ∃ I, it = .ref I ∧ N ≤ I ∧ ItAt xs s₂.heap I (rangeL x c n)) E' s₁ := by
  refine wpAny_pyIter_range hr hs ⟨Step.push, _, rfl, hN, .range ?_⟩
  rw [hn]
  exact Heap.get?_push_size _ rfl

theorem Itb.range1 {p : Pos} {e : Expr} {n : Int} (hm : OnMain k) (hx : k.env.kindOf "range" = some .globalImplicit) (hg : BName k.G "range" (.type "range")) (he : Ev k xs μ ρ e (.int n)) (h0 : -1000000 ≤ n) (h1 : n ≤ 1000000)
    (hst : starEach [e] k.env = (false, eval e k.env) :: starEach [] k.env := by rfl) : Itb k xs μ ρ (.Call (.Name "range" p) [e] [] pos) (rangeL 0 1 n.toNat) := fun s E f => by
  refine Call_ (bname f.wd hg hm.1 hm.2.1 hm.2.2 hx (callWith_type1 (args_cons (wm (he s E f) fun v s₁ ⟨st, hd⟩ => args_nil ?_) hst) hst))
  cases hd with | int _ t =>
  refine call_range_1 ⟨st.trans Step.push, fun E' => range_iter (s₁ := { s₁ with heap := s₁.heap.push { cls := .type "range", data := .fields #[.int 0 s₁.toks, .int n t, .int 1 (s₁.toks + 1)] }, toks := s₁.toks + 1 + 1 }) (Heap.get?_push_size _ rfl) (small_one (by omega) (by omega) (by omega) (by omega)) ?_ (Nat.le_refl _)⟩
  rw [rangeSize_one]
  split <;> omega
theorem Itb.range2 {p : Pos} {e1 e2 : Expr} {x y : Int} (hm : OnMain k) (hx : k.env.kindOf "range" = some .globalImplicit) (hg : BName k.G "range" (.type "range")) (he1 : Ev k xs μ ρ e1 (.int x)) (he2 : Ev k xs μ ρ e2 (.int y)) (h0 : -1000000 ≤ x) (h1 : x ≤ 1000000) (h2 : -1000000 ≤ y) (h3 : y ≤ 1000000)
    (hst : starEach [e1, e2] k.env = (false, eval e1 k.env) :: starEach [e2] k.env := by rfl) (hst2 : starEach [e2] k.env = (false, eval e2 k.env) :: starEach [] k.env := by rfl) (hp : (backTo pos (starEach [e2] k.env)).any (·.1) = false := by rfl) :
    Itb k xs μ ρ (.Call (.Name "range" p) [e1, e2] [] pos) (rangeL x 1 (y - x).toNat) := fun s E f => by
  refine Call_ (bname f.wd hg hm.1 hm.2.1 hm.2.2 hx (callWith_type1 (wm ((EvL.cons he1 (.cons he2 .nil hst2) hst) s E pos f) fun vs s₁ ⟨st, hd⟩ => ?_) hst hp))
  cases hd with | cons r1 hd =>
  cases hd with | cons r2 hd =>
  cases hd
  cases r1 with | int _ t =>
  cases r2 with | int _ u =>
  refine call_range_2 ⟨st.trans Step.push, fun E' => range_iter (s₁ := { s₁ with heap := s₁.heap.push { cls := .type "range", data := .fields #[.int x t, .int y u, .int 1 s₁.toks] }, toks := s₁.toks + 1 }) (Heap.get?_push_size _ rfl) (small_one (by omega) (by omega) (by omega) (by omega)) ?_ (Nat.le_refl _)⟩
  rw [rangeSize_one]
  split <;> omega
theorem Itb.range3 {p : Pos} {e1 e2 e3 : Expr} {x y c : Int} {n : Nat} (hm : OnMain k) (hx : k.env.kindOf "range" = some .globalImplicit) (hg : BName k.G "range" (.type "range")) (he1 : Ev k xs μ ρ e1 (.int x)) (he2 : Ev k xs μ ρ e2 (.int y)) (he3 : Ev k xs μ ρ e3 (.int c))
    (hs : Builtin.Range.small x y c = true) (hn : Builtin.Range.rangeSize x y c = (n : Int)) (hc : c ≠ 0) (hc2 : c.natAbs < 1000)
    (hst : starEach [e1, e2, e3] k.env = (false, eval e1 k.env) :: starEach [e2, e3] k.env := by rfl) (hst2 : starEach [e2, e3] k.env = (false, eval e2 k.env) :: starEach [e3] k.env := by rfl) (hst3 : starEach [e3] k.env = (false, eval e3 k.env) :: starEach [] k.env := by rfl) (hp : (backTo pos (starEach [e2, e3] k.env)).any (·.1) = false := by rfl) :
    Itb k xs μ ρ (.Call (.Name "range" p) [e1, e2, e3] [] pos) (rangeL x c n) := fun s E f => by
  refine Call_ (bname f.wd hg hm.1 hm.2.1 hm.2.2 hx (callWith_type1 (wm ((EvL.cons he1 (.cons he2 (.cons he3 .nil hst3) hst2) hst) s E pos f) fun vs s₁ ⟨st, hd⟩ => ?_) hst hp))
  cases hd with | cons r1 hd =>
  cases hd with | cons r2 hd =>
  cases hd with | cons r3 hd =>
  cases hd
  cases r1 with | int _ t =>
  cases r2 with | int _ u =>
  cases r3 with | int _ v =>
  exact call_range_3 hc ⟨st.trans Step.push, fun E' => range_iter (s₁ := { s₁ with heap := s₁.heap.push { cls := .type "range", data := .fields #[.int x t, .int y u, .int c v] }, toks := s₁.toks }) (Heap.get?_push_size _ rfl) hs hn (Nat.le_refl _)⟩ (.inl (PyProof.noPylong_small (by omega)))
end
end Mine
namespace Mine
open PySem PySem.W PySem.Calls PyProof.Rows

section
variable {k : Kx} {xs : List Addr} {μ : Mu} {ρ ρ' : Rho} {a b d : PyData} {pos : Pos}
theorem Bi.sumList {ns : List Int} (hh : k.A.handled = none) : Bi k xs (.builtin "sum") [.list (ns.map .int)] (.int ns.sum) := fun s E vs _ _ hv => by
  cases hv with | cons h1 h2 =>
  cases h2
  cases h1 with | @list l its _ ha hl hd =>
  have hi := hd.intsAre
  obtain ⟨ys, hys⟩ := hi.allInts.items
  have hys : its = intItems ys := by rw [← hys]
  subst hys
  refine sum_intListG hh hl fun h' tk t' hk => ⟨.of_keeps hk, ?_⟩
  have e := hi.numsOf
  rw [nums_intItems] at e
  rw [preSum_eq, List.take_of_length_le (by simp), e]
  exact .int _ _
theorem perm_sorted_eq : ∀ {a b : List Int}, a.Perm b → a.Pairwise (· ≤ ·) → b.Pairwise (· ≤ ·) → a = b := fun {a b} h h1 h2 =>
  h.eq_of_pairwise (fun x y _ _ p q => Int.le_antisymm p q) h1 h2
theorem Bi.sortInts {ns ms : List Int} (h64 : ns.length < 64) (hp : ms.Perm ns) (hs : ms.Pairwise (· ≤ ·)) : Bi k xs (.builtin "sorted") [.list (ns.map .int)] (.list (ms.map .int)) := fun s E vs _ hx hv => by
  cases hv with | cons h1 h2 =>
  cases h2
  cases h1 with | @list l its _ ha hl hd =>
  have hi := hd.intsAre
  obtain ⟨its⟩ := its
  have hlen := hi.length
  refine sorted_ints hl hi (by simp at hlen; omega) fun out ns' g1 g2 g3 => ⟨.of_keeps (tk := s.toks) fun b o e => sortedAll_old e, ?_⟩
  have e : ns' = ms := perm_sorted_eq (g2.trans hp.symm) g3 hs
  subst e
  obtain ⟨c, hc⟩ := sortedAll_at s.heap its out
  refine .list (vs := out) (fun q => ?_) ⟨_, hc, rfl, _, rfl⟩ (.ints g1)
  exact absurd (hx _ q) (Nat.not_lt.mpr (Nat.le_succ _))
theorem room_units {A : Around} {n : Nat} (hr : Room A n) (h : 5 ≤ n) : A.units + 64 < cLine := by have := hr.2.2; omega
theorem Cmp.eqD {n : Nat} (hr : Room k.A n) (hn : 5 ≤ n) (ha : PySem.SeqAt.shaped a = true) (hb : PySem.SeqAt.shaped b = true) : Cmp k xs .Eq a b (PyData.eqv a b) := fun s E v u hv hu => by
  obtain ⟨_, r1⟩ := hv.reads
  obtain ⟨_, r2⟩ := hu.reads
  exact eq_dataH r1 r2 ha hb (room_units hr hn) ⟨Step.refl, rfl⟩
theorem Cmp.neD {n : Nat} (hr : Room k.A n) (hn : 5 ≤ n) (ha : PySem.SeqAt.shaped a = true) (hb : PySem.SeqAt.shaped b = true) : Cmp k xs .NotEq a b (!PyData.eqv a b) := fun s E v u hv hu => by
  obtain ⟨_, r1⟩ := hv.reads
  obtain ⟨_, r2⟩ := hu.reads
  exact ne_dataH r1 r2 ha hb (room_units hr hn) ⟨Step.refl, rfl⟩
theorem Bi.min2 {i j : Int} (hh : k.A.handled = none) : Bi k xs (.builtin "min") [.int i, .int j] (.int (if j < i then j else i)) := fun s E vs _ _ hv => by
  cases hv with | cons h1 r =>
  cases r with | cons h2 r =>
  cases r
  cases h1; cases h2
  refine min_two_ints hh fun h' tk hk => ⟨.of_keeps hk, ?_⟩
  split <;> exact .int _ _
theorem Ev.sumRange3 {ps p pos2 : Pos} {e1 e2 e3 : Expr} {x y c : Int} {n : Nat} (hh : k.A.handled = Option.none) (hm : OnMain k) (hxs : k.env.kindOf "sum" = some .globalImplicit) (hgs : BName k.G "sum" (.builtin "sum"))
    (hx : k.env.kindOf "range" = some .globalImplicit) (hg : BName k.G "range" (.type "range")) (he1 : Ev k xs μ ρ e1 (.int x)) (he2 : Ev k xs μ ρ e2 (.int y)) (he3 : Ev k xs μ ρ e3 (.int c))
    (hs : Builtin.Range.small x y c = true) (hn : Builtin.Range.rangeSize x y c = (n : Int)) (hc : c ≠ 0) (hc2 : c.natAbs < 1000)
    (hst : starEach [e1, e2, e3] k.env = (false, eval e1 k.env) :: starEach [e2, e3] k.env := by rfl) (hst2 : starEach [e2, e3] k.env = (false, eval e2 k.env) :: starEach [e3] k.env := by rfl) (hst3 : starEach [e3] k.env = (false, eval e3 k.env) :: starEach [] k.env := by rfl) (hp : (backTo pos (starEach [e2, e3] k.env)).any (·.1) = false := by rfl) :
    Ev k xs μ ρ (.Call (.Name "sum" ps) [.Call (.Name "range" p) [e1, e2, e3] [] pos] [] pos2) (.int (preSum (fun i => x + i * c) n)) := fun s E f => by
  refine Call_ (bname f.wd hgs hm.1 hm.2.1 hm.2.2 hxs (callWith_builtin1 (args_cons (Call_ (bname f.wd hg hm.1 hm.2.1 hm.2.2 hx (callWith_type1 (wm ((EvL.cons he1 (.cons he2 (.cons he3 .nil hst3) hst2) hst) s E pos f) fun vs s₁ ⟨st, hd⟩ => ?_) hst hp))) rfl) rfl))
  cases hd with | cons r1 hd =>
  cases hd with | cons r2 hd =>
  cases hd with | cons r3 hd =>
  cases hd
  cases r1 with | int _ t =>
  cases r2 with | int _ u =>
  cases r3 with | int _ v =>
  refine call_range_3 hc (args_nil ?_) (.inl (PyProof.noPylong_small (by omega)))
  refine call_sum_walkG (wpAny_pyIter_range (Heap.get?_push_size _ rfl) hs ?_)
  have h1 : ∀ b o, s₁.heap.get? b = some o → (s₁.heap.push { cls := .type "range", data := .fields #[.int x t, .int y u, .int c v] }).get? b = some o := fun b o e => Heap.get?_push_of_some _ e
  refine ⟨_, _, _, _, _, _, fun i => x + i * c, rfl, Walks.range (A := k.A.in1) hh _ x c n, ?_, ?_, fun i v q => q, fun h' tk t' hk => ⟨st.trans (.of_keeps fun b o e => ?_), .int _ _⟩⟩
  · show IsRangeIter _ _ _ _ _
    have : x + ((0 : Nat) : Int) * c = x := by simp
    rw [this, hn]
    have e : ((n : Int) - ((0 : Nat) : Int)) = n := by simp
    rw [e]
    exact Heap.get?_push_size _ rfl
  · intro b hb
    rcases List.mem_cons.mp hb with rfl | hb
    · show _ < (Heap.push _ _).objs.size
      simp only [Heap.size_push]; exact Nat.lt_succ_self _
    · cases hb
  · refine hk b o (fun hm => ?_) (Heap.get?_push_of_some _ (h1 b o e))
    rcases List.mem_cons.mp hm with q | hm
    · have := ltN (Heap.lt_size e)
      rw [q] at this
      simp only [Heap.size_push] at this
      omega
    · cases hm
/-- x, y = e1, e2 with both names local: stored from the right -/
theorem fm_tupS {x y : Str} {v : Value} {s : Shared} {E : Value → Shared → Prop} (f : k.Fm xs μ ρ s) (hh : k.A.handled = none) (hv : Den xs s.heap v (.tuple [a, b])) (hx : Stores k x) (hy : Stores k y) (hmx : ∀ m ∈ μ, m.1 ≠ x) (hmy : ∀ m ∈ μ, m.1 ≠ y) {Q : Shared → Prop}
    (h : ∀ s', k.Fm xs μ ((x, a) :: (y, b) :: ρ) s' → Q s') : wpAny k.M k.A (unpackItems v 2 none) (fun items s₂ => wpAny k.M k.A (assignInOrder ([y, x].map fun n => bindName k.env n) items.reverse) (fun _ => Q) E s₂) E s := by
  cases hv with | @tuple t vs _ ht hit hd =>
  obtain ⟨l⟩ := vs
  cases hd with | @cons v₁ _ _ _ h1 h2 =>
  cases h2 with | @cons v₂ _ _ _ h2 h3 =>
  cases h3
  show wpAny k.M k.A (unpackItems (.ref t) (Array.size ⟨[v₁, v₂]⟩) none) _ _ _
  refine unpackItems_tuple (items := ⟨[v₁, v₂]⟩) hh hit fun h₁ he₁ => ?_
  have st : k.Step s { s with heap := h₁ } := Step.of_keeps fun b o e => he₁ b o (Nat.ne_of_lt (Heap.lt_size e)) e
  have f₁ := f.step st
  show wpAny k.M k.A (assignInOrder [bindName k.env y, bindName k.env x] [v₂, v₁]) _ _ _
  refine assignInOrder_cons ?_
  refine bindName_ (wm ((f₁.hold (h1.keep (st.seq f.sub))).store (k := { k with eta := (v₁, a) :: k.eta }) hy (h2.keep (st.seq f.sub)) hmy) fun _ s₂ ⟨f₂, n₂, _⟩ => ?_)
  refine assignInOrder_cons ?_
  have hv2 : Den xs s₂.heap v₁ a := f₂.held _ (.head _)
  exact bindName_ (wm (Fm.store (k := k) f₂.unhold hx hv2 hmx) fun _ s₃ f₃ => assignInOrder_nil (h _ f₃.1))
theorem Xs.asgTupS {x y : Str} {px py tp : Pos} {n : Nat} {e : Expr} {rest : List Stmt} {R : RP} {T : PyData → Prop} (hh : k.A.handled = none) (he : Ev k xs μ ρ e (.tuple [a, b])) (hx : Stores k x) (hy : Stores k y) (hmx : ∀ m ∈ μ, m.1 ≠ x) (hmy : ∀ m ∈ μ, m.1 ≠ y)
    (h : Xs k xs μ ((x, a) :: (y, b) :: ρ) rest R T) (hs : swapsWithSole [.Tuple [.Name x px, .Name y py] n tp] e pos.line k.env = pure false := by rfl) (hw : swappedStores [.Tuple [.Name x px, .Name y py] n tp] e k.env = pure (some [x, y]) := by rfl) :
    Xs k xs μ ρ (.Assign [.Tuple [.Name x px, .Name y py] n tp] e pos :: rest) R T := fun s E f =>
  Xs.first (Assign_Tuple_swapped (names := [x, y]) (wm (he s E f) fun v s₁ ⟨st, hv⟩ => fm_tupS (f.step st) hh hv hx hy hmx hmy fun s' f' => ⟨_, _, _, h, f'⟩) hs hw)
end
end Mine
section
set_option maxHeartbeats 1000000
namespace Mine
open PySem
/-- what a run's first step leaves to run -/
def Nxt (M : Model) (Γ : Ctx) (p : Pos) (s : Shared) (e : End) (s' : Shared) : Sem Fin → Prop
  | .pure (.done f) => e = .ret (.ok f) ∧ s' = s
  | .pure (.again c) => Runs M (Γ.goto c) p (M.den c) [] s e s'
  | .raise x => e = .ret (.error x) ∧ s' = s
  | .rule _ k => Runs M Γ p (k ()) [] s e s'
  | .at p' k => Runs M Γ p' (k ()) [] s e s'
  | .load a _ k => ∃ o, s.heap.get? a = some o ∧ Runs M Γ p (k o) [] s e s'
  | .update a _ f k => Runs M Γ p (k ()) [] { s with heap := s.heap.update a f } e s'
  | .loadIfAlive a k => Runs M Γ p (k (s.heap.get? a)) [] s e s'
  | .point _ k => Runs M Γ p (k ()) [] s e s'
  | .alloc o k => Runs M Γ p (k s.heap.objs.size) [] { s with heap := s.heap.push o } e s'
  | .fresh k => Runs M Γ p (k s.toks) [] { s with toks := s.toks + 1 } e s'
  | .ask k => Runs M Γ p (k ⟨M.prog, M.w.params⟩) [] s e s'
  | .choose src n k => Runs M Γ p (k (M.w.draws src (s.drawn.get src) % n)) [] { s with drawn := s.drawn.bump src } e s'
  | .os q _ k => Runs M Γ p (k (Os.step s.os q).2) [] { s with os := (Os.step s.os q).1 } e s'
  | .handled own k => Runs M Γ p (k (if own then Γ.own else Γ.handled)) [] s e s'
  | .genState g k => ∃ st, s.gens[g]? = some st ∧ Runs M Γ p (k st.seen) [] s e s'
  | .stack k => Runs M Γ p (k ((Γ.code, p) :: Γ.below)) [] s e s'
  | .thread k => Runs M Γ p (k 0) [] s e s'
  | .newGen c k => Runs M Γ p (k s.gens.size) [] { s with gens := s.gens.push (.fresh c) } e s'
  | .call c h g l k => (∃ r s₁, Runs M (Γ.enter c h p) p (M.den c) [] s (.ret r) s₁ ∧ Runs M Γ p (k r) [] s₁ e s') ∨
      ∃ v g₀ l₀ k₀ c₀ p₀ fs, Runs M (Γ.enter c h p) p (M.den c) [] s (.susp v g₀ l₀ k₀ c₀ p₀ fs) s' ∧ e = .susp v g₀ l₀ k₀ c₀ p₀ (fs ++ [.ret k h g l Γ.code p []])
  | .yield v g l k => e = .susp v g l k Γ.code p [] ∧ s' = s
  | .resume g r _ k => ∃ res s₁, Wakes M Γ p g r s res s₁ ∧ Runs M Γ p (k res) [] s₁ e s'
  | _ => False
def NxtF (M : Model) (Γ : Ctx) (p : Pos) (t : Sem Fin) (s : Shared) (e : End) (s' : Shared) : List Frame → Prop
  | [] => Nxt M Γ p s e s' t
  | F :: fs => (∃ r s₁, Runs M (Γ.over (F :: fs)) p t [] s (.ret r) s₁ ∧ match F with
      | .ret k h g l c₁ p₁ kp => Runs M (Γ.goto c₁) p₁ (k r) fs s₁ e s'
      | .gen g k l c₁ p₁ => Runs M (Γ.goto c₁) p₁ (k (End.ret r).result) fs (s₁.setGen g .finished) e s') ∨
    ∃ v g₀ l₀ k₀ c₀ p₀ fs₀ s₁, Runs M (Γ.over (F :: fs)) p t [] s (.susp v g₀ l₀ k₀ c₀ p₀ fs₀) s₁ ∧ match splitAtGen (F :: fs) with
      | none => e = .susp v g₀ l₀ k₀ c₀ p₀ (fs₀ ++ F :: fs) ∧ s' = s₁
      | some (pre, (g, k, c₁, p₁), rest) => Runs M (Γ.goto c₁) p₁ (k (.yielded v)) rest (s₁.setGen g (End.susp v g₀ l₀ k₀ c₀ p₀ (fs₀ ++ pre)).genState) e s'
theorem nxtF {M : Model} {Γ : Ctx} {p : Pos} {t : Sem Fin} {fs : List Frame} {s s' : Shared} {e : End} (h : Runs M Γ p t fs s e s') : NxtF M Γ p t s e s' fs := by
  cases h with
  | done => exact ⟨rfl, rfl⟩
  | raise => exact ⟨rfl, rfl⟩
  | yield => exact ⟨rfl, rfl⟩
  | load ho h => exact ⟨_, ho, h⟩
  | genState ho h => exact ⟨_, ho, h⟩
  | again _ h => exact h
  | choose _ h => exact h
  | update _ h => exact h
  | rule h => exact h
  | «at» h => exact h
  | loadIfAlive h => exact h
  | point h => exact h
  | alloc h => exact h
  | fresh h => exact h
  | ask h => exact h
  | os h => exact h
  | handled h => exact h
  | stack h => exact h
  | thread h => exact h
  | newGen h => exact h
  | call h h' => exact .inl ⟨_, _, h, h'⟩
  | callSusp h => exact .inr ⟨_, _, _, _, _, _, _, h, rfl⟩
  | resumeFresh hs h q h' => refine ⟨_, _, ?_, h'⟩; unfold Wakes; rw [hs]; exact ⟨_, _, h, q, rfl, rfl⟩
  | resumeSuspended hs h q h' => refine ⟨_, _, ?_, h'⟩; unfold Wakes; rw [hs]; exact ⟨_, _, h, q, rfl, rfl⟩
  | resumeJustStarted hs hv h' =>
    refine ⟨_, _, ?_, h'⟩
    unfold Wakes; rw [hs]
    dsimp only
    split
    · rename_i e; cases e; exact absurd rfl hv
    · exact ⟨rfl, rfl⟩
    · rename_i e; cases e
  | resumeThrowFresh hs h' => refine ⟨_, _, ?_, h'⟩; unfold Wakes; rw [hs]; exact ⟨rfl, rfl⟩
  | resumeRunning hs h' => refine ⟨_, _, ?_, h'⟩; unfold Wakes; rw [hs]; exact ⟨rfl, rfl⟩
  | resumeFinished hs h' => refine ⟨_, _, ?_, h'⟩; unfold Wakes; rw [hs]; exact ⟨rfl, rfl⟩
  | segRet h h' => exact .inl ⟨_, _, h, h'⟩
  | segGen h h' => exact .inl ⟨_, _, h, h'⟩
  | segSuspOut hs h => refine .inr ⟨_, _, _, _, _, _, _, _, h, ?_⟩; rw [hs]; exact ⟨rfl, rfl⟩
  | segSuspGen hs h _ h' => refine .inr ⟨_, _, _, _, _, _, _, _, h, ?_⟩; rw [hs]; exact h'

theorem runs_det {M : Model} {Γ : Ctx} {p : Pos} {t : Sem Fin} {fs : List Frame} {s s' : Shared} {e : End} (h : Runs M Γ p t fs s e s') : ∀ {e₂ : End} {s₂ : Shared}, Runs M Γ p t fs s e₂ s₂ → e₂ = e ∧ s₂ = s' := by
  induction h with
  | done => intro e₂ s₂ h₂; exact nxtF h₂
  | raise => intro e₂ s₂ h₂; exact nxtF h₂
  | yield => intro e₂ s₂ h₂; exact nxtF h₂
  | again _ _ ih => intro e₂ s₂ h₂; exact ih (nxtF h₂)
  | rule _ ih => intro e₂ s₂ h₂; exact ih (nxtF h₂)
  | «at» _ ih => intro e₂ s₂ h₂; exact ih (nxtF h₂)
  | load ho _ ih => intro e₂ s₂ h₂; obtain ⟨o, ho', h⟩ := nxtF h₂; rw [ho] at ho'; exact ih (Option.some.inj ho' ▸ h)
  | update _ _ ih => intro e₂ s₂ h₂; exact ih (nxtF h₂)
  | loadIfAlive _ ih => intro e₂ s₂ h₂; exact ih (nxtF h₂)
  | point _ ih => intro e₂ s₂ h₂; exact ih (nxtF h₂)
  | alloc _ ih => intro e₂ s₂ h₂; exact ih (nxtF h₂)
  | fresh _ ih => intro e₂ s₂ h₂; exact ih (nxtF h₂)
  | ask _ ih => intro e₂ s₂ h₂; exact ih (nxtF h₂)
  | choose _ _ ih => intro e₂ s₂ h₂; exact ih (nxtF h₂)
  | os _ ih => intro e₂ s₂ h₂; exact ih (nxtF h₂)
  | handled _ ih => intro e₂ s₂ h₂; exact ih (nxtF h₂)
  | genState hs _ ih => intro e₂ s₂ h₂; obtain ⟨o, ho', h⟩ := nxtF h₂; rw [hs] at ho'; exact ih (Option.some.inj ho' ▸ h)
  | stack _ ih => intro e₂ s₂ h₂; exact ih (nxtF h₂)
  | thread _ ih => intro e₂ s₂ h₂; exact ih (nxtF h₂)
  | newGen _ ih => intro e₂ s₂ h₂; exact ih (nxtF h₂)
  | call _ _ ih1 ih2 =>
    intro e₂ s₂ h₂
    rcases nxtF h₂ with ⟨r, s₁, h, h'⟩ | ⟨_, _, _, _, _, _, _, h, _⟩
    · obtain ⟨q, rfl⟩ := ih1 h; cases q; exact ih2 h'
    · cases (ih1 h).1
  | callSusp _ ih =>
    intro e₂ s₂ h₂
    rcases nxtF h₂ with ⟨r, s₁, h, h'⟩ | ⟨_, _, _, _, _, _, _, h, rfl⟩
    · cases (ih h).1
    · obtain ⟨q, rfl⟩ := ih h; cases q; exact ⟨rfl, rfl⟩
  | resumeFresh hs _ _ _ ih1 ih2 =>
    intro e₂ s₂ h₂
    obtain ⟨res, s₁, hw, h'⟩ := nxtF h₂
    unfold Wakes at hw
    rw [hs] at hw
    obtain ⟨e₁, s₁, h, _, rfl, rfl⟩ := hw
    obtain ⟨rfl, rfl⟩ := ih1 h
    exact ih2 h'
  | resumeSuspended hs _ _ _ ih1 ih2 =>
    intro e₂ s₂ h₂
    obtain ⟨res, s₁, hw, h'⟩ := nxtF h₂
    unfold Wakes at hw
    rw [hs] at hw
    obtain ⟨e₁, s₁, h, _, rfl, rfl⟩ := hw
    obtain ⟨rfl, rfl⟩ := ih1 h
    exact ih2 h'
  | resumeJustStarted hs hv _ ih =>
    intro e₂ s₂ h₂
    obtain ⟨res, s₁, hw, h'⟩ := nxtF h₂
    unfold Wakes at hw
    rw [hs] at hw
    dsimp only at hw
    split at hw
    · rename_i e; cases e; exact absurd rfl hv
    · obtain ⟨rfl, rfl⟩ := hw
      exact ih h'
    · rename_i e; cases e
  | resumeThrowFresh hs _ ih =>
    intro e₂ s₂ h₂
    obtain ⟨res, s₁, hw, h'⟩ := nxtF h₂
    unfold Wakes at hw
    rw [hs] at hw
    obtain ⟨rfl, rfl⟩ := hw
    exact ih h'
  | resumeRunning hs _ ih =>
    intro e₂ s₂ h₂
    obtain ⟨res, s₁, hw, h'⟩ := nxtF h₂
    unfold Wakes at hw
    rw [hs] at hw
    obtain ⟨rfl, rfl⟩ := hw
    exact ih h'
  | resumeFinished hs _ ih =>
    intro e₂ s₂ h₂
    obtain ⟨res, s₁, hw, h'⟩ := nxtF h₂
    unfold Wakes at hw
    rw [hs] at hw
    obtain ⟨rfl, rfl⟩ := hw
    exact ih h'
  | segRet _ _ ih1 ih2 =>
    intro e₂ s₂ h₂
    rcases nxtF h₂ with ⟨r, s₁, h, h'⟩ | ⟨_, _, _, _, _, _, _, _, h, _⟩
    · obtain ⟨q, rfl⟩ := ih1 h; cases q; exact ih2 h'
    · cases (ih1 h).1
  | segGen _ _ ih1 ih2 =>
    intro e₂ s₂ h₂
    rcases nxtF h₂ with ⟨r, s₁, h, h'⟩ | ⟨_, _, _, _, _, _, _, _, h, _⟩
    · obtain ⟨q, rfl⟩ := ih1 h; cases q; exact ih2 h'
    · cases (ih1 h).1
  | segSuspOut hs _ ih =>
    intro e₂ s₂ h₂
    rcases nxtF h₂ with ⟨r, s₁, h, h'⟩ | ⟨_, _, _, _, _, _, _, _, h, h'⟩
    · cases (ih h).1
    · obtain ⟨q, rfl⟩ := ih h; cases q; rw [hs] at h'; exact h'
  | segSuspGen hs _ _ _ ih1 ih2 =>
    intro e₂ s₂ h₂
    rcases nxtF h₂ with ⟨r, s₁, h, h'⟩ | ⟨_, _, _, _, _, _, _, _, h, h'⟩
    · cases (ih1 h).1
    · obtain ⟨q, rfl⟩ := ih1 h; cases q; rw [hs] at h'; exact ih2 h'
theorem wakes_det {M : Model} {Γ : Ctx} {p : Pos} {g : Nat} {r : Resume} {s s₁ s₂ : Shared} {a b : GenResult} (h : Wakes M Γ p g r s a s₁) (h' : Wakes M Γ p g r s b s₂) : b = a ∧ s₂ = s₁ := by
  unfold Wakes at h h'
  cases hs : s.gens[g]? with
  | none => rw [hs] at h; exact h.elim
  | some x =>
    rw [hs] at h h'
    cases x with
    | fresh c =>
      cases r with
      | send v =>
        cases v
        case none =>
          obtain ⟨e₁, t₁, hr, _, rfl, rfl⟩ := h
          obtain ⟨e₂, t₂, hr', _, rfl, rfl⟩ := h'
          obtain ⟨rfl, rfl⟩ := runs_det hr hr'
          exact ⟨rfl, rfl⟩
        all_goals (obtain ⟨rfl, rfl⟩ := h; obtain ⟨rfl, rfl⟩ := h'; exact ⟨rfl, rfl⟩)
      | throw x => obtain ⟨rfl, rfl⟩ := h; obtain ⟨rfl, rfl⟩ := h'; exact ⟨rfl, rfl⟩
    | suspended k₀ l₀ c₀ p₀ fs g₀ =>
      obtain ⟨e₁, t₁, hr, _, rfl, rfl⟩ := h
      obtain ⟨e₂, t₂, hr', _, rfl, rfl⟩ := h'
      obtain ⟨rfl, rfl⟩ := runs_det hr hr'
      exact ⟨rfl, rfl⟩
    | running => obtain ⟨rfl, rfl⟩ := h; obtain ⟨rfl, rfl⟩ := h'; exact ⟨rfl, rfl⟩
    | finished => obtain ⟨rfl, rfl⟩ := h; obtain ⟨rfl, rfl⟩ := h'; exact ⟨rfl, rfl⟩

theorem wp_and {α : Type} (M : Model) (Γ : Ctx) (t : Sem α) : ∀ (Q Q' : α → Pos → Shared → Prop) (E E' : Value → Pos → Shared → Prop) (p : Pos) (s : Shared), Sem.wp M Γ t Q E p s → Sem.wp M Γ t Q' E' p s →
    Sem.wp M Γ t (fun a p s => Q a p s ∧ Q' a p s) (fun a p s => E a p s ∧ E' a p s) p s := by
  induction t with
  | pure a => intro Q Q' E E' p s h h'; exact ⟨h, h'⟩
  | raise e => intro Q Q' E E' p s h h'; exact ⟨h, h'⟩
  | unsupported _ => intro Q Q' E E' p s h _; exact h
  | finish _ => intro Q Q' E E' p s h _; exact h
  | rule _ k ih => intro Q Q' E E' p s h h'; exact ih () Q Q' E E' p s h h'
  | «at» p' k ih => intro Q Q' E E' p s h h'; exact ih () Q Q' E E' p' s h h'
  | load a _ k ih => intro Q Q' E E' p s h h'; obtain ⟨o, ho, h⟩ := h; obtain ⟨o', ho', h'⟩ := h'; rw [ho] at ho'; cases ho'; exact ⟨o, ho, ih o Q Q' E E' p s h h'⟩
  | update a _ f k ih => intro Q Q' E E' p s h h'; exact ⟨h.1, ih () Q Q' E E' p _ h.2 h'.2⟩
  | loadIfAlive a k ih => intro Q Q' E E' p s h h'; exact ih _ Q Q' E E' p s h h'
  | point _ k ih => intro Q Q' E E' p s h h'; exact ih () Q Q' E E' p s h h'
  | register _ _ => intro Q Q' E E' p s h _; exact h
  | alloc o k ih => intro Q Q' E E' p s h h'; exact ih _ Q Q' E E' p _ h h'
  | fresh k ih => intro Q Q' E E' p s h h'; exact ih _ Q Q' E E' p _ h h'
  | ask k ih => intro Q Q' E E' p s h h'; exact ih _ Q Q' E E' p s h h'
  | choose src m k ih => intro Q Q' E E' p s h h'; exact ⟨h.1, ih _ Q Q' E E' p _ h.2 h'.2⟩
  | os q _ k ih => intro Q Q' E E' p s h h'; exact ih _ Q Q' E E' p _ h h'
  | call c hd _ _ k ih =>
    intro Q Q' E E' p s h h'
    obtain ⟨r, s₁, hr, h⟩ := h
    obtain ⟨r', s₁', hr', h'⟩ := h'
    obtain ⟨q, rfl⟩ := runs_det (hr : Runs ..) (hr' : Runs ..)
    cases q
    exact ⟨_, _, hr, ih _ Q Q' E E' p _ h h'⟩
  | handled own k ih => intro Q Q' E E' p s h h'; exact ih _ Q Q' E E' p s h h'
  | genState g k ih => intro Q Q' E E' p s h h'; obtain ⟨st, hs, h⟩ := h; obtain ⟨st', hs', h'⟩ := h'; rw [hs] at hs'; cases hs'; exact ⟨st, hs, ih _ Q Q' E E' p s h h'⟩
  | newGen c k ih => intro Q Q' E E' p s h h'; exact ih _ Q Q' E E' p _ h h'
  | resume g r _ k ih =>
    intro Q Q' E E' p s h h'
    obtain ⟨res, s₁, hw, h⟩ := h
    obtain ⟨res', s₁', hw', h'⟩ := h'
    obtain ⟨rfl, rfl⟩ := wakes_det hw hw'
    exact ⟨_, _, hw, ih _ Q Q' E E' p _ h h'⟩
  | yield _ _ _ _ => intro Q Q' E E' p s h _; exact h
  | stack k ih => intro Q Q' E E' p s h h'; exact ih _ Q Q' E E' p s h h'
  | fork _ _ => intro Q Q' E E' p s h _; exact h
  | thread k ih => intro Q Q' E E' p s h h'; exact ih _ Q Q' E E' p s h h'
  | await _ _ _ _ _ => intro Q Q' E E' p s h _; exact h

theorem wpAny_and {α : Type} {M : Model} {A : Around} {t : Sem α} {Q Q' : α → Shared → Prop} {E : Value → Shared → Prop} {s : Shared} (h : wpAny M A t Q E s) (h' : wpAny M A t Q' E s) : wpAny M A t (fun a s => Q a s ∧ Q' a s) E s :=
  fun Γ p hΓ => Sem.wp_mono M Γ t (fun _ _ _ q => q) (fun _ _ _ q => q.1) p s (wp_and M Γ t _ _ _ _ p s (h Γ p hΓ) (h' Γ p hΓ))
end Mine
end
section
set_option maxHeartbeats 400000
namespace Mine
open PySem PySem.W PySem.Calls PyProof.Rows

def noHeap : Heap := {}
theorem noHeap_get (a : Addr) : noHeap.get? a = none := by
  cases h : noHeap.get? a with
  | none => rfl
  | some o =>
    have := Heap.lt_size h
    exact absurd this (by simp [noHeap])
open Classical in
noncomputable def allNews (h : Heap) (L : Addr) : List (Addr × Obj) := (List.range h.objs.size).filterMap fun a => match h.get? a with
  | some o => if a = L then none else some (a, o)
  | none => none
theorem allNews_ok (h : Heap) (L : Addr) : News noHeap L h (allNews h L) := fun p hp => by
  obtain ⟨a, _, ha⟩ := List.mem_filterMap.mp hp
  cases e : h.get? a with
  | none => rw [e] at ha; simp at ha
  | some o =>
    rw [e] at ha
    simp only at ha
    split at ha
    · cases ha
    · rename_i q
      simp only [Option.some.injEq] at ha
      subst ha
      exact ⟨e, q, noHeap_get _⟩
theorem allNews_mem {h : Heap} {L b : Addr} {o : Obj} (e : h.get? b = some o) (hb : b ≠ L) : (b, o) ∈ allNews h L := by
  refine List.mem_filterMap.mpr ⟨b, List.mem_range.mpr (Heap.lt_size e), ?_⟩
  rw [e]; simp [hb]
theorem fr_all {h : Heap} {L : Addr} {m : Str → Option Value} (hn : h.Ns L m) : Fr noHeap L h m := ⟨hn, fun b o e => (by rw [noHeap_get] at e; cases e), Nat.zero_le _⟩

theorem rev2 : kas_rev (List.toArray (List.range 2)) 0 2 = #[1,0] := by decide +kernel
theorem rev3 : kas_rev (List.toArray (List.range 3)) 0 3 = #[2,1,0] := by decide +kernel
theorem sort2 {cmp : Nat → Nat → (Bool → Shared → Prop) → Shared → Prop} {Q : Array Nat → Shared → Prop} {s : Shared} (h10 : ∀ C, C true s → cmp 1 0 C s) (hq : Q #[1,0] s) : (kas_sort 2).kasWp cmp Q s := by
  unfold kas_sort
  rw [KasT.kasWp_bind]
  unfold kas_count
  rw [KasT.kasWp_bind]
  refine h10 _ ?_
  dsimp only
  rw [if_pos rfl]
  simp only [KasT.kasWp]
  rw [if_neg (by decide), if_neg (by decide)]
  unfold kas_descPart
  rw [KasT.kasWp_bind, show kas_desc (2 - (1 + 1)) (List.toArray (List.range 2)) (1 + 1) 0 = KasT.ret (List.toArray (List.range 2), 1 + 1, 0) from rfl]
  simp only [KasT.kasWp]
  rw [if_neg (by decide)]
  unfold kas_tail3
  rw [KasT.kasWp_bind]
  rw [show kas_asc (kas_rev (List.toArray (List.range 2)) 0 (1 + 1)) (2 - (1 + 1)) (1 + 1) = KasT.ret (1 + 1) from rfl]
  simp only [KasT.kasWp]
  rw [if_neg (by decide)]
  simp only [KasT.kasWp]
  rw [rev2]; exact hq
theorem sort3 {cmp : Nat → Nat → (Bool → Shared → Prop) → Shared → Prop} {Q : Array Nat → Shared → Prop} {s : Shared} (h10 : ∀ C, C true s → cmp 1 0 C s) (h21 : ∀ C, C true s → cmp 2 1 C s) (hq : Q #[2,1,0] s) : (kas_sort 3).kasWp cmp Q s := by
  unfold kas_sort
  rw [KasT.kasWp_bind]
  unfold kas_count
  rw [KasT.kasWp_bind]
  refine h10 _ ?_
  dsimp only
  rw [if_pos rfl]
  simp only [KasT.kasWp]
  rw [if_neg (by decide), if_neg (by decide)]
  unfold kas_descPart
  rw [KasT.kasWp_bind]
  refine h21 _ ?_
  dsimp only
  rw [if_pos rfl, if_neg (by decide)]
  simp only [kas_desc, KasT.kasWp]
  rw [if_neg (by decide)]
  unfold kas_tail3
  rw [KasT.kasWp_bind]
  rw [show kas_asc (kas_rev (List.toArray (List.range 3)) 0 (1 + 1 + 1)) (3 - (1 + 1 + 1)) (1 + 1 + 1) = KasT.ret (1 + 1 + 1) from rfl]
  simp only [KasT.kasWp]
  rw [if_neg (by decide)]
  simp only [KasT.kasWp]
  rw [rev3]; exact hq

section
variable {prog : Program} {w : World} {A : Around} {E : Value → Shared → Prop} {s : Shared}

theorem pair_lt {h : Shared} {xs : List Addr} {v u : Value} {p q : Int × Int} {Q : Bool → Shared → Prop} (hv : Den xs h.heap v (prD p)) (hu : Den xs h.heap u (prD q)) (hlt : p.1 < q.1) (hQ : Q true h) :
    wpAny (model prog w) A (keyLt' (tuples' true) v u) Q E h := by
  cases hv with | @tuple a vs _ _ hit hd =>
  cases hu with | @tuple b us _ _ hjt he =>
  obtain ⟨o, ho, hc, n, hod⟩ := hit
  obtain ⟨o', ho', hc', n', hod'⟩ := hjt
  refine kat_lt ho hod ho' hod' ?_
  obtain ⟨vs⟩ := vs
  obtain ⟨us⟩ := us
  cases hd with | cons h1 h2 =>
  cases h2 with | cons h2 h3 =>
  cases h3
  cases he with | cons g1 g2 =>
  cases g2 with | cons g2 g3 =>
  cases g3
  cases h1; cases h2; cases g1; cases g2
  refine kat_cons (wpAny_eqBool_int ?_)
  have : (p.1 == q.1) = false := by simpa using (by omega : p.1 ≠ q.1)
  rw [this]
  refine kat_no (oneLt_int ?_)
  rw [decide_eq_true hlt]
  exact hQ
theorem pairs_tups {h : Heap} {xs : List Addr} : ∀ {vs : List Value} {ps : List (Int × Int)}, DenAll xs h vs (ps.map prD) → ∃ fs, KatTups h vs fs ∧ fs.length = ps.length ∧ ∀ v ∈ fs, ∃ i t, v = .int i t
  | _, [], .nil => ⟨[], .nil, rfl, fun _ q => nomatch q⟩
  | _, p :: ps, .cons h1 r => by
    obtain ⟨fs, g1, g2, g3⟩ := pairs_tups r
    cases h1 with | @tuple a us _ _ hit hd =>
    obtain ⟨o, ho, hc, n, hod⟩ := hit
    obtain ⟨us⟩ := us
    cases hd with | @cons v _ _ _ h1 h2 =>
    cases h1 with | int _ t =>
    exact ⟨.int p.1 t :: fs, .cons ho hc hod rfl g1, by simp [g2], fun v hv => (List.mem_cons.mp hv).elim (fun e => ⟨_, _, e⟩) (g3 v)⟩

theorem len2 {α : Type} : ∀ {l : List α}, l.length = 2 → ∃ a b, l = [a, b]
  | [a, b], _ => ⟨a, b, rfl⟩
theorem len3 {α : Type} : ∀ {l : List α}, l.length = 3 → ∃ a b c, l = [a, b, c]
  | [a, b, c], _ => ⟨a, b, c, rfl⟩
theorem two_of {h : Heap} {xs : List Addr} {vs : List Value} {ps : List (Int × Int)} (hd : DenAll xs h vs (ps.map prD)) (e : vs.length = 2) : ∃ v u p q, vs = [v, u] ∧ ps = [p, q] ∧ Den xs h v (prD p) ∧ Den xs h u (prD q) := by
  have hl := hd.length
  rw [List.length_map] at hl
  rw [e] at hl
  obtain ⟨v, u, rfl⟩ := len2 e
  obtain ⟨p, q, rfl⟩ := len2 hl.symm
  cases hd with | cons d1 r =>
  cases r with | cons d2 r =>
  exact ⟨v, u, p, q, rfl, rfl, d1, d2⟩
theorem three_of {h : Heap} {xs : List Addr} {vs : List Value} {ps : List (Int × Int)} (hd : DenAll xs h vs (ps.map prD)) (e : vs.length = 3) : ∃ v u x p q r, vs = [v, u, x] ∧ ps = [p, q, r] ∧ Den xs h v (prD p) ∧ Den xs h u (prD q) ∧ Den xs h x (prD r) := by
  have hl := hd.length
  rw [List.length_map] at hl
  rw [e] at hl
  obtain ⟨v, u, x, rfl⟩ := len3 e
  obtain ⟨p, q, r, rfl⟩ := len3 hl.symm
  cases hd with | cons d1 t =>
  cases t with | cons d2 t =>
  cases t with | cons d3 t =>
  exact ⟨v, u, x, p, q, r, rfl, rfl, d1, d2, d3⟩
def SPost (s : Shared) (L : Addr) (vs : List Value) (v : Value) (s' : Shared) : Prop :=
  (∃ h', s' = { s with heap := h' }) ∧ (∀ b o, b ≠ L → s.heap.get? b = some o → s'.heap.get? b = some o) ∧ ∃ D e, v = .ref D ∧ s'.heap.get? D = some (seqObj "list" vs.reverse.toArray e) ∧ ∀ b o, b ≠ L → s.heap.get? b = some o → b < D

theorem sorted_pairs_at {L : Addr} {m : Str → Option Value} {l : Addr} {vs : List Value} {xs : List Addr} {ps : List (Int × Int)} (hns : s.heap.Ns L m) (hl : s.heap.IsList l vs.toArray) (hd : DenAll xs s.heap vs (ps.map prD)) (h2 : 2 ≤ ps.length) (h3 : ps.length ≤ 3)
    (hdec : ps.Pairwise fun p q => q.1 < p.1) : wpAny (model prog w) A (call (.builtin "sorted") [.ref l]) (SPost s L vs) E s := by
  have hlen := hd.length
  simp only [List.length_map] at hlen
  refine kat_sorted (fr_all hns) (allNews_ok s.heap L) hl (by omega) (by omega) fun D e1 h' F' N' hD => ?_
  have keep : ∀ b o, b ≠ L → s.heap.get? b = some o → h'.get? b = some o := fun b o hb e => (N' _ (.tail _ (allNews_mem e hb))).1
  have sk : SeqKeep xs s.heap h' := fun b o _ e ⟨_, _, q⟩ => keep b o (fun r => by
    obtain ⟨o', es, ep, e', hdd, _⟩ := hns
    rw [r, e'] at e; cases e; rw [hdd] at q; cases q) e
  have hd' := hd.keep sk
  obtain ⟨fs, g1, g2, g3⟩ := pairs_tups hd'
  have hT : ∀ v ∈ fs, Looks (model prog w) h' (typeOf v) (.type "int") := fun v hv => by
    obtain ⟨i, t, rfl⟩ := g3 v hv
    exact Looks.now
  refine kat_kind (T := .type "int") g1 (by omega) hT (by decide +kernel) ?_
  have eT : (Value.type "int" != Value.type "tuple") = true := by decide +kernel
  rw [eT]
  have fin : ∀ (p : List Nat), (p.map fun i => vs.getD i Value.none) = vs.reverse → KasFin noHeap L m D e1 (p.map fun i => vs.getD i Value.none) (fun s3 => SPost s L vs (.ref D) s3) { s with heap := h' }   := fun p e => by
    rw [e]
    refine KasFin.intro F' N' (.head fun q hq => Nat.ne_of_lt (hD q hq)) fun h'' c F'' N'' => ⟨⟨_, rfl⟩, fun b o hb e => (N'' _ (.tail _ (allNews_mem e hb))).1, D, c, rfl, (N'' _ (.head _)).1, fun b o hb e => hD _ (allNews_mem e hb)⟩
  have hd2 : vs.length = 2 → ∃ v u p q, vs = [v, u] ∧ ps = [p, q] ∧ Den xs h' v (prD p) ∧ Den xs h' u (prD q) := fun e => two_of hd' e
  have hd3 : vs.length = 3 → ∃ v u x p q r, vs = [v, u, x] ∧ ps = [p, q, r] ∧ Den xs h' v (prD p) ∧ Den xs h' u (prD q) ∧ Den xs h' x (prD r) := fun e => three_of hd' e
  by_cases e2 : vs.length = 2
  · obtain ⟨v, u, p, q, rfl, rfl, d1, d2⟩ := hd2 e2
    have hqp : q.1 < p.1 := (List.pairwise_cons.mp hdec).1 q (by simp)
    refine sort2 (fun C hC => ?_) ?_
    · exact pair_lt (h := { s with heap := h' }) d2 d1 hqp hC
    · exact fin [1, 0] rfl
  · obtain ⟨v, u, x, p, q, r, rfl, rfl, d1, d2, d3⟩ := hd3 (by omega)
    have hqp : q.1 < p.1 := (List.pairwise_cons.mp hdec).1 q (by simp)
    have hrq : r.1 < q.1 := (List.pairwise_cons.mp (List.pairwise_cons.mp hdec).2).1 r (by simp)
    refine sort3 (fun C hC => ?_) (fun C hC => ?_) ?_
    · exact pair_lt (h := { s with heap := h' }) d2 d1 hqp hC
    · exact pair_lt (h := { s with heap := h' }) d3 d2 hrq hC
    · exact fin [2, 1, 0] rfl

theorem list_sort_one {a : Addr} {v : Value} {n : Nat} {P : PySem.Fin → Shared → Prop} (ho : s.heap.get? a = some (seqObj "list" [v].toArray n))
    (h : P (.done (.ret .none)) { s with heap := sortedHeap s.heap a [v] [v].toArray }) :
    wpAny (model prog w) A (Builtin.«list.sort» ⟨[.ref a], []⟩) P E s := by
  rw [list_sort_plain]
  have ha : a < s.heap.objs.size := Heap.lt_size ho
  refine wpAny_bind (listItems_at ho rfl ?_)
  refine wpAny_bind (listUpdate_at ho rfl ?_)
  obtain ⟨e1, ho1⟩ : ∃ e1, (s.heap.update a (Obj.mapSeq fun _ => #[])).get? a = some (seqObj "list" #[] e1) := ⟨_, get?_update_seq ho (fun _ => #[])⟩
  refine wpAny_bind (seqEpoch_at ho1 rfl ?_)
  refine wpAny_bind (wpAny_newTuple ?_)
  refine wpAny_bind (wpAny_newList ?_)
  refine wpAny_holding ?_
  have ho6 : (((s.heap.update a (Obj.mapSeq fun _ => #[])).push (seqObj "tuple" [v].toArray 0)).push (seqObj "list" #[] 0)).get? a = some (seqObj "list" #[] e1) := by
    rw [Heap.get?_push_ne _ _ _ (by rw [size_push', Heap.size_update]; exact Nat.ne_of_lt (Nat.lt_succ_of_lt ha)), Heap.get?_push_ne _ _ _ (by rw [Heap.size_update]; exact Nat.ne_of_lt ha)]
    exact ho1
  show wpAny (model prog w) A _ P E { s with heap := ((s.heap.update a (Obj.mapSeq fun _ => #[])).push (seqObj "tuple" [v].toArray 0)).push (seqObj "list" #[] 0) }
  dsimp only
  have h2 : [v].toArray.size < 2 := by simp
  rw [if_pos h2, if_pos h2]
  refine wpAny_bind (wpAny_pure ?_)
  rw [StateT.run_pure]
  refine wpAny_bind (wpAny_pure ?_)
  dsimp only
  refine wpAny_bind (seqEpoch_at ho6 rfl ?_)
  refine wpAny_bind (listUpdate_at ho6 rfl ?_ (hsz2 := by rw [Array.size_map]; show (pairsOf [v]).size ≤ _; rw [pairsOf_size, sizeLine_eq]; simp))
  simp only [bne_self_eq_false, Bool.false_eq_true, if_false]
  have e : Array.map (fun x => x.snd) (arrOf (SortSt.mk' general' ([v].toArray.zip [v].toArray) #[] 7 none)) = [v].toArray := by
    show Array.map (fun x : Value × Value => x.snd) ([v].toArray.zip [v].toArray) = _
    simp
  rw [e]
  exact wpAny_pure h

theorem sorted_one {l : Addr} {v : Value} {Q : Value → Shared → Prop} (hl : s.heap.IsList l [v].toArray)
    (h : Q (.ref (s.heap.objs.size + 1)) { s with heap := sortedAll s.heap [v] [v].toArray }) :
    wpAny (model prog w) A (call (.builtin "sorted") [.ref l]) Q E s := by
  refine Calls.call_function_entry kind_sorted plain_sorted entry_sorted (args_sorted1 _) ?_
  unfold Builtin.«sorted»
  refine wpAny_bind (m := checkCount "sorted" 1 1 _) (wpAny_pure ?_)
  refine wpAny_bind (collect_list hl ?_)
  refine wpAny_bind (wpAny_newList ?_)
  have hsz : ((s.heap.push (seqObj "list" #[] 0)).update s.heap.objs.size (Obj.mapSeq (· ++ [v].toArray))).objs.size = s.heap.objs.size + 1 := by
    rw [Heap.size_update, size_push']
  have hoL : (((s.heap.push (seqObj "list" #[] 0)).update s.heap.objs.size (Obj.mapSeq (· ++ [v].toArray))).push (seqObj "list" [v].toArray 0)).get? (s.heap.objs.size + 1) = some (seqObj "list" [v].toArray 0) := by
    rw [← hsz]; exact Heap.get?_push_size _ rfl
  show wpAny _ _ _ _ _ { s with heap := ((s.heap.push (seqObj "list" #[] 0)).update s.heap.objs.size (Obj.mapSeq (· ++ [v].toArray))).push (seqObj "list" [v].toArray 0) }
  rw [hsz]
  refine wpAny_bind (wpAny_holding (wpAny_call_entry slot_list_sort ⟨_, hoL, rfl⟩ entry_list_sort (list_sort_one hoL ⟨_, rfl, ?_⟩) (args_list_sort _)))
  exact wpAny_pure ⟨_, rfl, h⟩
end

section
variable {k : Kx} {xs : List Addr} {μ : Mu} {ρ ρ' : Rho} {a b d : PyData} {pos : Pos}
/-- sorted of pairs of ints whose firsts go down -/
theorem Ev.sortedPairs {p : Pos} {e : Expr} {ps : List (Int × Int)} (hm : OnMain k) (hx : k.env.kindOf "sorted" = some .globalImplicit) (hg : BName k.G "sorted" (.builtin "sorted")) (he : Ev k xs μ ρ e (.list (ps.map prD))) (h2 : 1 ≤ ps.length) (h3 : ps.length ≤ 3)
    (hdec : ps.Pairwise fun p q => q.1 < p.1) (hst : starEach [e] k.env = (false, eval e k.env) :: starEach [] k.env := by rfl) :
    Ev k xs μ ρ (.Call (.Name "sorted" p) [e] [] pos) (.list (ps.reverse.map prD)) := fun s E f => by
  refine Call_ (bname f.wd hg hm.1 hm.2.1 hm.2.2 hx (callWith_builtin1 (args_cons (wm (he s E f) fun v s₁ ⟨st, hd⟩ => args_nil ?_) hst) hst))
  have f₁ := f.step st
  cases hd with | @list l vs _ hlx hl hvs =>
  have hlen := hvs.length
  rw [List.length_map] at hlen
  obtain ⟨vs⟩ := vs
  by_cases h1 : ps.length = 1
  · obtain ⟨p, rfl⟩ : ∃ p, ps = [p] := by
      match ps, h1 with
      | [p], _ => exact ⟨p, rfl⟩
    cases hvs with | @cons v _ _ _ d1 r =>
    cases r
    refine sorted_one hl ⟨st.trans (.of_keeps (tk := s₁.toks) fun b o e => sortedAll_old e), ?_⟩
    obtain ⟨e, he⟩ := sortedAll_at s₁.heap [v] [v].toArray
    refine .list (vs := [v].toArray) (fun q => ?_) ⟨_, he, rfl, _, rfl⟩ (.cons (d1.keep fun b o _ e _ => sortedAll_old e) .nil)
    exact absurd (f₁.below _ q) (Nat.not_lt.mpr (Nat.le_succ _))
  · obtain ⟨mg, mb, n1, n2, _, _⟩ := hg
    have n1 : s₁.heap.Ns mainGlobals mg := n1.keeps fun b o e => (f₁.wd b o e).2
    have n2 : s₁.heap.Ns builtinsNs mb := n2.keeps fun b o e => (f₁.wd b o e).2
    refine wm (wpAny_and (sorted_pairs_at (ps := ps) n1 hl hvs (by omega) h3 hdec) (sorted_pairs_at (ps := ps) n2 hl hvs (by omega) h3 hdec)) fun v s' ⟨⟨⟨h', e1⟩, k1, D, c1, e2, g1, l1⟩, ⟨_, k2, D2, c2, e3, g2, l2⟩⟩ => ?_
    subst e2
    cases e3
    have hne : mainGlobals ≠ builtinsNs := by decide
    have keep : ∀ b o, s₁.heap.get? b = some o → s'.heap.get? b = some o := fun b o e => by
      by_cases q : b = mainGlobals
      · exact k2 b o (fun r => hne (q.symm.trans r)) e
      · exact k1 b o q e
    have low : ∀ b o, s₁.heap.get? b = some o → b < D := fun b o e => by
      by_cases q : b = mainGlobals
      · exact l2 b o (fun r => hne (q.symm.trans r)) e
      · exact l1 b o q e
    have hal : ∀ x ∈ xs, ∃ o, s₁.heap.get? x = some o := fun x hx => by
      by_cases q : x ∈ tsOf k.tabs
      · obtain ⟨t, h1, rfl⟩ := List.mem_map.mp q
        obtain ⟨ps, h2, _⟩ := f₁.tab t h1
        exact ⟨_, h2⟩
      · exact f₁.alive x hx q
    subst e1
    refine ⟨st.trans (.of_keeps keep), .list (vs := vs.reverse.toArray) (fun q => ?_) ⟨_, g1, rfl, _, rfl⟩ ?_⟩
    · obtain ⟨o, ho⟩ := hal D q
      exact Nat.lt_irrefl _ (low D o ho)
    · show DenAll xs h' vs.reverse _
      rw [List.map_reverse]
      exact (hvs.keep fun b o _ e _ => keep b o e).reverse
end
end Mine
end
section
set_option maxHeartbeats 2000000
namespace Mine
open PySem PySem.W PySem.Calls PyProof.Rows

theorem mulOk {i j : Int} (h0 : -100000 ≤ i) (h1 : i ≤ 100000) : IntMulOk i j := .of_left (intBits_le_iff.mpr (by omega))

def sqsFrom (j : Nat) : List Int := (List.range (53 - j)).map fun i => (((j + i) * (j + i) : Nat) : Int)
abbrev sqs : List Int := sqsFrom 0
theorem ins_sqs : ∀ j, j < 53 → insort (sqsFrom (j + 1)) ((j * j : Nat) : Int) = sqsFrom j := by decide +kernel
theorem sqsFrom_len (j : Nat) : (sqsFrom j).length ≤ 53 := by unfold sqsFrom; simp
abbrev bis (x : Int) : Int := bl sqs x 53 0 53

theorem nm1 {x y : Str} {l : Addr} {ds : List PyData} (h : (y == x) = false) : ∀ m ∈ ([(x, l, ds)] : Mu), m.1 ≠ y := fun m hm q => by
  simp only [List.mem_singleton] at hm
  rw [hm] at q
  rw [← q] at h
  simp at h
theorem sqs_len : sqs.length = 53 := by decide +kernel
abbrev sSq : Stmt := stAt P 12
abbrev sAp : Stmt := stAt P 13

def apartL (N : Int) : List Int → List (Int × Int)
  | [] => []
  | x :: r => if decide (bis (N + x * x) < 53) && sqs.getD (bis (N + x * x)).toNat 0 == N + x * x then (bis (N + x * x), x) :: apartL N r else apartL N r
def apart (N : Int) : List (Int × Int) := apartL N ((List.range 52).map fun i => ((i : Nat) : Int))
theorem range_ints : ∀ (m : Nat) (x : Int), rangeL x 1 m = ((List.range m).map fun i => x + ((i : Nat) : Int)).map .int := by
  intro m
  induction m with
  | zero => intro x; rfl
  | succ m ih =>
    intro x
    rw [rangeL, ih, List.range_succ_eq_map]
    simp only [List.map_cons, List.map_map]
    congr 1
    · simp
    · apply List.map_congr_left
      intro i _
      simp only [Function.comp]
      congr 1
      push_cast
      omega
theorem apartL_len (N : Int) : ∀ l, (apartL N l).length ≤ l.length
  | [] => Nat.le_refl _
  | x :: r => by
    have := apartL_len N r
    unfold apartL
    split
    · simp; omega
    · simp; omega

section
variable {prog : Program} {w : World} {tabs : List Tab} {G : Heap} {f : Addr}

theorem sq_spec {cdv : Value} {fi : Addr} (F : FnAt0 G f "_law_squares" (fParams sSq) (fBody sSq) (fScope sSq) .none .none cdv) (hrg : BName G "range" (.type "range"))
    (hi : GName G "insort_left" (.ref fi)) (hif : PySem.W.FnAt fi G) (hI : InsSpec prog w tabs G fi 2) : Spec prog w tabs G f [] 3 (· = .list (sqs.map .int)) := by
  refine Spec.of_body (ρ := []) F (fun s xs vs hW hd => ?_) (fun L => rfl) (by simp) rfl rfl rfl fun A s k xs e hr => ?_
  · cases hd
    exact ⟨[], fun doc pm an ct => BindsTo.of_eq rfl, .nil, rfl⟩
  · have hm : OnMain k := by subst e; exact ⟨rfl, rfl, rfl⟩
    have hkG : k.G = G ∧ k.tabs = tabs ∧ k.prog = prog ∧ k.w = w ∧ k.env.scope = fScope sSq ∧ interactive k.env = false := by subst e; exact ⟨rfl, rfl, rfl, rfl, rfl, rfl⟩
    obtain ⟨e1, e2, e3, e4, e6, e8⟩ := hkG
    have kd : ∀ y kd, (fScope sSq).names.lookup y = some kd → k.env.kindOf y = some kd := fun y kd hy => by unfold Env.kindOf; rw [e6]; exact hy
    have st : ∀ y, (fScope sSq).names.lookup y = some NameKind.local → ∀ π η, Stores { k with pi := π, eta := η } y := fun y hy _ _ => .inl (kd _ _ hy)
    refine Xs.newList (st _ rfl _ _) rfl fun l hlS hown => ?_
    refine Xs.for (ds := rangeL 52 (-1) 53) (fun rest μ ρ => ∃ j : Nat, j ≤ 53 ∧ rest = rangeL ((j : Int) - 1) (-1) j ∧ μ = ([("order", l, (sqsFrom j).map .int)] : Mu)) hr.1 ?_ ⟨53, Nat.le_refl _, rfl, rfl⟩ ?_ ?_
    · exact (Itb.range3 (x := 52) (y := -1) (c := -1) (n := 53) hm (kd _ _ rfl) (e1 ▸ hrg) .int (.bin .int .int .sub) (.bin .int .int .sub) (by decide +kernel) (by decide +kernel) (by decide) (by decide)).w
    · rintro d rest μ ρ π η ⟨j, hj, h1, rfl⟩
      cases j with
      | zero => cases h1
      | succ j =>
        obtain ⟨rfl, h2⟩ := List.cons.inj h1
        have ej : (((j + 1 : Nat) : Int) - 1) = (j : Int) := by omega
        have e5 : ((j : Int) * (j : Int)) = ((j * j : Nat) : Int) := by push_cast; rfl
        have hroot : ∀ {xs : List Addr} {μ : Mu} {ρ' : Rho} {p1 p2 p3 : Pos}, Lk ρ' "root" (.int (((j + 1 : Nat) : Int) - 1)) → Ev { k with pi := π, eta := η } xs μ ρ' (.BinOp (.Name "root" p1) .Mult (.Name "root" p2) p3) (.int ((j * j : Nat) : Int)) := fun a =>
          .cast (.bin (.name a) (.name a) (.mul (mulOk (by omega) (by omega)))) (by rw [ej, e5])
        refine ⟨_, As.name (st _ rfl _ _) (nm1 (by decide)), ?_⟩
        have hI' : InsSpec k.prog k.w k.tabs k.G fi 2 := by rw [e1, e2, e3, e4]; exact hI
        have hlen' : (sqsFrom (j + 1)).length ≤ 1000 := by have := sqsFrom_len (j + 1); omega
        refine Xs.insort (k := { k with pi := π, eta := η }) (n := 2) (ns := sqsFrom (j + 1)) (i := ((j * j : Nat) : Int)) (f₀ := fi) hm (kd _ _ rfl) (e1 ▸ hi) (e1 ▸ hif) (hr.mono (by omega)) hI' hown (hroot rfl) hlen' (by decide) (by decide) ?_ e8 rfl
        refine Xs.nil ⟨rfl, j, by omega, ?_, ?_⟩
        · rw [h2, ej]; congr 1
        · rw [ins_sqs j (by omega)]
    · rintro μ ρ ⟨j, hj, h1, rfl⟩
      cases j with
      | zero => exact Xs.ret_mut (.head _) hlS rfl
      | succ j => cases h1

theorem ap_spec {cdv : Value} {fb : Addr} (F : FnAt0 G f "_law_apart" (fParams sAp) (fBody sAp) (fScope sAp) .none .none cdv) (hrg : BName G "range" (.type "range")) (hlen : BName G "len" (.builtin "len"))
    (hi : GName G "bisect_left" (.ref fb)) (hif : PySem.W.FnAt fb G) (hB : ∀ a x, a.length ≤ 1000 → Spec prog w tabs G fb [.list (a.map .int), .int x] 1 (· = .int (bl a x a.length 0 a.length)))
    (N : Int) : Spec prog w tabs G f [.int N, .list (sqs.map .int)] 2 (· = .list ((apart N).map prD)) := by
  refine Spec.of_body (ρ := [("number", .int N), ("squares", .list (sqs.map .int))]) F (fun s xs vs hW hd => ?_) (fun L => rfl) (by simp only [List.map_cons, List.map_nil]; decide) rfl rfl rfl fun A s k xs e hr => ?_
  · cases hd with | @cons v1 _ _ _ q1 r =>
    cases r with | @cons v2 _ _ _ q2 r =>
    cases r
    exact ⟨[("number", v1), ("squares", v2)], fun doc pm an ct => BindsTo.of_eq rfl, .cons q1 (.cons q2 .nil), rfl⟩
  · have hm : OnMain k := by subst e; exact ⟨rfl, rfl, rfl⟩
    have hkG : k.G = G ∧ k.tabs = tabs ∧ k.prog = prog ∧ k.w = w ∧ k.env.scope = fScope sAp ∧ interactive k.env = false := by subst e; exact ⟨rfl, rfl, rfl, rfl, rfl, rfl⟩
    obtain ⟨e1, e2, e3, e4, e6, e8⟩ := hkG
    have kd : ∀ y kd, (fScope sAp).names.lookup y = some kd → k.env.kindOf y = some kd := fun y kd hy => by unfold Env.kindOf; rw [e6]; exact hy
    have st : ∀ y, (fScope sAp).names.lookup y = some NameKind.local → ∀ π η, Stores { k with pi := π, eta := η } y := fun y hy _ _ => .inl (kd _ _ hy)
    refine Xs.newList (st _ rfl _ _) rfl fun l hlS hown => ?_
    have nm : ∀ (ds : List PyData) (y : Str), (y == "found") = false → ∀ m ∈ ([("found", l, ds)] : Mu), m.1 ≠ y := fun ds y hy m hm q => by
      simp only [List.mem_singleton] at hm
      rw [hm] at q
      rw [← q] at hy
      simp at hy
    have hslen : ((sqs.map PyData.int).length) = 53 := by decide +kernel
    refine Xs.for (ds := rangeL 0 1 52) (fun rest μ ρ => ∃ (rem : List Int) (acc : List (Int × Int)), rest = rem.map .int ∧ μ = ([("found", l, acc.map prD)] : Mu) ∧ Lk ρ "number" (.int N) ∧ Lk ρ "squares" (.list (sqs.map .int)) ∧ acc ++ apartL N rem = apart N ∧ (∀ x ∈ rem, 0 ≤ x ∧ x < 52)) hr.1 ?_
      ⟨(List.range 52).map fun i => ((i : Nat) : Int), [], rfl, rfl, rfl, rfl, rfl, fun x hx => by obtain ⟨i, hi, rfl⟩ := List.mem_map.mp hx; have := List.mem_range.mp hi; omega⟩ ?_ ?_
    · exact (Itb.range1 (n := 52) hm (kd _ _ rfl) (e1 ▸ hrg) .int (by decide) (by decide)).w
    · rintro d rest μ ρ π η ⟨rem, acc, h1, rfl, h3, h4, h5, h6⟩
      cases rem with
      | nil => cases h1
      | cons x rem =>
        obtain ⟨rfl, rfl⟩ := List.cons.inj h1
        have hx := h6 x (.head _)
        have hb : 0 ≤ bis (N + x * x) ∧ bis (N + x * x) ≤ 53 := bl_range sqs (N + x * x) 53 0 53 (by decide)
        refine ⟨_, As.name (st _ rfl _ _) (nm _ _ (by decide)), ?_⟩
        have hsum : ∀ {xs : List Addr} {μ : Mu} {ρ' : Rho} {p1 p2 p3 p4 p5 : Pos}, Lk ρ' "number" (.int N) → Lk ρ' "less" (.int x) → Ev { k with pi := π, eta := η } xs μ ρ' (.BinOp (.Name "number" p1) .Add (.BinOp (.Name "less" p2) .Mult (.Name "less" p3) p4) p5) (.int (N + x * x)) := fun a b =>
          .bin (.name a) (.bin (.name b) (.name b) (.mul (mulOk (by omega) (by omega)))) .add
        refine Xs.asg (d := .int (bis (N + x * x))) (EvT.ev (EvT.call (n := 1) hm (kd _ _ rfl) (e1 ▸ hi) (e1 ▸ hif) hr (by show Spec k.prog k.w k.tabs k.G _ _ _ _; rw [e1, e2, e3, e4]; have hb53 := hB sqs (N + x * x) (by rw [sqs_len]; decide); rw [sqs_len] at hb53; exact hb53) (.cons (.name h4) (.cons (hsum h3 rfl) .nil)))) (st _ rfl _ _) (nm _ _ (by decide)) ?_
        refine Xs.iff (c := decide (bis (N + x * x) < 53) && sqs.getD (bis (N + x * x)).toNat 0 == N + x * x) ?_ (fun q => ?_) (fun q => ?_)
        · refine .cast (.and (p := decide (bis (N + x * x) < 53)) (q := sqs.getD (bis (N + x * x)).toNat 0 == N + x * x && true) (.cast (.cmp (.name rfl) (.bi hm (kd _ _ rfl) (e1 ▸ hlen) (.len (by rw [hslen]; decide)) (.cons (.name h4) .nil)) .lt) (by rw [hslen]; rfl)) fun q => ?_) (by rw [Bool.and_true])
          have q := of_decide_eq_true q
          have hlt : (bis (N + x * x)).toNat < sqs.length := by
            have : sqs.length = 53 := by decide +kernel
            omega
          refine .and (.cmp (.item (j := (bis (N + x * x)).toNat) (d := .int (sqs.getD (bis (N + x * x)).toNat 0)) (.name h4) (.name rfl) (by omega) (by omega) (by rw [hslen]; exact seqIndex_of (by omega) (by omega)) ?_) (hsum h3 rfl) .eq) fun _ => .and_nil
          rw [List.getElem?_map, List.getD_eq_getElem?_getD, List.getElem?_eq_getElem hlt]; rfl
        · refine Xs.append hown (d := prD (bis (N + x * x), x)) (.tup (.cons (.name rfl) (.cons (.name rfl) .nil)) (by simp)) (by
            have h7 := congrArg List.length h5
            rw [List.length_append] at h7
            have h8 : (apart N).length ≤ 52 := Nat.le_trans (apartL_len _ _) (by simp)
            rw [List.length_map]; omega) (by decide) (Xs.nil (Xs.nil ⟨rfl, rem, acc ++ [(bis (N + x * x), x)], rfl, by simp, h3, h4, ?_, fun y hy => h6 y (.tail _ hy)⟩)) e8 ⟨_, rfl⟩ rfl
          rw [← h5]; simp only [apartL]; rw [if_pos q]; simp
        · refine Xs.nil (Xs.nil ⟨rfl, rem, acc, rfl, rfl, h3, h4, ?_, fun y hy => h6 y (.tail _ hy)⟩)
          rw [← h5]; simp only [apartL]; rw [if_neg (by rw [q]; decide)]
    · rintro μ ρ ⟨rem, acc, h1, rfl, h3, h4, h5, h6⟩
      have : rem = [] := by cases rem with | nil => rfl | cons _ _ => cases h1
      subst this
      rw [apartL, List.append_nil] at h5
      subst h5
      exact Xs.ret_mut (.head _) hlS rfl
end
end Mine
end
namespace Mine
open PySem PySem.W PySem.Calls PyProof.Rows

def toI : PyData → Int
  | .int i => i
  | _ => 0
def toP : PyData → Int × Int
  | .tuple [.int a, .int b] => (a, b)
  | _ => (0, 0)
theorem lk_new {ρ : Rho} {y : Str} {d : PyData} (h : ρ.lookup y = none) : ∀ x e, ρ.lookup x = some e → List.lookup x ((y, d) :: ρ) = some e := fun x e q => by
  rw [List.lookup_cons]
  cases hb : x == y with
  | true => rw [beq_iff_eq.mp hb, h] at q; cases q
  | false => exact q
theorem lk_new2 {ρ : Rho} {y z : Str} {d d' : PyData} (h : ρ.lookup y = none) (h2 : ρ.lookup z = none) : ∀ x e, ρ.lookup x = some e → List.lookup x ((z, d') :: (y, d) :: ρ) = some e := fun x e q => by
  rw [List.lookup_cons]
  cases hb : x == z with
  | true => rw [beq_iff_eq.mp hb, h2] at q; cases q
  | false => exact lk_new h x e q
theorem filt_ints (l : List Int) (p : Int → Bool) (g : Int → PyData) : ((l.map PyData.int).filter fun d => p (toI d)).map (fun d => g (toI d)) = (l.filter p).map g := by
  rw [List.filter_map, List.map_map]; rfl
theorem filt_prs (l : List (Int × Int)) (p : Int × Int → Bool) (g : Int × Int → PyData) : ((l.map prD).filter fun d => p (toP d)).map (fun d => g (toP d)) = (l.filter p).map g := by
  rw [List.filter_map, List.map_map]; rfl

section
variable {k : Kx} {xs : List Addr} {μ : Mu} {ρ ρ₂ : Rho} {a b d : PyData} {pos : Pos}
theorem evCompI {elt iter : Expr} {ifs : List Expr} {scope : Scope} {cl : List (Str × Addr)} {y : Str} {py : Pos} {l : List Int} (p : Int → Bool) (g : Int → PyData)
    (hh : k.A.handled = none) (he : Itb k xs μ ρ iter (l.map .int)) (hsz : l.length ≤ 10000) (cs : CompScope k scope cl ρ ρ₂) (hy : ρ₂.lookup y = none) (hst : ∀ S C, Stores (k.comp scope cl xs S C) y)
    (hbody : ∀ i ∈ l, ∀ S C xs', Tes (k.comp scope cl xs S C) xs' [] ((y, .int i) :: ρ₂) ifs (p i) ∧ (p i = true → Ev (k.comp scope cl xs S C) xs' [] ((y, .int i) :: ρ₂) elt (g i)))
    (hs : ∀ x, foldedSetIterable iter k.env x = pure x := by intro _; rfl) : Ev k xs μ ρ (.ListComp elt [⟨.Name y py, iter, ifs, 0⟩] scope pos) (.list ((l.filter p).map g)) := by
  rw [← filt_ints]
  refine evComp (fun d => p (toI d)) (fun d => g (toI d)) hh he (by simpa using hsz) cs (fun d hd S C xs' => ?_) hs
  obtain ⟨i, hi, rfl⟩ := List.mem_map.mp hd
  exact ⟨_, lk_new hy, As.name (hst S C) (fun _ q => nomatch q), hbody i hi S C xs'⟩
theorem asgCompI {x : Str} {px : Pos} {rest : List Stmt} {R : RP} {T : PyData → Prop} {elt iter : Expr} {ifs : List Expr} {scope : Scope} {cpos : Pos} {cl : List (Str × Addr)} {y : Str} {py : Pos} {l : List Int} (p : Int → Bool) (g : Int → PyData)
    (hh : k.A.handled = none) (he : Itb k xs μ ρ iter (l.map .int)) (hsz : l.length ≤ 10000) (cs : CompScope k scope cl ρ ρ₂) (hy : ρ₂.lookup y = none) (hst : ∀ S C, Stores (k.comp scope cl xs S C) y)
    (hbody : ∀ i ∈ l, ∀ S C xs', Tes (k.comp scope cl xs S C) xs' [] ((y, .int i) :: ρ₂) ifs (p i) ∧ (p i = true → Ev (k.comp scope cl xs S C) xs' [] ((y, .int i) :: ρ₂) elt (g i)))
    (hx : Stores k x) (hm : ∀ m ∈ μ, m.1 ≠ x) (h : Xs k xs μ ((x, .list ((l.filter p).map g)) :: ρ) rest R T)
    (hsw : swapsWith (.ListComp elt [⟨.Name y py, iter, ifs, 0⟩] scope cpos) (some (.Name x px)) pos.line k.env = pure true := by rfl) (hs : ∀ x, foldedSetIterable iter k.env x = pure x := by intro _; rfl) :
    Xs k xs μ ρ (.Assign [.Name x px] (.ListComp elt [⟨.Name y py, iter, ifs, 0⟩] scope cpos) pos :: rest) R T := by
  rw [← filt_ints] at h
  refine Xs.asgComp (fun d => p (toI d)) (fun d => g (toI d)) hh he (by simpa using hsz) cs (fun d hd S C xs' => ?_) hx hm h hsw hs
  obtain ⟨i, hi, rfl⟩ := List.mem_map.mp hd
  exact ⟨_, lk_new hy, As.name (hst S C) (fun _ q => nomatch q), hbody i hi S C xs'⟩
theorem evCompP {elt iter : Expr} {ifs : List Expr} {scope : Scope} {cl : List (Str × Addr)} {y z : Str} {py pz pt : Pos} {n : Nat} {l : List (Int × Int)} (p : Int × Int → Bool) (g : Int × Int → PyData)
    (hh : k.A.handled = none) (he : Itb k xs μ ρ iter (l.map prD)) (hsz : l.length ≤ 10000) (cs : CompScope k scope cl ρ ρ₂) (hy : ρ₂.lookup y = none) (hz : ρ₂.lookup z = none) (hst : ∀ S C, Stores (k.comp scope cl xs S C) y) (hst2 : ∀ S C, Stores (k.comp scope cl xs S C) z)
    (hbody : ∀ i ∈ l, ∀ S C xs', Tes (k.comp scope cl xs S C) xs' [] ((z, .int i.2) :: (y, .int i.1) :: ρ₂) ifs (p i) ∧ (p i = true → Ev (k.comp scope cl xs S C) xs' [] ((z, .int i.2) :: (y, .int i.1) :: ρ₂) elt (g i)))
    (hs : ∀ x, foldedSetIterable iter k.env x = pure x := by intro _; rfl) : Ev k xs μ ρ (.ListComp elt [⟨.Tuple [.Name y py, .Name z pz] n pt, iter, ifs, 0⟩] scope pos) (.list ((l.filter p).map g)) := by
  rw [← filt_prs]
  refine evComp (fun d => p (toP d)) (fun d => g (toP d)) hh he (by simpa using hsz) cs (fun d hd S C xs' => ?_) hs
  obtain ⟨i, hi, rfl⟩ := List.mem_map.mp hd
  exact ⟨_, lk_new2 hy hz, As.tup2 hh (hst S C) (hst2 S C) (fun _ q => nomatch q) (fun _ q => nomatch q), hbody i hi S C xs'⟩
theorem filt_all {α : Type} (l : List α) : l.filter (fun _ => true) = l := List.filter_eq_self.mpr fun _ _ => rfl
end
end Mine
section
set_option maxHeartbeats 1000000
namespace Mine
open PySem PySem.W PySem.Calls PyProof.Rows

abbrev sPa : Stmt := stAt P 14
def iotaI (x : Int) (n : Nat) : List Int := (List.range n).map fun i => x + ((i : Nat) : Int)
def partP (N i : Int) : Bool := decide (i * i ≤ N) && (N % i == 0)
def parts (N : Int) : List (Int × Int) := ((iotaI 1 N.toNat).filter (partP N)).map fun i => (i, N / i)
theorem iotaI_mem {x y : Int} {n : Nat} (h : y ∈ iotaI x n) : x ≤ y ∧ y < x + n := by
  obtain ⟨i, hi, rfl⟩ := List.mem_map.mp h
  have := List.mem_range.mp hi
  omega
theorem iotaI_len (x : Int) (n : Nat) : (iotaI x n).length = n := by unfold iotaI; simp

section
variable {prog : Program} {w : World} {tabs : List Tab} {G : Heap} {f : Addr}

abbrev compOf : Expr → Scope
  | .ListComp _ _ s _ => s
  | _ => default
abbrev retE : Stmt → Expr
  | .Return (some e) _ => e
  | _ => .Constant .none 0 default

theorem pa_spec {cdv : Value} {fd : Addr} (F : FnAt0 G f "_law_parts" (fParams sPa) (fBody sPa) (fScope sPa) .none .none cdv) (hrg : BName G "range" (.type "range"))
    (hi : GName G "int_divmod" (.ref fd)) (hif : PySem.W.FnAt fd G) (hD : ∀ a b : Int, 0 ≤ a → a < 2 ^ 60 → 0 < b → b < 2 ^ 29 → Spec prog w tabs G fd [.int a, .int b] 12 (· = .tuple [.int (a / b), .int (a % b)]))
    (N : Int) (h1 : 0 ≤ N) (h2 : N ≤ 200) : Spec prog w tabs G f [.int N] 13 (· = .list ((parts N).map prD)) := by
  refine Spec.of_body (ρ := [("number", .int N)]) F (fun s xs vs hW hd => ?_) (fun L => rfl) (by simp only [List.map_cons, List.map_nil]; decide) rfl rfl rfl fun A s k xs e hr => ?_
  · cases hd with | @cons v1 _ _ _ q1 r =>
    cases r
    exact ⟨[("number", v1)], fun doc pm an ct => BindsTo.of_eq rfl, .cons q1 .nil, rfl⟩
  · subst e
    have cs : CompScope ⟨prog, w, tabs, G, s, xs, A.deeper (fnEnv (fScope sPa) s.heap.objs.size "_law_parts" f cdv), fnEnv (fScope sPa) s.heap.objs.size "_law_parts" f cdv, [], []⟩ (compOf (retE ((fBody sPa).getD 0 (.Pass default)))) [("number", s.heap.objs.size + 1)] [("number", .int N)] [("number", .int N)] := {
      clos := rfl
      cell := by decide
      kind := rfl
      names := by decide
      cls := fun x c hx => hx
      vars := fun x d hx => by
        rcases lk_cons hx with ⟨rfl, rfl⟩ | q
        · exact ⟨rfl, fun q => (by cases (q : some NameKind.cell = some NameKind.local)), rfl, .inl rfl⟩
        · cases q }
    refine Xs.ret (d := .list ((parts N).map prD)) ?_ rfl
    have e9 : (parts N).map prD = ((iotaI 1 N.toNat).filter (partP N)).map fun i => prD (i, N / i) := by unfold parts; rw [List.map_map]; rfl
    rw [e9]
    have er : rangeL 1 1 ((N + 1) - 1).toNat = (iotaI 1 N.toNat).map .int := by
      have e : ((N + 1) - 1).toNat = N.toNat := by omega
      rw [e, range_ints]; rfl
    refine evCompI (partP N) (fun i => prD (i, N / i)) hr.1 ?_ (by rw [iotaI_len]; omega) cs rfl (fun _ _ => .inl rfl) (fun i hi0 S C xs' => ?_)
    · rw [← er]
      exact Itb.range2 ⟨rfl, rfl, rfl⟩ rfl hrg .int (.bin (.name rfl) .int .add) (by omega) (by omega) (by omega) (by omega)
    · have hb := iotaI_mem hi0
      have hm : ∀ {p1 p2 p3 p4 : Pos} {μ : Mu} {xs2 : List Addr}, Ev (Kx.comp ⟨prog, w, tabs, G, s, xs, A.deeper (fnEnv (fScope sPa) s.heap.objs.size "_law_parts" f cdv), fnEnv (fScope sPa) s.heap.objs.size "_law_parts" f cdv, [], []⟩ (compOf (retE ((fBody sPa).getD 0 (.Pass default)))) [("number", s.heap.objs.size + 1)] xs S C) xs2 μ [("low", .int i), ("number", .int N)] (.Call (.Name "int_divmod" p1) [.Name "number" p2, .Name "low" p3] [] p4) (.tuple [.int (N / i), .int (N % i)]) :=
        EvT.ev (EvT.call (n := 12) ⟨rfl, rfl, rfl⟩ rfl hi hif hr (hD N i h1 (by omega) (by omega) (by omega)) (.cons (.name rfl) (.cons (.name rfl) .nil)))
      refine ⟨?_, fun _ => ?_⟩
      · refine .one (.cast (.and (q := (N % i == 0) && true) (.cmp (.bin (.name rfl) (.name rfl) (.mul (mulOk (by omega) (by omega)))) (.name rfl) .le) fun _ => .and (.cmp (.tupItem (j := 1) hm .int (by decide) (by decide) rfl rfl) .int .eq) fun _ => .and_nil) (by rw [Bool.and_true]; rfl))
      · exact .tup (.cons (.name rfl) (.cons (.tupItem (j := 0) hm .int (by decide) (by decide) rfl rfl) .nil)) (by simp)
end
end Mine
end
namespace Mine
open PySem PySem.W PySem.Calls PyProof.Rows
def mids (N : Int) : List (Int × Int) := (parts N).map fun p => ((p.1 + p.2) / 2, (p.2 - p.1) / 2)
def firstP (N i : Int) : Bool := decide (N ≤ i * i) && (decide (bis (i * i - N) < 53) && sqs.getD (bis (i * i - N)).toNat 0 == i * i - N)
def firsts (N : Int) : List Int := (iotaI 0 53).filter (firstP N)
def a0 (N : Int) : Int × Int := (apart N).getD 0 (0, 0)
def primeL (N : Int) : List Int := (iotaI 2 (N - 2).toNat).filter fun i => N % i == 0
def rowP (N i : Int) : Bool := decide (i * (i - 1) < 2 * N) && ((N - i * (i - 1) / 2) % i == 0)
def rowsL (N : Int) : List Int := (iotaI 1 N.toNat).filter (rowP N)
def divL (N : Int) : List Int := (iotaI 1 N.toNat).filter fun i => N % i == 0
def shp (d : PyData) : Bool := PySem.SeqAt.shaped d
def nOf (r : Nat) : Int := 3 + 2 * (r : Int)
theorem nOf_b {r : Nat} (h : r < 50) : 3 ≤ nOf r ∧ nOf r ≤ 101 := by unfold nOf; omega

def FB (N : Int) : Bool :=
  let A := apart N
  let Q := parts N
  decide ((mids N).reverse = A) && decide (1 ≤ Q.length ∧ Q.length ≤ 3) && decide ((mids N).Pairwise fun p q => q.1 < p.1) && shp (.list (A.map prD)) && shp (.list (Q.map prD)) &&
  decide (A[0]? = some (a0 N)) && decide (Q[0]? = some (1, N)) && decide (Q.filter (fun q => q.1 * q.2 != N) = []) && decide ((firsts N)[0]? = some (a0 N).1) &&
  decide (A.length ≤ 3) && decide (Q[Q.length - 1]? = some ((a0 N).1 - (a0 N).2, (a0 N).1 + (a0 N).2)) && decide (A[A.length - 1]? = some ((N + 1) / 2, (N - 1) / 2)) &&
  shp (.list ((primeL N).map .int)) && (PyData.eqv (.list ((primeL N).map .int)) (.list []) == (decide (A.length = 1))) && decide ((rowsL N).length = (divL N).length) &&
  A.all (fun p => Builtin.Range.small (2 * p.2 + 1) (2 * p.1) 2 && decide (Builtin.Range.rangeSize (2 * p.2 + 1) (2 * p.1) 2 = ((p.1 - p.2).toNat : Int)) && decide (preSum (fun i => (2 * p.2 + 1) + (i : Int) * 2) (p.1 - p.2).toNat = N) && decide (0 ≤ p.1 ∧ p.1 ≤ 60 ∧ 0 ≤ p.2 ∧ p.2 ≤ 60))
theorem FBc0 : ((List.range 5).all fun r => FB (nOf (0 + r))) = true := by decide +kernel
theorem FBc1 : ((List.range 5).all fun r => FB (nOf (5 + r))) = true := by decide +kernel
theorem FBc2 : ((List.range 5).all fun r => FB (nOf (10 + r))) = true := by decide +kernel
theorem FBc3 : ((List.range 5).all fun r => FB (nOf (15 + r))) = true := by decide +kernel
theorem FBc4 : ((List.range 5).all fun r => FB (nOf (20 + r))) = true := by decide +kernel
theorem FBc5 : ((List.range 5).all fun r => FB (nOf (25 + r))) = true := by decide +kernel
theorem FBc6 : ((List.range 5).all fun r => FB (nOf (30 + r))) = true := by decide +kernel
theorem FBc7 : ((List.range 5).all fun r => FB (nOf (35 + r))) = true := by decide +kernel
theorem FBc8 : ((List.range 5).all fun r => FB (nOf (40 + r))) = true := by decide +kernel
theorem FBc9 : ((List.range 5).all fun r => FB (nOf (45 + r))) = true := by decide +kernel
theorem FB_of {r : Nat} (h : r < 50) : FB (nOf r) = true := by
  have key : ∀ b, ((List.range 5).all fun i => FB (nOf (b + i))) = true → b ≤ r → r < b + 5 → FB (nOf r) = true := fun b q h1 h2 => by
    have q := List.all_eq_true.mp q (r - b) (List.mem_range.mpr (by omega))
    have e : b + (r - b) = r := by omega
    rw [e] at q
    exact q
  by_cases h0 : r < 5
  · exact key 0 FBc0 (by omega) (by omega)
  by_cases h1 : r < 10
  · exact key 5 FBc1 (by omega) (by omega)
  by_cases h2 : r < 15
  · exact key 10 FBc2 (by omega) (by omega)
  by_cases h3 : r < 20
  · exact key 15 FBc3 (by omega) (by omega)
  by_cases h4 : r < 25
  · exact key 20 FBc4 (by omega) (by omega)
  by_cases h5 : r < 30
  · exact key 25 FBc5 (by omega) (by omega)
  by_cases h6 : r < 35
  · exact key 30 FBc6 (by omega) (by omega)
  by_cases h7 : r < 40
  · exact key 35 FBc7 (by omega) (by omega)
  by_cases h8 : r < 45
  · exact key 40 FBc8 (by omega) (by omega)
  · exact key 45 FBc9 (by omega) (by omega)
structure Facts (N : Int) : Prop where
  mid : (mids N).reverse = apart N
  len1 : 1 ≤ (parts N).length
  len3 : (parts N).length ≤ 3
  dec : (mids N).Pairwise fun p q => q.1 < p.1
  shA : PySem.SeqAt.shaped (.list ((apart N).map prD)) = true
  shQ : PySem.SeqAt.shaped (.list ((parts N).map prD)) = true
  A0 : (apart N)[0]? = some (a0 N)
  Q0 : (parts N)[0]? = some (1, N)
  bad : (parts N).filter (fun q => q.1 * q.2 != N) = []
  fst : (firsts N)[0]? = some (a0 N).1
  lenA : (apart N).length ≤ 3
  Qn : (parts N)[(parts N).length - 1]? = some ((a0 N).1 - (a0 N).2, (a0 N).1 + (a0 N).2)
  An : (apart N)[(apart N).length - 1]? = some ((N + 1) / 2, (N - 1) / 2)
  shP : PySem.SeqAt.shaped (.list ((primeL N).map .int)) = true
  prime : PyData.eqv (.list ((primeL N).map .int)) (.list []) = decide ((apart N).length = 1)
  rows : (rowsL N).length = (divL N).length
  runs : ∀ p ∈ apart N, Builtin.Range.small (2 * p.2 + 1) (2 * p.1) 2 = true ∧ Builtin.Range.rangeSize (2 * p.2 + 1) (2 * p.1) 2 = ((p.1 - p.2).toNat : Int) ∧ preSum (fun i => (2 * p.2 + 1) + (i : Int) * 2) (p.1 - p.2).toNat = N ∧ 0 ≤ p.1 ∧ p.1 ≤ 60 ∧ 0 ≤ p.2 ∧ p.2 ≤ 60
theorem facts {r : Nat} (h : r < 50) : Facts (nOf r) := by
  have q := FB_of h
  unfold FB at q
  simp only [Bool.and_eq_true, decide_eq_true_eq, List.all_eq_true, beq_iff_eq, shp, and_assoc] at q
  obtain ⟨h1, h2, h3, h4, h5, h6, h7, h8, h9, h10, h11, h12, h13, h14, h15, h16, h17⟩ := q
  exact ⟨h1, h2, h3, h4, h5, h6, h7, h8, h9, h10, h11, h12, h13, h14, h15, h16, h17⟩
def FO (m : Nat) : Bool := shp (.list ((apart (1 + (m : Int))).map prD)) && ((PyData.eqv (.list ((apart (1 + (m : Int))).map prD)) (.list [])) == ((1 + (m : Int)) % 4 == 2))
theorem FOc0 : ((List.range 8).all fun m => FO (0 + m)) = true := by decide +kernel
theorem FOc1 : ((List.range 8).all fun m => FO (8 + m)) = true := by decide +kernel
theorem FOc2 : ((List.range 8).all fun m => FO (16 + m)) = true := by decide +kernel
theorem FOc3 : ((List.range 8).all fun m => FO (24 + m)) = true := by decide +kernel
theorem FOc4 : ((List.range 8).all fun m => FO (32 + m)) = true := by decide +kernel
theorem FOc5 : ((List.range 8).all fun m => FO (40 + m)) = true := by decide +kernel
theorem FO_of {r : Nat} (h : r < 48) : FO r = true := by
  have key : ∀ b, ((List.range 8).all fun i => FO (b + i)) = true → b ≤ r → r < b + 8 → FO r = true := fun b q h1 h2 => by
    have q := List.all_eq_true.mp q (r - b) (List.mem_range.mpr (by omega))
    have e : b + (r - b) = r := by omega
    rw [e] at q
    exact q
  by_cases h0 : r < 8
  · exact key 0 FOc0 (by omega) (by omega)
  by_cases h1 : r < 16
  · exact key 8 FOc1 (by omega) (by omega)
  by_cases h2 : r < 24
  · exact key 16 FOc2 (by omega) (by omega)
  by_cases h3 : r < 32
  · exact key 24 FOc3 (by omega) (by omega)
  by_cases h4 : r < 40
  · exact key 32 FOc4 (by omega) (by omega)
  · exact key 40 FOc5 (by omega) (by omega)
theorem factO {m : Int} (h0 : 0 ≤ m) (h1 : m < 48) : PySem.SeqAt.shaped (.list ((apart (1 + m)).map prD)) = true ∧ (PyData.eqv (.list ((apart (1 + m)).map prD)) (.list [])) = ((1 + m) % 4 == 2) := by
  obtain ⟨n, rfl⟩ := Int.eq_ofNat_of_zero_le h0
  have q := FO_of (r := n) (by omega)
  unfold FO at q
  simp only [Bool.and_eq_true, shp] at q
  exact ⟨q.1, beq_iff_eq.mp q.2⟩
end Mine
section
set_option maxHeartbeats 2000000
namespace Mine
open PySem PySem.W PySem.Calls PyProof.Rows

abbrev sLw : Stmt := stAt P 15
structure LawG (prog : Program) (w : World) (tabs : List Tab) (G : Heap) : Prop where
  sum : BName G "sum" (.builtin "sum")
  range : BName G "range" (.type "range")
  len : BName G "len" (.builtin "len")
  sorted : BName G "sorted" (.builtin "sorted")
  abs : BName G "abs" (.builtin "abs")
  sq : ∃ f, GName G "_law_squares" (.ref f) ∧ PySem.W.FnAt f G ∧ Spec prog w tabs G f [] 3 (· = .list (sqs.map .int))
  ap : ∃ f, GName G "_law_apart" (.ref f) ∧ PySem.W.FnAt f G ∧ ∀ N, Spec prog w tabs G f [.int N, .list (sqs.map .int)] 2 (· = .list ((apart N).map prD))
  pa : ∃ f, GName G "_law_parts" (.ref f) ∧ PySem.W.FnAt f G ∧ ∀ N, 0 ≤ N → N ≤ 200 → Spec prog w tabs G f [.int N] 13 (· = .list ((parts N).map prD))
  bis : ∃ f, GName G "bisect_left" (.ref f) ∧ PySem.W.FnAt f G ∧ ∀ a x, a.length ≤ 1000 → Spec prog w tabs G f [.list (a.map .int), .int x] 1 (· = .int (bl a x a.length 0 a.length))

def CellsIn (k : Kx) (scope : Scope) (cl : List (Str × Addr)) (ρ : Rho) : Rho → Prop
  | [] => True
  | p :: r => (ρ.lookup p.1 = some p.2 ∧ k.env.kindOf p.1 = some .cell ∧ (cl.lookup p.1).isSome = true ∧ (relabel scope k.env).names.lookup p.1 = some .cell) ∧ CellsIn k scope cl ρ r
theorem CellsIn.get {k : Kx} {scope : Scope} {cl : List (Str × Addr)} {ρ : Rho} : ∀ {ρ₂ : Rho} {x d}, CellsIn k scope cl ρ ρ₂ → ρ₂.lookup x = some d →
    ρ.lookup x = some d ∧ k.env.kindOf x = some .cell ∧ (cl.lookup x).isSome = true ∧ (relabel scope k.env).names.lookup x = some .cell
  | [], x, d, _, h => by cases h
  | (y, e) :: r, x, d, c, h => by
    rcases lk_cons h with ⟨rfl, rfl⟩ | q
    · exact c.1
    · exact CellsIn.get c.2 q
def ClIn (env : Env) : List (Str × Addr) → Prop
  | [] => True
  | p :: r => env.cells.lookup p.1 = some p.2 ∧ ClIn env r
theorem ClIn.get {env : Env} : ∀ {cl : List (Str × Addr)} {x c}, ClIn env cl → cl.lookup x = some c → env.cells.lookup x = some c
  | [], x, c, _, h => by cases h
  | (y, e) :: r, x, c, k, h => by
    rw [List.lookup_cons] at h
    cases hb : x == y with
    | true => rw [hb] at h; cases h; rw [beq_iff_eq.mp hb]; exact k.1
    | false => rw [hb] at h; exact ClIn.get k.2 h
theorem csN {k : Kx} {scope : Scope} {cl : List (Str × Addr)} {ρ ρ₂ : Rho} (h1 : closureFor scope k.env = pure cl) (h3 : scope.kind = .function) (h2 : ∀ y ∈ scope.names, y.2 ≠ .cell) (h4 : ∀ y ∈ scope.names, y.2 = .local → scope.names.lookup y.1 = some .local)
    (h5 : ClIn k.env cl) (h6 : CellsIn k scope cl ρ ρ₂) : CompScope k scope cl ρ ρ₂ where
  clos := h1
  cell := h2
  kind := h3
  names := h4
  cls := fun x c h => h5.get h
  vars := fun x d h => let ⟨a, b, c, e⟩ := h6.get h; ⟨a, by rw [b]; nofun, c, .inl e⟩

theorem mids_eq (N : Int) : (mids N).map prD = ((parts N).filter (fun _ => true)).map fun p => prD ((p.1 + p.2) / 2, (p.2 - p.1) / 2) := by
  rw [filt_all]; unfold mids; rw [List.map_map]; rfl
theorem parts_mem {N : Int} {p : Int × Int} (h : p ∈ parts N) : 1 ≤ p.1 ∧ p.1 < 1 + N.toNat := by
  obtain ⟨i, hi, rfl⟩ := List.mem_map.mp h
  exact iotaI_mem (List.mem_filter.mp hi).1
theorem pair_get {l : List (Int × Int)} {j : Nat} {p : Int × Int} (h : l[j]? = some p) : (l.map prD)[j]? = some (prD p) := by rw [List.getElem?_map, h]; rfl
theorem int_get {l : List Int} {j : Nat} {p : Int} (h : l[j]? = some p) : (l.map PyData.int)[j]? = some (.int p) := by rw [List.getElem?_map, h]; rfl
theorem get_lt {α : Type} {l : List α} {j : Nat} {p : α} (h : l[j]? = some p) : j < l.length := (List.getElem?_eq_some_iff.mp h).1
theorem idx_last {n : Nat} (h : 0 < n) : seqIndex? (-1) n = some (n - 1) := by
  unfold seqIndex?
  simp only [Bool.and_eq_true, decide_eq_true_eq]
  have h1 : ((-1 : Int) < 0) := by decide
  simp only [h1, if_true]
  rw [if_pos (by omega)]
  congr 1
  omega
theorem eqv_prs (p q : Int × Int) : PyData.eqv (prD p) (prD q) = (p.1 == q.1 && (p.2 == q.2 && true)) := rfl
theorem eqv_same (p : Int × Int) : PyData.eqv (prD p) (prD p) = true := by rw [eqv_prs]; simp
mutual
theorem eqv_ints_refl : ∀ (l : List Int), PyData.eqvAll (l.map .int) (l.map .int) = true
  | [] => rfl
  | x :: r => by show (x == x && PyData.eqvAll (r.map .int) (r.map .int)) = true; rw [eqv_ints_refl r]; simp
end
theorem eqv_prs_refl : ∀ (l : List (Int × Int)), PyData.eqvAll (l.map prD) (l.map prD) = true
  | [] => rfl
  | x :: r => by show (PyData.eqv (prD x) (prD x) && PyData.eqvAll (r.map prD) (r.map prD)) = true; rw [eqv_prs_refl r, eqv_same]; rfl
end Mine
end
section
set_option maxHeartbeats 2000000
namespace Mine
open PySem PySem.W PySem.Calls PyProof.Rows

abbrev lawK (prog : Program) (w : World) (tabs : List Tab) (G : Heap) (S : Shared) (xs : List Addr) (A : Around) (L f : Addr) (cdv : Value) : Kx := ⟨prog, w, tabs, G, S, xs, A, fnEnv (fScope sLw) L "law" f cdv, [], []⟩

abbrev R0 (ns : List Int) : Rho := [("script", .list (ns.map .int))]
abbrev R1 (ns : List Int) (N : Int) : Rho := ("squares", .list (sqs.map .int)) :: ("number", .int N) :: R0 ns
abbrev R2 (ns : List Int) (N : Int) : Rho := ("ways", .list ((apart N).map prD)) :: ("parts", .list ((parts N).map prD)) :: R1 ns N
abbrev R3 (ns : List Int) (N : Int) : Rho := ("first", .int (a0 N).1) :: R2 ns N
abbrev R4 (ns : List Int) (N : Int) : Rho := ("prime", .bool (decide ((apart N).length = 1))) :: R3 ns N
abbrev R5 (ns : List Int) (N : Int) : Rho := ("rows", .list ((rowsL N).map .int)) :: R4 ns N
abbrev R6 (ns : List Int) (N m : Int) : Rho := ("other", .int (1 + m)) :: R5 ns N
abbrev lawS (i : Nat) : List Stmt := (fBody sLw).drop i

section
variable {prog : Program} {w : World} {tabs : List Tab} {G : Heap} {S : Shared} {xs : List Addr} {A : Around} {L f : Addr} {cdv : Value} {ns : List Int} {N : Int} {r : Nat} {m : Int}
abbrev LR : RP := fun _ _ _ => False
abbrev LT : PyData → Prop := (· = .bool true)

theorem law_s13 : Xs (lawK prog w tabs G S xs A L f cdv) xs [] (R6 ns N m) (lawS 13) LR LT := Xs.ret .boo rfl

theorem law_s12 (H : LawG prog w tabs G) (hr : Room A 14) (hL : S.heap.objs.size ≤ L) (F : Facts N) (h1 : 3 ≤ N) (h2 : N ≤ 101) : Xs (lawK prog w tabs G S xs A L f cdv) xs [] (R6 ns N m) (lawS 12) LR LT := by
  have hm : OnMain (lawK prog w tabs G S xs A L f cdv) := ⟨rfl, rfl, rfl⟩
  refine Xs.for (ds := (apart N).map prD) (fun rest μ ρ => ∃ rem : List (Int × Int), rest = rem.map prD ∧ (∀ p ∈ rem, p ∈ apart N) ∧ μ = [] ∧ Lk ρ "number" (.int N)) hr.1 (Itb.list (.name rfl)).w ⟨_, rfl, fun _ h => h, rfl, rfl⟩ ?_ ?_
  · rintro d rest μ ρ π η ⟨rem, g1, g2, rfl, g3⟩
    cases rem with
    | nil => cases g1
    | cons p rem =>
      obtain ⟨rfl, rfl⟩ := List.cons.inj g1
      obtain ⟨q1, q2, q3, q4, q5, q6, q7⟩ := F.runs p (g2 p (.head _))
      refine ⟨_, As.tup2 hr.1 (.inl rfl) (.inl rfl) (fun _ q => nomatch q) (fun _ q => nomatch q), ?_⟩
      refine Xs.iff (c := false) (.cast (.cmp (.sumRange3 (n := (p.1 - p.2).toNat) hr.1 hm rfl H.sum rfl H.range (.bin (.bin .int (.name rfl) (.mul (mulOk (by decide) (by decide)))) .int .add) (.bin .int (.name rfl) (.mul (mulOk (by decide) (by decide)))) .int q1 q2 (by decide) (by decide)) (.name g3) .ne) ?_) nofun fun _ => Xs.nil (Xs.nil ⟨rfl, rem, rfl, fun y hy => g2 y (.tail _ hy), rfl, g3⟩)
      rw [q3]; simp
  · rintro μ ρ ⟨rem, g1, g2, rfl, g3⟩
    exact Xs.ret .boo rfl
theorem law_s11 (H : LawG prog w tabs G) (hr : Room A 14) (hL : S.heap.objs.size ≤ L) (F : Facts N) (h1 : 3 ≤ N) (h2 : N ≤ 101) (m0 : 0 ≤ m) (m1 : m < 48) : Xs (lawK prog w tabs G S xs A L f cdv) xs [] (R6 ns N m) (lawS 11) LR LT := by
  have hm : OnMain (lawK prog w tabs G S xs A L f cdv) := ⟨rfl, rfl, rfl⟩
  obtain ⟨fa, ga, gf, gs⟩ := H.ap
  obtain ⟨o1, o2⟩ := factO m0 m1
  refine Xs.iff (c := false) (.cast (.cmp (.cmp (EvT.ev (EvT.call (n := 2) hm rfl ga gf (hr.mono (by omega)) (gs _) (.cons (.name rfl) (.cons (.name rfl) .nil)))) (.lst .nil (by simp)) (.eqD hr (by decide) o1 rfl)) (.cmp (.bin (.name rfl) .int (.mod (by decide))) .int .eq) (.neD hr (by decide) rfl rfl)) ?_) nofun fun _ => Xs.nil (law_s12 H hr hL F h1 h2)
  rw [o2]
  show (! (_ == _)) = false
  simp
theorem law_s10 (H : LawG prog w tabs G) (hr : Room A 14) (hL : S.heap.objs.size ≤ L) (F : Facts N) (h1 : 3 ≤ N) (h2 : N ≤ 101) (hns : ns.length ≤ 63) : Xs (lawK prog w tabs G S xs A L f cdv) xs [] (R5 ns N) (lawS 10) LR LT := by
  have hm : OnMain (lawK prog w tabs G S xs A L f cdv) := ⟨rfl, rfl, rfl⟩
  obtain ⟨h, hh⟩ : ∃ h, (ns ++ [0])[0]? = some h := by
    cases ns with
    | nil => exact ⟨0, rfl⟩
    | cons a _ => exact ⟨a, rfl⟩
  refine Xs.asg (d := .int (1 + (if h < 0 then -h else h) % 48)) (.bin .int (.bin (.bi hm rfl H.abs .abs (.cons (.item (j := 0) (d := .int h) (.bin (.name rfl) (.lst (.cons .int .nil) (by simp)) (.addList (by simp; omega))) .int (by decide) (by decide) (by simp [seqIndex?]) ?_) .nil)) .int (.mod (by decide))) .add) (.inl rfl) nofun
    (law_s11 H hr hL F h1 h2 (Int.emod_nonneg _ (by decide)) (Int.emod_lt_of_pos _ (by decide)))
  have := int_get hh
  rw [List.map_append] at this
  exact this

theorem Ev.neg {k : Kx} {xs : List Addr} {μ : Mu} {ρ : Rho} {e : Expr} {i : Int} {pos : Pos} (he : Ev k xs μ ρ e (.int i)) : Ev k xs μ ρ (.UnaryOp .USub e pos) (.int (-i)) := fun s E f =>
  UnaryOp_ (wm (he s E f) fun v s₁ ⟨st, hd⟩ => by cases hd; exact PyProof.Rows.neg_int ⟨st.tok, .int _ _⟩)

theorem law_s9 (H : LawG prog w tabs G) (hr : Room A 14) (hL : S.heap.objs.size ≤ L) (F : Facts N) (h1 : 3 ≤ N) (h2 : N ≤ 101) (hns : ns.length ≤ 63) : Xs (lawK prog w tabs G S xs A L f cdv) xs [] (R5 ns N) (lawS 9) LR LT := by
  have hm : OnMain (lawK prog w tabs G S xs A L f cdv) := ⟨rfl, rfl, rfl⟩
  have er : rangeL 1 1 ((N + 1) - 1).toNat = (iotaI 1 N.toNat).map .int := by
    have e : ((N + 1) - 1).toNat = N.toNat := by omega
    rw [e, range_ints]; rfl
  refine Xs.iff (c := false) (.cast (.cmp (.bi hm rfl H.len (.len ?_) (.cons (.name rfl) .nil)) (.bi hm rfl H.len (.len ?_) (.cons (evCompI (cl := [("number", L + 1)]) (ρ₂ := [("number", .int N)]) (l := iotaI 1 N.toNat) (fun i => N % i == 0) .int hr.1 ?_ ?_ (csN rfl rfl (by decide) (by decide) ⟨rfl, trivial⟩ ⟨⟨rfl, rfl, rfl, rfl⟩, trivial⟩) rfl (fun _ _ => .inl rfl) (fun i hi S C xs' => ⟨?_, fun _ => .name rfl⟩)) .nil)) .ne) ?_) nofun fun _ => Xs.nil (law_s10 H hr hL F h1 h2 hns)
  · have : (rowsL N).length ≤ (iotaI 1 N.toNat).length := List.length_filter_le _ _
    rw [iotaI_len] at this
    rw [List.length_map]; omega
  · have : ((iotaI 1 N.toNat).filter fun i => N % i == 0).length ≤ (iotaI 1 N.toNat).length := List.length_filter_le _ _
    rw [iotaI_len] at this
    rw [List.length_map]; omega
  · rw [← er]
    exact Itb.range2 hm rfl H.range .int (.bin (.name rfl) .int .add) (by decide) (by decide) (by omega) (by omega)
  · rw [iotaI_len]; omega
  · have hb := iotaI_mem hi
    exact .one (.cmp (.bin (.name rfl) (.name rfl) (.mod (by omega))) .int .eq)
  · have := F.rows
    unfold divL at this
    simp [this]
theorem law_s8 (H : LawG prog w tabs G) (hr : Room A 14) (hL : S.heap.objs.size ≤ L) (F : Facts N) (h1 : 3 ≤ N) (h2 : N ≤ 101) (hns : ns.length ≤ 63) : Xs (lawK prog w tabs G S xs A L f cdv) xs [] (R4 ns N) (lawS 8) LR LT := by
  have hm : OnMain (lawK prog w tabs G S xs A L f cdv) := ⟨rfl, rfl, rfl⟩
  have er : rangeL 1 1 ((N + 1) - 1).toNat = (iotaI 1 N.toNat).map .int := by
    have e : ((N + 1) - 1).toNat = N.toNat := by omega
    rw [e, range_ints]; rfl
  refine asgCompI (cl := [("number", L + 1)]) (ρ₂ := [("number", .int N)]) (l := iotaI 1 N.toNat) (rowP N) .int hr.1 ?_ ?_ (csN rfl rfl (by decide) (by decide) ⟨rfl, trivial⟩ ⟨⟨rfl, rfl, rfl, rfl⟩, trivial⟩) rfl (fun _ _ => .inl rfl) (fun i hi S C xs' => ⟨?_, fun _ => .name rfl⟩) (.inl rfl) nofun (law_s9 H hr hL F h1 h2 hns)
  · rw [← er]
    exact Itb.range2 hm rfl H.range .int (.bin (.name rfl) .int .add) (by decide) (by decide) (by omega) (by omega)
  · rw [iotaI_len]; omega
  · have hb := iotaI_mem hi
    exact .one (.cast (.and (q := ((N - i * (i - 1) / 2) % i == 0) && true) (.cmp (.bin (.name rfl) (.bin (.name rfl) .int .sub) (.mul (mulOk (by omega) (by omega)))) (.bin .int (.name rfl) (.mul (mulOk (by decide) (by decide)))) .lt) fun _ =>
      .and (.cmp (.bin (.bin (.name rfl) (.bin (.bin (.name rfl) (.bin (.name rfl) .int .sub) (.mul (mulOk (by omega) (by omega)))) .int (.div (by decide) (by decide))) .sub) (.name rfl) (.mod (by omega))) .int .eq) fun _ => .and_nil) (by rw [Bool.and_true]; rfl))
theorem law_s7 (H : LawG prog w tabs G) (hr : Room A 14) (hL : S.heap.objs.size ≤ L) (F : Facts N) (h1 : 3 ≤ N) (h2 : N ≤ 101) (hns : ns.length ≤ 63) : Xs (lawK prog w tabs G S xs A L f cdv) xs [] (R4 ns N) (lawS 7) LR LT := by
  have hm : OnMain (lawK prog w tabs G S xs A L f cdv) := ⟨rfl, rfl, rfl⟩
  have hA := F.lenA
  have hl := get_lt F.A0
  refine Xs.iff (c := false) (.cast (.or (p := false) (q := false) (.cast (.cmp (.name rfl) (.cmp (.bi hm rfl H.len (.len (by rw [List.length_map]; omega)) (.cons (.name rfl) .nil)) .int .eq) (.neD hr (by decide) rfl rfl)) ?_) fun _ =>
    .cast (.or (p := false) (q := false) (.cast (.cmp (.item (j := (apart N).length - 1) (d := prD ((N + 1) / 2, (N - 1) / 2)) (.name rfl) (.neg .int) (by decide) (by decide) (by rw [List.length_map]; exact idx_last hl) (pair_get F.An))
      (.tup (.cons (.bin (.bin (.name rfl) .int .add) .int (.div (by decide) (by decide))) (.cons (.bin (.bin (.name rfl) .int .sub) .int (.div (by decide) (by decide))) .nil)) (by simp)) (.neD hr (by decide) rfl rfl)) (by rw [eqv_same]; rfl)) fun _ => .or_nil) rfl) rfl) nofun fun _ => Xs.nil (law_s8 H hr hL F h1 h2 hns)
  rw [List.length_map]
  show (! (decide ((apart N).length = 1) == (((apart N).length : Int) == 1))) = false
  by_cases q : (apart N).length = 1
  · rw [q]; rfl
  · rw [decide_eq_false q]
    have : ((((apart N).length : Nat) : Int) == 1) = false := by
      simp only [beq_eq_false_iff_ne, ne_eq]; omega
    rw [this]; rfl
theorem law_s6 (H : LawG prog w tabs G) (hr : Room A 14) (hL : S.heap.objs.size ≤ L) (F : Facts N) (h1 : 3 ≤ N) (h2 : N ≤ 101) (hns : ns.length ≤ 63) : Xs (lawK prog w tabs G S xs A L f cdv) xs [] (R3 ns N) (lawS 6) LR LT := by
  have hm : OnMain (lawK prog w tabs G S xs A L f cdv) := ⟨rfl, rfl, rfl⟩
  have er : rangeL 2 1 (N - 2).toNat = (iotaI 2 (N - 2).toNat).map .int := by rw [range_ints]; rfl
  refine Xs.asg (d := .bool (decide ((apart N).length = 1))) (.cast (.cmp (a := .list ((primeL N).map .int)) (b := .list []) (evCompI (cl := [("number", L + 1)]) (ρ₂ := [("number", .int N)]) (l := iotaI 2 (N - 2).toNat) (fun i => N % i == 0) .int hr.1 ?_ ?_ (csN rfl rfl (by decide) (by decide) ⟨rfl, trivial⟩ ⟨⟨rfl, rfl, rfl, rfl⟩, trivial⟩) rfl (fun _ _ => .inl rfl) (fun i hi S C xs' => ⟨?_, fun _ => .name rfl⟩))
    (.lst .nil (by simp)) (.eqD hr (by decide) F.shP rfl)) (by rw [← F.prime])) (.inl rfl) nofun (law_s7 H hr hL F h1 h2 hns)
  · rw [← er]
    exact Itb.range2 hm rfl H.range .int (.name rfl) (by decide) (by decide) (by omega) (by omega)
  · rw [iotaI_len]; omega
  · have hb := iotaI_mem hi
    exact .one (.cmp (.bin (.name rfl) (.name rfl) (.mod (by omega))) .int .eq)
end
end Mine
end
section
set_option maxHeartbeats 2000000
namespace Mine
open PySem PySem.W PySem.Calls PyProof.Rows
section
variable {prog : Program} {w : World} {tabs : List Tab} {G : Heap} {S : Shared} {xs : List Addr} {A : Around} {L f : Addr} {cdv : Value} {ns : List Int} {N : Int} {r : Nat} {m : Int}
theorem idx0 {n : Nat} (h : 0 < n) : seqIndex? 0 n = some 0 := seqIndex_of (by decide) (by omega)
theorem neq_same (p : Int × Int) : (! PyData.eqv (.tuple [.int p.1, .int p.2]) (prD p)) = false := by
  show (! PyData.eqv (prD p) (prD p)) = false
  rw [eqv_same]; rfl
theorem law_s5 (H : LawG prog w tabs G) (hr : Room A 14) (hL : S.heap.objs.size ≤ L) (F : Facts N) (h1 : 3 ≤ N) (h2 : N ≤ 101) (hns : ns.length ≤ 63) : Xs (lawK prog w tabs G S xs A L f cdv) xs [] (R3 ns N) (lawS 5) LR LT := by
  have hm : OnMain (lawK prog w tabs G S xs A L f cdv) := ⟨rfl, rfl, rfl⟩
  have hl := get_lt F.A0
  refine Xs.iff (c := false) (.cast (.or (p := false) (q := false) (.cast (.cmp (.name rfl) (.tupItem (j := 0) (d := .int (a0 N).1) (.item (j := 0) (d := prD (a0 N)) (.name rfl) .int (by decide) (by decide) (by rw [List.length_map]; exact idx0 hl) (pair_get F.A0)) .int (by decide) (by decide) rfl rfl) .ne) (by simp)) fun _ =>
    .cast (.or (p := false) (q := false) (.cast (.cmp (.tup (.cons (.bin (.name rfl) (.tupItem (j := 1) (d := .int (a0 N).2) (.item (j := 0) (d := prD (a0 N)) (.name rfl) .int (by decide) (by decide) (by rw [List.length_map]; exact idx0 hl) (pair_get F.A0)) .int (by decide) (by decide) rfl rfl) .sub)
        (.cons (.bin (.name rfl) (.tupItem (j := 1) (d := .int (a0 N).2) (.item (j := 0) (d := prD (a0 N)) (.name rfl) .int (by decide) (by decide) (by rw [List.length_map]; exact idx0 hl) (pair_get F.A0)) .int (by decide) (by decide) rfl rfl) .add) .nil)) (by simp))
      (.item (j := (parts N).length - 1) (d := prD ((a0 N).1 - (a0 N).2, (a0 N).1 + (a0 N).2)) (.name rfl) (.neg .int) (by decide) (by decide) (by rw [List.length_map]; exact idx_last F.len1) (pair_get F.Qn)) (.neD hr (by decide) rfl rfl)) (neq_same ((a0 N).1 - (a0 N).2, (a0 N).1 + (a0 N).2))) fun _ => .or_nil) rfl) rfl) nofun fun _ => Xs.nil (law_s6 H hr hL F h1 h2 hns)
theorem law_s4 (H : LawG prog w tabs G) (hr : Room A 14) (hL : S.heap.objs.size ≤ L) (F : Facts N) (h1 : 3 ≤ N) (h2 : N ≤ 101) (hns : ns.length ≤ 63) : Xs (lawK prog w tabs G S xs A L f cdv) xs [] (R2 ns N) (lawS 4) LR LT := by
  have hm : OnMain (lawK prog w tabs G S xs A L f cdv) := ⟨rfl, rfl, rfl⟩
  obtain ⟨fb, gb, hf, hB⟩ := H.bis
  have hslen : ((sqs.map PyData.int).length) = 53 := by decide +kernel
  have er : rangeL 0 1 ((53 : Int)).toNat = (iotaI 0 53).map .int := range_ints _ _
  refine Xs.asg (d := .int (a0 N).1) (.item (j := 0) (evCompI (cl := [("squares", L + 2), ("number", L + 1)]) (ρ₂ := [("number", .int N), ("squares", .list (sqs.map .int))]) (l := iotaI 0 53) (firstP N) .int hr.1 ?_ ?_ (csN rfl rfl (by decide) (by decide) ⟨rfl, rfl, trivial⟩ ⟨⟨rfl, rfl, rfl, rfl⟩, ⟨rfl, rfl, rfl, rfl⟩, trivial⟩) rfl (fun _ _ => .inl rfl) (fun i hi S' C xs' => ⟨?_, fun _ => .name rfl⟩))
    .int (by decide) (by decide) (by rw [List.length_map]; exact idx0 (get_lt F.fst)) (int_get F.fst)) (.inl rfl) nofun (law_s5 H hr hL F h1 h2 hns)
  · rw [← er]
    exact Itb.range1 hm rfl H.range .int (by decide) (by decide)
  · rw [iotaI_len]; decide
  · have hi2 := iotaI_mem hi
    have hb : 0 ≤ bis (i * i - N) ∧ bis (i * i - N) ≤ 53 := bl_range sqs (i * i - N) 53 0 53 (by decide)
    have hB' : Spec prog w tabs G fb [.list (sqs.map .int), .int (i * i - N)] 1 (· = .int (bis (i * i - N))) := by
      have q := hB sqs (i * i - N) (by rw [sqs_len]; decide)
      rw [sqs_len] at q
      exact q
    refine .one (.cast (.and (q := decide (bis (i * i - N) < 53) && (sqs.getD (bis (i * i - N)).toNat 0 == i * i - N && true)) (.cmp (.bin (.name rfl) (.name rfl) (.mul (mulOk (by omega) (by omega)))) (.name rfl) .ge) fun _ =>
      .and (.cmp (EvT.ev (EvT.call (n := 1) ⟨rfl, rfl, rfl⟩ rfl gb hf (hr.mono (by omega)) hB' (.cons (.name rfl) (.cons (.bin (.bin (.name rfl) (.name rfl) (.mul (mulOk (by omega) (by omega)))) (.name rfl) .sub) .nil)))) .int .lt) fun q =>
        .and (.cmp (.item (j := (bis (i * i - N)).toNat) (d := .int (sqs.getD (bis (i * i - N)).toNat 0)) (.name rfl) (EvT.ev (EvT.call (n := 1) ⟨rfl, rfl, rfl⟩ rfl gb hf (hr.mono (by omega)) hB' (.cons (.name rfl) (.cons (.bin (.bin (.name rfl) (.name rfl) (.mul (mulOk (by omega) (by omega)))) (.name rfl) .sub) .nil)))) (by omega) (by omega) ?_ ?_)
          (.bin (.bin (.name rfl) (.name rfl) (.mul (mulOk (by omega) (by omega)))) (.name rfl) .sub) .eq) fun _ => .and_nil) (by rw [Bool.and_true]; rfl))
    · have q := of_decide_eq_true q
      rw [hslen]; exact seqIndex_of (by omega) (by omega)
    · have q := of_decide_eq_true q
      have hlt : (bis (i * i - N)).toNat < sqs.length := by rw [sqs_len]; omega
      rw [List.getElem?_map, List.getD_eq_getElem?_getD, List.getElem?_eq_getElem hlt]; rfl
theorem law_s3 (H : LawG prog w tabs G) (hr : Room A 14) (hL : S.heap.objs.size ≤ L) (F : Facts N) (h1 : 3 ≤ N) (h2 : N ≤ 101) (hns : ns.length ≤ 63) : Xs (lawK prog w tabs G S xs A L f cdv) xs [] (R2 ns N) (lawS 3) LR LT := by
  have hm : OnMain (lawK prog w tabs G S xs A L f cdv) := ⟨rfl, rfl, rfl⟩
  obtain ⟨q0, qr, hQ⟩ : ∃ q0 qr, parts N = q0 :: qr := by
    have := F.len1
    cases h : parts N with
    | nil => rw [h] at this; simp at this
    | cons a b => exact ⟨a, b, rfl⟩
  refine Xs.iff (c := false) (.cast (.or (p := false) (q := false) (.cast (.cmp (.name rfl) (.lst .nil (by simp)) (.eqD hr (by decide) F.shQ rfl)) (by rw [hQ]; rfl)) fun _ =>
    .cast (.or (p := false) (q := false) (.cast (.cmp (.item (j := 0) (d := prD (1, N)) (.name rfl) .int (by decide) (by decide) (by rw [List.length_map]; exact idx0 F.len1) (pair_get F.Q0)) (.tup (.cons .int (.cons (.name rfl) .nil)) (by simp)) (.neD hr (by decide) rfl rfl)) (by rw [eqv_same]; rfl)) fun _ =>
      .cast (.or (p := false) (q := false) (.cast (.cmp (a := .list []) (b := .list []) (.cast (evCompP (cl := [("number", L + 1)]) (ρ₂ := [("number", .int N)]) (l := parts N) (fun q => q.1 * q.2 != N) (fun q => .int q.1) hr.1 (Itb.list (.name rfl)) ?_ (csN rfl rfl (by decide) (by decide) ⟨rfl, trivial⟩ ⟨⟨rfl, rfl, rfl, rfl⟩, trivial⟩) rfl rfl (fun _ _ => .inl rfl) (fun _ _ => .inl rfl) (fun i hi S C xs' => ⟨?_, fun _ => .name rfl⟩)) (by rw [F.bad]; rfl))
        (.lst .nil (by simp)) (.neD hr (by decide) rfl rfl)) rfl) fun _ => .or_nil) rfl) rfl) rfl) nofun fun _ => Xs.nil (law_s4 H hr hL F h1 h2 hns)
  · have := F.len3; omega
  · have hb := parts_mem hi
    exact .one (.cmp (.bin (.name rfl) (.name rfl) (.mul (mulOk (by omega) (by omega)))) (.name rfl) .ne)
theorem law_s2 (H : LawG prog w tabs G) (hr : Room A 14) (hL : S.heap.objs.size ≤ L) (F : Facts N) (h1 : 3 ≤ N) (h2 : N ≤ 101) (hns : ns.length ≤ 63) : Xs (lawK prog w tabs G S xs A L f cdv) xs [] (R2 ns N) (lawS 2) LR LT := by
  have hm : OnMain (lawK prog w tabs G S xs A L f cdv) := ⟨rfl, rfl, rfl⟩
  have er : rangeL 0 1 ((53 : Int)).toNat = (iotaI 0 53).map .int := range_ints _ _
  have hsq : ((iotaI 0 53).filter fun _ => true).map (fun i => PyData.int (i * i)) = sqs.map .int := by
    have e : (iotaI 0 53).map (fun i => i * i) = sqs := by decide +kernel
    rw [filt_all, ← e, List.map_map]; rfl
  have hml : (mids N).length = (parts N).length := by unfold mids; simp
  have f1 := F.len1
  have f3 := F.len3
  refine Xs.iff (c := false) (.cast (.or (p := false) (q := false) (.cast (.cmp (a := .list (sqs.map .int)) (b := .list (sqs.map .int)) (.name rfl) (.cast (evCompI (cl := []) (ρ₂ := []) (l := iotaI 0 53) (fun _ => true) (fun i => .int (i * i)) hr.1 ?_ ?_ (csN rfl rfl (by decide) (by decide) trivial trivial) rfl (fun _ _ => .inl rfl) (fun i hi S C xs' => ⟨.nil, fun _ => ?_⟩)) (by rw [hsq])) (.neD hr (by decide) (by decide +kernel) (by decide +kernel))) (by decide +kernel)) fun _ =>
    .cast (.or (p := false) (q := false) (.cast (.cmp (.sortedPairs (ps := mids N) hm rfl H.sorted (.cast (evCompP (cl := []) (ρ₂ := []) (l := parts N) (fun _ => true) (fun p => prD ((p.1 + p.2) / 2, (p.2 - p.1) / 2)) hr.1 (Itb.list (.name rfl)) ?_ (csN rfl rfl (by decide) (by decide) trivial trivial) rfl rfl (fun _ _ => .inl rfl) (fun _ _ => .inl rfl) (fun i hi S C xs' => ⟨.nil, fun _ => ?_⟩)) (by rw [mids_eq])) (by rw [hml]; omega) (by rw [hml]; omega) F.dec) (.name rfl)
      (.neD hr (by decide) (by rw [F.mid]; exact F.shA) F.shA)) (by rw [F.mid]; show (! PyData.eqvAll _ _) = false; rw [eqv_prs_refl]; rfl)) fun _ => .or_nil) rfl) rfl) nofun fun _ => Xs.nil (law_s3 H hr hL F h1 h2 hns)
  · rw [← er]
    exact Itb.range1 hm rfl H.range .int (by decide) (by decide)
  · rw [iotaI_len]; decide
  · have hb := iotaI_mem hi
    exact .bin (.name rfl) (.name rfl) (.mul (mulOk (by omega) (by omega)))
  · omega
  · exact .tup (.cons (.bin (.bin (.name rfl) (.name rfl) .add) .int (.div (by decide) (by decide))) (.cons (.bin (.bin (.name rfl) (.name rfl) .sub) .int (.div (by decide) (by decide))) .nil)) (by simp)
theorem law_s1 (H : LawG prog w tabs G) (hr : Room A 14) (hL : S.heap.objs.size ≤ L) (F : Facts N) (h1 : 3 ≤ N) (h2 : N ≤ 101) (hns : ns.length ≤ 63) : Xs (lawK prog w tabs G S xs A L f cdv) xs [] (R1 ns N) (lawS 1) LR LT := by
  have hm : OnMain (lawK prog w tabs G S xs A L f cdv) := ⟨rfl, rfl, rfl⟩
  obtain ⟨fa, ga, gf, gs⟩ := H.ap
  obtain ⟨fp, pa, pf, ps⟩ := H.pa
  exact Xs.asgTupS hr.1 (.tup (.cons (EvT.ev (EvT.call (n := 2) hm rfl ga gf (hr.mono (by omega)) (gs N) (.cons (.name rfl) (.cons (.name rfl) .nil)))) (.cons (EvT.ev (EvT.call (n := 13) hm rfl pa pf (hr.mono (by omega)) (ps N (by omega) (by omega)) (.cons (.name rfl) .nil))) .nil)) (by simp))
    (.inl rfl) (.inl rfl) nofun nofun (law_s2 H hr hL F h1 h2 hns)
theorem law_s0 (H : LawG prog w tabs G) (hr : Room A 14) (hL : S.heap.objs.size ≤ L) (hns : ns.length ≤ 63) : Xs (lawK prog w tabs G S xs A L f cdv) xs [] (R0 ns) (lawS 0) LR LT := by
  have hm : OnMain (lawK prog w tabs G S xs A L f cdv) := ⟨rfl, rfl, rfl⟩
  obtain ⟨fq, gq, qf, qs⟩ := H.sq
  have e0 : 0 ≤ ns.sum % 50 := Int.emod_nonneg _ (by decide)
  have e1 : ns.sum % 50 < 50 := Int.emod_lt_of_pos _ (by decide)
  have hN : 3 + 2 * (ns.sum % 50) = nOf (ns.sum % 50).toNat := by unfold nOf; omega
  have F := facts (r := (ns.sum % 50).toNat) (by omega)
  have hb := nOf_b (r := (ns.sum % 50).toNat) (by omega)
  rw [← hN] at F hb
  exact Xs.asgTup hr.1 (.tup (.cons (.bin .int (.bin .int (.bin (.bi hm rfl H.sum (.sumList hr.1) (.cons (.name rfl) .nil)) .int (.mod (by decide))) (.mul (mulOk (by decide) (by decide)))) .add) (.cons (EvT.ev (EvT.call0 (n := 3) hm rfl gq qf (hr.mono (by omega)) qs)) .nil)) (by simp))
    (.inr ⟨rfl, L + 1, rfl, Nat.le_succ_of_le hL⟩) (.inr ⟨rfl, L + 2, rfl, Nat.le_succ_of_le (Nat.le_succ_of_le hL)⟩) nofun nofun (law_s1 H hr hL F hb.1 hb.2 hns)
end
end Mine
end
namespace Mine
open PySem PySem.W PySem.Calls PyProof.Rows

section
variable {K : Frag} {G : Heap} {mg mb : Str → Option Value} {loose : List Str} {mean : ExcName → Option Value} {p : Program}
theorem mg_of (X : K.In G) (g : G.Ns mainGlobals mg) {o : Obj} {es : Array DictEntry} {ep : Nat} (hl : K.lookup mainGlobals = some o) (hd : o.data = .dict es ep) (x : Str) : mg x = nsFind es x := by
  obtain ⟨o', es', ep', e1, e2, _, e4⟩ := g
  rw [X _ _ hl] at e1; cases e1
  rw [hd] at e2; cases e2
  exact (e4 x).symm
theorem gname_of (X : K.In G) (T : Top p loose mean mg mb G) {o : Obj} {es : Array DictEntry} {ep : Nat} (hl : K.lookup mainGlobals = some o) (hd : o.data = .dict es ep) {x : Str} {v : Value} (h : nsFind es x = some v) : GName G x v := ⟨mg, T.g, by rw [mg_of X T.g hl hd, h]⟩
theorem bname_of (X : K.In G) (T : Top p loose mean mg mb G) {o : Obj} {es : Array DictEntry} {ep : Nat} (hl : K.lookup mainGlobals = some o) (hd : o.data = .dict es ep) {x : Str} {v : Value} (h : nsFind es x = none) (hx : x ≠ "__name__") (hb : bootBuiltins x = some v) : BName G x v :=
  ⟨mg, mb, T.g, T.b, by rw [mg_of X T.g hl hd, h], by rw [T.builtins x hx, hb]⟩
theorem tabG_of (T : Top p loose mean mg mb G) {c P : Addr} {pos : Pos} {q : Str} (hd : CodeHd G c P) (hP : G.get? P = none) : TabG G ⟨c, P, pos, q⟩ where
  hd := hd
  main := by
    obtain ⟨bm, ob, b1, b2, b3, b4, b5, b6⟩ := T.bmain
    refine ⟨mg, T.g, bm, ob, b1, b2, fun q => ?_, fun q => ?_, b3, b4, b5, b6⟩
    · obtain ⟨o, es, ep, e, hd, _⟩ := T.g
      rw [← q, b3] at e; cases e
      rw [b6] at hd; cases hd
    · rw [q] at b3
      have : G.get? P = some ob := b3
      rw [hP] at this; cases this
end

/-- what the two modules' functions need of the world -/
structure Mods (G : Heap) (tabs : List Tab) : Prop where
  len : BName G "len" (.builtin "len")
  divmod : BName G "divmod" (.builtin "divmod")
  reversed : BName G "reversed" (.type "reversed")
  limit : ∃ t, GName G "_DIV_LIMIT" (.int 4000 t)
  dv : ∃ f cdv, GName G "_div2n1n" (.ref f) ∧ PySem.W.FnAt f G ∧ FnAt0 G f "_div2n1n" (fParams sDv) (fBody sDv) (fScope sDv) .none .none cdv
  i2d : ∃ f t, GName G "_int2digits" (.ref f) ∧ PySem.W.FnAt f G ∧ FnAt0 G f "_int2digits" (fParams sI2d) (fBody sI2d) (fScope sI2d) .none .none (.ref t.c) ∧ t ∈ tabs ∧ TabG G t ∧ t.qual = qI ∧ t.pos = fPos sInn
  d2i : ∃ f t, GName G "_digits2int" (.ref f) ∧ PySem.W.FnAt f G ∧ FnAt0 G f "_digits2int" (fParams sD2i) (fBody sD2i) (fScope sD2i) .none .none (.ref t.c) ∧ t ∈ tabs ∧ TabG G t ∧ t.qual = qJ ∧ t.pos = fPos sIn2
  dp : ∃ f cdv, GName G "_divmod_pos" (.ref f) ∧ PySem.W.FnAt f G ∧ FnAt0 G f "_divmod_pos" (fParams sDp) (fBody sDp) (fScope sDp) .none .none cdv
  dm : ∃ f cdv, GName G "int_divmod" (.ref f) ∧ PySem.W.FnAt f G ∧ FnAt0 G f "int_divmod" (fParams sDm) (fBody sDm) (fScope sDm) .none .none cdv
  ins : ∃ f dV kV cdv, GName G "insort_left" (.ref f) ∧ PySem.W.FnAt f G ∧ FnAt0 G f "insort_left" (fParams sIns) (fBody sIns) (fScope sIns) dV kV cdv ∧ DfltAt G dV kV
  bis : ∃ f dV kV cdv, GName G "bisect_left" (.ref f) ∧ PySem.W.FnAt f G ∧ FnAt0 G f "bisect_left" (fParams sBis) (fBody sBis) (fScope sBis) dV kV cdv ∧ DfltAt G dV kV
  nd : tabs.Pairwise fun a b => a.P ≠ b.P

/-- their answers -/
structure ModS (prog : Program) (w : World) (tabs : List Tab) (G : Heap) : Prop where
  bis : ∃ f, GName G "bisect_left" (.ref f) ∧ PySem.W.FnAt f G ∧ ∀ a x, a.length ≤ 1000 → Spec prog w tabs G f [.list (a.map .int), .int x] 1 (· = .int (bl a x a.length 0 a.length))
  ins : ∃ f, GName G "insort_left" (.ref f) ∧ PySem.W.FnAt f G ∧ InsSpec prog w tabs G f 2
  i2d : ∃ f, GName G "_int2digits" (.ref f) ∧ PySem.W.FnAt f G ∧ ∀ a n : Int, 0 ≤ a → a < 2 ^ 60 → 1 ≤ n → n ≤ 64 → Spec prog w tabs G f [.int a, .int n] 10 (· = .list ((digitsOf a n).map .int))
  dm : ∃ f, GName G "int_divmod" (.ref f) ∧ PySem.W.FnAt f G ∧ ∀ a b : Int, 0 ≤ a → a < 2 ^ 60 → 0 < b → b < 2 ^ 29 → Spec prog w tabs G f [.int a, .int b] 12 (· = .tuple [.int (a / b), .int (a % b)])

theorem modS_of {prog : Program} {w : World} {tabs : List Tab} {G : Heap} (M : Mods G tabs) : ModS prog w tabs G := by
  obtain ⟨fb, bV, bK, bC, b1, b2, b3, b4⟩ := M.bis
  obtain ⟨fi, iV, iK, iC, i1, i2, i3, i4⟩ := M.ins
  obtain ⟨fv, vC, v1, v2, v3⟩ := M.dv
  obtain ⟨fe, et, e1, e2, e3, e4, e5, e6, e7⟩ := M.i2d
  obtain ⟨fd, dt, d1, d2, d3, d4, d5, d6, d7⟩ := M.d2i
  obtain ⟨fp, pC, p1, p2, p3⟩ := M.dp
  obtain ⟨fm, mC, m1, m2, m3⟩ := M.dm
  have hI := fun a n h1 h2 h3 h4 => i2d_spec (prog := prog) (w := w) e3 e4 M.nd e5 e6 e7 M.len a n h1 h2 h3 h4
  have hP := fun a b h1 h2 h3 h4 => dp_spec (prog := prog) (w := w) (tabs := tabs) p3 M.reversed e1 e2 v1 v2 d1 d2 hI (fun i j n h1 h2 h3 => dv_spec v3 M.limit M.divmod i j n h1 h2 h3)
    (fun N ds h1 h2 h3 h4 h5 => d2i_spec d3 d4 M.nd d5 d6 d7 M.len N h1 h2 ds h3 h4 h5) a b h1 h2 h3 h4
  exact ⟨⟨fb, b1, b2, fun a x h => bis_spec2 b3 b4 M.len a x h⟩, ⟨fi, i1, i2, ins_spec i3 i4 b1 b2 fun a x h => bis_spec4 b3 b4 M.len a x h⟩, ⟨fe, e1, e2, hI⟩, ⟨fm, m1, m2, fun a b h1 h2 h3 h4 => dm_spec m3 p1 p2 hP a b h1 h2 h3 h4⟩⟩

/-- the law's frame, at its start -/
theorem head_fm {s₁ : Shared} {h₁ : Heap} {tk : Nat} {tabs : List Tab} {ps : List (Addr × Addr)} {scope : Scope} {fa : Addr} {cd : Value} {m : Str → Option Value} {news : List (Addr × Obj)} {script : Str} {l : Addr} {vs : List Value} {ns : List Int}
    (hps : ps.map (·.2) = tsOf tabs) (hlt : ∀ x ∈ tsOf tabs, x < s₁.heap.objs.size) (hk : scope.kind = .function) (F : Fr (ghostOf s₁.heap ps) s₁.heap.objs.size h₁ m) (hN : ∀ t ∈ tabs, (t.P, tabObj #[]) ∈ news) (N : News (ghostOf s₁.heap ps) s₁.heap.objs.size h₁ news)
    (hcells : ∀ x c, (cellsFrom (s₁.heap.objs.size + 1) scope.names []).lookup x = some c → scope.names.lookup x = some .cell → s₁.heap.objs.size ≤ c → ∃ o v, (c, o) ∈ news ∧ o.data = .cell v) (hap : ∀ x y c, (cellsFrom (s₁.heap.objs.size + 1) scope.names []).lookup x = some c → (cellsFrom (s₁.heap.objs.size + 1) scope.names []).lookup y = some c → x = y)
    (hl : (ghostOf s₁.heap ps).IsList l vs.toArray) (hi : IntsAre vs ns) (hs : scope.names.lookup script = some .local) (hm : m script = some (.ref l)) :
    Mine.Fm tabs (ghostOf s₁.heap ps) s₁ (tsOf tabs) [] [] (tsOf tabs) (fnEnv scope s₁.heap.objs.size "law" fa cd) [(script, .list (ns.map .int))] [] { s₁ with heap := h₁, toks := tk } where
  kind := hk
  same := ⟨_, _, rfl⟩
  wd := fun b o e => ⟨fun q => (by
    have : (ghostOf s₁.heap ps).get? b = none := hideAll_none _ (hps ▸ q)
    rw [this] at e; cases e), F.keep b o e⟩
  tab := fun t ht => ⟨#[], N.get (hN t ht), trivial, .inl rfl⟩
  base := fun b o hb e => F.keep b o (ghost_ne e (hps ▸ hb))
  lB := Nat.le_refl _
  gB := Nat.le_of_eq (hideAll_size _ _)
  ns := ⟨_, F.ns⟩
  below0 := hlt
  sub0 := fun _ h => h
  alive := fun x h1 h2 => absurd h1 h2
  sub1 := fun _ h => h
  cells := fun x c h1 h2 h3 => let ⟨o, v, h4, h5⟩ := hcells x c h1 h2 h3; ⟨v, o, N.get h4, h5⟩
  apart := hap
  vars := fun x d e => by
    rcases lk_cons e with ⟨rfl, rfl⟩ | e
    · obtain ⟨o, ho, r⟩ := id hl
      refine ⟨.ref l, .list (fun q => ?_) ⟨o, F.keep _ _ ho, r⟩ (.ints hi), .inl ⟨hs, m, F.ns, hm⟩⟩
      have : (ghostOf s₁.heap ps).get? l = none := hideAll_none _ (hps ▸ q)
      rw [this] at ho; cases ho
    · cases e
  muts := fun _ _ _ q => (nomatch q)
  prot := fun _ q => (nomatch q)
  held := fun _ q => (nomatch q)
end Mine
open PySem PySem.W PyProof.Rows
set_option Elab.async false
open PySem.Calls Mine in
set_option maxRecDepth 100000 in
set_option maxHeartbeats 8000000 in
theorem PySem.Challenge.cw_hk0004_03_holds : PySem.Challenge.rw_hk0004_03.Holds := by
  w_on; o_law; k_head; (case hw => w_witness2); w_strict (k_go0; (
    rename_i w s₀ s₁ mg mb GG Y fa o pm cd doc ho hcd hg X V T B TE TW w7 hs hlay0 hL1 hr1 hl2 w6 w5 w4 w3 w2 hL ra w1 r0 hI hr hc1 hc2 hD h₁ tk₁ o1 o2 left right X0 X' T' K' F' cH N' l0
    have c1 : CodeHd (ghostOf s₁.heap [(41, 37), (34, 30)]) 41 37 := cH
    have c2 : CodeHd (ghostOf s₁.heap [(41, 37), (34, 30)]) 34 30 := codeHd
    let tabs3 : List Tab := [⟨41, 37, fPos sIn2, qJ⟩, ⟨34, 30, fPos sInn, qI⟩]
    have MM : Mods (ghostOf s₁.heap [(41, 37), (34, 30)]) tabs3 := {
      len := bname_of X' T' rfl rfl (by with_unfolding_all rfl) (by decide) (by kernel_rfl)
      divmod := bname_of X' T' rfl rfl (by with_unfolding_all rfl) (by decide) (by kernel_rfl)
      reversed := bname_of X' T' rfl rfl (by with_unfolding_all rfl) (by decide) (by kernel_rfl)
      limit := ⟨_, gname_of X' T' rfl rfl (by with_unfolding_all rfl)⟩
      dv := ⟨21, _, gname_of X' T' rfl rfl (by with_unfolding_all rfl), ⟨_, _, _, _, X' 21 _ rfl⟩, ⟨_, _, _, _, _, _, _, X' 21 _ rfl⟩, ⟨20, _, _, _, rfl, X' 20 _ rfl, rfl, rfl⟩, T'.nolimit⟩
      i2d := ⟨35, ⟨34, 30, fPos sInn, qI⟩, gname_of X' T' rfl rfl (by with_unfolding_all rfl), ⟨_, _, _, _, X' 35 _ rfl⟩, ⟨⟨_, _, _, _, _, _, _, X' 35 _ rfl⟩, ⟨34, _, _, _, rfl, X' 34 _ rfl, rfl, rfl⟩, T'.nolimit⟩, .tail _ (.head _), tabG_of T' c2 (hideAll_none _ (by simp)), rfl, rfl⟩
      d2i := ⟨42, ⟨41, 37, fPos sIn2, qJ⟩, gname_of X' T' rfl rfl (by with_unfolding_all rfl), ⟨_, _, _, _, X' 42 _ rfl⟩, ⟨⟨_, _, _, _, _, _, _, X' 42 _ rfl⟩, ⟨41, _, _, _, rfl, X' 41 _ rfl, rfl, rfl⟩, T'.nolimit⟩, .head _, tabG_of T' c1 (hideAll_none _ (by simp)), rfl, rfl⟩
      dp := ⟨49, _, gname_of X' T' rfl rfl (by with_unfolding_all rfl), ⟨_, _, _, _, X' 49 _ rfl⟩, ⟨_, _, _, _, _, _, _, X' 49 _ rfl⟩, ⟨48, _, _, _, rfl, X' 48 _ rfl, rfl, rfl⟩, T'.nolimit⟩
      dm := ⟨56, _, gname_of X' T' rfl rfl (by with_unfolding_all rfl), ⟨_, _, _, _, X' 56 _ rfl⟩, ⟨_, _, _, _, _, _, _, X' 56 _ rfl⟩, ⟨55, _, _, _, rfl, X' 55 _ rfl, rfl, rfl⟩, T'.nolimit⟩
      ins := ⟨65, .ref 57, .ref 58, _, gname_of X' T' rfl rfl (by with_unfolding_all rfl), ⟨_, _, _, _, X' 65 _ rfl⟩, ⟨⟨_, _, _, _, _, _, _, X' 65 _ rfl⟩, ⟨64, _, _, _, rfl, X' 64 _ rfl, rfl, rfl⟩, T'.nolimit⟩, ⟨57, _, _, _, rfl, X' 57 _ rfl, rfl⟩, 58, _, rfl, ⟨_, _, _, X' 58 _ rfl, rfl, by intro e he; simp at he; subst he; exact ⟨_, _, rfl⟩, fun _ => rfl⟩, by with_unfolding_all rfl⟩
      bis := ⟨74, .ref 66, .ref 67, _, gname_of X' T' rfl rfl (by with_unfolding_all rfl), ⟨_, _, _, _, X' 74 _ rfl⟩, ⟨⟨_, _, _, _, _, _, _, X' 74 _ rfl⟩, ⟨73, _, _, _, rfl, X' 73 _ rfl, rfl, rfl⟩, T'.nolimit⟩, ⟨66, _, _, _, rfl, X' 66 _ rfl, rfl⟩, 67, _, rfl, ⟨_, _, _, X' 67 _ rfl, rfl, by intro e he; simp at he; subst he; exact ⟨_, _, rfl⟩, fun _ => rfl⟩, by with_unfolding_all rfl⟩
      nd := by decide }
    have LG : LawG P w tabs3 (ghostOf s₁.heap [(41, 37), (34, 30)]) := by
      have M := modS_of (prog := P) (w := w) MM
      have hrange : BName (ghostOf s₁.heap [(41, 37), (34, 30)]) "range" (.type "range") := bname_of X' T' rfl rfl (by with_unfolding_all rfl) (by decide) (by kernel_rfl)
      have hlen : BName (ghostOf s₁.heap [(41, 37), (34, 30)]) "len" (.builtin "len") := bname_of X' T' rfl rfl (by with_unfolding_all rfl) (by decide) (by kernel_rfl)
      obtain ⟨fi, i1, i2, i3⟩ := M.ins
      obtain ⟨fb, b1, b2, b3⟩ := M.bis
      obtain ⟨fm, m1, m2, m3⟩ := M.dm
      exact {
        sum := bname_of X' T' rfl rfl (by with_unfolding_all rfl) (by decide) (by kernel_rfl)
        range := hrange
        len := hlen
        sorted := bname_of X' T' rfl rfl (by with_unfolding_all rfl) (by decide) (by kernel_rfl)
        abs := bname_of X' T' rfl rfl (by with_unfolding_all rfl) (by decide) (by kernel_rfl)
        sq := ⟨81, gname_of X' T' rfl rfl (by with_unfolding_all rfl), ⟨_, _, _, _, X' 81 _ rfl⟩, sq_spec ⟨⟨_, _, _, _, _, _, _, X' 81 _ rfl⟩, ⟨80, _, _, _, rfl, X' 80 _ rfl, rfl, rfl⟩, T'.nolimit⟩ hrange i1 i2 i3⟩
        ap := ⟨88, gname_of X' T' rfl rfl (by with_unfolding_all rfl), ⟨_, _, _, _, X' 88 _ rfl⟩, fun N => ap_spec ⟨⟨_, _, _, _, _, _, _, X' 88 _ rfl⟩, ⟨87, _, _, _, rfl, X' 87 _ rfl, rfl, rfl⟩, T'.nolimit⟩ hrange hlen b1 b2 b3 N⟩
        pa := ⟨93, gname_of X' T' rfl rfl (by with_unfolding_all rfl), ⟨_, _, _, _, X' 93 _ rfl⟩, fun N h1 h2 => pa_spec ⟨⟨_, _, _, _, _, _, _, X' 93 _ rfl⟩, ⟨92, _, _, _, rfl, X' 92 _ rfl, rfl, rfl⟩, T'.nolimit⟩ hrange m1 m2 m3 N h1 h2⟩
        bis := ⟨fb, b1, b2, b3⟩ }
    have fm : Mine.Fm tabs3 (ghostOf s₁.heap [(41, 37), (34, 30)]) s₁ (tsOf tabs3) [] [] (tsOf tabs3) (fnEnv (fScope sLw) s₁.heap.objs.size "law" fa cd) [("script", .list (w7.map .int))] [] { s₁ with heap := h₁, toks := tk₁ } := by
      refine head_fm rfl ?_ rfl F' ?_ N' ?_ ?_ lifted hI rfl ?_
      · intro x hx
        have hx' : x ∈ ([37, 30] : List Addr) := hx
        simp only [List.mem_cons, List.not_mem_nil, or_false] at hx'
        rcases hx' with rfl | rfl
        · exact l0.1
        · exact l0.2
      · intro t ht
        simp only [tabs3, List.mem_cons, List.not_mem_nil, or_false] at ht
        rcases ht with rfl | rfl <;> simp
      · intro x c h1 h2 h3
        have h1' : List.lookup x [("squares", s₁.heap.objs.size + 1 + 1), ("number", s₁.heap.objs.size + 1)] = some c := h1
        have q := mem_of_lookup h1'
        simp only [List.mem_cons, Prod.mk.injEq, List.not_mem_nil, or_false] at q
        rcases q with ⟨_, rfl⟩ | ⟨_, rfl⟩
        · exact ⟨o1, _, .head _, left⟩
        · exact ⟨o2, _, .tail _ (.head _), right⟩
      · intro x y c h1 h2
        have h1' : List.lookup x [("squares", s₁.heap.objs.size + 1 + 1), ("number", s₁.heap.objs.size + 1)] = some c := h1
        have h2' : List.lookup y [("squares", s₁.heap.objs.size + 1 + 1), ("number", s₁.heap.objs.size + 1)] = some c := h2
        have q := mem_of_lookup h1'
        have q2 := mem_of_lookup h2'
        simp only [List.mem_cons, Prod.mk.injEq, List.not_mem_nil, or_false] at q q2
        rcases q with ⟨rfl, rfl⟩ | ⟨rfl, rfl⟩ <;> rcases q2 with ⟨rfl, q3⟩ | ⟨rfl, q3⟩
        · rfl
        · exact absurd q3 (Nat.succ_ne_self _)
        · exact absurd q3.symm (Nat.succ_ne_self _)
        · rfl
      · rfl
    have R := law_s0 (prog := P) (w := w) (tabs := tabs3) (G := ghostOf s₁.heap [(41, 37), (34, 30)]) (S := s₁) (xs := tsOf tabs3) (A := callerA.deeper (fnEnv (fScope sLw) s₁.heap.objs.size "law" fa cd)) (L := s₁.heap.objs.size) (f := fa) (cdv := cd) (ns := w7) LG ⟨rfl, (by show callerA.depth + 1 + 14 < recursionLimit; decide), (by show callerA.units + 3 + 10 * 14 + 20 < cLine; decide)⟩ (Nat.le_refl _) (by omega)
    refine wm (R _ _ fm) fun fl s' q => ?_
    cases fl with
    | next => obtain ⟨_, _, _, q, _⟩ := q; exact q.elim
    | brk => exact q.elim
    | cont => exact q.elim
    | ret v =>
      obtain ⟨d, e, st, hd⟩ := q
      cases e
      cases hd
      have st : Mine.Step tabs3 (tsOf tabs3) s₁ s' := st
      have tk0 : TabOk tabs3 s₁.heap := fun t ht => by
        simp only [tabs3, List.mem_cons, List.not_mem_nil, or_false] at ht
        rcases ht with rfl | rfl
        · exact ⟨#[], (hT9 (41, 37) (.head _)).2, trivial, .inl rfl⟩
        · exact ⟨#[], (hT9 (34, 30) (.tail _ (.head _))).2, trivial, .inl rfl⟩
      have tk1 := st.tab tk0
      obtain ⟨p1, g1, _⟩ := tk1 _ (.head _)
      obtain ⟨p2, g2, _⟩ := tk1 _ (.tail _ (.head _))
      refine ⟨⟨.inl ⟨_, .bool true, _, rfl, fun _ => rfl, .bool true, (by first | kc_post | wrow_post | kernel_rfl), fun _ => ⟨List.nodup_nil, fun _ h => nomatch h⟩⟩, fun b o e => st.keep b o (fun q => ?_) (of_hideAll _ e), ?_, ?_⟩, ⟨p1, g1⟩, ⟨p2, g2⟩, trivial⟩
      · have e2 : (ghostOf s₁.heap [(41, 37), (34, 30)]).get? b = none := hideAll_none _ q
        rw [e2] at e; cases e
      · obtain ⟨h, tk, e⟩ := st.same
        rw [e]
      · obtain ⟨h, tk, e⟩ := st.same
        rw [e]; exact hg))
