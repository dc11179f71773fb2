import PyProof.Rows.All
import Wide.All
import OpenK.AllK
import Wide.FinOn
import Lean
import PySem.Challenge.RW_rw0077_01
set_option Elab.async false

section
open PySem PyProof.Rows
set_option linter.unusedVariables false
namespace Mine

/-- plain data -/
inductive D where
  | none | bool (b : Bool) | int (i : Int) | str (x : Str)
  | list (xs : List D) | tuple (xs : List D) | range (a b : Int)

/-- all objects of h are kept -/
def Le (h h' : Heap) : Prop := ∀ b o, h.get? b = some o → h'.get? b = some o
theorem Le.refl (h : Heap) : Le h h := fun _ _ e => e
theorem Le.trans {a b c : Heap} (x : Le a b) (y : Le b c) : Le a c := fun q o e => y q o (x q o e)
theorem Le.push (h : Heap) (o : Obj) : Le h (h.push o) := fun _ _ e => Heap.get?_push_of_some o e
theorem Le.sizeLe {h h' : Heap} {a : Addr} {o : Obj} (e : h.get? a = some o) (x : Le h h') : a < h'.objs.size := Heap.lt_size (x a o e)

/-- kept but for the addresses of F -/
def Keep (F : Addr → Prop) (h h' : Heap) : Prop := ∀ b o, h.get? b = some o → ¬ F b → h'.get? b = some o
theorem Keep.refl {F : Addr → Prop} (h : Heap) : Keep F h h := fun _ _ e _ => e
theorem Keep.trans {F : Addr → Prop} {a b c : Heap} (x : Keep F a b) (y : Keep F b c) : Keep F a c := fun q o e n => y q o (x q o e n) n
theorem Le.keep {F : Addr → Prop} {h h' : Heap} (x : Le h h') : Keep F h h' := fun b o e _ => x b o e
theorem Keep.mono {F G : Addr → Prop} {h h' : Heap} (x : Keep F h h') (i : ∀ a, F a → G a) : Keep G h h' := fun b o e n => x b o e fun f => n (i b f)

mutual
/-- the value v stands for the datum; no list or tuple of it lies in W -/
inductive Rep (W : Addr → Prop) (h : Heap) : Value → D → Prop
  | none : Rep W h .none .none
  | bool {b : Bool} : Rep W h (.bool b) (.bool b)
  | int {i : Int} {t : Tok} : Rep W h (.int i t) (.int i)
  | str {x : Str} {t : Tok} : Rep W h (.str x t) (.str x)
  | list {a : Addr} {vs : List Value} {n : Nat} {ds : List D} : ¬ W a → IsL h a vs.toArray n → Reps W h vs ds → Rep W h (.ref a) (.list ds)
  | tuple {a : Addr} {vs : List Value} {n : Nat} {ds : List D} : ¬ W a → IsT h a vs.toArray n → Reps W h vs ds → Rep W h (.ref a) (.tuple ds)
  | range {r : Addr} {a b : Int} {t u v : Tok} : ¬ W r → IsRange h r a b 1 t u v → Rep W h (.ref r) (.range a b)
inductive Reps (W : Addr → Prop) (h : Heap) : List Value → List D → Prop
  | nil : Reps W h [] []
  | cons {v : Value} {vs : List Value} {d : D} {ds : List D} : Rep W h v d → Reps W h vs ds → Reps W h (v :: vs) (d :: ds)
end

/-- objects that a representation looks at -/
def solid (o : Obj) : Prop := (∀ c, o.data ≠ .cell c) ∧ ∀ es n, o.data ≠ .dict es n

theorem Rep.move {W W' : Addr → Prop} {h h' : Heap} (k : ∀ a o, h.get? a = some o → solid o → ¬ W a → h'.get? a = some o ∧ ¬ W' a) :
    ∀ {v : Value} {d : D}, Rep W h v d → Rep W' h' v d := by
  intro v d r
  refine Rep.rec (motive_1 := fun v d _ => Rep W' h' v d) (motive_2 := fun vs ds _ => Reps W' h' vs ds) .none .bool .int .str ?_ ?_ ?_ .nil ?_ r
  · intro a vs n ds nw ho _ ih
    obtain ⟨e, w⟩ := k a _ ho ⟨nofun, nofun⟩ nw
    exact .list w e ih
  · intro a vs n ds nw ho _ ih
    obtain ⟨e, w⟩ := k a _ ho ⟨nofun, nofun⟩ nw
    exact .tuple w e ih
  · intro r a b t u v nw ho
    obtain ⟨e, w⟩ := k r _ ho ⟨nofun, nofun⟩ nw
    exact .range w e
  · intro v vs d ds _ _ ih1 ih2
    exact .cons ih1 ih2
theorem Reps.move {W W' : Addr → Prop} {h h' : Heap} (k : ∀ a o, h.get? a = some o → solid o → ¬ W a → h'.get? a = some o ∧ ¬ W' a) :
    ∀ {vs : List Value} {ds : List D}, Reps W h vs ds → Reps W' h' vs ds
  | _, _, .nil => .nil
  | _, _, .cons a b => .cons (a.move k) (b.move k)
theorem Rep.le {W : Addr → Prop} {h h' : Heap} (x : Le h h') {v : Value} {d : D} (r : Rep W h v d) : Rep W h' v d := r.move fun a o e _ n => ⟨x a o e, n⟩
theorem Reps.le {W : Addr → Prop} {h h' : Heap} (x : Le h h') {v : List Value} {d : List D} (r : Reps W h v d) : Reps W h' v d := r.move fun a o e _ n => ⟨x a o e, n⟩
theorem Reps.length {W : Addr → Prop} {h : Heap} : ∀ {vs : List Value} {ds : List D}, Reps W h vs ds → vs.length = ds.length
  | _, _, .nil => rfl
  | _, _, .cons _ b => congrArg (· + 1) b.length
theorem Reps.get {W : Addr → Prop} {h : Heap} : ∀ {vs : List Value} {ds : List D}, Reps W h vs ds → ∀ {i : Nat} {d : D}, ds[i]? = some d → ∃ v, vs[i]? = some v ∧ Rep W h v d
  | _, _, .nil, i, d, e => by simp at e
  | _, _, .cons a b, 0, d, e => by simp at e; subst e; exact ⟨_, rfl, a⟩
  | _, _, .cons a b, i + 1, d, e => by simp at e; obtain ⟨v, x, y⟩ := b.get e; exact ⟨v, by simpa using x, y⟩
theorem Reps.append {W : Addr → Prop} {h : Heap} : ∀ {vs us : List Value} {ds es : List D}, Reps W h vs ds → Reps W h us es → Reps W h (vs ++ us) (ds ++ es)
  | _, _, _, _, .nil, y => y
  | _, _, _, _, .cons a b, y => .cons a (b.append y)
theorem Reps.take {W : Addr → Prop} {h : Heap} : ∀ {vs : List Value} {ds : List D} (n : Nat), Reps W h vs ds → Reps W h (vs.take n) (ds.take n)
  | _, _, 0, _ => by simpa using .nil
  | _, _, n + 1, .nil => by simpa using .nil
  | _, _, n + 1, .cons a b => by simpa using .cons a (b.take n)
theorem Reps.drop {W : Addr → Prop} {h : Heap} : ∀ {vs : List Value} {ds : List D} (n : Nat), Reps W h vs ds → Reps W h (vs.drop n) (ds.drop n)
  | _, _, 0, x => by simpa using x
  | _, _, n + 1, .nil => by simpa using .nil
  | _, _, n + 1, .cons a b => by simpa using b.drop n
theorem Reps.reverse {W : Addr → Prop} {h : Heap} : ∀ {vs : List Value} {ds : List D}, Reps W h vs ds → Reps W h vs.reverse ds.reverse
  | _, _, .nil => .nil
  | _, _, .cons a b => by simpa using b.reverse.append (.cons a .nil)

/-- what stands before the call -/
structure Base where
  prog : Program
  w : World
  h0 : Heap
  mg : Str → Option Value
  mb : Str → Option Value
  g : h0.Ns mainGlobals mg
  b : h0.Ns builtinsNs mb
  lim : h0.NoLimit
abbrev Base.M (B : Base) : Model := model B.prog B.w

/-- a frame's environment: its kinds of names; it lies above the base -/
structure EnvOk (B : Base) (ns : List (Str × NameKind)) (env : Env) : Prop where
  names : env.scope.names = ns
  kind : env.scope.kind = .function
  globals : env.globals = mainGlobals
  builtins : env.builtins = builtinsNs
  above : B.h0.get? env.locals = none
  cellsAbove : ∀ x c, (x, c) ∈ env.cells → B.h0.get? c = none
  apart : env.cells.Pairwise fun x y => x.2 ≠ y.2
  has : ∀ x, ns.lookup x = some .cell → (env.cells.lookup x).isSome = true

theorem EnvOk.kindOf {B : Base} {ns : List (Str × NameKind)} {env : Env} (x : EnvOk B ns env) (n : Str) : env.kindOf n = ns.lookup n := by
  show env.scope.names.lookup n = _
  rw [x.names]

/-- a frame's own addresses -/
def own (env : Env) (a : Addr) : Prop := a = env.locals ∨ ∃ x, (x, a) ∈ env.cells

/-- the frame's names hold what Γ says -/
structure FrOk (W : Addr → Prop) (h : Heap) (env : Env) (Γ : Str → Option D) : Prop where
  loc : ∃ m, h.Ns env.locals m ∧ ∀ x d, env.kindOf x = some .local → Γ x = some d → ∃ v, m x = some v ∧ Rep W h v d
  cell : ∀ x c, (x, c) ∈ env.cells → ∃ ov, h.IsCell c ov ∧ ∀ d, env.kindOf x = some .cell → env.cells.lookup x = some c → Γ x = some d → ∃ v, ov = some v ∧ Rep W h v d

/-- what must not be met stands -/
def Low (W : Addr → Prop) (h : Heap) : Prop := ∀ a, W a → (h.get? a).isSome = true
theorem Low.le {W : Addr → Prop} {h h' : Heap} (x : Low W h) (l : Le h h') : Low W h' := fun a w => by
  obtain ⟨o, e⟩ := Option.isSome_iff_exists.mp (x a w)
  rw [l a o e]; rfl
theorem Low.new {W : Addr → Prop} {h : Heap} (x : Low W h) : ¬ W h.objs.size := fun w => by
  obtain ⟨o, e⟩ := Option.isSome_iff_exists.mp (x _ w)
  exact Nat.lt_irrefl _ (Heap.lt_size e)
theorem Low.not {W : Addr → Prop} {h : Heap} (x : Low W h) {a : Addr} (e : h.get? a = Option.none) : ¬ W a := fun w => by
  have := x a w
  rw [e] at this; cases this

structure St (B : Base) (W : Addr → Prop) (env : Env) (Γ : Str → Option D) (h : Heap) : Prop where
  base : Le B.h0 h
  low : Low W h
  fr : FrOk W h env Γ

theorem FrOk.le {W : Addr → Prop} {h h' : Heap} {env : Env} {Γ : Str → Option D} (x : FrOk W h env Γ) (l : Le h h') : FrOk W h' env Γ := by
  obtain ⟨⟨m, hn, hv⟩, hc⟩ := x
  refine ⟨⟨m, hn.keeps l, fun y d k g => ?_⟩, fun y c hm => ?_⟩
  · obtain ⟨v, a, b⟩ := hv y d k g
    exact ⟨v, a, b.le l⟩
  · obtain ⟨ov, a, b⟩ := hc y c hm
    refine ⟨ov, a.keeps l, fun d k1 k2 g => ?_⟩
    obtain ⟨v, e, r⟩ := b d k1 k2 g
    exact ⟨v, e, r.le l⟩
theorem Le.size {h h' : Heap} (l : Le h h') {a : Addr} (x : (h.get? a).isSome = true) : a < h'.objs.size := by
  obtain ⟨o, e⟩ := Option.isSome_iff_exists.mp x
  exact Heap.lt_size (l a o e)

/-- room for k frames more -/
structure Room (k : Nat) (A : Around) : Prop where
  quiet : A.handled = Option.none
  deep : A.depth + k ≤ 900
  units : A.units + 8 * k ≤ 9000
theorem Room.less {j k : Nat} {A : Around} (x : Room k A) (h : j ≤ k) : Room j A := ⟨x.quiet, by have := x.deep; omega, by have := x.units; omega⟩
theorem Room.depth {k : Nat} {A : Around} (x : Room k A) : A.depth < recursionLimit := by have := x.deep; show A.depth < 1000; omega
theorem Room.line {k : Nat} {A : Around} (x : Room k A) : A.units < cLine := by have := x.units; show A.units < 9900; omega
theorem Room.line1 {k : Nat} {A : Around} (x : Room k A) : A.in1.units < cLine := by have := x.units; show A.units + 1 < 9900; omega
theorem Room.in1 {k : Nat} {A : Around} (x : Room (k + 1) A) : Room k A.in1 := ⟨x.quiet, by have := x.deep; show A.depth + k ≤ 900; omega, by have := x.units; show A.units + 1 + 8 * k ≤ 9000; omega⟩
theorem Room.deeper {k : Nat} {A : Around} (x : Room (k + 1) A) (env : Env) : Room k (A.deeper env) := ⟨x.quiet, by have := x.deep; show A.depth + 1 + k ≤ 900; omega, by have := x.units; show A.units + 3 + 8 * k ≤ 9000; omega⟩

/-- an expression's value -/
structure Ev (B : Base) (k : Nat) (ns : List (Str × NameKind)) (Γ : Str → Option D) (e : Expr) (d : D) : Prop where
  go : ∀ (A : Around) (env : Env) (s : Shared) (W : Addr → Prop) (Q : Value → Shared → Prop) (E : Value → Shared → Prop), Room k A → EnvOk B ns env → St B W env Γ s.heap →
    (∀ v h' tk, Le s.heap h' → Rep W h' v d → Q v { s with heap := h', toks := tk }) → wpAny B.M A (eval e env) Q E s

/-- a test -/
structure Tr (B : Base) (k : Nat) (ns : List (Str × NameKind)) (Γ : Str → Option D) (e : Expr) (b : Bool) : Prop where
  go : ∀ (A : Around) (env : Env) (s : Shared) (W : Addr → Prop) (Q : Bool → Shared → Prop) (E : Value → Shared → Prop), Room k A → EnvOk B ns env → St B W env Γ s.heap →
    (∀ h' tk, Le s.heap h' → Q b { s with heap := h', toks := tk }) → wpAny B.M A (isTrue e env (eval e env)) Q E s

/-- a call of a value with values -/
structure Fn (B : Base) (k : Nat) (f : Value) (ds : List D) (d : D) : Prop where
  go : ∀ (A : Around) (vs : List Value) (s : Shared) (W : Addr → Prop) (Q : Value → Shared → Prop) (E : Value → Shared → Prop), Room k A → Le B.h0 s.heap → Low W s.heap → Reps W s.heap vs ds →
    (∀ v h' tk, Le s.heap h' → Rep W h' v d → Q v { s with heap := h', toks := tk }) → wpAny B.M A (call f vs) Q E s

theorem St.le {B : Base} {W : Addr → Prop} {env : Env} {Γ : Str → Option D} {h h' : Heap} (x : St B W env Γ h) (l : Le h h') : St B W env Γ h' :=
  ⟨x.base.trans l, x.low.le l, x.fr.le l⟩

end Mine
end

section
open PySem PyProof.Rows
set_option linter.unusedVariables false
namespace Mine

section
variable {B : Base} {k : Nat} {ns : List (Str × NameKind)} {Γ : Str → Option D}

theorem Ev.less {e : Expr} {d : D} {j : Nat} (h : Ev B j ns Γ e d) (hj : j ≤ k) : Ev B k ns Γ e d := .mk fun A env s W Q E R O S K => h.go A env s W Q E (R.less hj) O S K
theorem Tr.less {e : Expr} {d : Bool} {j : Nat} (h : Tr B j ns Γ e d) (hj : j ≤ k) : Tr B k ns Γ e d := .mk fun A env s W Q E R O S K => h.go A env s W Q E (R.less hj) O S K
theorem Fn.less {f : Value} {ds : List D} {d : D} {j : Nat} (h : Fn B j f ds d) (hj : j ≤ k) : Fn B k f ds d := .mk fun A vs s W Q E R => h.go A vs s W Q E (R.less hj)

theorem ev_int {i : Int} {n : Nat} {p : Pos} : Ev B k ns Γ (.Constant (.int i) n p) (.int i) := .mk fun A env s W Q E _ _ _ K =>
  wpAny_Constant_int (K _ s.heap _ (Le.refl _) .int)
theorem ev_str {x : Str} {n : Nat} {p : Pos} : Ev B k ns Γ (.Constant (.str x) n p) (.str x) := .mk fun A env s W Q E _ _ _ K =>
  fun _ _ _ => K _ s.heap _ (Le.refl _) .str
theorem ev_bool {b : Bool} {n : Nat} {p : Pos} : Ev B k ns Γ (.Constant (.bool b) n p) (.bool b) := .mk fun A env s W Q E _ _ _ K =>
  Constant_bool (K _ s.heap s.toks (Le.refl _) .bool)
theorem ev_none {n : Nat} {p : Pos} : Ev B k ns Γ (.Constant .none n p) .none := .mk fun A env s W Q E _ _ _ K =>
  Constant_none (K _ s.heap s.toks (Le.refl _) .none)

theorem ev_local {x : Str} {p : Pos} {d : D} (hk : ns.lookup x = some .local) (hg : Γ x = some d) (hd : (x == ("__debug__" : Str)) = false := by decide) : Ev B k ns Γ (.Name x p) d :=
  .mk fun A env s W Q E _ O S K => by
    obtain ⟨m, hn, hv⟩ := S.fr.loc
    obtain ⟨v, e, r⟩ := hv x d ((O.kindOf x).trans hk) hg
    exact wpAny_Name (wpAny_loadName_local O.kind ((O.kindOf x).trans hk) hn e (K v s.heap s.toks (Le.refl _) r)) hd
theorem ev_cell {x : Str} {p : Pos} {d : D} (hk : ns.lookup x = some .cell) (hg : Γ x = some d) (hd : (x == ("__debug__" : Str)) = false := by decide) : Ev B k ns Γ (.Name x p) d :=
  .mk fun A env s W Q E _ O S K => by
    obtain ⟨c, hc⟩ := Option.isSome_iff_exists.mp (O.has x hk)
    obtain ⟨ov, h1, h2⟩ := S.fr.cell x c (mem_of_lookup hc)
    obtain ⟨v, rfl, r⟩ := h2 d ((O.kindOf x).trans hk) hc hg
    exact wpAny_Name (wpAny_loadName_cell O.kind ((O.kindOf x).trans hk) hc h1 (K v s.heap s.toks (Le.refl _) r)) hd

/-- a binary operation upon data -/
structure Bin (B : Base) (k : Nat) (op : Operator) (a b c : D) : Prop where
  go : ∀ (A : Around) (s : Shared) (W : Addr → Prop) (Q : Value → Shared → Prop) (E : Value → Shared → Prop) (v u : Value), Room k A → Le B.h0 s.heap → Low W s.heap → Rep W s.heap v a → Rep W s.heap u b →
    (∀ v h' tk, Le s.heap h' → Rep W h' v c → Q v { s with heap := h', toks := tk }) → wpAny B.M A (binaryOp op v u) Q E s
structure Cmp (B : Base) (k : Nat) (op : CmpOp) (a b : D) (c : Bool) : Prop where
  go : ∀ (A : Around) (s : Shared) (W : Addr → Prop) (Q : Value → Shared → Prop) (E : Value → Shared → Prop) (v u : Value), Room k A → Le B.h0 s.heap → Low W s.heap → Rep W s.heap v a → Rep W s.heap u b →
    (∀ tk, Q (.bool c) { s with toks := tk }) → wpAny B.M A (compareOp op v u) Q E s

theorem ev_bin {op : Operator} {l r : Expr} {p : Pos} {a b c : D} (h : Bin B k op a b c) (hl : Ev B k ns Γ l a) (hr : Ev B k ns Γ r b) : Ev B k ns Γ (.BinOp l op r p) c :=
  .mk fun A env s W Q E R O S K => wpAny_BinOp (hl.go A env s W _ E R O S fun v h1 t1 l1 r1 => hr.go A env _ W _ E R O (S.le l1) fun u h2 t2 l2 r2 =>
    h.go A _ W _ E v u R (S.base.trans (l1.trans l2)) (S.low.le (l1.trans l2)) (r1.le l2) r2 fun x h3 t3 l3 r3 => K x h3 t3 (l1.trans (l2.trans l3)) r3)

theorem ev_cmp {op : CmpOp} {l r : Expr} {p : Pos} {a b : D} {c : Bool} (h : Cmp B k op a b c) (hl : Ev B k ns Γ l a) (hr : Ev B k ns Γ r b) (hm : behindInMarks op r = false := by with_unfolding_all rfl) :
    Ev B k ns Γ (.Compare l [op] [r] p) (.bool c) :=
  .mk fun A env s W Q E R O S K => wpAny_Compare1 (hl.go A env s W _ E R O S fun v h1 t1 l1 r1 => hr.go A env _ W _ E R O (S.le l1) fun u h2 t2 l2 r2 =>
    h.go A _ W _ E v u R (S.base.trans (l1.trans l2)) (S.low.le (l1.trans l2)) (r1.le l2) r2 fun t3 => K _ h2 t3 (l1.trans l2) .bool) hm
theorem tr_cmp {op : CmpOp} {l r : Expr} {p : Pos} {a b : D} {c : Bool} (h : Cmp B k op a b c) (hl : Ev B k ns Γ l a) (hr : Ev B k ns Γ r b) (hm : behindInMarks op r = false := by with_unfolding_all rfl) :
    Tr B k ns Γ (.Compare l [op] [r] p) c :=
  .mk fun A env s W Q E R O S K => wpAny_isTrue_Compare1 (hl.go A env s W _ E R O S fun v h1 t1 l1 r1 => hr.go A env _ W _ E R O (S.le l1) fun u h2 t2 l2 r2 =>
    h.go A _ W _ E v u R (S.base.trans (l1.trans l2)) (S.low.le (l1.trans l2)) (r1.le l2) r2 fun t3 => wpAny_truthy_bool (K h2 t3 (l1.trans l2))) hm

/-- a chain of two comparisons -/
theorem ev_chain {o1 o2 : CmpOp} {l r q : Expr} {p : Pos} {a b c : D} {x y : Bool} (h1 : Cmp B k o1 a b x) (h2 : x = true → Cmp B k o2 b c y) (hl : Ev B k ns Γ l a) (hr : Ev B k ns Γ r b) (hq : x = true → Ev B k ns Γ q c)
    (hm : lastMarks [o1, o2] [r, q] = false := by with_unfolding_all rfl) : Ev B k ns Γ (.Compare l [o1, o2] [r, q] p) (.bool (x && y)) :=
  .mk fun A env s W Q E R O S K => Compare_chain (hl.go A env s W _ E R O S fun v g1 t1 l1 r1 => chain_link (hr.go A env _ W _ E R O (S.le l1) fun u g2 t2 l2 r2 =>
    h1.go A _ W _ E v u R (S.base.trans (l1.trans l2)) (S.low.le (l1.trans l2)) (r1.le l2) r2 fun t3 => wpAny_truthy_bool (by
      cases x with
      | false => simp only [Bool.false_eq_true, if_false]; exact K _ g2 t3 (l1.trans l2) .bool
      | true => simp only [if_true]; exact chain_last ((hq rfl).go A env _ W _ E R O (S.le (l1.trans l2)) fun z g4 t4 l4 r4 => (h2 rfl).go A _ W _ E u z R (S.base.trans ((l1.trans l2).trans l4)) (S.low.le ((l1.trans l2).trans l4)) (r2.le l4) r4 fun t5 => K _ g4 t5 ((l1.trans l2).trans l4) .bool)))) hm
theorem tr_chain {o1 o2 : CmpOp} {l r q : Expr} {p : Pos} {a b c : D} {x y : Bool} (h1 : Cmp B k o1 a b x) (h2 : x = true → Cmp B k o2 b c y) (hl : Ev B k ns Γ l a) (hr : Ev B k ns Γ r b) (hq : x = true → Ev B k ns Γ q c)
    (hm : lastMarks [o1, o2] [r, q] = false := by with_unfolding_all rfl) : Tr B k ns Γ (.Compare l [o1, o2] [r, q] p) (x && y) :=
  .mk fun A env s W Q E R O S K => isTrue_chain (hl.go A env s W _ E R O S fun v g1 t1 l1 r1 => test_link (hr.go A env _ W _ E R O (S.le l1) fun u g2 t2 l2 r2 =>
    h1.go A _ W _ E v u R (S.base.trans (l1.trans l2)) (S.low.le (l1.trans l2)) (r1.le l2) r2 fun t3 => wpAny_truthy_bool (by
      cases x with
      | false => simp only [Bool.false_eq_true, if_false]; exact K g2 t3 (l1.trans l2)
      | true => simp only [if_true]; exact test_last ((hq rfl).go A env _ W _ E R O (S.le (l1.trans l2)) fun z g4 t4 l4 r4 => (h2 rfl).go A _ W _ E u z R (S.base.trans ((l1.trans l2).trans l4)) (S.low.le ((l1.trans l2).trans l4)) (r2.le l4) r4 fun t5 => wpAny_truthy_bool (K g4 t5 ((l1.trans l2).trans l4)))))) hm

theorem ev_and1 {e : Expr} {p : Pos} {d : D} {op : BoolOp} (h : Ev B k ns Γ e d) : Ev B k ns Γ (.BoolOp op [e] p) d := .mk fun A env s W Q E R O S K => BoolOp_one (h.go A env s W Q E R O S K)
theorem ev_and {e f : Expr} {r : List Expr} {p : Pos} {a b : Bool} (h : Ev B k ns Γ e (.bool a)) (h' : a = true → Ev B k ns Γ (.BoolOp .And (f :: r) p) (.bool b)) : Ev B k ns Γ (.BoolOp .And (e :: f :: r) p) (.bool (a && b)) :=
  .mk fun A env s W Q E R O S K => BoolOp_and (h.go A env s W _ E R O S fun v h1 t1 l1 r1 => by
    cases r1
    refine wpAny_truthy_bool ?_
    cases a with
    | false => simp only [Bool.false_eq_true, if_false]; exact K _ h1 t1 l1 .bool
    | true => simp only [if_true]; exact (h' rfl).go A env _ W _ E R O (S.le l1) fun u h2 t2 l2 r2 => K u h2 t2 (l1.trans l2) r2)
theorem ev_or {e f : Expr} {r : List Expr} {p : Pos} {a b : Bool} (h : Ev B k ns Γ e (.bool a)) (h' : a = false → Ev B k ns Γ (.BoolOp .Or (f :: r) p) (.bool b)) : Ev B k ns Γ (.BoolOp .Or (e :: f :: r) p) (.bool (a || b)) :=
  .mk fun A env s W Q E R O S K => BoolOp_or (h.go A env s W _ E R O S fun v h1 t1 l1 r1 => by
    cases r1
    refine wpAny_truthy_bool ?_
    cases a with
    | true => simp only [if_true]; exact K _ h1 t1 l1 .bool
    | false => simp only [Bool.false_eq_true, if_false]; exact (h' rfl).go A env _ W _ E R O (S.le l1) fun u h2 t2 l2 r2 => K u h2 t2 (l1.trans l2) r2)

theorem tr_and0 {p : Pos} : Tr B k ns Γ (.BoolOp .And [] p) true := .mk fun A env s W Q E R O S K => isTrue_and_nil (K s.heap s.toks (Le.refl _))
theorem tr_or0 {p : Pos} : Tr B k ns Γ (.BoolOp .Or [] p) false := .mk fun A env s W Q E R O S K => isTrue_or_nil (K s.heap s.toks (Le.refl _))
theorem tr_and {e : Expr} {r : List Expr} {p : Pos} {a b : Bool} (h : Tr B k ns Γ e a) (h' : a = true → Tr B k ns Γ (.BoolOp .And r p) b) : Tr B k ns Γ (.BoolOp .And (e :: r) p) (a && b) :=
  .mk fun A env s W Q E R O S K => isTrue_and (h.go A env s W _ E R O S fun h1 t1 l1 => by
    cases a with
    | false => simp only [Bool.false_eq_true, if_false]; exact K h1 t1 l1
    | true => simp only [if_true]; exact (h' rfl).go A env _ W _ E R O (S.le l1) fun h2 t2 l2 => K h2 t2 (l1.trans l2))
theorem tr_or {e : Expr} {r : List Expr} {p : Pos} {a b : Bool} (h : Tr B k ns Γ e a) (h' : a = false → Tr B k ns Γ (.BoolOp .Or r p) b) : Tr B k ns Γ (.BoolOp .Or (e :: r) p) (a || b) :=
  .mk fun A env s W Q E R O S K => isTrue_or (h.go A env s W _ E R O S fun h1 t1 l1 => by
    cases a with
    | true => simp only [if_true]; exact K h1 t1 l1
    | false => simp only [Bool.false_eq_true, if_false]; exact (h' rfl).go A env _ W _ E R O (S.le l1) fun h2 t2 l2 => K h2 t2 (l1.trans l2))
theorem tr_not {e : Expr} {p : Pos} {a : Bool} (h : Tr B k ns Γ e a) : Tr B k ns Γ (.UnaryOp .Not e p) (!a) :=
  .mk fun A env s W Q E R O S K => isTrue_not (h.go A env s W _ E R O S fun h1 t1 l1 => K h1 t1 l1)
/-- a test that is no comparison and no and, or, not -/
theorem tr_of {e : Expr} {a : Bool} (h : Ev B k ns Γ e (.bool a)) (he : ∀ env whole, isTrue e env whole = (do let v ← whole; standAt e.pos; holding [v] (truthy v)) := by intro _ _; rfl) : Tr B k ns Γ e a :=
  .mk fun A env s W Q E R O S K => isTrue_plain (h.go A env s W _ E R O S fun v h1 t1 l1 r1 => by cases r1; exact wpAny_truthy_bool (K h1 t1 l1)) (he env _)

theorem ev_if {t b o : Expr} {p : Pos} {c : Bool} {d : D} (ht : Tr B k ns Γ t c) (hb : c = true → Ev B k ns Γ b d) (ho : c = false → Ev B k ns Γ o d) : Ev B k ns Γ (.IfExp t b o p) d :=
  .mk fun A env s W Q E R O S K => IfExp_ (ht.go A env s W _ E R O S fun h1 t1 l1 => by
    cases c with
    | true => simp only [if_true]; exact (hb rfl).go A env _ W _ E R O (S.le l1) fun u h2 t2 l2 r2 => K u h2 t2 (l1.trans l2) r2
    | false => simp only [Bool.false_eq_true, if_false]; exact (ho rfl).go A env _ W _ E R O (S.le l1) fun u h2 t2 l2 r2 => K u h2 t2 (l1.trans l2) r2)

theorem ev_neg {e : Expr} {p : Pos} {i : Int} (h : Ev B k ns Γ e (.int i)) : Ev B k ns Γ (.UnaryOp .USub e p) (.int (-i)) :=
  .mk fun A env s W Q E R O S K => UnaryOp_ (h.go A env s W _ E R O S fun v h1 t1 l1 r1 => by cases r1; exact PyProof.Rows.neg_int (K _ h1 _ l1 .int))

/-- list displays -/
structure EvL (B : Base) (k : Nat) (ns : List (Str × NameKind)) (Γ : Str → Option D) (es : List Expr) (ds : List D) : Prop where
  go : ∀ (A : Around) (env : Env) (s : Shared) (W : Addr → Prop) (pos : Pos) (Q : List Value → Shared → Prop) (E : Value → Shared → Prop), Room k A → EnvOk B ns env → St B W env Γ s.heap →
    (∀ vs h' tk, Le s.heap h' → Reps W h' vs ds → Q vs { s with heap := h', toks := tk }) → wpAny B.M A (spliced (backTo pos (starEach es env))) Q E s
end
end Mine
end

section
open PySem PyProof.Rows
set_option linter.unusedVariables false
namespace Mine

section
variable {B : Base} {k : Nat} {ns : List (Str × NameKind)} {Γ : Str → Option D}

/-! arithmetic -/
theorem bin_add {a b : Int} : Bin B k .Add (.int a) (.int b) (.int (a + b)) := .mk fun A s W Q E v u _ _ _ r1 r2 K => by
  cases r1; cases r2; exact add_int (K _ s.heap _ (Le.refl _) .int)
theorem bin_sub {a b : Int} : Bin B k .Sub (.int a) (.int b) (.int (a - b)) := .mk fun A s W Q E v u _ _ _ r1 r2 K => by
  cases r1; cases r2; exact sub_int (K _ s.heap _ (Le.refl _) .int)
theorem bin_mod {a b : Int} (hb : b ≠ 0) : Bin B k .Mod (.int a) (.int b) (.int (a.fmod b)) := .mk fun A s W Q E v u _ _ _ r1 r2 K => by
  cases r1; cases r2; exact mod_int' hb (K _ s.heap _ (Le.refl _) .int)
theorem bin_fdiv {a b : Int} (hb : b ≠ 0) (hs : b.natAbs < 1073741824) : Bin B k .FloorDiv (.int a) (.int b) (.int (a.fdiv b)) := .mk fun A s W Q E v u _ _ _ r1 r2 K => by
  cases r1; cases r2; exact floordiv_int hb (K _ s.heap _ (Le.refl _) .int) (.inl (PyProof.noPylong_small hs))

/-! comparisons -/
theorem cmp_eq_int {a b : Int} : Cmp B k .Eq (.int a) (.int b) (a == b) := .mk fun A s W Q E v u _ _ _ r1 r2 K => by
  cases r1; cases r2; exact eq_int (K s.toks)
theorem cmp_ne_int {a b : Int} : Cmp B k .NotEq (.int a) (.int b) (a != b) := .mk fun A s W Q E v u _ _ _ r1 r2 K => by
  cases r1; cases r2; exact ne_int (K s.toks)
theorem cmp_lt_int {a b : Int} : Cmp B k .Lt (.int a) (.int b) (decide (a < b)) := .mk fun A s W Q E v u _ _ _ r1 r2 K => by
  cases r1; cases r2; exact lt_int (K s.toks)
theorem cmp_gt_int {a b : Int} : Cmp B k .Gt (.int a) (.int b) (decide (b < a)) := .mk fun A s W Q E v u _ _ _ r1 r2 K => by
  cases r1; cases r2; exact gt_int (K s.toks)
theorem cmp_le_int {a b : Int} : Cmp B k .LtE (.int a) (.int b) (decide (a ≤ b)) := .mk fun A s W Q E v u _ _ _ r1 r2 K => by
  cases r1; cases r2; exact le_int (K s.toks)
theorem cmp_eq_str {a b : Str} : Cmp B k .Eq (.str a) (.str b) (a == b) := .mk fun A s W Q E v u _ _ _ r1 r2 K => by
  cases r1; cases r2; exact eq_str (K s.toks)
theorem cmp_ne_str {a b : Str} : Cmp B k .NotEq (.str a) (.str b) (a != b) := .mk fun A s W Q E v u _ _ _ r1 r2 K => by
  cases r1; cases r2; exact ne_str (K s.toks)

/-! lists of expressions -/
theorem evl_nil : EvL B k ns Γ [] [] := .mk fun A env s W pos Q E _ _ _ K => args_nil (K [] s.heap s.toks (Le.refl _) .nil)
theorem evl_cons {e : Expr} {es : List Expr} {d : D} {ds : List D} (h : Ev B k ns Γ e d) (h' : EvL B k ns Γ es ds)
    (he : ∀ r env, starEach (e :: r) env = (false, eval e env) :: starEach r env := by intro _ _; rfl) : EvL B k ns Γ (e :: es) (d :: ds) :=
  .mk fun A env s W pos Q E R O S K => args_cons (h.go A env s W _ E R O S fun v h1 t1 l1 r1 => h'.go A env _ W pos _ E R O (S.le l1) fun vs h2 t2 l2 r2 =>
    K _ h2 t2 (l1.trans l2) (.cons (r1.le l2) r2)) (he es env)
theorem EvL.less {es : List Expr} {ds : List D} {j : Nat} (h : EvL B j ns Γ es ds) (hj : j ≤ k) : EvL B k ns Γ es ds := .mk fun A env s W pos Q E R => h.go A env s W pos Q E (R.less hj)

theorem ev_list {es : List Expr} {p : Pos} {ds : List D} (h : EvL B k ns Γ es ds) (hn : ds.length ≤ 1000) : Ev B k ns Γ (.List es p) (.list ds) :=
  .mk fun A env s W Q E R O S K => by
    show wpAny B.M A (standAt p >>= fun _ => spliced (backTo p (starEach es env)) >>= newList) Q E s
    refine wpAny_bind (wpAny_standAt (wpAny_bind (h.go A env s W p _ E R O S fun vs h1 t1 l1 r1 => ?_)))
    have hl := r1.length
    refine wpAny_newObj_type (hd := by show vs.toArray.size ≤ _; rw [List.size_toArray]; exact Nat.le_trans (by omega : vs.length ≤ 1000) (by decide)) ?_
    refine K _ _ _ (l1.trans (Le.push _ _)) (.list (fun w => ?_) (vs := vs) (Heap.get?_push_size _ rfl) (r1.le (Le.push _ _)))
    exact (S.low.le l1).new w
theorem ev_tuple {es : List Expr} {p : Pos} {n : Nat} {ds : List D} (h : EvL B k ns Γ es ds) (hn : ds.length ≤ 1000) : Ev B k ns Γ (.Tuple es n p) (.tuple ds) :=
  .mk fun A env s W Q E R O S K => by
    show wpAny B.M A (standAt p >>= fun _ => spliced (backTo p (starEach es env)) >>= newTuple) Q E s
    refine wpAny_bind (wpAny_standAt (wpAny_bind (h.go A env s W p _ E R O S fun vs h1 t1 l1 r1 => ?_)))
    have hl := r1.length
    refine wpAny_newObj_type (hd := by show vs.toArray.size ≤ _; rw [List.size_toArray]; exact Nat.le_trans (by omega : vs.length ≤ 1000) (by decide)) ?_
    refine K _ _ _ (l1.trans (Le.push _ _)) (.tuple (fun w => ?_) (vs := vs) (Heap.get?_push_size _ rfl) (r1.le (Le.push _ _)))
    exact (S.low.le l1).new w
end
end Mine
end

section
open PySem PyProof.Rows
set_option linter.unusedVariables false
namespace Mine

/-! plain cuts -/
def cut {α : Type} (l : List α) (lo hi : Option Int) : List α :=
  (l.drop (lo.elim 0 (clipAt l.length))).take (hi.elim l.length (clipAt l.length) - lo.elim 0 (clipAt l.length))
theorem cut_len {α : Type} (l : List α) (lo hi : Option Int) : (cut l lo hi).length ≤ l.length := by
  unfold cut; simp only [List.length_take, List.length_drop]; omega
abbrev S (l : List Nat) : D := .str ⟨l.toArray⟩
theorem str_eta (x : Str) : x = ⟨x.cps.toList.toArray⟩ := by cases x; simp

theorem Reps.cut {W : Addr → Prop} {h : Heap} {vs : List Value} {ds : List D} (r : Reps W h vs ds) (lo hi : Option Int) : Reps W h (cut vs lo hi) (cut ds lo hi) := by
  unfold Mine.cut
  rw [r.length]
  exact (r.drop _).take _

theorem indices_plain (lo hi : Option Int) (n : Nat) : Builtin.Str.strSliceIndices lo hi 1 n = (List.range (hi.elim n (clipAt n) - lo.elim 0 (clipAt n))).map (lo.elim 0 (clipAt n) + ·) := by
  have e : Builtin.Str.strSliceIndices lo hi 1 n = sliceRange (sliceBounds lo hi none n).1 (sliceBounds lo hi none n).2.1 1 := by
    cases lo <;> cases hi <;> rfl
  rw [e, sliceBounds_plain, sliceRange_one]
theorem clipAt_le (n : Nat) (i : Int) : clipAt n i ≤ n := by unfold clipAt; omega
theorem elim_clip_le (n : Nat) (o : Option Int) : o.elim n (clipAt n) ≤ n := by cases o; exact Nat.le_refl _; exact clipAt_le _ _
theorem txt_slice (l : List Nat) (lo hi : Option Int) : Txt.slice ⟨l.toArray⟩ lo hi = ⟨(cut l lo hi).toArray⟩ := by
  have key : ((Builtin.Str.strSliceIndices lo hi 1 l.length).filterMap (l.toArray[·]?)) = cut l lo hi := by
    rw [indices_plain, pick_run]; simp [cut]
  unfold Txt.slice
  have hl : (⟨l.toArray⟩ : Str).length = l.length := by simp [Str.length]
  rw [hl]
  split
  · rename_i h
    rw [Bool.and_eq_true] at h
    have h2 : (Builtin.Str.strSliceIndices lo hi 1 l.length).length = l.length := by simpa using h.2
    have : (cut l lo hi).length = l.length := by
      rw [indices_plain] at h2
      simp only [List.length_map, List.length_range] at h2
      unfold cut
      simp only [List.length_take, List.length_drop]
      have := elim_clip_le l.length hi
      omega
    have e2 : cut l lo hi = l := by
      unfold cut at this ⊢
      generalize lo.elim 0 (clipAt l.length) = a at this ⊢
      generalize hi.elim l.length (clipAt l.length) = b at this ⊢
      simp only [List.length_take, List.length_drop] at this
      by_cases h0 : a = 0
      · subst h0; rw [List.drop_zero, List.take_of_length_le (by omega)]
      · have : l.length = 0 := by omega
        have : l = [] := List.eq_nil_of_length_eq_zero this
        subst this; simp
    rw [e2]
  · rw [key]
theorem txt_rev (l : List Nat) (u : Tok) : Txt.sliceBy ⟨l.toArray⟩ none none (-1, u) = ⟨l.reverse.toArray⟩ := by
  have h := step_rev_list ⟨l.toArray⟩ u
  have e : (⟨l.toArray⟩ : Str).length = l.length := by simp [Str.length]
  rw [e] at h
  have : (Txt.sliceBy ⟨l.toArray⟩ none none (-1, u)).cps.toList = l.reverse := by
    rw [h]
    apply List.ext_getElem
    · simp
    · intro i h1 h2
      simp only [List.length_map, List.length_range] at h1
      simp only [List.getElem_map, List.getElem_range, List.getElem_reverse]
      rw [Array.getD_eq_getD_getElem?]
      simp
      rw [List.getElem?_eq_getElem (by omega)]
      rfl
  rw [str_eta (Txt.sliceBy _ _ _ _), this]

section
variable {B : Base} {k : Nat} {ns : List (Str × NameKind)} {Γ : Str → Option D}

theorem sub_ops (slice : Expr) (o i : Value) : ∃ ops, subscripted slice false o i = operate ops (getItem o i) := by
  unfold subscripted
  split <;> first | exact ⟨_, rfl⟩ | (rename_i h; cases h)
theorem tail_of {prog : Program} {w : World} {A : Around} {E : Value → Shared → Prop} {s : Shared} {value slice : Expr} {o i : Value} {T id : String} {Q : Value → Shared → Prop} (hT : s.TypeIs o T)
    (hl : typeLookup (.type T) "__getitem__" = pure (some (.builtin id))) (hg : wpAny (model prog w) A (getItem o i) Q E s) : wpAny (model prog w) A (subscriptTail value slice o i) Q E s := by
  obtain ⟨ops, e⟩ := sub_ops slice o i
  exact tail_any hT hl hg e

theorem IsL.isList' {h : Heap} {l : Addr} {items : Array Value} {n : Nat} (x : IsL h l items n) : h.IsList l items := ⟨_, x, rfl, n, rfl⟩
theorem IsT.isTuple' {h : Heap} {l : Addr} {items : Array Value} {n : Nat} (x : IsT h l items n) : h.IsTuple l items := ⟨_, x, rfl, n, rfl⟩

/-- an item of a list -/
theorem ev_item {e i : Expr} {p : Pos} {ds : List D} {j : Int} {d : D} (he : Ev B k ns Γ e (.list ds)) (hi : Ev B k ns Γ i (.int j)) (h0 : 0 ≤ j) (hd : ds[j.toNat]? = some d) (hf : j < 2 ^ 63) :
    Ev B k ns Γ (.Subscript e i p) d :=
  .mk fun A env s W Q E R O S K => Subscript_ (he.go A env s W _ E R O S fun v h1 t1 l1 r1 => hi.go A env _ W _ E R O (S.le l1) fun u h2 t2 l2 r2 => by
    cases r1 with | list nw hl rs =>
    cases r2 with | int =>
    obtain ⟨x, hx, rx⟩ := rs.get hd
    have hl2 := IsL.isList' (l2 _ _ hl)
    exact tail_of (Heap.IsList.typeIs (s := { s with heap := h2, toks := t2 }) hl2) slot_list_getitem.lookup
      (wpAny_getItem_list (s := { s with heap := h2, toks := t2 }) hl2 h0 hf (by simpa using hx) (K x h2 t2 (l1.trans l2) (rx.le l2))))

/-- a part of a slice -/
def EvO (B : Base) (k : Nat) (ns : List (Str × NameKind)) (Γ : Str → Option D) : Option Expr → Option Int → Prop
  | none, o => o = none
  | some e, o => ∃ i, o = some i ∧ Ev B k ns Γ e (.int i)
theorem EvO.run {o : Option Expr} {i : Option Int} (h : EvO B k ns Γ o i) {A : Around} {env : Env} {s : Shared} {W : Addr → Prop} {Q : Value → Shared → Prop} {E : Value → Shared → Prop}
    (R : Room k A) (O : EnvOk B ns env) (S : St B W env Γ s.heap) (K : ∀ v h' tk, Le s.heap h' → (∃ q : Option (Int × Tok), q.map (·.1) = i ∧ v = partValue q) → Q v { s with heap := h', toks := tk }) : wpAny B.M A (evalPart o env) Q E s := by
  cases o with
  | none =>
    have h : i = none := h
    subst h
    exact evalPart_none_step (K _ s.heap s.toks (Le.refl _) ⟨none, rfl, rfl⟩)
  | some e =>
    obtain ⟨j, rfl, h⟩ := h
    exact evalPart_some_step (h.go A env s W _ E R O S fun v h1 t1 l1 r1 => by cases r1; exact K _ h1 t1 l1 ⟨some (_, _), rfl, rfl⟩)
theorem evo_none : EvO B k ns Γ none none := rfl
theorem evo_some {e : Expr} {i : Int} (h : Ev B k ns Γ e (.int i)) : EvO B k ns Γ (some e) (some i) := ⟨i, rfl, h⟩

theorem isPart_of {q : Option (Int × Tok)} : IsPart (partValue q) (q.map (·.1)) := by
  rcases q with _ | ⟨i, t⟩
  · exact .none
  · exact .int i t

theorem ev_cut_list {e : Expr} {lo hi : Option Expr} {p q : Pos} {ds : List D} {a b : Option Int} (he : Ev B k ns Γ e (.list ds)) (hl : EvO B k ns Γ lo a) (hh : EvO B k ns Γ hi b) (hn : ds.length ≤ 1000) :
    Ev B k ns Γ (.Subscript e (.Slice lo hi none p) q) (.list (cut ds a b)) :=
  .mk fun A env s W Q E R O S K => Subscript_ (he.go A env s W _ E R O S fun v h1 t1 l1 r1 => wpAny_Slice (hl.run R O (S.le l1) fun vl h2 t2 l2 hvl => hh.run R O (S.le (l1.trans l2)) fun vh h3 t3 l3 hvh => evalPart_none_step (by
    cases r1 with | list nw hL rs =>
    obtain ⟨ql, rfl, rfl⟩ := hvl
    obtain ⟨qh, rfl, rfl⟩ := hvh
    rename_i a vs n
    have hp := Le.push h3 { cls := .type "slice", data := .fields #[partValue ql, partValue qh, .none] }
    have hL3 := IsL.isList' (hp _ _ ((l2.trans l3) _ _ hL))
    have hlen := rs.length
    refine tail_of (Heap.IsList.typeIs (s := { s with heap := h3.push { cls := .type "slice", data := .fields #[partValue ql, partValue qh, .none] }, toks := t3 }) hL3) slot_list_getitem.lookup
      (wpAny_getItem_list_slice (s := { s with heap := h3.push { cls := .type "slice", data := .fields #[partValue ql, partValue qh, .none] }, toks := t3 }) hL3 (Heap.IsSliceOf.new ..) isPart_of isPart_of .none (by simp) ?_ (by rw [List.size_toArray]; exact Nat.le_trans (by omega : vs.length ≤ 1000) (by decide)))
    refine K _ _ _ (((l1.trans l2).trans l3).trans (hp.trans (Le.push _ _))) (.list (vs := cut vs (ql.map (·.1)) (qh.map (·.1))) (fun w => ?_) (n := 0) ?_ ?_)
    · exact ((((S.le l1).le l2).le l3).low.le hp).new w
    · rw [slicePick_plain]
      simp only [List.size_toArray]
      exact Heap.get?_push_size _ rfl
    · exact ((rs.le (l2.trans l3)).le (hp.trans (Le.push _ _))).cut _ _)))
theorem ev_rev_list {e me : Expr} {p q : Pos} {ds : List D} (he : Ev B k ns Γ e (.list ds)) (hm : Ev B k ns Γ me (.int (-1))) (hn : ds.length ≤ 1000) :
    Ev B k ns Γ (.Subscript e (.Slice none none (some me) p) q) (.list ds.reverse) :=
  .mk fun A env s W Q E R O S K => Subscript_ (he.go A env s W _ E R O S fun v h1 t1 l1 r1 => wpAny_Slice (evalPart_none_step (evalPart_none_step (evalPart_some_step (hm.go A env _ W _ E R O (S.le l1) fun vm h3 t3 l2 rm => by
    cases r1 with | list nw hL rs =>
    cases rm
    rename_i a vs n tk
    have hp := Le.push h3 { cls := .type "slice", data := .fields #[.none, .none, .int (-1) tk] }
    have hL3 := IsL.isList' (hp _ _ (l2 _ _ hL))
    have hlen := rs.length
    refine tail_of (Heap.IsList.typeIs (s := { s with heap := h3.push { cls := .type "slice", data := .fields #[.none, .none, .int (-1) tk] }, toks := t3 }) hL3) slot_list_getitem.lookup
      (wpAny_getItem_list_slice (s := { s with heap := h3.push { cls := .type "slice", data := .fields #[.none, .none, .int (-1) tk] }, toks := t3 }) hL3 (Heap.IsSliceOf.new ..) .none .none (.int (-1) tk) (by decide) ?_ (by rw [List.size_toArray]; exact Nat.le_trans (by omega : vs.length ≤ 1000) (by decide)))
    refine K _ _ _ ((l1.trans l2).trans (hp.trans (Le.push _ _))) (.list (vs := vs.reverse) (fun w => ?_) (n := 0) ?_ ?_)
    · exact (((S.le l1).le l2).low.le hp).new w
    · rw [PySem.W.krv_pick]
      exact Heap.get?_push_size _ rfl
    · exact ((rs.le l2).le (hp.trans (Le.push _ _))).reverse)))))

theorem ev_cut_str {e : Expr} {lo hi : Option Expr} {p q : Pos} {l : List Nat} {a b : Option Int} (he : Ev B k ns Γ e (S l)) (hl : EvO B k ns Γ lo a) (hh : EvO B k ns Γ hi b) (hn : l.length ≤ 1000) :
    Ev B k ns Γ (.Subscript e (.Slice lo hi none p) q) (S (cut l a b)) :=
  .mk fun A env s W Q E R O S K => Subscript_ (he.go A env s W _ E R O S fun v h1 t1 l1 r1 => wpAny_Slice (hl.run R O (S.le l1) fun vl h2 t2 l2 hvl => hh.run R O (S.le (l1.trans l2)) fun vh h3 t3 l3 hvh => evalPart_none_step (by
    cases r1 with | str =>
    obtain ⟨ql, rfl, rfl⟩ := hvl
    obtain ⟨qh, rfl, rfl⟩ := hvh
    have hp := Le.push h3 { cls := .type "slice", data := .fields #[partValue ql, partValue qh, .none] }
    refine tail_of (T := "str") (typeIs_str _ _ _) F.slot_str_getitem.lookup
      (wpAny_getItem_str_slice (l := ql) (u := qh) (st := none) ⟨_, Heap.get?_push_size _ rfl, rfl, rfl⟩ rfl ?_)
    refine post_val_or_str ?_
    show (Txt.slice ⟨l.toArray⟩ (ql.map (·.1)) (qh.map (·.1))).length ≤ sizeLine ∧ ∀ t' k, Q (.str (Txt.slice ⟨l.toArray⟩ (ql.map (·.1)) (qh.map (·.1))) t') _
    rw [txt_slice]
    refine ⟨?_, fun t' k => K _ _ _ (((l1.trans l2).trans l3).trans hp) .str⟩
    have := cut_len l (ql.map (·.1)) (qh.map (·.1))
    show (cut l _ _).toArray.size ≤ _
    rw [List.size_toArray]
    exact Nat.le_trans (by omega : _ ≤ 1000) (by decide))))
theorem ev_rev_str {e me : Expr} {p q : Pos} {l : List Nat} (he : Ev B k ns Γ e (S l)) (hm : Ev B k ns Γ me (.int (-1))) (hn : l.length ≤ 1000) :
    Ev B k ns Γ (.Subscript e (.Slice none none (some me) p) q) (S l.reverse) :=
  .mk fun A env s W Q E R O S K => Subscript_ (he.go A env s W _ E R O S fun v h1 t1 l1 r1 => wpAny_Slice (evalPart_none_step (evalPart_none_step (evalPart_some_step (hm.go A env _ W _ E R O (S.le l1) fun vm h3 t3 l2 rm => by
    cases r1 with | str =>
    cases rm
    rename_i tk0 tk
    have hp := Le.push h3 { cls := .type "slice", data := .fields #[.none, .none, .int (-1) tk] }
    refine tail_of (T := "str") (typeIs_str _ _ _) F.slot_str_getitem.lookup
      (wpAny_getItem_str_slice (l := none) (u := none) (st := some (-1, tk)) ⟨_, Heap.get?_push_size _ rfl, rfl, rfl⟩ rfl ?_)
    refine post_val_or_str ?_
    show (Txt.sliceBy ⟨l.toArray⟩ none none (-1, tk)).length ≤ sizeLine ∧ ∀ t' k, Q (.str (Txt.sliceBy ⟨l.toArray⟩ none none (-1, tk)) t') _
    rw [txt_rev]
    refine ⟨?_, fun t' k => K _ _ _ ((l1.trans l2).trans hp) .str⟩
    show (l.reverse).toArray.size ≤ _
    rw [List.size_toArray, List.length_reverse]
    exact Nat.le_trans hn (by decide))))))

/-- a sign of a text -/
theorem ev_sign {e i : Expr} {p : Pos} {l : List Nat} {j : Int} {c : Nat} (he : Ev B k ns Γ e (S l)) (hi : Ev B k ns Γ i (.int j)) (hj : (seqIndex? j l.length).bind (l[·]?) = some c)
    (h1 : -(2 ^ 63 : Int) ≤ j) (h2 : j < 2 ^ 63) : Ev B k ns Γ (.Subscript e i p) (S [c]) :=
  .mk fun A env s W Q E R O S K => Subscript_ (he.go A env s W _ E R O S fun v h1' t1 l1 r1 => hi.go A env _ W _ E R O (S.le l1) fun u h2' t2 l2 r2 => by
    cases r1 with | str =>
    cases r2 with | int =>
    refine tail_of (T := "str") (typeIs_str _ _ _) F.slot_str_getitem.lookup (P.getItem_str (c := c) ?_ ?_ (K _ h2' _ (l1.trans l2) .str))
    · have a1 : ¬ j < -(2 ^ 63 : Int) := by omega
      have a2 : ¬ j ≥ 2 ^ 63 := by omega
      rw [decide_eq_false a1, decide_eq_false a2]; rfl
    · have : (⟨l.toArray⟩ : Str).length = l.length := by simp [Str.length]
      rw [this]; simpa using hj)
end
end Mine
end

section
open PySem PyProof.Rows
set_option maxRecDepth 20000
set_option linter.unusedVariables false
namespace Mine

abbrev dI (l : List Int) : List D := l.map D.int
abbrev dS (l : List (List Nat)) : List D := l.map S

theorem Reps.intsAre {W : Addr → Prop} {h : Heap} : ∀ {vs : List Value} {l : List Int}, Reps W h vs (dI l) → IntsAre vs l
  | [], [], _ => .nil
  | _ :: _, [], r => by cases r
  | [], _ :: _, r => by cases r
  | v :: vs, a :: l, r => by
    cases r with | cons r1 r2 =>
    cases r1
    exact .cons _ _ r2.intsAre
theorem Reps.strVals {W : Addr → Prop} {h : Heap} : ∀ {vs : List Value} {l : List (List Nat)}, Reps W h vs (dS l) → ∃ q : List (Str × Tok), vs = strValues q ∧ q.map (·.1) = l.map fun x => ⟨x.toArray⟩
  | [], [], _ => ⟨[], rfl, rfl⟩
  | _ :: _, [], r => by cases r
  | [], _ :: _, r => by cases r
  | v :: vs, a :: l, r => by
    cases r with | cons r1 r2 =>
    cases r1
    obtain ⟨q, e1, e2⟩ := r2.strVals
    exact ⟨(_, _) :: q, by rw [e1]; rfl, by rw [List.map_cons, e2]; rfl⟩

section
variable {B : Base} {k : Nat} {ns : List (Str × NameKind)} {Γ : Str → Option D}

def Base.glob (B : Base) (x : Str) (v : Value) : Prop := B.mg x = some v ∨ (B.mg x = none ∧ B.mb x = some v)
theorem name_glob {A : Around} {env : Env} {s : Shared} {W : Addr → Prop} {x : Str} {v : Value} {p : Pos} {Q : Value → Shared → Prop} {E : Value → Shared → Prop} (O : EnvOk B ns env) (S : St B W env Γ s.heap)
    (hx : ns.lookup x = some .globalImplicit) (hv : B.glob x v) (hd : (x == ("__debug__" : Str)) = false) (K : Q v s) : wpAny B.M A (eval (.Name x p) env) Q E s := by
  refine Calls.Name_function_global O.kind ((O.kindOf x).trans hx) ?_ hd
  have g := (B.g.keeps S.base)
  have b := (B.b.keeps S.base)
  rcases hv with hv | ⟨h1, h2⟩
  · exact Calls.loadGlobal_global (by rw [O.globals]; exact g) hv K
  · exact Calls.loadGlobal_builtin (by rw [O.globals]; exact g) h1 (by rw [O.builtins]; exact b) h2 K

/-- what may be called -/
inductive Callee (B : Base) : Value → Prop
  | builtin (id : String) : Callee B (.builtin id)
  | type (T : String) : Callee B (.type T)
  | func {a : Addr} {o : Obj} {fd : FuncData} : B.h0.get? a = some o → o.data = .func fd → Callee B (.ref a)

/-- a list of expressions with no star -/
def Plain (es : List Expr) : Prop := ∀ env, (starEach es env).any (·.1) = false
theorem plain_nil : Plain [] := fun _ => rfl
theorem plain_cons {e : Expr} {es : List Expr} (h : Plain es) (he : ∀ r env, starEach (e :: r) env = (false, eval e env) :: starEach r env := by intro _ _; rfl) : Plain (e :: es) := fun env => by
  rw [he, List.any_cons, h env]; rfl
theorem backTo_any {p : Pos} : ∀ l : List (Bool × Sem Value), (backTo p l).any (·.1) = l.any (·.1)
  | [] => rfl
  | (b, t) :: l => by
    have := backTo_any (p := p) l
    unfold backTo at this ⊢
    rw [List.map_cons, List.any_cons, List.any_cons, this]
theorem backTo_false {p : Pos} : ∀ l : List (Bool × Sem Value), l.any (·.1) = false → backTo p l = l
  | [], _ => rfl
  | (b, t) :: l, h => by
    rw [List.any_cons, Bool.or_eq_false_iff] at h
    have := backTo_false (p := p) l h.2
    have hb : b = false := h.1
    subst hb
    unfold backTo at this ⊢
    rw [List.map_cons, this]; rfl

theorem evalArgs_of {M : Model} {A : Around} {E : Value → Shared → Prop} {s : Shared} {f : Value} {l : List (Bool × Sem Value)} {Q : Args → Shared → Prop} (hl : l.any (·.1) = false)
    (h : wpAny M A (spliced l) (fun vs s' => Q ⟨vs, []⟩ s') E s) : wpAny M A (evalArgs f true l []) Q E s := by
  cases l with
  | nil =>
    unfold evalArgs
    show wpAny M A (spliced [] >>= _) Q E s
    refine wpAny_bind (wpAny_mono h (fun vs s' h' => wpAny_bind (wpAny_pure ?_)) fun _ _ x => x)
    refine wpAny_holding ?_
    exact wpAny_bind (wpAny_pure (wpAny_bind (wpAny_pure (wpAny_pure h'))))
  | cons x l =>
    obtain ⟨b, t⟩ := x
    have hb : b = false := (Bool.or_eq_false_iff.mp (by rw [List.any_cons] at hl; exact hl)).1
    subst hb
    exact Calls.evalArgs_plain h

theorem callWith_of {A : Around} {E : Value → Shared → Prop} {s : Shared} {f : Value} {first : List Value} {l : List (Bool × Sem Value)} {p : Pos} {Q : Value → Shared → Prop} (hf : Callee B f) (hb : ∀ {h : Heap}, Le s.heap h → Le B.h0 h) (hl : l.any (·.1) = false)
    (h : wpAny B.M A (spliced l) (fun vs s' => Le s.heap s'.heap ∧ wpAny B.M A (call f (first ++ vs)) Q E s') E s) : wpAny B.M A (callWith p f first l []) Q E s := by
  cases hf with
  | builtin id => exact Calls.callWith_builtin hl (evalArgs_of hl (wpAny_mono h (fun _ _ x => x.2) fun _ _ x => x))
  | type T => exact PyProof.Rows.callWith_type hl (evalArgs_of hl (wpAny_mono h (fun _ _ x => x.2) fun _ _ x => x))
  | func ho hd => exact Calls.callWith_function (evalArgs_of hl (wpAny_mono h (fun _ _ x => ⟨⟨hb x.1 _ _ ho, hd⟩, x.2⟩) fun _ _ x => x))

theorem ev_call {f : Str} {fv : Value} {es : List Expr} {ds : List D} {d : D} {p q : Pos} (hx : ns.lookup f = some .globalImplicit) (hv : B.glob f fv) (hc : Callee B fv) (hf : Fn B k fv ds d) (ha : EvL B k ns Γ es ds)
    (hp : Plain es) (hd : (f == ("__debug__" : Str)) = false := by decide) : Ev B k ns Γ (.Call (.Name f p) es [] q) d :=
  .mk fun A env s W Q E R O S K => Call_Name rfl (name_glob O S hx hv hd (callWith_of hc (fun l => S.base.trans l) ((backTo_any _).trans (hp env)) (ha.go A env s W q _ E R O S fun vs h1 t1 l1 r1 =>
    ⟨l1, by
      rw [List.nil_append]
      exact hf.go A vs _ W Q E R (S.base.trans l1) (S.low.le l1) r1 fun v h2 t2 l2 r2 => K v h2 t2 (l1.trans l2) r2⟩)))

/-- a method of a value -/
structure Meth (B : Base) (d : D) (name : Str) (f : Value) : Prop where
  go : ∀ (A : Around) (s : Shared) (W : Addr → Prop) (pl : Sem Bool) (Q : Value × List Value → Shared → Prop) (E : Value → Shared → Prop) (v : Value), Rep W s.heap v d → Q (f, [v]) s → wpAny B.M A (getMethod v name pl) Q E s
theorem ev_meth {e : Expr} {name : Str} {f : Value} {es : List Expr} {ds : List D} {d r : D} {p q : Pos} (he : Ev B k ns Γ e d) (hm : Meth B d name f) (hc : Callee B f) (hf : Fn B k f (d :: ds) r) (ha : EvL B k ns Γ es ds) (hp : Plain es)
    (hs : ∀ env, ∃ pl, eval (.Call (.Attribute e name p) es [] q) env = (do
      let ov ← eval e env
      standAt p.atName
      let (f, first) ← holding [ov] (getMethod ov name pl)
      callWith q f first (backTo q (starEach es env)) []) := by intro _; exact ⟨_, rfl⟩) : Ev B k ns Γ (.Call (.Attribute e name p) es [] q) r :=
  .mk fun A env s W Q E R O S K => by
    obtain ⟨pl, hs⟩ := hs env
    exact MethodCall_ (pl := pl) (he.go A env s W _ E R O S fun v h1 t1 l1 r1 => hm.go A _ W pl _ E v r1 (callWith_of hc (fun l => S.base.trans (l1.trans l)) ((backTo_any _).trans (hp env))
      (ha.go A env _ W q _ E R O (S.le l1) fun vs h2 t2 l2 r2 => ⟨l2, hf.go A (v :: vs) _ W Q E R (S.base.trans (l1.trans l2)) (S.low.le (l1.trans l2)) (.cons (r1.le l2) r2) fun u h3 t3 l3 r3 => K u h3 t3 ((l1.trans l2).trans l3) r3⟩))) hs

theorem meth_str {x : Str} {name : Str} {id : String} (slot : Slot "str" name id) (hty : typeOf (.builtin id) = pure (.type "method_descriptor")) : Meth B (.str x) name (.builtin id) := .mk fun A s W pl Q E v r K => by
  cases r
  exact getMethod_builtin (typeIs_str _ _ _) PySem.F.plainAttrs_str slot hty (fun a e => by cases e) K
theorem meth_list {ds : List D} {name : Str} {id : String} (slot : Slot "list" name id) (hty : typeOf (.builtin id) = pure (.type "method_descriptor")) : Meth B (.list ds) name (.builtin id) := .mk fun A s W pl Q E v r K => by
  cases r with | list nw hl rs =>
  exact getMethod_builtin ⟨_, hl, rfl⟩ PySem.F.plainAttrs_list slot hty (fun a e => by cases e; exact ⟨_, hl, rfl⟩) K

/-! built-in functions -/
theorem fn_len_list {ds : List D} (hn : ds.length ≤ 2000) : Fn B k (.builtin "len") [.list ds] (.int ds.length) := .mk fun A vs s W Q E R hb lo r K => by
  cases r with | cons r1 r2 =>
  cases r2
  cases r1 with | list nw hl rs =>
  have hlen := rs.length
  refine Calls.call_len_list (IsL.isList' hl) ?_ ?_
  · rw [List.size_toArray]; omega
  · rw [List.size_toArray, hlen]; exact K _ s.heap _ (Le.refl _) .int
theorem fn_len_str {l : List Nat} (hn : l.length ≤ 2000) : Fn B k (.builtin "len") [S l] (.int l.length) := .mk fun A vs s W Q E R hb lo r K => by
  cases r with | cons r1 r2 =>
  cases r2
  cases r1
  have e : (⟨l.toArray⟩ : Str).length = l.length := by simp [Str.length]
  refine P.len_str ?_ ?_
  · rw [e]; omega
  · rw [e]; exact K _ s.heap _ (Le.refl _) .int
theorem fn_range1 {n : Int} : Fn B k (.type "range") [.int n] (.range 0 n) := .mk fun A vs s W Q E R hb lo r K => by
  cases r with | cons r1 r2 =>
  cases r2
  cases r1
  refine call_range_1 ?_
  exact K _ _ _ (Le.push _ _) (.range lo.new (IsRange.new ..))
theorem fn_range2 {a b : Int} : Fn B k (.type "range") [.int a, .int b] (.range a b) := .mk fun A vs s W Q E R hb lo r K => by
  cases r with | cons r1 r2 =>
  cases r2 with | cons r2 r3 =>
  cases r3
  cases r1; cases r2
  refine call_range_2 ?_
  exact K _ _ _ (Le.push _ _) (.range lo.new (IsRange.new ..))
theorem fn_ord {c : Nat} : Fn B k (.builtin "ord") [S [c]] (.int c) := .mk fun A vs s W Q E R hb lo r K => by
  cases r with | cons r1 r2 =>
  cases r2
  cases r1
  exact P.ord_of_char (K _ s.heap _ (Le.refl _) .int)
theorem fn_chr {i : Int} (h0 : 0 ≤ i) (h1 : i ≤ 1114111) : Fn B k (.builtin "chr") [.int i] (S [i.toNat]) := .mk fun A vs s W Q E R hb lo r K => by
  cases r with | cons r1 r2 =>
  cases r2
  cases r1
  exact chr_of_range h0 h1 (K _ s.heap _ (Le.refl _) .str)
theorem fn_divmod {a b : Int} (hb : b ≠ 0) (hs : b.natAbs < 1073741824) : Fn B k (.builtin "divmod") [.int a, .int b] (.tuple [.int (a.fdiv b), .int (a.fmod b)]) := .mk fun A vs s W Q E R _ lo r K => by
  cases r with | cons r1 r2 =>
  cases r2 with | cons r2 r3 =>
  cases r3
  cases r1; cases r2
  refine divmod_int hb ?_ (.inl (PyProof.noPylong_small hs))
  exact K _ _ _ (Le.push _ _) (.tuple lo.new (vs := [.int _ _, .int _ _]) (Heap.get?_push_size _ rfl) (.cons .int (.cons .int .nil)))
theorem fn_max {l : List Int} {m : Int} (hm : m ∈ l) (hall : ∀ a ∈ l, a ≤ m) : Fn B k (.builtin "max") [.list (dI l)] (.int m) := .mk fun A vs s W Q E R _ lo r K => by
  cases r with | cons r1 r2 =>
  cases r2
  cases r1 with | list nw hl rs =>
  have hi := rs.intsAre
  obtain ⟨xs, e⟩ := hi.allInts.items
  have hns : l = xs.toList.map (·.1) := by rw [← hi.numsOf, ← nums_intItems, ← e]
  have hll : l.length = xs.size := by rw [hns, List.length_map, Array.length_toList]
  have hne : 0 < l.length := List.length_pos_of_mem hm
  have hl' := IsL.isList' hl
  rw [e] at hl'
  refine max_intList R.quiet hl' (by omega) fun v h' tk hv hk => ?_
  obtain ⟨t, rfl⟩ := intItems_at hv
  obtain ⟨h1, h2⟩ := argBest_gt (numAt xs) (xs.size - 1)
  have hmem : numAt xs (argBest (fun i j => decide (numAt xs i > numAt xs j)) (xs.size - 1)) ∈ l := by
    rw [hns, numAt_eq]; exact getD_mem (by rw [List.length_map, Array.length_toList]; omega)
  have hbig : m ≤ numAt xs (argBest (fun i j => decide (numAt xs i > numAt xs j)) (xs.size - 1)) := by
    rw [hns] at hm
    obtain ⟨j, hj, rfl⟩ := mem_getD hm
    rw [List.length_map, Array.length_toList] at hj
    rw [← numAt_eq]; exact h2 j (by omega)
  have := hall _ hmem
  have em : numAt xs (argBest (fun i j => decide (numAt xs i > numAt xs j)) (xs.size - 1)) = m := by omega
  rw [em]
  exact K _ h' tk hk .int
theorem fn_min {l : List Int} {m : Int} (hm : m ∈ l) (hall : ∀ a ∈ l, m ≤ a) : Fn B k (.builtin "min") [.list (dI l)] (.int m) := .mk fun A vs s W Q E R _ lo r K => by
  cases r with | cons r1 r2 =>
  cases r2
  cases r1 with | list nw hl rs =>
  have hi := rs.intsAre
  obtain ⟨xs, e⟩ := hi.allInts.items
  have hns : l = xs.toList.map (·.1) := by rw [← hi.numsOf, ← nums_intItems, ← e]
  have hll : l.length = xs.size := by rw [hns, List.length_map, Array.length_toList]
  have hne : 0 < l.length := List.length_pos_of_mem hm
  have hl' := IsL.isList' hl
  rw [e] at hl'
  refine min_intList R.quiet hl' (by omega) fun v h' tk hv hk => ?_
  obtain ⟨t, rfl⟩ := intItems_at hv
  obtain ⟨h1, h2⟩ := argBest_lt (numAt xs) (xs.size - 1)
  have hmem : numAt xs (argBest (fun i j => decide (numAt xs i < numAt xs j)) (xs.size - 1)) ∈ l := by
    rw [hns, numAt_eq]; exact getD_mem (by rw [List.length_map, Array.length_toList]; omega)
  have hbig : numAt xs (argBest (fun i j => decide (numAt xs i < numAt xs j)) (xs.size - 1)) ≤ m := by
    rw [hns] at hm
    obtain ⟨j, hj, rfl⟩ := mem_getD hm
    rw [List.length_map, Array.length_toList] at hj
    rw [← numAt_eq]; exact h2 j (by omega)
  have := hall _ hmem
  have em : numAt xs (argBest (fun i j => decide (numAt xs i < numAt xs j)) (xs.size - 1)) = m := by omega
  rw [em]
  exact K _ h' tk hk .int

/-! methods of texts and lists -/
theorem fn_lower {l l' : List Nat} (e : Txt.lower ⟨l.toArray⟩ = ⟨l'.toArray⟩) (hl : l'.length ≤ 1000) : Fn B k (.builtin "str.lower") [S l] (S l') := .mk fun A vs s W Q E R _ lo r K => by
  cases r with | cons r1 r2 =>
  cases r2
  cases r1
  refine SC.lower ?_ ?_
  · rw [e]
    have : (⟨l'.toArray⟩ : Str).length = l'.length := by simp [Str.length]
    rw [this]
    exact decide_eq_false (Nat.not_lt.mpr (Nat.le_trans hl (by decide)))
  · rw [e]; exact K _ s.heap _ (Le.refl _) .str
theorem fn_startswith {l p : List Nat} {b : Bool} (e : Txt.startswith ⟨l.toArray⟩ ⟨p.toArray⟩ = b) : Fn B k (.builtin "str.startswith") [S l, S p] (.bool b) := .mk fun A vs s W Q E R _ lo r K => by
  cases r with | cons r1 r2 =>
  cases r2 with | cons r2 r3 =>
  cases r3
  cases r1; cases r2
  exact SC.startswith (by rw [e]; exact K _ s.heap s.toks (Le.refl _) .bool)
theorem fn_join {l : List (List Nat)} (hok : JoinOk (⟨#[]⟩ : Str) (l.map fun x => ⟨x.toArray⟩) = true) (e : Txt.join (⟨#[]⟩ : Str) (l.map fun x => ⟨x.toArray⟩) = ⟨l.flatten.toArray⟩) :
    Fn B k (.builtin "str.join") [S [], .list (dS l)] (S l.flatten) := .mk fun A vs s W Q E R _ lo r K => by
  cases r with | cons r1 r2 =>
  cases r2 with | cons r2 r3 =>
  cases r3
  cases r1
  cases r2 with | list nw hl rs =>
  obtain ⟨q, e1, e2⟩ := rs.strVals
  have hl' := IsL.isList' hl
  rw [e1] at hl'
  exact SC.join hl' e2 hok fun t' j => by rw [e]; exact K _ s.heap j (Le.refl _) .str
end
end Mine
end

section
open PySem PySem.W PyProof.Rows
set_option maxRecDepth 20000
set_option linter.unusedVariables false
namespace Mine

theorem pct (y : Str) (hy : y.length ≤ 1000) (t u : Tok) (b : Addr) :
    Meets (PySem.Builtin.«str.__mod__» ⟨[.str ⟨#[95, 37, 115, 95, 95]⟩ t, .ref b], []⟩) (fun _ R s => PyProof.Rows.IsTup s.heap b #[.str y u] ∧ ∀ t' k, R (.ok (.ret (.str ((⟨#[95]⟩ ++ y) ++ ⟨#[95, 95]⟩) t'))) { s with toks := k }) := by
  kpt_run

section
variable {B : Base} {k : Nat} {ns : List (Str × NameKind)} {Γ : Str → Option D}

theorem str_append (a b : List Nat) : ((⟨a.toArray⟩ : Str) ++ (⟨b.toArray⟩ : Str)) = ⟨(a ++ b).toArray⟩ := by
  show Str.append _ _ = _
  unfold Str.append
  simp
theorem bin_pct {l : List Nat} (hl : l.length ≤ 1000) : Bin B k .Mod (.str ⟨#[95, 37, 115, 95, 95]⟩) (.tuple [S l]) (S (95 :: l ++ [95, 95])) := .mk fun A s W Q E v u _ _ _ r1 r2 K => by
  cases r1 with | str =>
  cases r2 with | tuple nw ht rs =>
  rename_i t a vs n
  cases rs with | cons ra rb =>
  cases rb
  cases ra
  rename_i u'
  have ht' : PyProof.Rows.IsTup s.heap a #[.str ⟨l.toArray⟩ u'] := ⟨_, ht, rfl, n, rfl⟩
  have hT : s.TypeIs (.ref a) "tuple" := ⟨_, ht, rfl⟩
  have hy : (⟨l.toArray⟩ : Str).length ≤ 1000 := by simpa [Str.length] using hl
  refine KPt.bin_left (T := "str") (U := "tuple") (op := .Mod) (by decide) (typeIs_str s _ t) hT F.fills_str_mod KPt.fills_tuple F.slot_str_mod
    (call_meets F.slot_str_mod (typeIs_str s _ t) F.entry_str_mod (F.args_str_mod_2 _ _) (pct _ hy t u' a) ⟨ht', fun t' j => ⟨(fun e => nomatch e), ?_⟩⟩)
  have e : ((⟨#[95]⟩ ++ (⟨l.toArray⟩ : Str)) ++ ⟨#[95, 95]⟩ : Str) = ⟨(95 :: l ++ [95, 95]).toArray⟩ := by
    rw [show (⟨#[95]⟩ : Str) = ⟨[95].toArray⟩ from rfl, show (⟨#[95, 95]⟩ : Str) = ⟨[95, 95].toArray⟩ from rfl, str_append, str_append]; simp
  rw [e]
  exact K _ s.heap j (Le.refl _) .str

theorem bin_cat {a b : List D} (h : a.length + b.length ≤ 2000) : Bin B k .Add (.list a) (.list b) (.list (a ++ b)) := .mk fun A s W Q E v u _ _ lo r1 r2 K => by
  cases r1 with | list nw hl rs =>
  cases r2 with | list nw2 hl2 rs2 =>
  have e1 := rs.length
  have e2 := rs2.length
  refine P.add_list hl hl2 ?_ (by rw [List.size_toArray, List.size_toArray]; exact Nat.le_trans (by omega : _ ≤ 2000) (by decide))
  refine K _ _ _ (Le.push _ _) (.list lo.new (n := 0) ?_ ((rs.append rs2).le (Le.push _ _)))
  rw [List.append_toArray]
  exact Heap.get?_push_size _ rfl

/-- two values of like kinds, compared -/
def EqE (a b : D) (c : Bool) : Prop := ∀ (W : Addr → Prop) (A : Around) (s : Shared) (v u : Value), Rep W s.heap v a → Rep W s.heap u b → SeqAt.EqAt A s v u c
theorem eqE_int (a b : Int) : EqE (.int a) (.int b) (a == b) := fun W A s v u r1 r2 => by cases r1; cases r2; exact SeqAt.EqAt.int_int a _ b _
theorem eqE_bool (a b : Bool) : EqE (.bool a) (.bool b) (a == b) := fun W A s v u r1 r2 => by cases r1; cases r2; exact SeqAt.EqAt.bool_bool a b
theorem eqE_str (a b : List Nat) : EqE (S a) (S b) (a == b) := fun W A s v u r1 r2 => by
  cases r1; cases r2
  have e : (a == b) = ((⟨a.toArray⟩ : Str) == (⟨b.toArray⟩ : Str)) := by
    by_cases h : a = b
    · subst h; rw [beq_self_eq_true, beq_self_eq_true]
    · have : ¬ ((⟨a.toArray⟩ : Str) = (⟨b.toArray⟩ : Str)) := fun q => h (by injection q with q; simpa using q)
      rw [beq_eq_false_iff_ne.mpr h, beq_eq_false_iff_ne.mpr this]
  rw [e]
  exact SeqAt.EqAt.str_str _ _ _ _

theorem all_eq {α : Type} [BEq α] [LawfulBEq α] [Inhabited α] : ∀ (l m : List α), l.length = m.length → ((List.range l.length).all fun i => l.getD i default == m.getD i default) = (l == m)
  | [], [], _ => rfl
  | [], _ :: _, h => by simp at h
  | _ :: _, [], h => by simp at h
  | a :: l, b :: m, h => by
    have ih := all_eq l m (by simpa using h)
    rw [List.length_cons, List.range_succ_eq_map, List.all_cons, List.all_map]
    have e : ((fun i => (a :: l).getD i default == (b :: m).getD i default) ∘ Nat.succ) = fun i => l.getD i default == m.getD i default := by
      funext i; simp
    rw [e, ih]
    simp

theorem reps_at {W : Addr → Prop} {h : Heap} {α : Type} [Inhabited α] (enc : α → D) {vs : List Value} {l : List α} (r : Reps W h vs (l.map enc)) {j : Nat} (h1 : j < vs.toArray.size) : Rep W h (vs.toArray[j]) (enc (l.getD j default)) := by
  have hl := r.length
  rw [List.length_map] at hl
  have hj : j < l.length := by rw [List.size_toArray] at h1; omega
  obtain ⟨v, e, rv⟩ := r.get (i := j) (d := enc (l.getD j default)) (by rw [List.getElem?_map, List.getElem?_eq_getElem hj]; simp [List.getElem?_eq_getElem hj])
  have : vs.toArray[j] = v := by
    have h2 : vs[j]? = some (vs.toArray[j]) := by simp [List.getElem?_eq_getElem (by simpa using h1)]
    rw [e] at h2; exact (Option.some.inj h2).symm
  rw [this]; exact rv

theorem cmp_eq_list {α : Type} [BEq α] [LawfulBEq α] [Inhabited α] (enc : α → D) (henc : ∀ a b, EqE (enc a) (enc b) (a == b)) {l m : List α} : Cmp B k .Eq (.list (l.map enc)) (.list (m.map enc)) (l == m) := .mk fun A s W Q E v u R _ _ r1 r2 K => by
  cases r1 with | list nw hl rs =>
  cases r2 with | list nw2 hl2 rs2 =>
  rename_i a vs n b us n2
  have e1 := rs.length
  have e2 := rs2.length
  rw [List.length_map] at e1 e2
  by_cases hs : vs.toArray.size = us.toArray.size
  · have hlm : l.length = m.length := by simp only [List.size_toArray] at hs; omega
    refine SeqAt.eq_listAt (e := fun i => l.getD i default == m.getD i default) (IsL.isList' hl) (IsL.isList' hl2) hs R.line (fun j h1 h2 => henc _ _ W _ _ _ _ (reps_at enc rs h1) (reps_at enc rs2 h2)) ?_
    rw [List.size_toArray, e1, all_eq l m hlm]
    exact K s.toks
  · refine SeqAt.eq_list_lengthsAt (IsL.isList' hl) (IsL.isList' hl2) (by simpa using hs) R.line ?_
    have : (l == m) = false := by
      rw [beq_eq_false_iff_ne]
      rintro rfl
      simp only [List.size_toArray] at hs; omega
    have h := K s.toks
    rw [this] at h; exact h
theorem cmp_ne_list {α : Type} [BEq α] [LawfulBEq α] [Inhabited α] (enc : α → D) (henc : ∀ a b, EqE (enc a) (enc b) (a == b)) {l m : List α} : Cmp B k .NotEq (.list (l.map enc)) (.list (m.map enc)) (l != m) := .mk fun A s W Q E v u R _ _ r1 r2 K => by
  cases r1 with | list nw hl rs =>
  cases r2 with | list nw2 hl2 rs2 =>
  rename_i a vs n b us n2
  have e1 := rs.length
  have e2 := rs2.length
  rw [List.length_map] at e1 e2
  by_cases hs : vs.toArray.size = us.toArray.size
  · have hlm : l.length = m.length := by simp only [List.size_toArray] at hs; omega
    refine (SeqAt.RcNeAt.lists (e := fun i => l.getD i default == m.getD i default) (IsL.isList' hl) (IsL.isList' hl2) hs R.line (fun j h1 h2 => henc _ _ W _ _ _ _ (reps_at enc rs h1) (reps_at enc rs2 h2))) B.prog B.w E Q ?_
    rw [List.size_toArray, e1, all_eq l m hlm]
    exact K s.toks
  · refine (SeqAt.RcNeAt.lists_lengths (IsL.isList' hl) (IsL.isList' hl2) (by simpa using hs) R.line) B.prog B.w E Q ?_
    have : (l != m) = true := by
      rw [bne_iff_ne]
      rintro rfl
      simp only [List.size_toArray] at hs; omega
    have h := K s.toks
    rw [this] at h; exact h

theorem cmp_in_ints {i : Int} {l : List Int} : Cmp B k .In (.int i) (.list (dI l)) (l.any (· == i)) := .mk fun A s W Q E v u R _ _ r1 r2 K => by
  cases r1
  cases r2 with | list nw hl rs =>
  exact in_list_ints (IsL.isList' hl) rs.intsAre (K s.toks)

theorem cmp_isnot_none {d : D} (h : ∀ W h v, Rep W h v d → v ≠ .none ∧ plainIs v .none = true) : Cmp B k .IsNot d .none true := .mk fun A s W Q E v u R _ _ r1 r2 K => by
  cases r2
  obtain ⟨h1, h2⟩ := h _ _ _ r1
  exact wpAny_isNot_other h2 h1 (K s.toks)
theorem cmp_isnot_str {x : Str} : Cmp B k .IsNot (.str x) .none true := cmp_isnot_none fun W h v r => by cases r; exact ⟨nofun, rfl⟩
theorem cmp_none_isnot : Cmp B k .IsNot .none .none false := .mk fun A s W Q E v u R _ _ r1 r2 K => by
  cases r1; cases r2
  exact wpAny_isNot_self rfl (K s.toks)

def isI (i : Int) : Value → Bool | .int a _ => a == i | _ => false
theorem fn_index {l : List Int} {i : Int} {j : Nat} (hn : l.length ≤ 1000) (hj : j < l.length) (hit : l[j] = i) (hno : ∀ m (hm : m < l.length), m < j → l[m] ≠ i) : Fn B k (.builtin "list.index") [.list (dI l), .int i] (.int j) := .mk fun A vs s W Q E R _ lo r K => by
  cases r with | cons r1 r2 =>
  cases r2 with | cons r2 r3 =>
  cases r3
  cases r2
  cases r1 with | list nw hl rs =>
  rename_i t a us n
  have e1 := rs.length
  rw [List.length_map] at e1
  have at_ : ∀ (m : Nat) (hm : m < us.toArray.size), ∃ t', us.toArray[m] = .int (l.getD m default) t' := fun m hm => by
    have := reps_at D.int rs hm
    generalize us.toArray[m] = z at this
    cases this; exact ⟨_, rfl⟩
  refine call_meets PySem.F.slot_list_index ⟨_, hl, rfl⟩ PySem.F.entry_list_index (PySem.F.args_list_index_2 _ _)
    (MeetsSeq.list_index a us.toArray n (.int i t) (isI i) (fun y hy => ?_) j (by rw [List.size_toArray]; omega) (by omega) ?_ (fun m hm hlt => ?_)) ⟨hl, K _ s.heap _ (Le.refl _) .int⟩
  · obtain ⟨m, hm, rfl⟩ := Array.mem_iff_getElem.mp hy
    obtain ⟨t', e⟩ := at_ m hm
    rw [e]
    exact MeetsSeq.EqGives.int _ _ _ _
  · obtain ⟨t', e⟩ := at_ j (by rw [List.size_toArray]; omega)
    rw [e]
    simp [isI, List.getElem?_eq_getElem hj, hit]
  · obtain ⟨t', e⟩ := at_ m hm
    have hm' : m < l.length := by rw [List.size_toArray] at hm; omega
    rw [e]
    simp [isI, List.getElem?_eq_getElem hm', hno m hm' hlt]

theorem fn_isbool {b : Bool} {v : Value} {A : Around} {s : Shared} {W : Addr → Prop} {Q : Value → Shared → Prop} {E : Value → Shared → Prop} (r : Rep W s.heap v (.bool b)) (K : Q (.bool true) s) :
    wpAny B.M A (call (.builtin "isinstance") [v, .type "bool"]) Q E s := by
  cases r
  exact IsiPair.bool_bool K

theorem rangeSize_le {a b : Int} (h : b - a ≤ 2000) (h' : a ≤ b) : Builtin.Range.rangeSize a b 1 = ((b - a).toNat : Int) := rangeSize_nat a b
def rangeI (a : Int) (n : Nat) : List Int := (List.range n).map fun (i : Nat) => a + (i : Int)
theorem fn_list_range {a b : Int} {n : Nat} (hn : b - a = n) (hb : n ≤ 2000) (h0 : 0 ≤ a) (h1 : a ≤ 1000000) : Fn B k (.type "list") [.range a b] (.list (dI (rangeI a n))) := .mk fun A vs s W Q E R _ lo r K => by
  cases r with | cons r1 r2 =>
  cases r2
  cases r1 with | range nw hr =>
  refine call_list_range R.quiet hr ?_ (n := n) (by rw [rangeSize_nat]; omega) (Nat.le_trans hb (by decide)) fun h' tk acc c' hk hS hI => ?_
  · have e : Builtin.Range.rangeSize a b 1 = (n : Int) := by rw [rangeSize_nat]; omega
    unfold Builtin.Range.small Builtin.Range.rangeFitsLong
    rw [e]
    simp only [Bool.and_eq_true, Bool.or_eq_true, decide_eq_true_eq]
    simp
    omega
  · refine K _ h' tk hk (.list (vs := acc.toList) lo.new (n := c') (by simpa using hS) ?_)
    have key : ∀ (m i : Nat) (vs : List Value), vs.length = m → (∀ j v, vs[j]? = some v → ∃ t, v = Value.int (a + ((i + j : Nat) : Int)) t) → Reps W h' vs (dI ((List.range' i m).map fun (i : Nat) => a + (i : Int))) := by
      intro m
      induction m with
      | zero => intro i vs h1 _; rw [List.eq_nil_of_length_eq_zero h1]; exact .nil
      | succ m ih =>
        intro i vs h1 h2
        cases vs with
        | nil => simp at h1
        | cons v vs =>
          obtain ⟨t, rfl⟩ := h2 0 v rfl
          rw [List.range'_succ]
          refine .cons .int (ih (i + 1) vs (by simpa using h1) fun j v hj => ?_)
          obtain ⟨t, e⟩ := h2 (j + 1) v (by simpa using hj)
          exact ⟨t, by rw [e, show i + (j + 1) = i + 1 + j by omega]⟩
    have := key n 0 acc.toList (by rw [Array.length_toList]; exact hI.1) fun j v hj => by
      obtain ⟨t, e⟩ := hI.2 j v (by simpa using hj)
      exact ⟨t, by rw [e]; simp⟩
    unfold rangeI
    rw [List.range_eq_range']
    exact this
end
end Mine
end

section
open PySem PySem.W PyProof.Rows
set_option maxRecDepth 20000
set_option linter.unusedVariables false
namespace Mine

/-- what the names hold, as a list -/
abbrev Lk (L : List (Str × D)) : Str → Option D := fun x => L.lookup x
theorem FrOk.weak {W : Addr → Prop} {h : Heap} {env : Env} {Γ Γ' : Str → Option D} (x : FrOk W h env Γ) (le : ∀ n d, Γ' n = some d → Γ n = some d) : FrOk W h env Γ' := by
  obtain ⟨⟨m, hn, hv⟩, hc⟩ := x
  refine ⟨⟨m, hn, fun y d k g => hv y d k (le _ _ g)⟩, fun y c hm => ?_⟩
  obtain ⟨ov, a, b⟩ := hc y c hm
  exact ⟨ov, a, fun d k1 k2 g => b d k1 k2 (le _ _ g)⟩
theorem St.weak {B : Base} {W : Addr → Prop} {env : Env} {Γ Γ' : Str → Option D} {h : Heap} (x : St B W env Γ h) (le : ∀ n d, Γ' n = some d → Γ n = some d) : St B W env Γ' h := ⟨x.base, x.low, x.fr.weak le⟩

/-- the move of representations from one heap to another -/
def Mv (W : Addr → Prop) (h : Heap) (W' : Addr → Prop) (h' : Heap) : Prop := ∀ a o, h.get? a = some o → solid o → ¬ W a → h'.get? a = some o ∧ ¬ W' a
theorem Mv.rep {W W' : Addr → Prop} {h h' : Heap} (m : Mv W h W' h') {v : Value} {d : D} (r : Rep W h v d) : Rep W' h' v d := r.move m
theorem Mv.reps {W W' : Addr → Prop} {h h' : Heap} (m : Mv W h W' h') {v : List Value} {d : List D} (r : Reps W h v d) : Reps W' h' v d := r.move m
theorem Mv.trans {W W' W'' : Addr → Prop} {h h' h'' : Heap} (m : Mv W h W' h') (m' : Mv W' h' W'' h'') : Mv W h W'' h'' := fun a o e s w => let ⟨e', w'⟩ := m a o e s w; m' a o e' s w'
theorem Mv.le {W : Addr → Prop} {h h' : Heap} (l : Le h h') : Mv W h W h' := fun a o e _ w => ⟨l a o e, w⟩

theorem not_solid_ns {h : Heap} {a : Addr} {m} (n : h.Ns a m) {o : Obj} (e : h.get? a = some o) : ¬ solid o := by
  obtain ⟨o', es, ep, ho, hd, _⟩ := n
  rw [e] at ho; cases ho
  exact fun s => s.2 _ _ hd
theorem not_solid_cell {h : Heap} {a : Addr} {ov} (n : h.IsCell a ov) {o : Obj} (e : h.get? a = some o) : ¬ solid o := by
  obtain ⟨o', ho, hd⟩ := n
  rw [e] at ho; cases ho
  exact fun s => s.1 _ hd

theorem FrOk.mvKeep {B : Base} {W : Addr → Prop} {h h' : Heap} {env : Env} {Γ : Str → Option D} (x : FrOk W h env Γ) (k : Keep (own env) h h') : Mv W h W h' := fun a o e s w => by
  refine ⟨k a o e fun q => ?_, w⟩
  rcases q with rfl | ⟨y, hy⟩
  · obtain ⟨⟨m, hn, _⟩, _⟩ := x; exact not_solid_ns hn e s
  · obtain ⟨ov, hc, _⟩ := x.cell y a hy; exact not_solid_cell hc e s

section
variable {B : Base} {k : Nat} {ns : List (Str × NameKind)} {Γ : Str → Option D}

theorem notClass {env : Env} (O : EnvOk B ns env) : (env.scope.kind == .class || (env.scope.kind == .module && env.locals != env.globals)) = false := by
  rw [O.kind]; rfl

theorem cells_apart {α β : Type} [DecidableEq β] : ∀ {l : List (α × β)}, l.Pairwise (fun x y => x.2 ≠ y.2) → ∀ {x y : α} {c : β}, (x, c) ∈ l → (y, c) ∈ l → x = y
  | [], _, _, _, _, h, _ => by cases h
  | p :: l, hp, x, y, c, h1, h2 => by
    rw [List.pairwise_cons] at hp
    rcases List.mem_cons.mp h1 with rfl | g1
    · rcases List.mem_cons.mp h2 with e | g2
      · injection e with e1 _; exact e1.symm
      · exact absurd rfl (hp.1 (y, c) g2)
    · rcases List.mem_cons.mp h2 with rfl | g2
      · exact absurd rfl (hp.1 (x, c) g1)
      · exact cells_apart hp.2 g1 g2

/-- where a name's value lies -/
def slotOf (ns : List (Str × NameKind)) (env : Env) (x : Str) (a : Addr) : Prop := (ns.lookup x = some .local ∧ a = env.locals) ∨ (ns.lookup x = some .cell ∧ env.cells.lookup x = some a)
theorem slotOf.own {env : Env} {x : Str} {a : Addr} (h : slotOf ns env x a) : Mine.own env a := by
  rcases h with ⟨_, h⟩ | ⟨_, h⟩
  · exact .inl h
  · exact .inr ⟨x, mem_of_lookup h⟩

/-- a name's store -/
theorem store_one {A : Around} {env : Env} {s : Shared} {W : Addr → Prop} {L : List (Str × D)} {x : Str} {d : D} {v : Value} {Q : Unit → Shared → Prop} {E : Value → Shared → Prop} (O : EnvOk B ns env) (S : St B W env (Lk L) s.heap)
    (hx : ns.lookup x = some .local ∨ ns.lookup x = some .cell) (r : Rep W s.heap v d)
    (K : ∀ h' tk, Keep (slotOf ns env x) s.heap h' → St B W env (Lk ((x, d) :: L)) h' → Q () { s with heap := h', toks := tk }) : wpAny B.M A (storeName env x v) Q E s := by
  obtain ⟨m, hn, hv⟩ := S.fr.loc
  rcases hx with hx | hx
  · have hk := (O.kindOf x).trans hx
    refine wpAny_storeName_local hk hn (fun h' hn' hs' => ?_) (notClass O)
    have kp : Keep (slotOf ns env x) s.heap h' := fun b o e q => by
      rw [hs'.2 b (fun z => q (.inl ⟨hx, z⟩))]; exact e
    have mv : Mv W s.heap W h' := S.fr.mvKeep (B := B) (fun b o e q => by rw [hs'.2 b (fun z => q (.inl z))]; exact e)
    refine K h' _ kp ⟨fun b o e => ?_, fun a w => ?_, ⟨_, hn', fun y d' ky g => ?_⟩, fun y c hm => ?_⟩
    · have : b ≠ env.locals := fun z => by have := O.above; rw [← z, e] at this; cases this
      rw [hs'.2 b this]; exact S.base b o e
    · obtain ⟨o, e⟩ := Option.isSome_iff_exists.mp (S.low a w)
      by_cases z : a = env.locals
      · subst z; obtain ⟨o', _, _, e', _⟩ := hn'; rw [e']; rfl
      · rw [hs'.2 a z, e]; rfl
    · by_cases e : y = x
      · subst e
        have : (Lk ((y, d) :: L)) y = some d := by simp [Lk]
        rw [this] at g; cases g
        exact ⟨v, by simp, mv.rep r⟩
      · have : (Lk ((x, d) :: L)) y = Lk L y := by
          have : (y == x) = false := by simpa using e
          simp [Lk, List.lookup_cons, this]
        rw [this] at g
        obtain ⟨u, e1, e2⟩ := hv y d' ky g
        exact ⟨u, by simp [e, e1], mv.rep e2⟩
    · obtain ⟨ov, hc, hr⟩ := S.fr.cell y c hm
      have hne : c ≠ env.locals := fun z => by
        obtain ⟨o, _, _, e', hd, _⟩ := hn
        obtain ⟨o2, e2, hd2⟩ := hc
        rw [z, e'] at e2; cases e2; rw [hd] at hd2; cases hd2
      refine ⟨ov, hc.sameBut hs' hne, fun d' ky hl g => ?_⟩
      have hyx : y ≠ x := fun e => by subst e; rw [(O.kindOf y).trans hx] at ky; cases ky
      have : (Lk ((x, d) :: L)) y = Lk L y := by
        have : (y == x) = false := by simpa using hyx
        simp [Lk, List.lookup_cons, this]
      rw [this] at g
      obtain ⟨u, e1, e2⟩ := hr d' ky hl g
      exact ⟨u, e1, mv.rep e2⟩
  · have hk := (O.kindOf x).trans hx
    obtain ⟨c, hcl⟩ := Option.isSome_iff_exists.mp (O.has x hx)
    obtain ⟨ov, hc, _⟩ := S.fr.cell x c (mem_of_lookup hcl)
    refine wpAny_storeName_cell O.kind hk hcl hc fun h' hv' hs' => ?_
    have hoc : own env c := .inr ⟨x, mem_of_lookup hcl⟩
    have kp : Keep (slotOf ns env x) s.heap h' := fun b o e q => by
      rw [hs'.2 b (fun z => q (.inr ⟨hx, z ▸ hcl⟩))]; exact e
    have mv : Mv W s.heap W h' := S.fr.mvKeep (B := B) (fun b o e q => by rw [hs'.2 b (fun z => q (z ▸ hoc))]; exact e)
    have hne : env.locals ≠ c := fun z => by
      obtain ⟨o, _, _, e', hd, _⟩ := hn
      obtain ⟨o2, e2, hd2⟩ := hc
      rw [z] at e'; rw [e'] at e2; cases e2; rw [hd] at hd2; cases hd2
    have := K h' s.toks kp ⟨fun b o e => ?_, fun a w => ?_, ⟨m, hn.sameBut hs' hne, fun y d' ky g => ?_⟩, fun y c' hm => ?_⟩
    · exact this
    · have : b ≠ c := fun z => by have := O.cellsAbove _ _ (mem_of_lookup hcl); rw [← z, e] at this; cases this
      rw [hs'.2 b this]; exact S.base b o e
    · obtain ⟨o, e⟩ := Option.isSome_iff_exists.mp (S.low a w)
      by_cases z : a = c
      · subst z; obtain ⟨o', e', _⟩ := hv'; rw [e']; rfl
      · rw [hs'.2 a z, e]; rfl
    · have hyx : y ≠ x := fun e => by subst e; rw [(O.kindOf y).trans hx] at ky; cases ky
      have : (Lk ((x, d) :: L)) y = Lk L y := by
        have : (y == x) = false := by simpa using hyx
        simp [Lk, List.lookup_cons, this]
      rw [this] at g
      obtain ⟨u, e1, e2⟩ := hv y d' ky g
      exact ⟨u, e1, mv.rep e2⟩
    · by_cases e : y = x
      · subst e
        by_cases z : c' = c
        · subst z
          refine ⟨some v, hv', fun d' ky hl g => ?_⟩
          have : (Lk ((y, d) :: L)) y = some d := by simp [Lk]
          rw [this] at g; cases g
          exact ⟨v, rfl, mv.rep r⟩
        · obtain ⟨ov', hc', hr'⟩ := S.fr.cell y c' hm
          refine ⟨ov', hc'.sameBut hs' z, fun d' ky hl g => ?_⟩
          rw [hcl] at hl; cases hl; exact absurd rfl z
      · have z : c' ≠ c := fun z => by subst z; exact e (cells_apart O.apart hm (mem_of_lookup hcl))
        obtain ⟨ov', hc', hr'⟩ := S.fr.cell y c' hm
        refine ⟨ov', hc'.sameBut hs' z, fun d' ky hl g => ?_⟩
        have : (Lk ((x, d) :: L)) y = Lk L y := by
          have : (y == x) = false := by simpa using e
          simp [Lk, List.lookup_cons, this]
        rw [this] at g
        obtain ⟨u, e1, e2⟩ := hr' d' ky hl g
        exact ⟨u, e1, mv.rep e2⟩

/-- an assignment's target -/
structure Asg (B : Base) (k : Nat) (ns : List (Str × NameKind)) (t : Expr) (d : D) (bs : List (Str × D)) : Prop where
  go : ∀ (A : Around) (env : Env) (s : Shared) (W : Addr → Prop) (L : List (Str × D)) (Q : Unit → Shared → Prop) (E : Value → Shared → Prop) (v : Value), Room k A → EnvOk B ns env → St B W env (Lk L) s.heap → Rep W s.heap v d →
    (∀ h' tk, Keep (fun a => ∃ p ∈ bs, slotOf ns env p.1 a) s.heap h' → St B W env (Lk (bs ++ L)) h' → Q () { s with heap := h', toks := tk }) → wpAny B.M A (assign t env v) Q E s
theorem asg_name {x : Str} {p : Pos} {d : D} (hx : ns.lookup x = some .local ∨ ns.lookup x = some .cell) : Asg B k ns (.Name x p) d [(x, d)] := .mk fun A env s W L Q E v R O S r K =>
  wpAny_assign_Name (store_one O S hx r fun h' tk kp S' => K h' tk (fun b o e q => kp b o e fun z => q ⟨_, .head _, z⟩) S')

/-- targets one by one -/
inductive AsgL (B : Base) (k : Nat) (ns : List (Str × NameKind)) : List Expr → List D → List (Str × D) → Prop
  | nil : AsgL B k ns [] [] []
  | cons {t : Expr} {ts : List Expr} {d : D} {ds : List D} {b1 b2 : List (Str × D)} : Asg B k ns t d b1 → AsgL B k ns ts ds b2 → (∀ env rest, assignEach (t :: rest) env = (false, assign t env) :: assignEach rest env) → AsgL B k ns (t :: ts) (d :: ds) (b2 ++ b1)
theorem AsgL.length {ts : List Expr} {ds : List D} {bs : List (Str × D)} (h : AsgL B k ns ts ds bs) (env : Env) : (assignEach ts env).length = ds.length ∧ (assignEach ts env).findIdx? (·.1) = none := by
  induction h with
  | nil => exact ⟨rfl, rfl⟩
  | cons _ _ he ih => rw [he]; simp [ih.1, ih.2, List.findIdx?_cons]
theorem AsgL.run {ts : List Expr} {ds : List D} {bs : List (Str × D)} (h : AsgL B k ns ts ds bs) {A : Around} {env : Env} {W : Addr → Prop} {E : Value → Shared → Prop} (R : Room k A) (O : EnvOk B ns env) :
    ∀ {s : Shared} {L : List (Str × D)} {vs : List Value} {Q : Unit → Shared → Prop}, St B W env (Lk L) s.heap → Reps W s.heap vs ds →
    (∀ h' tk, Keep (fun a => ∃ p ∈ bs, slotOf ns env p.1 a) s.heap h' → St B W env (Lk (bs ++ L)) h' → Q () { s with heap := h', toks := tk }) → wpAny B.M A (assignInOrder ((assignEach ts env).map (·.2)) vs) Q E s := by
  induction h with
  | nil =>
    intro s L vs Q S r K
    cases r
    exact wpAny_assignInOrder_none (K s.heap s.toks (Keep.refl _) S)
  | cons ht _ he ih =>
    intro s L vs Q S r K
    cases r with | cons r1 r2 =>
    rw [he, List.map_cons]
    refine wpAny_assignInOrder_more (ht.go A env s W L _ E _ R O S r1 fun h1 t1 k1 S1 => ?_)
    have mv : Mv W s.heap W h1 := S.fr.mvKeep (B := B) (k1.mono fun a ⟨p, _, hp⟩ => hp.own)
    refine ih S1 (mv.reps r2) fun h2 t2 k2 S2 => K h2 t2 ((k1.mono fun a ⟨p, hp, hs⟩ => ⟨p, List.mem_append.mpr (.inr hp), hs⟩).trans (k2.mono fun a ⟨p, hp, hs⟩ => ⟨p, List.mem_append.mpr (.inl hp), hs⟩)) ?_
    rw [List.append_assoc]; exact S2
theorem extLe {h h' : Heap} (e : Heap.ExtBut h.objs.size h h') : Le h h' := fun b o x => e b o (Nat.ne_of_lt (Heap.lt_size x)) x
theorem asg_tuple {ts : List Expr} {n : Nat} {p : Pos} {ds : List D} {d : D} {bs : List (Str × D)} (h : AsgL B k ns ts ds bs) (hd : d = .list ds ∨ d = .tuple ds) : Asg B k ns (.Tuple ts n p) d bs := .mk fun A env s W L Q E v R O S r K => by
  rw [arm_assign_Tuple]
  refine wpAny_bind (wpAny_standAt ?_)
  unfold unpack
  obtain ⟨h1, h2⟩ := h.length env
  rcases hd with rfl | rfl
  · cases r with | list nw hl rs =>
    have e := rs.length
    rename_i a vs n
    rw [h1, h2, ← e, show vs.length = vs.toArray.size by simp]
    refine wpAny_bind (wpAny_holding (kun_itemsOf R.quiet (IsL.isList' hl) fun h' he => ?_))
    have l := extLe he
    refine h.run (s := { s with heap := h' }) R O (S.le l) (rs.le l) fun h2 t2 k2 S2 => K h2 t2 (l.keep.trans k2) S2
  · cases r with | tuple nw hl rs =>
    have e := rs.length
    rename_i a vs n
    rw [h1, h2, ← e, show vs.length = vs.toArray.size by simp]
    refine wpAny_bind (wpAny_holding (wpAny_unpackItems_tuple R.quiet (IsT.isTuple' hl) fun h' he => ?_))
    have l := extLe he
    refine h.run (s := { s with heap := h' }) R O (S.le l) (rs.le l) fun h2 t2 k2 S2 => K h2 t2 (l.keep.trans k2) S2
end
end Mine
end

section
open PySem PySem.W PyProof.Rows
set_option maxRecDepth 20000
set_option linter.unusedVariables false
namespace Mine

def items : D → Option (List D)
  | .list ds => some ds
  | .range a b => some (dI (rangeI a (b - a).toNat))
  | .str x => some (x.cps.toList.map fun c => S [c])
  | _ => none

theorem go_of {M : Model} {A : Around} {s : Shared} {Q : Unit → Shared → Prop} {E : Value → Shared → Prop} {I : Addr} {o : Obj} {n : String} {target : Expr} {v : Value} (ho : s.heap.get? I = some o) (hc : o.cls = .type n)
    (hn : ["enumerate", "zip", "dict_itemiterator", "dict_reverseitemiterator", "odict_iterator", "itertools.zip_longest", "itertools.pairwise"].contains n = false) (h : Q () s) : wpAny M A (letOwnedTupleGo target (.ref I) v) Q E s := by
  have key : wpAny M A (match v with
    | .ref a => (load I >>= fun o => match o.cls, o.data with
      | .type n, .fields vs =>
        if ["enumerate", "zip", "dict_itemiterator", "dict_reverseitemiterator", "odict_iterator", "itertools.zip_longest", "itertools.pairwise"].contains n && vs[0]? == some (rawInt a) then (do
          rule "for.unpacks-the-owned-tuple"
          updateField I 0 .none)
        else pure ()
      | _, _ => pure ())
    | _ => pure ()) Q E s := by
    cases v with
    | ref a =>
      dsimp only
      refine wpAny_bind (wpAny_load ho ?_)
      rw [hc]
      cases o.data with
      | fields vs =>
        dsimp only
        rw [hn, Bool.false_and, if_neg (by decide)]
        exact wpAny_pure h
      | _ => exact wpAny_pure h
    | _ => exact wpAny_pure h
  cases target <;> first
    | exact wpAny_pure h
    | (cases v <;> first | exact key | exact wpAny_pure h)

section
variable {B : Base} {k : Nat} {ns : List (Str × NameKind)} {Γ : Str → Option D}

/-- an iterator that stands at its beginning -/
structure Src (B : Base) (A : Around) (W : Addr → Prop) (hB : Heap) (xs : List D) (I : Addr) (fp wr : List Addr) (P : Nat → Value → Prop) (St : Nat → Heap → Prop) : Prop where
  w : Walks B.prog B.w A I fp wr xs.length P St
  item : ∀ i v, P i v → i < xs.length → ∃ d, xs[i]? = some d ∧ Rep W hB v d
  go : ∀ (A' : Around) i target v (s : Shared) (Q : Unit → Shared → Prop) (E : Value → Shared → Prop), St i s.heap → Q () s → wpAny B.M A' (letOwnedTupleGo target (.ref I) v) Q E s
  live : ∀ i h b, St i h → b ∈ wr → (h.get? b).isSome = true

theorem rangeI_get {a : Int} {n i : Nat} (h : i < n) : (dI (rangeI a n))[i]? = some (.int (a + i)) := by
  unfold rangeI dI
  rw [List.getElem?_map, List.getElem?_map, List.getElem?_range h]; rfl
theorem rangeI_len {a : Int} {n : Nat} : (dI (rangeI a n)).length = n := by simp [dI, rangeI]

theorem iter_of {A : Around} {s : Shared} {W : Addr → Prop} {v : Value} {d : D} {xs : List D} {Q : Value → Shared → Prop} {E : Value → Shared → Prop} (R : Room k A) (lo : Low W s.heap) (r : Rep W s.heap v d) (hx : items d = some xs)
    (hr : ∀ a b, d = .range a b → -(2 ^ 40) ≤ a ∧ a ≤ 2 ^ 40 ∧ -(2 ^ 40) ≤ b ∧ b ≤ 2 ^ 40)
    (K : ∀ I h' tk fp wr P St', Le s.heap h' → Src B A W s.heap xs I fp wr P St' → St' 0 h' → (∀ b ∈ fp, ∃ o, h'.get? b = some o ∧ solid o ∧ ¬ W b) → (∀ b ∈ wr, s.heap.get? b = none) → Q (.ref I) { s with heap := h', toks := tk }) :
    wpAny B.M A (pyIter v) Q E s := by
  have fresh : s.heap.get? s.heap.objs.size = none := by
    cases e : s.heap.get? s.heap.objs.size with
    | none => rfl
    | some o => exact absurd (Heap.lt_size e) (Nat.lt_irrefl _)
  cases d with
  | list ds =>
    cases hx
    cases r with | list nw hl rs =>
    rename_i a vs n
    have hl' := IsL.isList' hl
    have hlt : a < s.heap.objs.size := Heap.lt_size hl
    refine wpAny_pyIter_list hl' (K _ _ s.toks [s.heap.objs.size, a] [s.heap.objs.size] (fun i v => vs.toArray[i]? = some v) (fun i h => h.IsListIter s.heap.objs.size a i ∧ h.IsList a vs.toArray) (Le.push _ _) ⟨?_, ?_, ?_, ?_⟩ ?_ ?_ ?_)
    · have := Walks.list (prog := B.prog) (w := B.w) (A := A) R.quiet s.heap.objs.size a (Nat.ne_of_lt hlt) vs.toArray
      have e : vs.toArray.size = xs.length := by rw [List.size_toArray]; exact rs.length
      rw [← e]; exact this
    · intro i v hv hi
      have hv' : vs[i]? = some v := by simpa using hv
      have hd : xs[i]? = some xs[i] := List.getElem?_eq_getElem hi
      obtain ⟨u, e, ru⟩ := rs.get hd
      rw [hv'] at e; cases e
      exact ⟨_, hd, ru⟩
    · rintro A' i target v s' Q' E' ⟨⟨o, ho, hc, _⟩, _⟩ hq
      exact go_of ho hc (by decide) hq
    · rintro i h b ⟨⟨o, ho, _⟩, _⟩ hb
      rcases List.mem_cons.mp hb with rfl | hb
      · rw [ho]; rfl
      · cases hb
    · exact ⟨⟨_, Heap.get?_push_size _ rfl, rfl, rfl⟩, hl'.push _⟩
    · intro b hb
      rcases List.mem_cons.mp hb with rfl | hb
      · exact ⟨_, Heap.get?_push_size _ rfl, ⟨nofun, nofun⟩, lo.not fresh⟩
      · rcases List.mem_cons.mp hb with rfl | hb
        · exact ⟨_, Heap.get?_push_of_some _ hl, ⟨nofun, nofun⟩, nw⟩
        · cases hb
    · intro b hb
      rcases List.mem_cons.mp hb with rfl | hb
      · exact fresh
      · cases hb
  | range a b =>
    cases hx
    cases r with | range nw ho =>
    rename_i r t u v
    obtain ⟨g1, g2, g3, g4⟩ := hr a b rfl
    refine wpAny_pyIter_range ho ?_ (K _ _ s.toks [s.heap.objs.size] [s.heap.objs.size] (fun i v => ∃ t, v = .int (a + (i : Int) * 1) t) (fun i h => IsRangeIter h s.heap.objs.size (a + (i : Nat) * 1) (((b - a).toNat : Int) - (i : Nat)) 1) (Le.push _ _) ⟨?_, ?_, ?_, ?_⟩ ?_ ?_ ?_)
    · unfold Builtin.Range.small Builtin.Range.rangeFitsLong
      rw [rangeSize_nat]
      simp only [Bool.and_eq_true, Bool.or_eq_true, decide_eq_true_eq]
      simp
      omega
    · rw [rangeI_len]
      exact Walks.range R.quiet _ a 1 _
    · intro i v hv hi
      obtain ⟨t, rfl⟩ := hv
      rw [rangeI_len] at hi
      exact ⟨_, rangeI_get hi, by rw [Int.mul_one]; exact .int⟩
    · intro A' i target v s' Q' E' ho hq
      exact go_of ho rfl (by decide) hq
    · intro i h b ho hb
      rcases List.mem_cons.mp hb with rfl | hb
      · have ho : h.get? s.heap.objs.size = _ := ho
        rw [ho]; rfl
      · cases hb
    · rw [rangeSize_nat]
      have := @Heap.get?_push_size s.heap { cls := .type "range_iterator", data := .fields #[rawInt a, rawInt ((b - a).toNat : Int), rawInt 1] } rfl
      simpa using this
    · intro b hb
      rcases List.mem_cons.mp hb with rfl | hb
      · exact ⟨_, Heap.get?_push_size _ rfl, ⟨nofun, nofun⟩, lo.not fresh⟩
      · cases hb
    · intro b hb
      rcases List.mem_cons.mp hb with rfl | hb
      · exact fresh
      · cases hb
  | str x =>
    cases hx
    cases r with | str =>
    rename_i t
    have hi : ∀ i v, SignAt x i v → i < (x.cps.toList.map fun c => S [c]).length → ∃ d, (x.cps.toList.map fun c => S [c])[i]? = some d ∧ Rep W s.heap v d := by
      rintro i v ⟨c, u, hc, rfl⟩ _
      exact ⟨S [c], by rw [List.getElem?_map]; simp [hc], .str⟩
    have hlen : (x.cps.toList.map fun c => S [c]).length = x.cps.size := by simp
    have hfp : ∀ (o : Obj), solid o → o.isFreed = false → ∀ b ∈ [s.heap.objs.size], ∃ o', (s.heap.push o).get? b = some o' ∧ solid o' ∧ ¬ W b := by
      intro o so fr b hb
      rcases List.mem_cons.mp hb with rfl | hb
      · exact ⟨_, Heap.get?_push_size _ fr, so, lo.not fresh⟩
      · cases hb
    have hwr : ∀ b ∈ [s.heap.objs.size], s.heap.get? b = none := by
      intro b hb
      rcases List.mem_cons.mp hb with rfl | hb
      · exact fresh
      · cases hb
    have hlive : ∀ T : String, ∀ (i : Nat) (h : Heap) (b : Addr), h.IsStrIter s.heap.objs.size T x t i → b ∈ [s.heap.objs.size] → (h.get? b).isSome = true := by
      rintro T i h b ⟨o, ho, _⟩ hb
      rcases List.mem_cons.mp hb with rfl | hb
      · rw [ho]; rfl
      · cases hb
    cases ha : x.cps.all (· < 128)
    · refine wpAny_pyIter_wide ha (K _ _ s.toks [s.heap.objs.size] [s.heap.objs.size] (SignAt x) (fun i h => h.IsStrIter s.heap.objs.size "str_iterator" x t i) (Le.push _ _) ⟨?_, hi, ?_, hlive _⟩ ⟨_, Heap.get?_push_size _ rfl, rfl, rfl⟩ (hfp _ ⟨nofun, nofun⟩ rfl) hwr)
      · rw [hlen]; exact Walks.strWide R.quiet _ _ _
      · rintro A' i target v s' Q' E' ⟨o, ho, hc, _⟩ hq
        exact go_of ho hc (by decide) hq
    · refine wpAny_pyIter_ascii ha (K _ _ s.toks [s.heap.objs.size] [s.heap.objs.size] (SignAt x) (fun i h => h.IsStrIter s.heap.objs.size "str_ascii_iterator" x t i) (Le.push _ _) ⟨?_, hi, ?_, hlive _⟩ ⟨_, Heap.get?_push_size _ rfl, rfl, rfl⟩ (hfp _ ⟨nofun, nofun⟩ rfl) hwr)
      · rw [hlen]; exact Walks.strAscii R.quiet _ _ _
      · rintro A' i target v s' Q' E' ⟨o, ho, hc, _⟩ hq
        exact go_of ho hc (by decide) hq
  | _ => cases hx

/-- a comprehension's loop, its target any -/
theorem compLoop_any {A : Around} {s : Shared} {R : Result → Shared → Prop} {elt target iter : Expr} {ifs : List Expr} {scope : Scope} {pos : Pos} {it acc : Value} {env : Env} (I : Nat → Shared → Prop)
    (turn : ∀ n s, I n s → wpAny B.M A (pyNext it) (fun r s₁ => match r with
      | none => R (.ok .next) s₁
      | some v => wpAny B.M A (letOwnedTupleGo target it v) (fun _ s₁' => wpAny B.M A (assign target env v) (fun _ s₂ =>
          wpAny B.M A (forIn ifs true fun c r => if r = true then do let ok ← isTrue c env (eval c env); pure (ForInStep.yield ok) else pure (ForInStep.yield r)) (fun ok s₃ =>
            if ok = true then wpAny B.M A (eval elt env) (fun x s₄ =>
              wpAny B.M A (call (.builtin "list.append") [acc, x]) (fun _ s₅ => ∃ m, m < n ∧ I m s₅) (notedBy B.M A env fun e s' => R (.error e) s') s₄) (notedBy B.M A env fun e s' => R (.error e) s') s₃
            else ∃ m, m < n ∧ I m s₃) (notedBy B.M A env fun e s' => R (.error e) s') s₂) (notedBy B.M A env fun e s' => R (.error e) s') s₁') (notedBy B.M A env fun e s' => R (.error e) s') s₁) (notedBy B.M A env fun e s' => R (.error e) s') s)
    (n : Nat) (h : I n s) : codeAny B.M A (.compLoop (.ListComp elt [⟨target, iter, ifs, 0⟩] scope pos) 0 it acc env) R s := by
  refine codeAny_loop rfl I (fun n s hI => ?_) n h
  show wpAny _ A ((compTurn (.ListComp elt [⟨target, iter, ifs, 0⟩] scope pos) 0 it acc env).onRaise (fun x => do noteFrame x env; theTreesLotGoes x)) _ _ s
  refine wpAny_noted ?_
  rw [compTurn_list]
  refine wpAny_bind (wpAny_standAt (wpAny_bind (wpAny_mono (turn n s hI) (fun r s₁ h₁ => ?_) fun _ _ h' => h')))
  cases r with
  | none => exact wpAny_pure h₁
  | some v =>
    refine wpAny_bind (wpAny_mono h₁ (fun _ s₁' h₁' => ?_) fun _ _ h' => h')
    refine wpAny_bind (wpAny_mono h₁' (fun _ s₂ h₂ => wpAny_bind (wpAny_mono h₂ (fun ok s₃ h₃ => ?_) fun _ _ h' => h')) fun _ _ h' => h')
    cases ok with
    | false => exact wpAny_pure ⟨rfl, h₃⟩
    | true =>
      exact wpAny_bind (wpAny_bind (wpAny_mono h₃ (fun x s₄ h₄ => wpAny_bind (wpAny_mono h₄ (fun _ s₅ h₅ => wpAny_pure (wpAny_pure ⟨rfl, h₅⟩)) fun _ _ h' => h')) fun _ _ h' => h'))

/-- a comprehension's tests -/
def Tests (B : Base) (k : Nat) (ns : List (Str × NameKind)) (Γ : Str → Option D) (ifs : List Expr) (b : Bool) : Prop :=
  (ifs = [] ∧ b = true) ∨ ∃ c, ifs = [c] ∧ Tr B k ns Γ c b
theorem Tests.run {ifs : List Expr} {b : Bool} (h : Tests B k ns Γ ifs b) {A : Around} {env : Env} {s : Shared} {W : Addr → Prop} {Q : Bool → Shared → Prop} {E : Value → Shared → Prop} (R : Room k A) (O : EnvOk B ns env) (S : St B W env Γ s.heap)
    (K : ∀ h' tk, Le s.heap h' → Q b { s with heap := h', toks := tk }) :
    wpAny B.M A (forIn ifs true fun c r => if r = true then do let ok ← isTrue c env (eval c env); pure (ForInStep.yield ok) else pure (ForInStep.yield r)) Q E s := by
  rcases h with ⟨rfl, rfl⟩ | ⟨c, rfl, h⟩
  · exact wpAny_tests_nil (K s.heap s.toks (Le.refl _))
  · exact wpAny_tests_one (h.go A env s W _ E R O S K)

def unfree (p : Str × NameKind) : Str × NameKind := if p.2 == .free then (p.1, .cell) else p
/-- the scope of a comprehension fits its frame's -/
structure CScope (ns : List (Str × NameKind)) (scope : Scope) : Prop where
  kind : scope.kind = .function
  free : ∀ p ∈ scope.names, p.2 = .free → ns.lookup p.1 = some .cell
  nocell : ∀ p ∈ scope.names, p.2 ≠ .cell
  nodup : (scope.names.map (·.1)).Nodup
abbrev cns (scope : Scope) : List (Str × NameKind) := scope.names.map unfree

theorem lookup_nodup {α : Type} : ∀ {l : List (Str × α)} {p : Str × α}, (l.map (·.1)).Nodup → p ∈ l → l.lookup p.1 = some p.2
  | [], _, _, h => by cases h
  | q :: l, p, hn, h => by
    rw [List.map_cons, List.nodup_cons] at hn
    obtain ⟨qa, qb⟩ := q
    obtain ⟨pa, pb⟩ := p
    rcases List.mem_cons.mp h with e | h
    · cases e; simp
    · have hne : pa ≠ qa := fun e => hn.1 (List.mem_map.mpr ⟨_, h, e⟩)
      have : (pa == qa) = false := by simpa using hne
      rw [List.lookup_cons, this]
      exact lookup_nodup hn.2 h

def clos (cells : List (Str × Addr)) : List (Str × NameKind) → List (Str × Addr) → List (Str × Addr)
  | [], acc => acc
  | (n, kd) :: r, acc => if kd == .free then clos cells r ((n, (cells.lookup n).getD 0) :: acc) else clos cells r acc
theorem closureFor_eq {scope : Scope} {env : Env} (h : ∀ p ∈ scope.names, p.2 = .free → (env.cells.lookup p.1).isSome = true) : closureFor scope env = pure (clos env.cells scope.names []) := by
  unfold closureFor
  have key : ∀ (l : List (Str × NameKind)) (acc : List (Str × Addr)), (∀ p ∈ l, p.2 = .free → (env.cells.lookup p.1).isSome = true) →
      (forIn l acc (fun x r => match x with | (name, kind) => if (kind == NameKind.free) = true then do let c ← cellOf env name; pure (ForInStep.yield ((name, c) :: r)) else pure (ForInStep.yield r)) : Sem (List (Str × Addr))) = pure (clos env.cells l acc) := by
    intro l
    induction l with
    | nil => intro acc _; rfl
    | cons p l ih =>
      intro acc hl
      obtain ⟨n, kd⟩ := p
      rw [List.forIn_cons]
      by_cases hk : kd = .free
      · subst hk
        obtain ⟨c, hc⟩ := Option.isSome_iff_exists.mp (hl _ (.head _) rfl)
        have e : cellOf env n = pure c := by unfold cellOf; rw [hc]
        simp only [e]
        show (forIn l ((n, c) :: acc) _ : Sem _) = _
        rw [ih _ fun q hq => hl q (.tail _ hq)]
        simp [clos, hc]
      · have hb : (kd == NameKind.free) = false := by simpa using hk
        simp only [hb]
        show (forIn l acc _ : Sem _) = _
        rw [ih _ fun q hq => hl q (.tail _ hq)]
        simp [clos, hb]
  have := key scope.names [] h
  exact congrArg (fun t : Sem (List (Str × Addr)) => t >>= fun cs => pure cs) this

theorem clos_mem {cells : List (Str × Addr)} : ∀ {l : List (Str × NameKind)} {acc : List (Str × Addr)} {p : Str × Addr}, p ∈ clos cells l acc → p ∈ acc ∨ ((p.1, NameKind.free) ∈ l ∧ p.2 = (cells.lookup p.1).getD 0)
  | [], acc, p, h => .inl h
  | (n, kd) :: l, acc, p, h => by
    unfold clos at h
    split at h
    · rename_i hk
      have hk : kd = .free := by simpa using hk
      subst hk
      rcases clos_mem h with h | ⟨h, e⟩
      · rcases List.mem_cons.mp h with rfl | h
        · exact .inr ⟨.head _, rfl⟩
        · exact .inl h
      · exact .inr ⟨.tail _ h, e⟩
    · rcases clos_mem h with h | ⟨h, e⟩
      · exact .inl h
      · exact .inr ⟨.tail _ h, e⟩
theorem clos_has {cells : List (Str × Addr)} : ∀ {l : List (Str × NameKind)} {acc : List (Str × Addr)} {x : Str}, ((x, NameKind.free) ∈ l ∨ (acc.lookup x).isSome = true) → ((clos cells l acc).lookup x).isSome = true
  | [], acc, x, h => by
    rcases h with h | h
    · cases h
    · exact h
  | (n, kd) :: l, acc, x, h => by
    unfold clos
    split
    · rename_i hk
      apply clos_has
      rcases h with h | h
      · rcases List.mem_cons.mp h with e | h
        · cases e; right; simp
        · exact .inl h
      · right
        rw [List.lookup_cons]
        split
        · rfl
        · exact h
    · rename_i hk
      apply clos_has
      rcases h with h | h
      · rcases List.mem_cons.mp h with e | h
        · cases e; simp at hk
        · exact .inl h
      · exact .inr h
theorem clos_apart {cells : List (Str × Addr)} (ha : cells.Pairwise fun x y => x.2 ≠ y.2) : ∀ {l : List (Str × NameKind)} {acc : List (Str × Addr)}, (l.map (·.1)).Nodup → (∀ p ∈ acc, p.1 ∉ l.map (·.1) ∧ (p.1, p.2) ∈ cells) →
    (∀ p ∈ l, p.2 = .free → (cells.lookup p.1).isSome = true) → acc.Pairwise (fun x y => x.2 ≠ y.2) → (clos cells l acc).Pairwise fun x y => x.2 ≠ y.2
  | [], acc, _, _, _, h => h
  | (n, kd) :: l, acc, hn, hacc, hl, h => by
    rw [List.map_cons, List.nodup_cons] at hn
    unfold clos
    split
    · rename_i hk
      have hk : kd = .free := by simpa using hk
      subst hk
      obtain ⟨c, hc⟩ := Option.isSome_iff_exists.mp (hl _ (.head _) rfl)
      have hcm := mem_of_lookup hc
      refine clos_apart ha hn.2 (fun p hp => ?_) (fun p hp => hl p (.tail _ hp)) (List.pairwise_cons.mpr ⟨fun p hp => ?_, h⟩)
      · rcases List.mem_cons.mp hp with rfl | hp
        · refine ⟨hn.1, ?_⟩; show (n, (cells.lookup n).getD 0) ∈ cells
          have hc' : cells.lookup n = some c := hc
          rw [hc']; exact hcm
        · exact ⟨fun q => (hacc p hp).1 (.tail _ q), (hacc p hp).2⟩
      · have hc' : cells.lookup n = some c := hc
        show (cells.lookup n).getD 0 ≠ p.2
        rw [hc']
        intro e
        have e : c = p.2 := e
        have := cells_apart ha hcm (e ▸ (hacc p hp).2)
        exact (hacc p hp).1 (by rw [List.map_cons]; have t : n = p.1 := this; rw [← t]; exact .head _)
    · exact clos_apart ha hn.2 (fun p hp => ⟨fun q => (hacc p hp).1 (.tail _ q), (hacc p hp).2⟩) (fun p hp => hl p (.tail _ hp)) h
end
end Mine
end

section
open PySem PySem.W PyProof.Rows
set_option maxRecDepth 20000
set_option linter.unusedVariables false
namespace Mine

section
variable {B : Base} {k : Nat} {ns : List (Str × NameKind)} {Γ : Str → Option D}

/-- the state, when what lies at X was changed -/
theorem St.but {W : Addr → Prop} {env : Env} {h h' : Heap} {X : Addr → Prop} (S : St B W env Γ h) (kp : Keep X h h') (x0 : ∀ a, X a → B.h0.get? a = none) (xl : ¬ X env.locals) (xc : ∀ x c, (x, c) ∈ env.cells → ¬ X c)
    (xw : ∀ a, X a → W a) (xv : ∀ a, X a → (h'.get? a).isSome = true) : St B W env Γ h' := by
  have mv : Mv W h W h' := fun a o e s w => ⟨kp a o e fun q => w (xw a q), w⟩
  refine ⟨fun b o e => kp b o (S.base b o e) fun q => ?_, fun a w => ?_, ?_, fun y c hm => ?_⟩
  · rw [x0 b q] at e; cases e
  · by_cases q : X a
    · exact xv a q
    · obtain ⟨o, e⟩ := Option.isSome_iff_exists.mp (S.low a w)
      rw [kp a o e q]; rfl
  · obtain ⟨m, hn, hv⟩ := S.fr.loc
    refine ⟨m, hn.at fun o e => kp _ o e xl, fun y d ky g => ?_⟩
    obtain ⟨u, e1, e2⟩ := hv y d ky g
    exact ⟨u, e1, mv.rep e2⟩
  · obtain ⟨ov, ⟨o, ho, hd⟩, hr⟩ := S.fr.cell y c hm
    refine ⟨ov, ⟨o, kp _ o ho (xc y c hm), hd⟩, fun d ky hl g => ?_⟩
    obtain ⟨u, e1, e2⟩ := hr d ky hl g
    exact ⟨u, e1, mv.rep e2⟩

theorem relabel_names {scope : Scope} {env : Env} (O : EnvOk B ns env) (hs : CScope ns scope) : (relabel scope env).names = cns scope := by
  show scope.names.map _ = scope.names.map unfree
  apply List.map_congr_left
  intro p hp
  obtain ⟨n, kd⟩ := p
  by_cases hk : kd = .free
  · subst hk
    have h1 := hs.free _ hp rfl
    have h2 : env.kindOf n = some .cell := (O.kindOf n).trans h1
    have h3 : env.scope.kind = .function := O.kind
    simp [unfree, h2, h3]
  · have hb : (kd == NameKind.free) = false := by simpa using hk
    simp [unfree, hb]

theorem cns_lookup {scope : Scope} (hs : CScope ns scope) {p : Str × NameKind} (hp : p ∈ scope.names) : (cns scope).lookup p.1 = some (unfree p).2 := by
  have hmap : (cns scope).map (·.1) = scope.names.map (·.1) := by
    show (scope.names.map unfree).map (·.1) = _
    rw [List.map_map]
    apply List.map_congr_left
    intro q _
    show (unfree q).1 = q.1
    unfold unfree; split <;> rfl
  have : (unfree p) ∈ cns scope := List.mem_map.mpr ⟨p, hp, rfl⟩
  have h2 := lookup_nodup (hmap ▸ hs.nodup) this
  have e : (unfree p).1 = p.1 := by unfold unfree; split <;> rfl
  rw [e] at h2; exact h2

theorem env_of_comp {scope : Scope} {env : Env} {C : Addr} (O : EnvOk B ns env) (hs : CScope ns scope) (hC : B.h0.get? C = none) : EnvOk B (cns scope) (compEnvC scope (clos env.cells scope.names []) C env) := by
  have hfree : ∀ p ∈ scope.names, p.2 = .free → (env.cells.lookup p.1).isSome = true := fun p hp hf => O.has _ (hs.free p hp hf)
  refine ⟨relabel_names O hs, ?_, O.globals, O.builtins, hC, fun x c hm => ?_, ?_, fun x hx => ?_⟩
  · exact hs.kind
  · rcases clos_mem hm with h | ⟨h, e⟩
    · cases h
    · obtain ⟨c', hc'⟩ := Option.isSome_iff_exists.mp (hfree _ h rfl)
      have hc' : env.cells.lookup x = some c' := hc'
      have e : c = (env.cells.lookup x).getD 0 := e
      rw [hc'] at e
      have e : c = c' := e
      subst e
      exact O.cellsAbove _ _ (mem_of_lookup hc')
  · exact clos_apart O.apart hs.nodup (fun p hp => by cases hp) hfree List.Pairwise.nil
  · have hm := mem_of_lookup hx
    obtain ⟨p, hp, e⟩ := List.mem_map.mp hm
    obtain ⟨n, kd⟩ := p
    have : kd = .free := by
      unfold unfree at e
      split at e
      · rename_i hk; simpa using hk
      · cases e; exact absurd rfl (hs.nocell _ hp)
    subst this
    have e1 : n = x := by unfold unfree at e; simp at e; exact e
    subst e1
    exact clos_has (.inl hp)

/-- what a comprehension's turn needs -/
structure Turn (B : Base) (k : Nat) (ns : List (Str × NameKind)) (Lc : List (Str × D)) (target : Expr) (ifs : List Expr) (elt : Expr) (d : D) (p : Bool) (y : D) : Prop where
  bs : ∃ bs, (∀ q ∈ bs, ns.lookup q.1 = some .local) ∧ Asg B k ns target d bs ∧ Tests B k ns (Lk (bs ++ Lc)) ifs p ∧ (p = true → Ev B k ns (Lk (bs ++ Lc)) elt y)

theorem comp_loop {α : Type} {ι : List α} {e : α → D} {p : α → Bool} {g : α → D} {elt target iter : Expr} {ifs : List Expr} {scope : Scope} {pos : Pos} {A : Around} {env : Env} {s s₂ : Shared} {W : Addr → Prop} {I : Addr} {fp wr : List Addr} {P : Nat → Value → Prop} {St' : Nat → Heap → Prop}
    {Lc : List (Str × D)} {E : Value → Shared → Prop} {RR : Value → Addr → Result → Shared → Prop} (R : Room k A) (O : EnvOk B ns env) (S : St B W env Γ s.heap) (hs : CScope ns scope)
    (hLc : ∀ q ∈ Lc, (q.1, NameKind.free) ∈ scope.names ∧ Γ q.1 = some q.2)
    (l : Le s.heap s₂.heap) (X : Src B A W s.heap (ι.map e) I fp wr P St') (st0 : St' 0 s₂.heap) (hfp : ∀ b ∈ fp, ∃ o, s₂.heap.get? b = some o ∧ solid o ∧ ¬ W b) (hwr : ∀ b ∈ wr, s.heap.get? b = none)
    (hn : ι.length ≤ 2000) (turn : ∀ a ∈ ι, Turn B k (cns scope) Lc target ifs elt (e a) (p a) (g a))
    (K : ∀ D C h' tk m', Le s.heap h' → s₂.heap.get? D = none → s₂.heap.get? C = none → D ≠ C → h'.Ns C m' → Rep W h' (.ref D) (.list ((ι.filter p).map g)) → RR (.ref D) C (.ok .next) { s₂ with heap := h', toks := tk }) :
    wpAny B.M A (newList []) (fun acc s₃ => wpAny B.M A (newFunctionEnv scope env.globals (clos env.cells scope.names []) [] env.qual none .none (some env)) (fun cenv s₄ =>
      codeAny B.M A (.compStart (.ListComp elt [⟨target, iter, ifs, 0⟩] scope pos) 0 (.ref I) acc { cenv with scope := relabel scope env }) (RR acc cenv.locals) s₄) E s₃) E s₂ := by
  refine wpAny_newObj_type (wpAny_newFunctionEnv hs.nocell (by intro y hy; simp at hy) (fun h₁ hns₁ hsb₁ => ?_) hs.kind)
  dsimp only at hns₁ hsb₁ ⊢
  generalize hH2 : s₂.heap.push { cls := .type "list", dict := none, data := .seq ([] : List Value).toArray } = H2 at hns₁ hsb₁ ⊢
  have hC0 : H2.objs.size = s₂.heap.objs.size + 1 := by rw [← hH2, Heap.size_push]
  obtain ⟨D, hDn⟩ : ∃ D, s₂.heap.objs.size = D := ⟨_, rfl⟩
  obtain ⟨C, hCn⟩ : ∃ C, H2.objs.size = C := ⟨_, rfl⟩
  rw [hDn, hCn] at hC0
  rw [hCn] at hns₁ hsb₁
  rw [hDn, hCn]
  have hDC : D ≠ C := by rw [hC0]; exact Nat.ne_of_lt (Nat.lt_succ_self D)
  have hltC : ∀ b : Nat, b < s₂.heap.objs.size → b ≠ C := fun b h => by rw [hC0, ← hDn]; exact Nat.ne_of_lt (Nat.lt_succ_of_lt h)
  have hDleC : D ≤ C := by rw [hC0]; exact Nat.le_succ D
  have old2 : Le s₂.heap h₁ := fun b o eo => hsb₁.extBut b o (hltC b (Heap.lt_size eo)) (Heap.get?_push_of_some _ (hH2 ▸ Heap.get?_push_of_some _ eo))
  have fresh : ∀ a, D ≤ a → s₂.heap.get? a = none := fun a ha => by
    cases eo : s₂.heap.get? a with
    | none => rfl
    | some o' => exact absurd (Heap.lt_size eo) (Nat.not_lt.mpr (hDn ▸ ha))
  have freshs : ∀ a, D ≤ a → s.heap.get? a = none := fun a ha => by
    cases eo : s.heap.get? a with
    | none => rfl
    | some o' => have := l a o' eo; rw [fresh a ha] at this; cases this
  have hDl : IsL h₁ D #[] 0 := by
    have : H2.get? D = some { cls := .type "list", dict := none, data := .seq ([] : List Value).toArray } := by
      rw [← hH2, ← hDn]; exact Heap.get?_push_size _ rfl
    exact hsb₁.extBut _ _ hDC (Heap.get?_push_of_some _ this)
  have hOs : B.h0.get? C = none := by
    cases eo : B.h0.get? C with
    | none => rfl
    | some o => have := S.base _ _ eo; rw [freshs C hDleC] at this; cases this
  have OC : EnvOk B (cns scope) (compEnvC scope (clos env.cells scope.names []) C env) := env_of_comp O hs hOs
  let W' : Addr → Prop := fun a => W a ∨ a = D ∨ a ∈ wr
  have wrD : ∀ b ∈ fp, b ≠ D := fun b hb e => by obtain ⟨o, eo, _⟩ := hfp b hb; rw [e, fresh D (Nat.le_refl _)] at eo; cases eo
  have wrC : ∀ b ∈ fp, b ≠ C := fun b hb e => by obtain ⟨o, eo, _⟩ := hfp b hb; rw [e, fresh C hDleC] at eo; cases eo
  have sub := X.w.sub
  have mv0 : Mv W s.heap W' h₁ := fun a o eo so w => by
    refine ⟨old2 a o (l a o eo), fun q => ?_⟩
    rcases q with q | q | q
    · exact w q
    · rw [q, freshs D (Nat.le_refl _)] at eo; cases eo
    · rw [hwr a q] at eo; cases eo
  have cellS : ∀ x c, (x, c) ∈ clos env.cells scope.names [] → (x, c) ∈ env.cells ∧ env.cells.lookup x = some c ∧ (x, NameKind.free) ∈ scope.names := fun x c hm => by
    rcases clos_mem hm with h | ⟨h, ec⟩
    · cases h
    · obtain ⟨c', hc'⟩ := Option.isSome_iff_exists.mp (O.has _ (hs.free _ h rfl))
      have hc' : env.cells.lookup x = some c' := hc'
      have ec : c = (env.cells.lookup x).getD 0 := ec
      rw [hc'] at ec
      have ec : c = c' := ec
      subst ec
      exact ⟨mem_of_lookup hc', hc', h⟩
  have SC : St B W' (compEnvC scope (clos env.cells scope.names []) C env) (Lk Lc) h₁ := by
    refine ⟨fun b o eo => old2 b o (l b o (S.base b o eo)), fun a w => ?_, ⟨_, hns₁, fun x d hk g => ?_⟩, fun x c hm => ?_⟩
    · rcases w with w | w | w
      · obtain ⟨o, eo⟩ := Option.isSome_iff_exists.mp (S.low a w); rw [old2 a o (l a o eo)]; rfl
      · rw [w, hDl]; rfl
      · obtain ⟨o, eo, _⟩ := hfp a (sub a w); rw [old2 a o eo]; rfl
    · have hq := hLc _ (mem_of_lookup g)
      have := cns_lookup hs hq.1
      rw [OC.kindOf x] at hk
      have hk : (cns scope).lookup x = some .local := hk
      have this : (cns scope).lookup x = some .cell := this
      rw [this] at hk; cases hk
    · obtain ⟨h1, h2, h3⟩ := cellS x c hm
      obtain ⟨ov, hc, hr⟩ := S.fr.cell x c h1
      refine ⟨ov, (hc.keeps l).keeps old2, fun d hk hl g => ?_⟩
      have hq := hLc _ (mem_of_lookup g)
      obtain ⟨u, e1, e2⟩ := hr d ((O.kindOf x).trans (hs.free _ h3 rfl)) h2 hq.2
      exact ⟨u, e1, mv0.rep e2⟩
  have hOW : ∀ a, W' a → W' a := fun _ q => q
  have x0 : ∀ a, a ∈ wr → B.h0.get? a = none := fun a q => by
    cases eo : B.h0.get? a with
    | none => rfl
    | some o => have := S.base _ _ eo; rw [hwr a q] at this; cases this
  have xD : B.h0.get? D = none := by
    cases eo : B.h0.get? D with
    | none => rfl
    | some o => have := S.base _ _ eo; rw [freshs D (Nat.le_refl _)] at this; cases this
  have cellOld : ∀ x c, (x, c) ∈ clos env.cells scope.names [] → (s.heap.get? c).isSome = true := fun x c hm => by
    obtain ⟨ov, ⟨o, ho, _⟩, _⟩ := S.fr.cell x c (cellS x c hm).1
    rw [ho]; rfl
  have cellWr : ∀ x c, (x, c) ∈ clos env.cells scope.names [] → c ∉ wr := fun x c hm q => by
    have := cellOld x c hm; rw [hwr c q] at this; cases this
  have cellD : ∀ x c, (x, c) ∈ clos env.cells scope.names [] → c ≠ D := fun x c hm q => by
    have := cellOld x c hm; rw [q, freshs D (Nat.le_refl _)] at this; cases this
  have loop : ∀ s₃ : Shared, s₃ = { s₂ with heap := h₁, toks := s₂.toks + ([] : List (Str × Value)).length } →
      codeAny B.M A (.compLoop (.ListComp elt [⟨target, iter, ifs, 0⟩] scope pos) 0 (.ref I) (.ref D) (compEnvC scope (clos env.cells scope.names []) C env)) (RR (.ref D) C) s₃ := by
    rintro s₃ rfl
    refine compLoop_any (fun n s' => ∃ i h tk ys nn, s' = { s₂ with heap := h, toks := tk } ∧ n = ι.length + 1 - i ∧ i ≤ ι.length ∧ St' i h ∧ IsL h D (List.toArray ys) nn ∧ St B W' (compEnvC scope (clos env.cells scope.names []) C env) (Lk Lc) h ∧
      Reps W' h ys (((ι.take i).filter p).map g) ∧ (∀ b o, b ∉ wr → b ≠ D → b ≠ C → h₁.get? b = some o → h.get? b = some o)) ?_ (ι.length + 1)
      ⟨0, h₁, _, [], 0, rfl, rfl, Nat.zero_le _, X.w.frame _ _ _ st0 (fun b hb o eo => old2 b o eo), hDl, SC, .nil, fun _ _ _ _ _ eo => eo⟩
    rintro n s' ⟨i, h, tk, ys, nn, rfl, rfl, hi, hst, hD, hS, hr, hk⟩
    have hlen : (ι.map e).length = ι.length := List.length_map ..
    by_cases hend : i = ι.length
    · subst hend
      have hst' : St' (ι.map e).length h := by rw [hlen]; exact hst
      refine X.w.done _ _ _ hst' fun h' tk' hk' => ?_
      obtain ⟨m, hnC, _⟩ := hS.fr.loc
      have hCwr : C ∉ wr := fun q => wrC C (sub C q) rfl
      have hDwr : D ∉ wr := fun q => wrD D (sub D q) rfl
      refine K D C h' tk' m (fun b o eo => hk' b o (fun q => ?_) (hk b o (fun q => ?_) (fun q => ?_) (fun q => ?_) (old2 b o (l b o eo)))) (fresh D (Nat.le_refl _)) (fresh C hDleC) hDC (hnC.at fun o eo => hk' _ o hCwr eo) ?_
      · rw [hwr b q] at eo; cases eo
      · rw [hwr b q] at eo; cases eo
      · rw [q, freshs D (Nat.le_refl _)] at eo; cases eo
      · rw [q, freshs C hDleC] at eo; cases eo
      · rw [List.take_length] at hr
        refine .list (fun w => ?_) (hk' _ _ hDwr hD) (Reps.move (W := W') (fun a o eo so w => ⟨hk' a o (fun q => w (.inr (.inr q))) eo, fun q => w (.inl q)⟩) hr)
        have := S.low D w; rw [freshs D (Nat.le_refl _)] at this; cases this
    · have hlt : i < ι.length := Nat.lt_of_le_of_ne hi hend
      have hlt' : i < (ι.map e).length := by rw [hlen]; exact hlt
      refine X.w.item i _ _ _ hlt' hst fun v h' tk' hP hst' hk' => ?_
      obtain ⟨d, hd, rv⟩ := X.item i v hP hlt'
      have ha : ι[i]? = some ι[i] := List.getElem?_eq_getElem hlt
      have hd' : d = e ι[i] := by
        rw [List.getElem?_map, ha] at hd; exact (Option.some.inj hd).symm
      subst hd'
      obtain ⟨bs, hbs, hasg, htest, helt⟩ := (turn ι[i] (List.getElem_mem hlt)).bs
      have hS1 : St B W' (compEnvC scope (clos env.cells scope.names []) C env) (Lk Lc) h' := hS.but (X := fun a => a ∈ wr) (fun b o eo q => hk' b o q eo) x0 (fun q => wrC C (sub C q) rfl) cellWr (fun a q => .inr (.inr q)) (fun a q => X.live _ _ _ hst' q)
      have mvv : Mv W s.heap W' h' := fun a o eo so w => by
        obtain ⟨e1, w1⟩ := mv0 a o eo so w
        have h1 : a ∉ wr := fun q => w1 (.inr (.inr q))
        have h2 : a ≠ D := fun q => w1 (.inr (.inl q))
        have h3 : a ≠ C := fun q => by rw [q, freshs C hDleC] at eo; cases eo
        exact ⟨hk' a o h1 (hk a o h1 h2 h3 e1), w1⟩
      refine X.go A _ target v _ _ _ hst' (hasg.go A _ _ W' Lc _ _ v R OC hS1 (mvv.rep rv) fun h3 tk3 kp3 S3 => ?_)
      have kpC : ∀ b o, b ≠ C → h'.get? b = some o → h3.get? b = some o := fun b o hb eo => kp3 b o eo fun ⟨q, hq, hsl⟩ => by
        rcases hsl with ⟨_, z⟩ | ⟨z, _⟩
        · exact hb z
        · rw [hbs q hq] at z; cases z
      refine htest.run R OC S3 fun h4 tk4 l4 => ?_
      have mv34 : Mv W' h W' h4 := fun a o eo so w => by
        have h1 : a ∉ wr := fun q => w (.inr (.inr q))
        have h3' : a ≠ C := fun q => by
          obtain ⟨m, hnC, _⟩ := hS.fr.loc
          exact not_solid_ns hnC (q ▸ eo) so
        exact ⟨l4 a o (kpC a o h3' (hk' a o h1 eo)), w⟩
      have hDwr : D ∉ wr := fun q => wrD D (sub D q) rfl
      have hD4 : IsL h4 D (List.toArray ys) nn := l4 _ _ (kpC _ _ hDC (hk' _ _ hDwr hD))
      have st4 : St' (i + 1) h4 := X.w.frame _ _ _ hst' fun b hb o eo => l4 b o (kpC b o (wrC b hb) eo)
      have weak : ∀ n d, Lk Lc n = some d → Lk (bs ++ Lc) n = some d := fun n d g => by
        have hq := hLc _ (mem_of_lookup g)
        have hc := cns_lookup hs hq.1
        have hnb : bs.lookup n = none := by
          cases eb : bs.lookup n with
          | none => rfl
          | some d' => have := hbs _ (mem_of_lookup eb); rw [this] at hc; cases hc
        show (bs ++ Lc).lookup n = some d
        rw [List.lookup_append, hnb]; exact g
      have S4 := S3.le l4
      have kk4 : ∀ b o, b ∉ wr → b ≠ D → b ≠ C → h₁.get? b = some o → h4.get? b = some o := fun b o h1 h2 h3' eo => l4 b o (kpC b o h3' (hk' b o h1 (hk b o h1 h2 h3' eo)))
      have etake : (ι.take (i + 1)).filter p = (ι.take i).filter p ++ (if p ι[i] then [ι[i]] else []) := take_succ_filter p ι i _ ha
      cases hp : p ι[i] with
      | false =>
        rw [hp] at etake
        simp only [Bool.false_eq_true, if_false] at etake ⊢
        exact ⟨ι.length + 1 - (i + 1), by omega, i + 1, h4, tk4, ys, nn, rfl, rfl, hlt, st4, hD4, S4.weak weak, by rw [etake, List.append_nil]; exact mv34.reps hr, kk4⟩
      | true =>
        rw [hp] at etake
        simp only [if_true] at etake ⊢
        refine (helt hp).go A _ _ W' _ _ R OC S4 fun y h5 tk5 l5 r5 => ?_
        have hD5 := l5 _ _ hD4
        have hys : ys.length ≤ 2000 := by
          have e1 := hr.length
          have e2 : (((ι.take i).filter p).map g).length ≤ ι.length := by
            rw [List.length_map]
            exact Nat.le_trans (List.length_filter_le _ _) (List.length_take_le' ..)
          omega
        refine wpAny_list_append_plain (s := { s₂ with heap := h5, toks := tk5 }) ⟨nn, hD5⟩ (fun h6 hl6 hs6 => ?_) (by rw [List.size_toArray]; exact Nat.le_trans hys (by decide))
        obtain ⟨n6, hl6⟩ := hl6
        have kp6 : Keep (fun a => a = D) h5 h6 := fun b o eo q => (hs6.2 b q).trans eo
        have mv6 : Mv W' h5 W' h6 := fun a o eo so w => ⟨kp6 a o eo fun q => w (.inr (.inl q)), w⟩
        have S6 : St B W' (compEnvC scope (clos env.cells scope.names []) C env) (Lk Lc) h6 := ((S4.le l5).weak weak).but (X := fun a => a = D) kp6 (fun a q => q ▸ xD) (fun q => hDC q.symm) cellD (fun a q => .inr (.inl q)) (fun a q => by rw [q, hl6]; rfl)
        refine ⟨ι.length + 1 - (i + 1), by omega, i + 1, h6, tk5, ys ++ [y], n6, rfl, rfl, hlt, X.w.frame _ _ _ st4 (fun b hb o eo => kp6 b o (l5 b o eo) (wrD b hb)), by simpa using hl6, S6, ?_, fun b o h1 h2 h3' eo => kp6 b o (l5 b o (kk4 b o h1 h2 h3' eo)) h2⟩
        rw [etake, List.map_append]
        exact (mv6.reps ((Mv.le l5).reps (mv34.reps hr))).append (.cons (mv6.rep r5) .nil)
  exact codeAny_compStart_list (loop _ rfl) (X.w.self 0 _ _ _ (X.w.frame _ _ _ st0 fun b hb o eo => old2 b o eo) (loop _ rfl))
end
end Mine
end

section
open PySem PySem.W PyProof.Rows
set_option maxRecDepth 20000
set_option linter.unusedVariables false
namespace Mine

section
variable {B : Base} {k : Nat} {ns : List (Str × NameKind)} {L : List (Str × D)}

def cscopeOk (ns : List (Str × NameKind)) (sc : Scope) : Bool :=
  sc.kind == .function && sc.names.all (fun p => !(p.2 == .free) || ns.lookup p.1 == some .cell) && sc.names.all (fun p => !(p.2 == .cell)) && decide (sc.names.map (·.1)).Nodup
theorem cscope_of {scope : Scope} (h : cscopeOk ns scope = true) : CScope ns scope := by
  unfold cscopeOk at h
  simp only [Bool.and_eq_true, List.all_eq_true, Bool.or_eq_true, Bool.not_eq_true', beq_iff_eq, decide_eq_true_eq] at h
  obtain ⟨⟨⟨h1, h2⟩, h3⟩, h4⟩ := h
  refine ⟨h1, fun p hp hf => ?_, fun p hp hc => ?_, h4⟩
  · rcases h2 p hp with q | q
    · rw [hf] at q; simp at q
    · exact q
  · have := h3 p hp; rw [hc] at this; simp at this

/-- the captured names -/
inductive Cap (names : List (Str × NameKind)) (Γ : Str → Option D) : List (Str × D) → Prop
  | nil : Cap names Γ []
  | cons {x : Str} {d : D} {l : List (Str × D)} : decide ((x, NameKind.free) ∈ names) = true → Γ x = some d → Cap names Γ l → Cap names Γ ((x, d) :: l)
theorem Cap.all {names : List (Str × NameKind)} {Γ : Str → Option D} {l : List (Str × D)} (h : Cap names Γ l) : ∀ q ∈ l, (q.1, NameKind.free) ∈ names ∧ Γ q.1 = some q.2 := by
  induction h with
  | nil => intro q hq; cases hq
  | cons h1 h2 _ ih =>
    intro q hq
    rcases List.mem_cons.mp hq with rfl | hq
    · exact ⟨of_decide_eq_true h1, h2⟩
    · exact ih q hq

/-- a source that a loop may go over -/
def Over (d : D) (xs : List D) : Prop := items d = some xs ∧ ∀ a b, d = .range a b → -(2 ^ 40) ≤ a ∧ a ≤ 2 ^ 40 ∧ -(2 ^ 40) ≤ b ∧ b ≤ 2 ^ 40
theorem over_list {ds : List D} : Over (.list ds) ds := ⟨rfl, fun _ _ e => nomatch e⟩
theorem over_str {l : List Nat} : Over (S l) (l.map fun c => S [c]) := ⟨by simp [items], fun _ _ e => nomatch e⟩
theorem over_range {n : Nat} (h : n ≤ 2000) : Over (.range 0 n) ((List.range n).map fun (i : Nat) => D.int i) := ⟨by
  show some (dI (rangeI 0 ((n : Int) - 0).toNat)) = _
  congr 1
  unfold dI rangeI
  rw [List.map_map, show ((n : Int) - 0).toNat = n by omega]
  apply List.map_congr_left
  intro i _
  simp, fun a b e => by cases e; omega⟩
theorem over_range1 {n : Nat} (h : n ≤ 2000) : Over (.range 1 (n + 1)) ((List.range n).map fun (i : Nat) => D.int (i + 1)) := ⟨by
  show some (dI (rangeI 1 ((n : Int) + 1 - 1).toNat)) = _
  congr 1
  unfold dI rangeI
  rw [List.map_map, show ((n : Int) + 1 - 1).toNat = n by omega]
  apply List.map_congr_left
  intro i _
  simp; omega, fun a b e => by cases e; omega⟩

theorem ev_comp {α : Type} {ι : List α} {e : α → D} {p : α → Bool} {g : α → D} {elt target iter : Expr} {ifs : List Expr} {scope : Scope} {pos : Pos} {d : D} {Lc : List (Str × D)}
    (hi : Ev B k ns (Lk L) iter d) (hx : Over d (ι.map e)) (hs : CScope ns scope) (hLc : Cap scope.names (Lk L) Lc) (hn : ι.length ≤ 2000)
    (turn : ∀ a ∈ ι, Turn B k (cns scope) Lc target ifs elt (e a) (p a) (g a)) (hf : ∀ env x, foldedSetIterable iter env x = pure x := by intro _ _; rfl) :
    Ev B k ns (Lk L) (.ListComp elt [⟨target, iter, ifs, 0⟩] scope pos) (.list ((ι.filter p).map g)) := .mk fun A env s W Q E R O S K => by
  rw [eval_ListComp]
  refine wpAny_comprehension_free (use := none) rfl (hf env) (closureFor_eq fun p hp hfr => O.has _ (hs.free p hp hfr)) hs.kind (fun x hx hl => ?_) ?_
  · have := lookup_nodup hs.nodup hx; rw [this, hl]
  · refine hi.go A env s W _ E R O S fun v h1 t1 l1 r1 => ?_
    have S1 := S.le l1
    refine iter_of R S1.low r1 hx.1 hx.2 fun I h2 t2 fp wr P St' l2 X st0 hfp hwr => ?_
    refine comp_loop (s := { s with heap := h1, toks := t1 }) (s₂ := { s with heap := h2, toks := t2 }) (RR := fun acc C => compPost B.M A E none Q acc C) R O S1 hs hLc.all l2 X st0 hfp hwr hn turn fun D' C h' tk m' l3 hD hC hDC hns r => ?_
    refine ⟨m', hns, fun h'' hs'' => ?_⟩
    have hCs : s.heap.get? C = none := by
      cases eo : s.heap.get? C with
      | none => rfl
      | some o => have := l2 _ _ (l1 _ _ eo); rw [hC] at this; cases this
    have hCr : ∀ b o, s.heap.get? b = some o → b ≠ C := fun b o eo q => by rw [q, hCs] at eo; cases eo
    refine K _ h'' tk (fun b o eo => (hs''.2 b (hCr b o eo)).trans (l3 b o (l1 b o eo))) (r.move fun a o eo so w => ⟨(hs''.2 a fun q => ?_).trans eo, w⟩)
    exact not_solid_ns hns (q ▸ eo) so

/-- the ends of statements -/
inductive Out where
  | next (L : List (Str × D)) | ret (d : D)
def OutOk (B : Base) (W : Addr → Prop) (env : Env) : Out → Flow → Heap → Prop
  | .next L, f, h => f = .next ∧ St B W env (Lk L) h
  | .ret d, f, h => ∃ v, f = .ret v ∧ Rep W h v d
structure Ex1 (B : Base) (k : Nat) (ns : List (Str × NameKind)) (L : List (Str × D)) (st : Stmt) (o : Out) : Prop where
  go : ∀ (A : Around) (env : Env) (s : Shared) (W : Addr → Prop) (Q : Flow → Shared → Prop) (E : Value → Shared → Prop), Room k A → EnvOk B ns env → St B W env (Lk L) s.heap →
    (∀ f h' tk, Keep (own env) s.heap h' → OutOk B W env o f h' → Q f { s with heap := h', toks := tk }) → wpAny B.M A (exec st env) Q E s
structure Ex (B : Base) (k : Nat) (ns : List (Str × NameKind)) (L : List (Str × D)) (ss : List Stmt) (o : Out) : Prop where
  go : ∀ (A : Around) (env : Env) (s : Shared) (W : Addr → Prop) (Q : Flow → Shared → Prop) (E : Value → Shared → Prop), Room k A → EnvOk B ns env → St B W env (Lk L) s.heap →
    (∀ f h' tk, Keep (own env) s.heap h' → OutOk B W env o f h' → Q f { s with heap := h', toks := tk }) → wpAny B.M A (execs ss env) Q E s

theorem ex_nil : Ex B k ns L [] (.next L) := .mk fun A env s W Q E R O S K => wpAny_execs_nil (K _ s.heap s.toks (Keep.refl _) ⟨rfl, S⟩)
theorem ex_next {L' : List (Str × D)} {st : Stmt} {ss : List Stmt} {o : Out} (h : Ex1 B k ns L st (.next L')) (h' : Ex B k ns L' ss o) : Ex B k ns L (st :: ss) o := .mk fun A env s W Q E R O S K =>
  wpAny_execs_cons (h.go A env s W _ E R O S fun f h1 t1 k1 ok => by
    obtain ⟨rfl, S1⟩ := ok
    exact h'.go A env _ W _ E R O S1 fun f h2 t2 k2 ok => K f h2 t2 (k1.trans k2) ok)
theorem ex_ret {d : D} {st : Stmt} {ss : List Stmt} (h : Ex1 B k ns L st (.ret d)) : Ex B k ns L (st :: ss) (.ret d) := .mk fun A env s W Q E R O S K =>
  wpAny_execs_cons (h.go A env s W _ E R O S fun f h1 t1 k1 ok => by
    obtain ⟨v, rfl, r⟩ := ok
    exact K _ h1 t1 k1 ⟨v, rfl, r⟩)
theorem ex_weak {L' : List (Str × D)} {ss : List Stmt} {o : Out} (w : ∀ n d, Lk L' n = some d → Lk L n = some d) (h : Ex B k ns L' ss o) : Ex B k ns L ss o := .mk fun A env s W Q E R O S K => h.go A env s W Q E R O (S.weak w) K

theorem ex1_return {e : Expr} {p : Pos} {d : D} (h : Ev B k ns (Lk L) e d) : Ex1 B k ns L (.Return (some e) p) (.ret d) := .mk fun A env s W Q E R O S K =>
  wpAny_Return_some (h.go A env s W _ E R O S fun v h1 t1 l1 r1 => K _ h1 t1 l1.keep ⟨v, rfl, r1⟩)
theorem ex1_if {t : Expr} {b e : List Stmt} {p : Pos} {c : Bool} {o : Out} (ht : Tr B k ns (Lk L) t c) (hb : c = true → Ex B k ns L b o) (he : c = false → Ex B k ns L e o) : Ex1 B k ns L (.If t b e p) o := .mk fun A env s W Q E R O S K =>
  wpAny_If (ht.go A env s W _ E R O S fun h1 t1 l1 => by
    cases c with
    | true => simp only [if_true]; exact (hb rfl).go A env _ W _ E R O (S.le l1) fun f h2 t2 k2 ok => K f h2 t2 (l1.keep.trans k2) ok
    | false => simp only [Bool.false_eq_true, if_false]; exact (he rfl).go A env _ W _ E R O (S.le l1) fun f h2 t2 k2 ok => K f h2 t2 (l1.keep.trans k2) ok)

theorem ex1_assign {x : Str} {p q : Pos} {e : Expr} {d : D} (h : Ev B k ns (Lk L) e d) (hx : ns.lookup x = some .local ∨ ns.lookup x = some .cell)
    (hs : ∀ env, EnvOk B ns env → swapsWith e (some (.Name x p)) q.line env = pure false := by intro _ _; rfl) : Ex1 B k ns L (.Assign [.Name x p] e q) (.next ((x, d) :: L)) := .mk fun A env s W Q E R O S K =>
  wpAny_Assign_Name (h.go A env s W _ E R O S fun v h1 t1 l1 r1 => store_one O (S.le l1) hx r1 fun h2 t2 k2 S2 => K _ h2 t2 (l1.keep.trans (k2.mono fun a q => q.own)) ⟨rfl, S2⟩) (hs env O)
theorem swaps_cell {x : Str} {p pos : Pos} {e : Expr} {gs : List Comprehension} {sc : Scope} {l : Nat} (hx : ns.lookup x = some .cell) (env : Env) (O : EnvOk B ns env) : swapsWith (.ListComp e gs sc pos) (some (.Name x p)) l env = pure false := by
  have h : env.kindOf x = some .cell := (O.kindOf x).trans hx
  show (pure (env.blockKind == .function && env.kindOf x == some .local && p.line == pos.line && !(sc.names.any fun (n, k) => n == x && (k == .local || k == .cell))) : Sem Bool) = _
  rw [h]
  have : ((some NameKind.cell : Option NameKind) == some .local) = false := by decide
  rw [this]; simp
theorem swaps_local {x : Str} {p pos : Pos} {e : Expr} {gs : List Comprehension} {sc : Scope} {l : Nat} (hx : ns.lookup x = some .local) (hp : (p.line == pos.line && !(sc.names.any fun (n, k) => n == x && (k == .local || k == .cell))) = true) (env : Env) (O : EnvOk B ns env) :
    swapsWith (.ListComp e gs sc pos) (some (.Name x p)) l env = pure true := by
  have h : env.kindOf x = some .local := (O.kindOf x).trans hx
  have hb : env.blockKind = .function := by unfold Env.blockKind; rw [O.kind]; rfl
  show (pure (env.blockKind == .function && env.kindOf x == some .local && p.line == pos.line && !(sc.names.any fun (n, k) => n == x && (k == .local || k == .cell))) : Sem Bool) = _
  rw [Bool.and_assoc, hp, h, hb]; rfl

/-- a name that takes a comprehension -/
theorem ex1_assign_comp {α : Type} {ι : List α} {e : α → D} {p : α → Bool} {g : α → D} {elt target iter : Expr} {ifs : List Expr} {scope : Scope} {pos : Pos} {d : D} {Lc : List (Str × D)} {x : Str} {px ps : Pos} (hx : ns.lookup x = some .local)
    (hp : (px.line == pos.line && !(scope.names.any fun (n, k) => n == x && (k == .local || k == .cell))) = true)
    (hi : Ev B k ns (Lk L) iter d) (ho : Over d (ι.map e)) (hs : CScope ns scope) (hLc : Cap scope.names (Lk L) Lc) (hn : ι.length ≤ 2000)
    (turn : ∀ a ∈ ι, Turn B k (cns scope) Lc target ifs elt (e a) (p a) (g a)) (hf : ∀ env x, foldedSetIterable iter env x = pure x := by intro _ _; rfl) :
    Ex1 B k ns L (.Assign [.Name x px] (.ListComp elt [⟨target, iter, ifs, 0⟩] scope pos) ps) (.next ((x, .list ((ι.filter p).map g)) :: L)) := .mk fun A env s W Q E R O S K => by
  rw [exec_Assign_Name_used _ _ _ _ (swaps_local hx hp env O)]
  refine wpAny_bind (wpAny_standAt (wpAny_bind ?_))
  show wpAny _ A (do let _ ← comprehension (.ListComp elt [⟨target, iter, ifs, 0⟩] scope pos) scope env _ (newList []) false (eval iter env) (some (assign (.Name x px) env))) _ _ s
  refine wpAny_bind (wpAny_mono (wpAny_comprehension_free (use := some (assign (.Name x px) env)) (Q := fun _ s' => Q .next s') (E := E) rfl (hf env) (closureFor_eq fun p hp hfr => O.has _ (hs.free p hp hfr)) hs.kind (fun x hx hl => ?_) ?_) (fun _ s' hq => wpAny_pure (wpAny_pure hq)) fun _ _ e => e)
  · have := lookup_nodup hs.nodup hx; rw [this, hl]
  · refine hi.go A env s W _ E R O S fun v h1 t1 l1 r1 => ?_
    have S1 := S.le l1
    refine iter_of R S1.low r1 ho.1 ho.2 fun I h2 t2 fp wr P St' l2 X st0 hfp hwr => ?_
    refine comp_loop (s := { s with heap := h1, toks := t1 }) (s₂ := { s with heap := h2, toks := t2 }) (RR := fun acc C => compPost B.M A E (some (assign (.Name x px) env)) (fun _ s' => Q .next s') acc C) R O S1 hs hLc.all l2 X st0 hfp hwr hn turn fun D' C h' tk m' l3 hD hC hDC hns r => ?_
    have hCs : s.heap.get? C = none := by
      cases eo : s.heap.get? C with
      | none => rfl
      | some o => have := l2 _ _ (l1 _ _ eo); rw [hC] at this; cases this
    have hCr : ∀ b o, s.heap.get? b = some o → b ≠ C := fun b o eo q => by rw [q, hCs] at eo; cases eo
    have hCl : C ≠ env.locals := fun q => by
      obtain ⟨⟨m, ⟨o, _, _, eo, _⟩, _⟩, _⟩ := S.fr
      exact hCr _ _ eo q.symm
    have lt := l1.trans l3
    show wpAny B.M A (assign (.Name x px) env (.ref D')) _ E _
    refine wpAny_assign_Name (store_one (s := { s with heap := h', toks := tk }) O (S.le lt) (.inl hx) r fun h4 t4 k4 S4 => ?_)
    have hnsC : h4.Ns C m' := hns.at fun o eo => k4 _ o eo fun q => by
      rcases q with ⟨_, q⟩ | ⟨q, _⟩
      · exact hCl q
      · rw [hx] at q; cases q
    refine ⟨m', hnsC, fun h'' hs'' => ?_⟩
    have kC : Keep (fun a => a = C) h4 h'' := fun b o eo q => (hs''.2 b q).trans eo
    have mv : Mv W h4 W h'' := fun a o eo so w => ⟨kC a o eo fun q => not_solid_ns hnsC (q ▸ eo) so, w⟩
    refine K _ h'' t4 (fun b o eo q => kC b o (k4 b o (lt b o eo) fun z => q z.own) (hCr b o eo)) ⟨rfl, fun b o eo => kC b o (S4.base b o eo) (fun q => ?_), fun a w => ?_, ?_, fun y c hm => ?_⟩
    · have := S.base b o eo; exact hCr _ _ this q
    · obtain ⟨o, eo⟩ := Option.isSome_iff_exists.mp (S.low a w)
      obtain ⟨o4, eo4⟩ := Option.isSome_iff_exists.mp (S4.low a w)
      rw [kC a o4 eo4 (hCr a o eo)]; rfl
    · obtain ⟨m, hn4, hv⟩ := S4.fr.loc
      refine ⟨m, hn4.at fun o eo => kC _ o eo hCl.symm, fun y d ky g => ?_⟩
      obtain ⟨u, e1, e2⟩ := hv y d ky g
      exact ⟨u, e1, mv.rep e2⟩
    · obtain ⟨ov, ⟨o, eo, hd⟩, hr⟩ := S4.fr.cell y c hm
      obtain ⟨ov0, ⟨o0, eo0, _⟩, _⟩ := S.fr.cell y c hm
      refine ⟨ov, ⟨o, kC _ o eo (hCr _ _ eo0), hd⟩, fun d ky hl g => ?_⟩
      obtain ⟨u, e1, e2⟩ := hr d ky hl g
      exact ⟨u, e1, mv.rep e2⟩

theorem ex1_assign_tuple {ts : List Expr} {n : Nat} {tp q : Pos} {e : Expr} {d : D} {bs : List (Str × D)} (h : Ev B k ns (Lk L) e d) (ha : Asg B k ns (.Tuple ts n tp) d bs)
    (hs : ∀ env, swapsWithSole [.Tuple ts n tp] e q.line env = pure false := by intro _; rfl) (hw : ∀ env, swappedStores [.Tuple ts n tp] e env = pure none := by intro _; rfl) :
    Ex1 B k ns L (.Assign [.Tuple ts n tp] e q) (.next (bs ++ L)) := .mk fun A env s W Q E R O S K =>
  Assign_Tuple (h.go A env s W _ E R O S fun v h1 t1 l1 r1 => ha.go A env _ W L _ E v R O (S.le l1) r1 fun h2 t2 k2 S2 => K _ h2 t2 (l1.keep.trans (k2.mono fun a ⟨p, _, hp⟩ => hp.own)) ⟨rfl, S2⟩) (hs env) (hw env)
end
end Mine
end

section
open PySem PySem.W PyProof.Rows
set_option maxRecDepth 20000
set_option linter.unusedVariables false
namespace Mine

theorem bindL_other {kindOf : Str → Option NameKind} {x : Str} : ∀ {bs : List (Str × Value)} {m : Str → Option Value}, x ∉ bs.map (·.1) → bindL kindOf bs m x = m x
  | [], m, _ => rfl
  | (n, v) :: r, m, h => by
    rw [List.map_cons, List.mem_cons, not_or] at h
    have h1 : ¬ x = n := h.1
    unfold bindL
    rw [bindL_other h.2]
    split
    · simp [h1]
    · rfl
theorem bindL_get {kindOf : Str → Option NameKind} {x : Str} {v : Value} (hk : kindOf x = some .local) : ∀ {bs : List (Str × Value)} {m : Str → Option Value}, (bs.map (·.1)).Nodup → (x, v) ∈ bs → bindL kindOf bs m x = some v
  | [], m, _, h => by cases h
  | (n, u) :: r, m, hn, h => by
    rw [List.map_cons, List.nodup_cons] at hn
    unfold bindL
    rcases List.mem_cons.mp h with e | h
    · cases e
      rw [bindL_other hn.1, if_pos hk]; simp
    · exact bindL_get hk hn.2 h
theorem bindC_other {kindOf : Str → Option NameKind} {x : Str} : ∀ {bs : List (Str × Value)} {m : Str → Option Value}, x ∉ bs.map (·.1) → bindC kindOf bs m x = m x
  | [], m, _ => rfl
  | (n, v) :: r, m, h => by
    rw [List.map_cons, List.mem_cons, not_or] at h
    have h1 : ¬ x = n := h.1
    unfold bindC
    rw [bindC_other h.2]
    split
    · rfl
    · simp [h1]
theorem bindC_get {kindOf : Str → Option NameKind} {x : Str} {v : Value} (hk : kindOf x ≠ some .local) : ∀ {bs : List (Str × Value)} {m : Str → Option Value}, (bs.map (·.1)).Nodup → (x, v) ∈ bs → bindC kindOf bs m x = some v
  | [], m, _, h => by cases h
  | (n, u) :: r, m, hn, h => by
    rw [List.map_cons, List.nodup_cons] at hn
    unfold bindC
    rcases List.mem_cons.mp h with e | h
    · cases e
      rw [bindC_other hn.1, if_neg hk]; simp
    · exact bindC_get hk hn.2 h

theorem cellsFrom_mem : ∀ {l : List (Str × NameKind)} {n : Nat} {acc : List (Str × Addr)} {p : Str × Addr}, p ∈ cellsFrom n l acc → p ∈ acc ∨ (p.1, NameKind.cell) ∈ l
  | [], _, _, _, h => .inl h
  | (x, kd) :: l, n, acc, p, h => by
    unfold cellsFrom at h
    split at h
    · rename_i hk
      have hk : kd = .cell := by simpa using hk
      subst hk
      rcases cellsFrom_mem h with h | h
      · rcases List.mem_cons.mp h with rfl | h
        · exact .inr (.head _)
        · exact .inl h
      · exact .inr (.tail _ h)
    · rcases cellsFrom_mem h with h | h
      · exact .inl h
      · exact .inr (.tail _ h)
theorem cellsFrom_nodup : ∀ {l : List (Str × NameKind)} {n : Nat} {acc : List (Str × Addr)}, (l.map (·.1)).Nodup → (acc.map (·.1)).Nodup → (∀ p ∈ acc, p.1 ∉ l.map (·.1)) → ((cellsFrom n l acc).map (·.1)).Nodup
  | [], _, _, _, h, _ => h
  | (x, kd) :: l, n, acc, hl, ha, hd => by
    rw [List.map_cons, List.nodup_cons] at hl
    unfold cellsFrom
    split
    · refine cellsFrom_nodup hl.2 ?_ fun p hp => ?_
      · rw [List.map_cons, List.nodup_cons]
        refine ⟨fun q => ?_, ha⟩
        obtain ⟨p, hp, e⟩ := List.mem_map.mp q
        exact hd p hp (by rw [List.map_cons]; rw [e]; exact .head _)
      · rcases List.mem_cons.mp hp with rfl | hp
        · exact hl.1
        · exact fun q => hd p hp (.tail _ q)
    · exact cellsFrom_nodup hl.2 ha fun p hp q => hd p hp (.tail _ q)
theorem cellsFrom_has : ∀ {l : List (Str × NameKind)} {n : Nat} {acc : List (Str × Addr)} {x : Str}, ((x, NameKind.cell) ∈ l ∨ (acc.lookup x).isSome = true) → ((cellsFrom n l acc).lookup x).isSome = true
  | [], _, acc, x, h => by
    rcases h with h | h
    · cases h
    · exact h
  | (y, kd) :: l, n, acc, x, h => by
    unfold cellsFrom
    split
    · rename_i hk
      apply cellsFrom_has
      rcases h with h | h
      · rcases List.mem_cons.mp h with e | h
        · cases e; right; simp
        · exact .inl h
      · right
        rw [List.lookup_cons]
        split
        · rfl
        · exact h
    · rename_i hk
      apply cellsFrom_has
      rcases h with h | h
      · rcases List.mem_cons.mp h with e | h
        · cases e; simp at hk
        · exact .inl h
      · exact .inr h

section
variable {B : Base} {k : Nat} {ns : List (Str × NameKind)} {L : List (Str × D)}

def fscopeOk (sc : Scope) (xs : List Str) : Bool :=
  sc.kind == .function && !sc.isCoroutine && !sc.isGenerator && decide (sc.names.map (·.1)).Nodup && decide xs.Nodup && xs.all fun x => sc.names.lookup x == some .local || sc.names.lookup x == some .cell

theorem zip_fst {α β : Type} : ∀ {xs : List α} {ys : List β}, ys.length = xs.length → (xs.zip ys).map (·.1) = xs
  | [], [], _ => rfl
  | x :: xs, y :: ys, h => by rw [List.zip_cons_cons, List.map_cons, zip_fst (by simpa using h)]
  | [], _ :: _, h => by simp at h
  | _ :: _, [], h => by simp at h
theorem zip_reps {W : Addr → Prop} {h : Heap} {x : Str} {d : D} : ∀ {xs : List Str} {vs : List Value} {ds : List D}, Reps W h vs ds → (x, d) ∈ xs.zip ds → ∃ v, (x, v) ∈ xs.zip vs ∧ Rep W h v d
  | [], _, _, _, hm => by simp at hm
  | y :: xs, [], [], _, hm => by simp at hm
  | y :: xs, v :: vs, e :: ds, .cons r rs, hm => by
    rw [List.zip_cons_cons] at hm
    rcases List.mem_cons.mp hm with q | hm
    · cases q; exact ⟨v, by rw [List.zip_cons_cons]; exact .head _, r⟩
    · obtain ⟨u, h1, h2⟩ := zip_reps rs hm
      exact ⟨u, by rw [List.zip_cons_cons]; exact .tail _ h1, h2⟩

/-- a def of the text -/
theorem fn_def {a : Addr} {o : Obj} {name : Str} {params : Arguments} {body : List Stmt} {scope : Scope} {pm cd doc : Value} {xs : List Str} {ds : List D} {d : D} (ho : B.h0.get? a = some o) (hd : o.data = .func (Calls.docDef name params body scope pm cd doc))
    (hcd : B.h0.CodeRec cd name) (hb : ∀ vs : List Value, vs.length = xs.length → bindArgs (Calls.docDef name params body scope pm cd doc) ⟨vs, []⟩ = pure (xs.zip vs)) (hlen : ds.length = xs.length) (hsc : fscopeOk scope xs = true)
    (hbody : Ex B k scope.names (xs.zip ds) body (.ret d)) : Fn B (k + 1) (.ref a) ds d := .mk fun A vs s W Q E R hb0 lo r K => by
  unfold fscopeOk at hsc
  simp only [Bool.and_eq_true, List.all_eq_true, Bool.or_eq_true, Bool.not_eq_true', beq_iff_eq, decide_eq_true_eq] at hsc
  obtain ⟨⟨⟨⟨⟨h1, h2⟩, h3⟩, h4⟩, h5⟩, h6⟩ := hsc
  have hvl : vs.length = xs.length := r.length.trans hlen
  have hfst : (xs.zip vs).map (·.1) = xs := zip_fst hvl
  have fresh : ∀ b, s.heap.objs.size ≤ b → s.heap.get? b = none := fun b hbb => by
    cases eo : s.heap.get? b with
    | none => rfl
    | some o' => exact absurd (Heap.lt_size eo) (Nat.not_lt.mpr hbb)
  have fresh0 : ∀ b, s.heap.objs.size ≤ b → B.h0.get? b = none := fun b hbb => by
    cases eo : B.h0.get? b with
    | none => rfl
    | some o' => have := hb0 _ _ eo; rw [fresh b hbb] at this; cases this
  refine wpAny_call (call_cells_ret (name := name) (params := params) (body := body) (scope := scope) (pm := pm) (cd := cd) (doc := doc) (binds := xs.zip vs) R.depth (hb0 _ _ ho) hd (B.lim.keeps hb0) (hcd.keeps hb0) (hb vs hvl) (fun p hp => ?_) (fun h₁ tk F X => ?_) h2 h3 h1)
  · have hx : p.1 ∈ xs := by rw [← hfst]; exact List.mem_map.mpr ⟨p, hp, rfl⟩
    rcases h6 _ hx with q | q
    · exact .inl q
    · exact .inr ⟨q, cellsFrom_has (.inl (mem_of_lookup q))⟩
  · have nd : ((cellsFrom (s.heap.objs.size + 1) scope.names []).map (·.1)).Nodup := cellsFrom_nodup h4 List.nodup_nil fun p hp => by cases hp
    have O : EnvOk B scope.names (envOfC name scope s.heap.objs.size a cd) := ⟨rfl, h1, rfl, rfl, fresh0 _ (Nat.le_refl _), fun x c hm => fresh0 c (Nat.le_of_lt (X.above x c hm)), X.apart, fun x hx => cellsFrom_has (.inl (mem_of_lookup hx))⟩
    have l : Le s.heap h₁ := F.keep
    have kind : ∀ x, (envOfC name scope s.heap.objs.size a cd).kindOf x = scope.names.lookup x := O.kindOf
    have S : St B W (envOfC name scope s.heap.objs.size a cd) (Lk (xs.zip ds)) h₁ := by
      refine ⟨hb0.trans l, lo.le l, ⟨_, F.ns, fun x d' hk g => ?_⟩, fun x c hm => ?_⟩
      · obtain ⟨v, hv, rv⟩ := zip_reps r (mem_of_lookup g)
        exact ⟨v, bindL_get hk (by rw [hfst]; exact h5) hv, rv.le l⟩
      · have hl : (cellsFrom (s.heap.objs.size + 1) scope.names []).lookup x = some c := lookup_nodup nd hm
        refine ⟨_, X.cell x c hl, fun d' hk _ g => ?_⟩
        obtain ⟨v, hv, rv⟩ := zip_reps r (mem_of_lookup g)
        exact ⟨v, bindC_get (by rw [hk]; decide) (by rw [hfst]; exact h5) hv, rv.le l⟩
    refine hbody.go (A.deeper _) _ { s with heap := h₁, toks := tk } W _ _ (R.deeper _) O S fun f h' t' k' ok => ?_
    obtain ⟨v, rfl, rv⟩ := ok
    refine K v h' t' (fun b o' eo => k' b o' (l b o' eo) fun q => ?_) rv
    rcases q with q | ⟨x, q⟩
    · rw [q] at eo
      have : s.heap.get? s.heap.objs.size = some o' := eo
      rw [fresh _ (Nat.le_refl _)] at this; cases this
    · have := fresh b (Nat.le_of_lt (X.above x b q)); rw [this] at eo; cases eo

/-- a loop's end -/
theorem ex1_for {xs : List D} {target iter : Expr} {body : List Stmt} {pos : Pos} {d : D} {o : Out} {m : Nat} (G : Nat → List (Str × D)) (hi : Ev B k ns (Lk L) iter d) (hx : Over d xs) (hm : m ≤ xs.length) (h0 : ∀ n d, Lk (G 0) n = some d → Lk L n = some d)
    (turn : ∀ i x, i < m → xs[i]? = some x → ∃ bs G', Asg B k ns target x bs ∧ Ex B k ns (bs ++ G i) body (.next G') ∧ ∀ n d, Lk (G (i + 1)) n = some d → Lk G' n = some d)
    (fin : (m = xs.length ∧ o = .next (G m)) ∨ ∃ x bs r, xs[m]? = some x ∧ Asg B k ns target x bs ∧ Ex B k ns (bs ++ G m) body (.ret r) ∧ o = .ret r)
    (hf : ∀ env x, foldedSetIterable iter env x = pure x := by intro _ _; rfl) : Ex1 B k ns L (.For target iter body [] pos) o := .mk fun A env s W Q E R O S K => by
  refine wpAny_For (hi.go A env s W _ E R O S fun v h1 t1 l1 r1 => ?_) (hf env)
  have S1 := S.le l1
  refine iter_of R S1.low r1 hx.1 hx.2 fun I h2 t2 fp wr P St' l2 X st0 hfp hwr => ?_
  have S2 := S1.le l2
  let W' : Addr → Prop := fun a => W a ∨ a ∈ wr
  have sub := X.w.sub
  have hown : ∀ b ∈ fp, ¬ own env b := fun b hb q => by
    obtain ⟨o', eo, so, _⟩ := hfp b hb
    rcases q with q | ⟨x, q⟩
    · obtain ⟨m', hn, _⟩ := S2.fr.loc; exact not_solid_ns hn (q ▸ eo) so
    · obtain ⟨ov, hc, _⟩ := S2.fr.cell x b q; exact not_solid_cell hc eo so
  have x0 : ∀ a, a ∈ wr → B.h0.get? a = none := fun a q => by
    cases eo : B.h0.get? a with
    | none => rfl
    | some o => have := S1.base _ _ eo; rw [hwr a q] at this; cases this
  have mv0 : Mv W h1 W' h2 := fun a o' eo so w => ⟨l2 a o' eo, fun q => by
    rcases q with q | q
    · exact w q
    · rw [hwr a q] at eo; cases eo⟩
  have SW : St B W' env (Lk (G 0)) h2 := by
    refine ⟨S2.base, fun a w => ?_, ?_, fun x c hm => ?_⟩
    · rcases w with w | w
      · exact S2.low a w
      · obtain ⟨o', eo, _⟩ := hfp a (sub a w); rw [eo]; rfl
    · obtain ⟨m', hn, hv⟩ := S1.fr.loc
      refine ⟨m', hn.keeps l2, fun y d' ky g => ?_⟩
      obtain ⟨u, e1, e2⟩ := hv y d' ky (h0 _ _ g)
      exact ⟨u, e1, mv0.rep e2⟩
    · obtain ⟨ov, hc, hr⟩ := S1.fr.cell x c hm
      refine ⟨ov, hc.keeps l2, fun d' ky hl g => ?_⟩
      obtain ⟨u, e1, e2⟩ := hr d' ky hl (h0 _ _ g)
      exact ⟨u, e1, mv0.rep e2⟩
  have back : ∀ {h : Heap} {L' : List (Str × D)}, St B W' env (Lk L') h → St B W env (Lk L') h := fun {h L'} T => by
    have mv : Mv W' h W h := fun a o' eo so w => ⟨eo, fun q => w (.inl q)⟩
    refine ⟨T.base, fun a w => T.low a (.inl w), ?_, fun x c hm => ?_⟩
    · obtain ⟨m', hn, hv⟩ := T.fr.loc
      refine ⟨m', hn, fun y d' ky g => ?_⟩
      obtain ⟨u, e1, e2⟩ := hv y d' ky g
      exact ⟨u, e1, mv.rep e2⟩
    · obtain ⟨ov, hc, hr⟩ := T.fr.cell x c hm
      refine ⟨ov, hc, fun d' ky hl g => ?_⟩
      obtain ⟨u, e1, e2⟩ := hr d' ky hl g
      exact ⟨u, e1, mv.rep e2⟩
  refine codeAny_forLoop_any (fun n s' => ∃ i h tk, s' = { s with heap := h, toks := tk } ∧ n = m + 1 - i ∧ i ≤ m ∧ St' i h ∧ St B W' env (Lk (G i)) h ∧ ∀ b o', b ∉ wr → ¬ own env b → h2.get? b = some o' → h.get? b = some o') ?_ (m + 1)
    ⟨0, h2, t2, rfl, rfl, Nat.zero_le _, st0, SW, fun _ _ _ _ eo => eo⟩
  rintro n s' ⟨i, h, tk, rfl, rfl, him, hst, hS, hk⟩
  have keepAll : ∀ {h' : Heap}, (∀ b o', b ∉ wr → ¬ own env b → h.get? b = some o' → h'.get? b = some o') → Keep (own env) s.heap h' := fun hkk b o' eo q => by
    have hw : b ∉ wr := fun z => by have := l1 b o' eo; rw [hwr b z] at this; cases this
    exact hkk b o' hw q (hk b o' hw q (l2 b o' (l1 b o' eo)))
  -- the turn's own item
  have item : ∀ {Q' : Option Value → Shared → Prop} {E' : Value → Shared → Prop} (hlt : i < xs.length), (∀ v h' tk', St' (i + 1) h' → St B W' env (Lk (G i)) h' → Rep W' h' v xs[i] → (∀ b o', b ∉ wr → h.get? b = some o' → h'.get? b = some o') → Q' (some v) { s with heap := h', toks := tk' }) →
      wpAny B.M A (pyNext (.ref I)) Q' E' { s with heap := h, toks := tk } := fun {Q' E'} hlt KK => by
    refine X.w.item i _ _ _ hlt hst fun v h' tk' hP hst' hk' => ?_
    obtain ⟨d', hd', rv⟩ := X.item i v hP hlt
    have : d' = xs[i] := by rw [List.getElem?_eq_getElem hlt] at hd'; exact (Option.some.inj hd').symm
    subst this
    have hS1 : St B W' env (Lk (G i)) h' := hS.but (X := fun a => a ∈ wr) (fun b o eo q => hk' b o q eo) x0 (fun q => hown _ (sub _ q) (.inl rfl)) (fun x c hm q => hown _ (sub _ q) (.inr ⟨x, hm⟩)) (fun a q => .inr q) (fun a q => X.live _ _ _ hst' q)
    refine KK v h' tk' hst' hS1 (Rep.move (fun a o' eo so w => ?_) rv) hk'
    obtain ⟨e1, w1⟩ := mv0 a o' eo so w
    have hw : a ∉ wr := fun q => w1 (.inr q)
    have ho : ¬ own env a := fun q => by
      rcases q with q | ⟨x, q⟩
      · obtain ⟨m', hn, _⟩ := S2.fr.loc; exact not_solid_ns hn (q ▸ e1) so
      · obtain ⟨ov, hc, _⟩ := S2.fr.cell x a q; exact not_solid_cell hc e1 so
    exact ⟨hk' a o' hw (hk a o' hw ho e1), w1⟩
  by_cases hend : i = m
  · subst hend
    rcases fin with ⟨e, rfl⟩ | ⟨x, bs, rr, hxm, hasg, hex, rfl⟩
    · have hst' : St' xs.length h := by rw [← e]; exact hst
      refine X.w.done _ _ _ hst' fun h' tk' hk' => ?_
      refine wpAny_execs_nil (K _ h' tk' (keepAll fun b o' hw q eo => hk' b o' hw eo) ⟨rfl, ?_⟩)
      by_cases hwr0 : ∀ a, a ∈ wr → (h'.get? a).isSome = true
      · exact back (hS.but (X := fun a => a ∈ wr) (fun b o eo q => hk' b o q eo) x0 (fun q => hown _ (sub _ q) (.inl rfl)) (fun x c hm q => hown _ (sub _ q) (.inr ⟨x, hm⟩)) (fun a q => .inr q) hwr0)
      · have B0 := back hS
        have mv : Mv W' h W h' := fun a o' eo so w => ⟨hk' a o' (fun q => w (.inr q)) eo, fun q => w (.inl q)⟩
        refine ⟨fun b o' eo => hk' b o' (fun q => ?_) (B0.base b o' eo), fun a w => ?_, ?_, fun y c hm => ?_⟩
        · rw [x0 b q] at eo; cases eo
        · obtain ⟨o', eo⟩ := Option.isSome_iff_exists.mp (B0.low a w)
          have hw : a ∉ wr := fun q => by
            have := S1.low a w; rw [hwr a q] at this; cases this
          rw [hk' a o' hw eo]; rfl
        · obtain ⟨m', hn, hv⟩ := hS.fr.loc
          refine ⟨m', hn.at fun o' eo => hk' _ o' (fun q => hown _ (sub _ q) (.inl rfl)) eo, fun z d' ky g => ?_⟩
          obtain ⟨u, e1, e2⟩ := hv z d' ky g
          exact ⟨u, e1, mv.rep e2⟩
        · obtain ⟨ov, ⟨o', eo, hd⟩, hr⟩ := hS.fr.cell y c hm
          refine ⟨ov, ⟨o', hk' _ o' (fun q => hown _ (sub _ q) (.inr ⟨y, hm⟩)) eo, hd⟩, fun d' ky hl g => ?_⟩
          obtain ⟨u, e1, e2⟩ := hr d' ky hl g
          exact ⟨u, e1, mv.rep e2⟩
    · have hlt : i < xs.length := (List.getElem?_eq_some_iff.mp hxm).1
      have hxi : xs[i] = x := by rw [List.getElem?_eq_getElem hlt] at hxm; exact Option.some.inj hxm
      subst hxi
      refine item hlt fun v h' tk' hst' hS1 rv hk' => ?_
      refine X.go A _ target v _ _ _ hst' (hasg.go A env _ W' _ _ _ v R O hS1 rv fun h3 tk3 kp3 S3 => hex.go A env _ W' _ _ R O S3 fun f h4 tk4 k4 ok => ?_)
      obtain ⟨u, rfl, ru⟩ := ok
      exact K _ h4 tk4 (keepAll fun b o' hw q eo => k4 b o' (kp3 b o' (hk' b o' hw eo) fun ⟨p, _, hp⟩ => q hp.own) q) ⟨u, rfl, ru.move fun a o' eo so w => ⟨eo, fun q => w (.inl q)⟩⟩
  · have hlt0 : i < m := Nat.lt_of_le_of_ne him hend
    have hlt : i < xs.length := Nat.lt_of_lt_of_le hlt0 hm
    refine item hlt fun v h' tk' hst' hS1 rv hk' => ?_
    obtain ⟨bs, G', hasg, hex, hweak⟩ := turn i xs[i] hlt0 (List.getElem?_eq_getElem hlt)
    refine X.go A _ target v _ _ _ hst' (hasg.go A env _ W' _ _ _ v R O hS1 rv fun h3 tk3 kp3 S3 => hex.go A env _ W' _ _ R O S3 fun f h4 tk4 k4 ok => ?_)
    obtain ⟨rfl, S4⟩ := ok
    have kk : ∀ b o', ¬ own env b → h'.get? b = some o' → h4.get? b = some o' := fun b o' q eo => k4 b o' (kp3 b o' eo fun ⟨p, _, hp⟩ => q hp.own) q
    exact ⟨m + 1 - (i + 1), by omega, i + 1, h4, tk4, rfl, rfl, hlt0, X.w.frame _ _ _ hst' (fun b hb o' eo => kk b o' (hown b hb) eo), S4.weak hweak, fun b o' hw q eo => kk b o' q (hk' b o' hw (hk b o' hw q eo))⟩
end
end Mine
end

section
open PySem PySem.W PyProof.Rows
set_option maxRecDepth 20000
set_option linter.unusedVariables false
namespace Mine

section
variable {B : Base} {k : Nat} {ns : List (Str × NameKind)} {L : List (Str × D)}

theorem lookup_none_append {bs L : List (Str × D)} (h : ∀ q ∈ bs, L.lookup q.1 = none) : ∀ n d, Lk L n = some d → Lk (bs ++ L) n = some d := fun n d g => by
  have : bs.lookup n = none := by
    cases e : bs.lookup n with
    | none => rfl
    | some d' => have := h _ (mem_of_lookup e); have g : L.lookup n = some d := g; rw [this] at g; cases g
  show (bs ++ L).lookup n = some d
  rw [List.lookup_append, this]; exact g

/-- a list that a loop fills -/
theorem ex_collect {α : Type} {ι : List α} {e : α → D} {g : α → D} {x : Str} {px pl pa p1 apos cpos epos pf : Pos} {target iter elt : Expr} {rest : List Stmt} {d : D} {o : Out} {L0 : List (Str × D)} (hx : ns.lookup x = some .cell)
    (h0 : ∀ n d, Lk L0 n = some d → Lk L n = some d) (hx0 : L0.lookup x = none) (hi : Ev B k ns (Lk L0) iter d) (ho : Over d (ι.map e)) (hn : ι.length ≤ 2000)
    (turn : ∀ a ∈ ι, ∃ bs, (∀ q ∈ bs, L0.lookup q.1 = none ∧ q.1 ≠ x) ∧ Asg B k ns target (e a) bs ∧ Ev B k ns (Lk (bs ++ L0)) elt (g a)) (hel : Plain [elt])
    (hrest : Ex B k ns ((x, .list (ι.map g)) :: L0) rest o) (hd : (x == ("__debug__" : Str)) = false := by decide) (hf : ∀ env x, foldedSetIterable iter env x = pure x := by intro _ _; rfl)
    (hse : ∀ env, starEach [elt] env = (false, eval elt env) :: starEach [] env := by intro _; rfl)
    (hme : ∀ env, ∃ pl, eval (.Call (.Attribute (.Name x p1) "append" apos) [elt] [] cpos) env = (do
      let ov ← eval (.Name x p1) env
      standAt apos.atName
      let (f, first) ← holding [ov] (getMethod ov "append" pl)
      callWith cpos f first (backTo cpos (starEach [elt] env)) []) := by intro _; exact ⟨_, rfl⟩) :
    Ex B k ns L (.Assign [.Name x px] (.List [] pl) pa :: .For target iter [.Expr (.Call (.Attribute (.Name x p1) "append" apos) [elt] [] cpos) epos] [] pf :: rest) o := .mk fun A env s W Q E R O S K => by
  have hk := (O.kindOf x).trans hx
  obtain ⟨c, hcl⟩ := Option.isSome_iff_exists.mp (O.has x hx)
  have hcm := mem_of_lookup hcl
  refine wpAny_execs_cons (wpAny_Assign_Name ?_ (by rfl))
  show wpAny B.M A (standAt pl >>= fun _ => spliced (backTo pl (starEach [] env)) >>= newList) _ E s
  refine wpAny_bind (wpAny_standAt (wpAny_bind (args_nil (wpAny_newObj_type ?_))))
  have hlp : Le s.heap (s.heap.push { cls := .type "list", dict := none, data := .seq ([] : List Value).toArray }) := Le.push _ _
  obtain ⟨D', hDn⟩ : ∃ D', s.heap.objs.size = D' := ⟨_, rfl⟩
  have freshD : s.heap.get? D' = none := by
    cases eo : s.heap.get? D' with
    | none => rfl
    | some o => exact absurd (Heap.lt_size eo) (Nat.not_lt.mpr (Nat.le_of_eq hDn))
  obtain ⟨ov, hc0, _⟩ := S.fr.cell x c hcm
  have hDc : D' ≠ c := fun q => by
    obtain ⟨o', eo, _⟩ := hc0; rw [← q, freshD] at eo; cases eo
  refine wpAny_storeName_cell O.kind hk hcl (hc0.keeps hlp) fun h1 hv1 hs1 => ?_
  rw [hDn] at hv1
  have old1 : ∀ b o', b ≠ c → s.heap.get? b = some o' → h1.get? b = some o' := fun b o' hb eo => (hs1.2 b hb).trans (hlp b o' eo)
  have hD1 : IsL h1 D' #[] 0 := (hs1.2 D' hDc).trans (by rw [← hDn]; exact Heap.get?_push_size _ rfl)
  let W1 : Addr → Prop := fun a => W a ∨ a = D'
  have mv1 : Mv W s.heap W1 h1 := fun a o' eo so w => ⟨old1 a o' (fun q => not_solid_cell hc0 (q ▸ eo) so) eo, fun q => by
    rcases q with q | q
    · exact w q
    · rw [q, freshD] at eo; cases eo⟩
  have x0D : B.h0.get? D' = none := by
    cases eo : B.h0.get? D' with
    | none => rfl
    | some o' => have := S.base _ _ eo; rw [freshD] at this; cases this
  have S1 : St B W1 env (Lk L0) h1 := by
    refine ⟨fun b o' eo => old1 b o' (fun q => ?_) (S.base b o' eo), fun a w => ?_, ?_, fun y c' hm => ?_⟩
    · have := O.cellsAbove _ _ hcm; rw [q, this] at eo; cases eo
    · rcases w with w | w
      · obtain ⟨o', eo⟩ := Option.isSome_iff_exists.mp (S.low a w)
        by_cases q : a = c
        · obtain ⟨o2, e2, _⟩ := hv1; rw [q, e2]; rfl
        · rw [old1 a o' q eo]; rfl
      · rw [w, hD1]; rfl
    · obtain ⟨m', hn', hv⟩ := S.fr.loc
      have hlc : env.locals ≠ c := fun q => by
        obtain ⟨o', _, _, eo, hd', _⟩ := hn'
        obtain ⟨o2, e2, hd2⟩ := hc0
        rw [q, e2] at eo; cases eo; rw [hd2] at hd'; cases hd'
      refine ⟨m', hn'.at fun o' eo => old1 _ o' hlc eo, fun y d' ky g' => ?_⟩
      obtain ⟨u, e1, e2⟩ := hv y d' ky (h0 _ _ g')
      exact ⟨u, e1, mv1.rep e2⟩
    · by_cases q : c' = c
      · subst q
        have : y = x := cells_apart O.apart hm hcm
        subst this
        exact ⟨_, hv1, fun d' _ _ g' => by have g' : L0.lookup y = some d' := g'; rw [hx0] at g'; cases g'⟩
      · obtain ⟨ov', ⟨o', eo, hd'⟩, hr⟩ := S.fr.cell y c' hm
        refine ⟨ov', ⟨o', old1 _ o' q eo, hd'⟩, fun d' ky hl g' => ?_⟩
        obtain ⟨u, e1, e2⟩ := hr d' ky hl (h0 _ _ g')
        exact ⟨u, e1, mv1.rep e2⟩
  refine wpAny_execs_cons (wpAny_For (hi.go A env { s with heap := h1 } W1 _ _ R O S1 fun v h1' t1 l1 r1 => ?_) (hf env))
  have S1' := S1.le l1
  refine iter_of R S1'.low r1 ho.1 ho.2 fun I h2 t2 fp wr P St' l2 X st0 hfp hwr => ?_
  have S2 := S1'.le l2
  have l12 := l1.trans l2
  let W' : Addr → Prop := fun a => W1 a ∨ a ∈ wr
  have sub := X.w.sub
  have hlen : (ι.map e).length = ι.length := List.length_map ..
  have hown : ∀ b ∈ fp, ¬ own env b := fun b hb q => by
    obtain ⟨o', eo, so, _⟩ := hfp b hb
    rcases q with q | ⟨y, q⟩
    · obtain ⟨m', hn', _⟩ := S2.fr.loc; exact not_solid_ns hn' (q ▸ eo) so
    · obtain ⟨ov, hc, _⟩ := S2.fr.cell y b q; exact not_solid_cell hc eo so
  have hfD : ∀ b ∈ fp, b ≠ D' := fun b hb q => by
    obtain ⟨o', eo, so, w⟩ := hfp b hb; exact w (.inr q)
  have x0 : ∀ a, a ∈ wr → B.h0.get? a = none := fun a q => by
    cases eo : B.h0.get? a with
    | none => rfl
    | some o => have := S1'.base _ _ eo; rw [hwr a q] at this; cases this
  have hDown : ¬ own env D' := fun q => by
    rcases q with q | ⟨y, q⟩
    · obtain ⟨m', ⟨o', _, _, eo, _⟩, _⟩ := S.fr.loc; rw [← q, freshD] at eo; cases eo
    · obtain ⟨ov, ⟨o', eo, _⟩, _⟩ := S.fr.cell y D' q; rw [freshD] at eo; cases eo
  have mv0 : Mv W1 h1' W' h2 := fun a o' eo so w => ⟨l2 a o' eo, fun q => by
    rcases q with q | q
    · exact w q
    · rw [hwr a q] at eo; cases eo⟩
  have SW : St B W' env (Lk L0) h2 := by
    refine ⟨S2.base, fun a w => ?_, ?_, fun y c' hm => ?_⟩
    · rcases w with w | w
      · exact S2.low a w
      · obtain ⟨o', eo, _⟩ := hfp a (sub a w); rw [eo]; rfl
    · obtain ⟨m', hn', hv⟩ := S1'.fr.loc
      refine ⟨m', hn'.keeps l2, fun y d' ky g' => ?_⟩
      obtain ⟨u, e1, e2⟩ := hv y d' ky g'
      exact ⟨u, e1, mv0.rep e2⟩
    · obtain ⟨ov, hc, hr⟩ := S1'.fr.cell y c' hm
      refine ⟨ov, hc.keeps l2, fun d' ky hl g' => ?_⟩
      obtain ⟨u, e1, e2⟩ := hr d' ky hl g'
      exact ⟨u, e1, mv0.rep e2⟩
  have hDwr : D' ∉ wr := fun q => hfD D' (sub D' q) rfl
  refine codeAny_forLoop_any (fun n s' => ∃ i h tk ys nn, s' = { s with heap := h, toks := tk } ∧ n = ι.length + 1 - i ∧ i ≤ ι.length ∧ St' i h ∧ IsL h D' (List.toArray ys) nn ∧ h.IsCell c (some (.ref D')) ∧ St B W' env (Lk L0) h ∧
      Reps W' h ys ((ι.take i).map g) ∧ ∀ b o', b ∉ wr → b ≠ D' → ¬ own env b → h2.get? b = some o' → h.get? b = some o') ?_ (ι.length + 1)
    ⟨0, h2, t2, [], 0, rfl, rfl, Nat.zero_le _, st0, l12 _ _ hD1, (hv1.keeps l12), SW, .nil, fun _ _ _ _ _ eo => eo⟩
  rintro n s' ⟨i, h, tk, ys, nn, rfl, rfl, hin, hst, hD, hC, hS, hr, hk'⟩
  by_cases hend : i = ι.length
  · subst hend
    have hst' : St' (ι.map e).length h := by rw [hlen]; exact hst
    refine X.w.done _ _ _ hst' fun h' tk' hk2 => wpAny_execs_nil ?_
    rw [List.take_length] at hr
    have mv : Mv W' h W h' := fun a o' eo so w => ⟨hk2 a o' (fun q => w (.inr q)) eo, fun q => w (.inl (.inl q))⟩
    have hcwr : ∀ y c', (y, c') ∈ env.cells → c' ∉ wr := fun y c' hm q => hown _ (sub _ q) (.inr ⟨y, hm⟩)
    have hlwr : env.locals ∉ wr := fun q => hown _ (sub _ q) (.inl rfl)
    have S' : St B W env (Lk ((x, .list (ι.map g)) :: L0)) h' := by
      refine ⟨fun b o' eo => hk2 b o' (fun q => ?_) (hS.base b o' eo), fun a w => ?_, ?_, fun y c' hm => ?_⟩
      · rw [x0 b q] at eo; cases eo
      · obtain ⟨o', eo⟩ := Option.isSome_iff_exists.mp (hS.low a (.inl (.inl w)))
        have hw : a ∉ wr := fun q => by
          have := S1'.low a (.inl w); rw [hwr a q] at this; cases this
        rw [hk2 a o' hw eo]; rfl
      · obtain ⟨m', hn', hv⟩ := hS.fr.loc
        refine ⟨m', hn'.at fun o' eo => hk2 _ o' hlwr eo, fun y d' ky g' => ?_⟩
        have hyx : (y == x) = false := by
          rw [beq_eq_false_iff_ne]; rintro rfl; rw [hk] at ky; cases ky
        have g' : L0.lookup y = some d' := by
          have g' : List.lookup y ((x, D.list (ι.map g)) :: L0) = some d' := g'
          rw [List.lookup_cons, hyx] at g'; exact g'
        obtain ⟨u, e1, e2⟩ := hv y d' ky g'
        exact ⟨u, e1, mv.rep e2⟩
      · by_cases q : c' = c
        · subst q
          have : y = x := cells_apart O.apart hm hcm
          subst this
          obtain ⟨o', eo, hd'⟩ := hC
          refine ⟨_, ⟨o', hk2 _ o' (hcwr _ _ hm) eo, hd'⟩, fun d' _ _ g' => ?_⟩
          have : d' = .list (ι.map g) := by
            have g' : List.lookup y ((y, D.list (ι.map g)) :: L0) = some d' := g'
            simp at g'; exact g'.symm
          subst this
          refine ⟨_, rfl, .list (fun w => ?_) (hk2 _ _ hDwr hD) (mv.reps hr)⟩
          have := S.low D' w; rw [freshD] at this; cases this
        · obtain ⟨ov', ⟨o', eo, hd'⟩, hr'⟩ := hS.fr.cell y c' hm
          refine ⟨ov', ⟨o', hk2 _ o' (hcwr _ _ hm) eo, hd'⟩, fun d' ky hl g' => ?_⟩
          have hyx : (y == x) = false := by
            rw [beq_eq_false_iff_ne]; rintro rfl; rw [hcl] at hl; cases hl; exact q rfl
          have g' : L0.lookup y = some d' := by
            have g' : List.lookup y ((x, D.list (ι.map g)) :: L0) = some d' := g'
            rw [List.lookup_cons, hyx] at g'; exact g'
          obtain ⟨u, e1, e2⟩ := hr' d' ky hl g'
          exact ⟨u, e1, mv.rep e2⟩
    refine hrest.go A env { s with heap := h', toks := tk' } W Q E R O S' fun f h'' tk'' k'' ok => K f h'' tk'' (fun b o' eo q => k'' b o' ?_ q) ok
    have hbc : b ≠ c := fun z => q (.inr ⟨x, z ▸ hcm⟩)
    have e1 := l1 b o' (old1 b o' hbc eo)
    have hbw : b ∉ wr := fun z => by rw [hwr b z] at e1; cases e1
    exact hk2 b o' hbw (hk' b o' hbw (fun z => by rw [z, freshD] at eo; cases eo) q (l2 b o' e1))
  · have hlt : i < ι.length := Nat.lt_of_le_of_ne hin hend
    have hlt' : i < (ι.map e).length := by rw [hlen]; exact hlt
    refine X.w.item i _ _ _ hlt' hst fun v h' tk' hP hst' hk2 => ?_
    obtain ⟨d', hd', rv⟩ := X.item i v hP hlt'
    have ha : ι[i]? = some ι[i] := List.getElem?_eq_getElem hlt
    have hdd : d' = e ι[i] := by
      rw [List.getElem?_map, ha] at hd'; exact (Option.some.inj hd').symm
    subst hdd
    obtain ⟨bs, hbs, hasg, helt⟩ := turn ι[i] (List.getElem_mem hlt)
    have hS1 : St B W' env (Lk L0) h' := hS.but (X := fun a => a ∈ wr) (fun b o eo q => hk2 b o q eo) x0 (fun q => hown _ (sub _ q) (.inl rfl)) (fun y c' hm q => hown _ (sub _ q) (.inr ⟨y, hm⟩)) (fun a q => .inr q) (fun a q => X.live _ _ _ hst' q)
    have rv' : Rep W' h' v (e ι[i]) := Rep.move (fun a o' eo so w => by
      obtain ⟨e1, w1⟩ := mv0 a o' eo so w
      have hw : a ∉ wr := fun q => w1 (.inr q)
      have hd : a ≠ D' := fun q => w1 (.inl (.inr q))
      have ho : ¬ own env a := fun q => by
        rcases q with q | ⟨y, q⟩
        · obtain ⟨m', hn', _⟩ := S2.fr.loc; exact not_solid_ns hn' (q ▸ e1) so
        · obtain ⟨ov, hc, _⟩ := S2.fr.cell y a q; exact not_solid_cell hc e1 so
      exact ⟨hk2 a o' hw (hk' a o' hw hd ho e1), w1⟩) rv
    refine X.go A _ target v _ _ _ hst' (hasg.go A env { s with heap := h', toks := tk' } W' L0 _ _ v R O hS1 rv' fun h3 tk3 kp3 S3 => ?_)
    have kp3' : Keep (own env) h' h3 := kp3.mono fun a ⟨p, _, hp⟩ => hp.own
    have hC3 : h3.IsCell c (some (.ref D')) := by
      obtain ⟨o', eo, hd'⟩ := hC
      refine ⟨o', kp3 _ o' (hk2 _ o' (fun q => hown _ (sub _ q) (.inr ⟨x, hcm⟩)) eo) fun ⟨p, hp, hsl⟩ => ?_, hd'⟩
      rcases hsl with ⟨_, z⟩ | ⟨_, z⟩
      · obtain ⟨m', hn', _⟩ := hS.fr.loc
        obtain ⟨o2, _, _, e2, hd2, _⟩ := hn'
        rw [← z, eo] at e2; cases e2; rw [hd'] at hd2; cases hd2
      · exact (hbs p hp).2 (cells_apart O.apart (mem_of_lookup z) hcm)
    have hD3 : IsL h3 D' (List.toArray ys) nn := kp3' _ _ (hk2 _ _ hDwr hD) hDown
    refine wpAny_execs_cons (wpAny_Expr ?_ (by unfold interactive; rw [O.kind]; rfl) rfl)
    obtain ⟨plm, hme⟩ := hme env
    refine MethodCall_ (pl := plm) (wpAny_Name (wpAny_loadName_cell O.kind hk hcl hC3 ?_) hd) hme
    refine getMethod_builtin (T := "list") ⟨_, hD3, rfl⟩ PySem.F.plainAttrs_list PySem.F.slot_list_append type_list_append (fun a e => by cases e; exact ⟨_, hD3, rfl⟩) ?_
    refine Calls.callWith_builtin ((backTo_any _).trans (hel env)) (evalArgs_of ((backTo_any _).trans (hel env)) ?_)
    refine args_cons (helt.go A env { s with heap := h3, toks := tk3 } W' _ _ R O S3 fun y h4 tk4 l4 r4 => args_nil ?_) (hse env)
    have hD4 := l4 _ _ hD3
    have hys : ys.length ≤ 2000 := by
      have e1 := hr.length
      have e2 : ((ι.take i).map g).length ≤ ι.length := by rw [List.length_map]; exact List.length_take_le' ..
      omega
    refine wpAny_list_append_plain (s := { s with heap := h4, toks := tk4 }) ⟨nn, hD4⟩ (fun h6 hl6 hs6 => ?_) (by rw [List.size_toArray]; exact Nat.le_trans hys (by decide))
    obtain ⟨n6, hl6⟩ := hl6
    have kp6 : Keep (fun a => a = D') h4 h6 := fun b o eo q => (hs6.2 b q).trans eo
    have mv6 : Mv W' h4 W' h6 := fun a o eo so w => ⟨kp6 a o eo fun q => w (.inl (.inr q)), w⟩
    have weak : ∀ n d, Lk L0 n = some d → Lk (bs ++ L0) n = some d := lookup_none_append fun q hq => (hbs q hq).1
    have S6 : St B W' env (Lk L0) h6 := ((S3.le l4).weak weak).but (X := fun a => a = D') kp6 (fun a q => q ▸ x0D) (fun q => hDown (.inl q.symm)) (fun y c' hm q => hDown (.inr ⟨y, q ▸ hm⟩)) (fun a q => .inl (.inr q)) (fun a q => by rw [q, hl6]; rfl)
    have mv34 : Mv W' h W' h4 := fun a o' eo so w => by
      have h1 : a ∉ wr := fun q => w (.inr q)
      have ho : ¬ own env a := fun q => by
        rcases q with q | ⟨y, q⟩
        · obtain ⟨m', hn', _⟩ := hS.fr.loc; exact not_solid_ns hn' (q ▸ eo) so
        · obtain ⟨ov, hc, _⟩ := hS.fr.cell y a q; exact not_solid_cell hc eo so
      exact ⟨l4 a o' (kp3' a o' (hk2 a o' h1 eo) ho), w⟩
    refine wpAny_execs_nil ⟨ι.length + 1 - (i + 1), by omega, i + 1, h6, tk4, ys ++ [y], n6, rfl, rfl, hlt, X.w.frame _ _ _ hst' (fun b hb o' eo => kp6 b o' (l4 b o' (kp3' b o' eo (hown b hb))) (hfD b hb)), by simpa using hl6, ?_, S6, ?_, fun b o' h1 h2 h3 eo => kp6 b o' (l4 b o' (kp3' b o' (hk2 b o' h1 (hk' b o' h1 h2 h3 eo)) h3)) h2⟩
    · obtain ⟨o', eo, hd'⟩ := hC3
      exact ⟨o', kp6 _ o' (l4 _ o' eo) (fun q => hDown (.inr ⟨x, q ▸ hcm⟩)), hd'⟩
    · have et : (ι.take (i + 1)).map g = (ι.take i).map g ++ [g ι[i]] := by
        rw [List.take_add_one, ha, List.map_append]; rfl
      rw [et]
      exact (mv6.reps (mv34.reps hr)).append (.cons (mv6.rep r4) .nil)
end
end Mine
end

section
open PySem PySem.W PyProof.Rows
set_option maxRecDepth 20000
set_option linter.unusedVariables false
namespace Mine

abbrev pw : Program := PySem.Challenge.pw_rw0077_01
def fpar (i : Nat) : Arguments := match pw.main.body[i]? with | some (.FunctionDef _ a _ _ _ _ _ _ _ _) => a | _ => default
def fbody (i : Nat) : List Stmt := match pw.main.body[i]? with | some (.FunctionDef _ _ b _ _ _ _ _ _ _) => b | _ => []
def fscope (i : Nat) : Scope := match pw.main.body[i]? with | some (.FunctionDef _ _ _ _ _ _ s _ _ _) => s | _ => default

def Has (B : Base) (name : Str) (i : Nat) : Prop :=
  ∃ a o pm cd doc, B.mg name = some (.ref a) ∧ B.h0.get? a = some o ∧ o.data = .func (Calls.docDef name (fpar i) (fbody i) (fscope i) pm cd doc) ∧ B.h0.CodeRec cd name

/-- the rows of a written table -/
def rowsOf : List (Option Expr) → List Expr → List (Int × Str)
  | some (.Constant (.int i) _ _) :: ks, .Constant (.str x) _ _ :: vs => (i, x) :: rowsOf ks vs
  | _, _ => []
def b3 : List (Int × Str) := match pw.main.body[(7 : Nat)]? with | some (Stmt.Assign _ (.Dict ks vs _) _) => rowsOf ks vs | _ => []
def noiseI : List Int := [173, 847, 6150, 6155, 6156, 6157, 8203, 8204, 8205, 8288, 65279] ++ rangeI 65024 16

/-- what the top has left -/
structure Wd (B : Base) : Prop where
  sunder : Has B "_is_sunder" 2
  dunder : Has B "_is_dunder" 1
  priv : Has B "_is_private" 3
  inb1 : Has B "in_table_b1" 6
  mapb3 : Has B "map_table_b3" 8
  noise : Has B "_law_noise" 10
  drawn : Has B "_law_drawn" 11
  days : Has B "_law_days" 12
  frm : Has B "_law_from" 13
  told : Has B "_law_told" 14
  fits : Has B "_law_fits" 15
  law : Has B "law" 16
  b1 : ∃ a, B.mg "b1_set" = some (.ref a) ∧ ∀ (A : Around) (s : Shared) (i : Int) (t : Tok) (Q : Value → Shared → Prop) (E : Value → Shared → Prop), A.units < cLine → Le B.h0 s.heap →
    (∀ tk, Q (.bool (noiseI.contains i)) { s with toks := tk }) → wpAny B.M A (compareOp .In (.int i t) (.ref a)) Q E s
  b3 : ∃ a, B.mg "b3_exceptions" = some (.ref a) ∧ PyProof.Rows.IntTab B.prog B.w B.h0 a (b3.map fun p => (PyData.int p.1, PyData.str p.2))
  len : B.glob "len" (.builtin "len")
  ord : B.glob "ord" (.builtin "ord")
  chr : B.glob "chr" (.builtin "chr")
  divmod : B.glob "divmod" (.builtin "divmod")
  max : B.glob "max" (.builtin "max")
  min : B.glob "min" (.builtin "min")
  isi : B.glob "isinstance" (.builtin "isinstance")
  range : B.glob "range" (.type "range")
  list : B.glob "list" (.type "list")
  bool : B.glob "bool" (.type "bool")

/-- a global that may be called -/
def FnG (B : Base) (k : Nat) (f : Str) (ds : List D) (d : D) : Prop := ∃ fv, B.glob f fv ∧ Callee B fv ∧ Fn B k fv ds d

section
variable {B : Base} {k : Nat} {ns : List (Str × NameKind)} {Γ : Str → Option D} {L : List (Str × D)}

theorem ev_callg {f : Str} {es : List Expr} {ds : List D} {d : D} {p q : Pos} (hx : ns.lookup f = some .globalImplicit) (hf : FnG B k f ds d) (ha : EvL B k ns Γ es ds)
    (hp : Plain es) (hd : (f == ("__debug__" : Str)) = false := by decide) : Ev B k ns Γ (.Call (.Name f p) es [] q) d := by
  obtain ⟨fv, h1, h2, h3⟩ := hf
  exact ev_call hx h1 h2 h3 ha hp hd

theorem FnG.of_def {name : Str} {i : Nat} {xs : List Str} {ds : List D} {d : D} (h : Has B name i) (hb : ∀ pm cd doc, ∀ vs : List Value, vs.length = xs.length → bindArgs (Calls.docDef name (fpar i) (fbody i) (fscope i) pm cd doc) ⟨vs, []⟩ = pure (xs.zip vs))
    (hlen : ds.length = xs.length) (hsc : fscopeOk (fscope i) xs = true) (hbody : Ex B k (fscope i).names (xs.zip ds) (fbody i) (.ret d)) : FnG B (k + 1) name ds d := by
  obtain ⟨a, o, pm, cd, doc, h1, h2, h3, h4⟩ := h
  exact ⟨.ref a, .inl h1, .func h2 h3, fn_def h2 h3 h4 (hb pm cd doc) hlen hsc hbody⟩

theorem fng_len_list (w : Wd B) {ds : List D} (hn : ds.length ≤ 2000) : FnG B k "len" [.list ds] (.int ds.length) := ⟨_, w.len, .builtin _, fn_len_list hn⟩
theorem fng_len_str (w : Wd B) {l : List Nat} (hn : l.length ≤ 2000) : FnG B k "len" [S l] (.int l.length) := ⟨_, w.len, .builtin _, fn_len_str hn⟩

/-- an item of a list, by a number that lies in it -/
theorem ev_at {α : Type} [Inhabited α] (f : α → D) {l : List α} {j : Nat} {e i : Expr} {p : Pos} (he : Ev B k ns Γ e (.list (l.map f))) (hi : Ev B k ns Γ i (.int j)) (h : j < l.length) (hl : l.length ≤ 2000) : Ev B k ns Γ (.Subscript e i p) (f (l.getD j default)) :=
  ev_item he hi (by omega) (by rw [List.getElem?_map, Int.toNat_natCast, List.getElem?_eq_getElem h]; simp [List.getElem?_eq_getElem h]) (by omega)
theorem ev_signat {l : List Nat} {j : Nat} {e i : Expr} {p : Pos} (he : Ev B k ns Γ e (S l)) (hi : Ev B k ns Γ i (.int j)) (h : j < l.length) (hl : l.length ≤ 2000) : Ev B k ns Γ (.Subscript e i p) (S [l.getD j 0]) := by
  refine ev_sign he hi ?_ (by omega) (by omega)
  have e1 : seqIndex? (j : Int) l.length = some j := by
    unfold seqIndex?
    have h1 : ¬ ((j : Int) < 0) := by omega
    simp; omega
  rw [e1]
  show l[j]? = _
  rw [List.getElem?_eq_getElem h]; simp [List.getElem?_eq_getElem h]
theorem ev_signend {l : List Nat} {j : Nat} {e i : Expr} {p : Pos} (he : Ev B k ns Γ e (S l)) (hi : Ev B k ns Γ i (.int (-(j : Int)))) (h0 : 1 ≤ j) (h : j ≤ l.length) (hl : l.length ≤ 2000) : Ev B k ns Γ (.Subscript e i p) (S [l.getD (l.length - j) 0]) := by
  refine ev_sign he hi ?_ (by omega) (by omega)
  have e1 : seqIndex? (-(j : Int)) l.length = some (l.length - j) := by
    unfold seqIndex?
    have h1 : (-(j : Int)) < 0 := by omega
    simp; omega
  rw [e1]
  show l[l.length - j]? = _
  rw [List.getElem?_eq_getElem (by omega)]; simp [List.getElem?_eq_getElem (show l.length - j < l.length by omega)]

theorem ev_strc {x : Str} {l : List Nat} {n : Nat} {p : Pos} (h : x = ⟨l.toArray⟩) : Ev B k ns Γ (.Constant (.str x) n p) (S l) := by
  subst h; exact ev_str
theorem cmp_eq_S {a b : List Nat} : Cmp B k .Eq (S a) (S b) (a == b) := by
  have e : (a == b) = ((⟨a.toArray⟩ : Str) == (⟨b.toArray⟩ : Str)) := by
    by_cases h : a = b
    · subst h; rw [beq_self_eq_true, beq_self_eq_true]
    · have : ¬ ((⟨a.toArray⟩ : Str) = (⟨b.toArray⟩ : Str)) := fun q => h (by injection q with q; simpa using q)
      rw [beq_eq_false_iff_ne.mpr h, beq_eq_false_iff_ne.mpr this]
  rw [e]; exact cmp_eq_str
theorem cmp_ne_S {a b : List Nat} : Cmp B k .NotEq (S a) (S b) (a != b) := by
  have e : (a != b) = ((⟨a.toArray⟩ : Str) != (⟨b.toArray⟩ : Str)) := by
    by_cases h : a = b
    · subst h; simp
    · have : ¬ ((⟨a.toArray⟩ : Str) = (⟨b.toArray⟩ : Str)) := fun q => h (by injection q with q; simpa using q)
      rw [bne_iff_ne.mpr h, bne_iff_ne.mpr this]
  rw [e]; exact cmp_ne_str
end

end Mine
end

section
open PySem PySem.W PyProof.Rows
set_option maxRecDepth 100000
set_option linter.unusedVariables false
namespace Mine
/-! the three tests of names, plainly -/
def dunder (l : List Nat) : Bool := decide ((4 : Int) < (l.length : Int)) && ((cut l none (some 2) == cut l (some (-2)) none && cut l (some (-2)) none == [95, 95]) && (([l.getD 2 0] != [95]) && ([l.getD (l.length - 3) 0] != [95])))
def sunder (l : List Nat) : Bool := decide ((2 : Int) < (l.length : Int)) && (([l.getD 0 0] == [l.getD (l.length - 1) 0] && [l.getD (l.length - 1) 0] == [95]) && (([l.getD 1 0] != [95]) && ([l.getD (l.length - 2) 0] != [95])))
def starts (x y : List Nat) : Bool := Txt.startswith ⟨x.toArray⟩ ⟨y.toArray⟩
def priv (c l : List Nat) : Bool :=
  decide (((95 :: c ++ [95, 95]).length : Int) < (l.length : Int)) && (starts l (95 :: c ++ [95, 95]) && (([l.getD (l.length - 1) 0] != [95]) || (([l.getD (l.length - 2) 0] != [95]) || false)))

local macro_rules | `(tactic| walk_at "m.sz") => `(tactic| first | assumption | omega | (simp; done) | (simp; omega) | (simp at *; omega))
local macro_rules | `(tactic| walk_at "m.pl") => `(tactic| first | (with_reducible exact plain_nil) | (refine' plain_cons ?_; walk_at "m.pl"))
local macro_rules | `(tactic| walk_at "m.es") => `(tactic| first | ((with_reducible show EvL _ _ _ _ [] _); exact evl_nil) | (refine' evl_cons ?h1 ?h2; (case h1 => walk_at "m.e"); (case h2 => walk_at "m.es")))
local macro_rules | `(tactic| walk_at "m.bin") => `(tactic| first | (with_reducible exact bin_add) | (with_reducible exact bin_sub) | exact bin_cat (by walk_at "m.sz") | exact bin_fdiv (by decide) (by decide) | exact bin_mod (by decide) | exact bin_mod (by walk_at "m.sz"))
local macro_rules | `(tactic| walk_at "m.cmp") => `(tactic| with_reducible first | exact cmp_eq_int | exact cmp_ne_int | exact cmp_lt_int | exact cmp_gt_int | exact cmp_le_int | exact cmp_eq_S | exact cmp_ne_S | exact cmp_in_ints)
local macro_rules | `(tactic| walk_at "m.fn") => `(tactic| first | with_reducible assumption | ((with_reducible refine' fng_len_str ?h1 ?h2); (case h1 => assumption); (case h2 => walk_at "m.sz")) | ((with_reducible refine' fng_len_list ?h1 ?h2); (case h1 => assumption); (case h2 => walk_at "m.sz")))
local macro_rules | `(tactic| walk_at "m.o") => `(tactic| first | exact evo_none | (refine' evo_some ?_; walk_at "m.e"))
local macro_rules | `(tactic| walk_at "m.e") => `(tactic| first
  | ((with_reducible show Ev _ _ _ _ (Expr.Constant (Const.int _) _ _) _); exact ev_int)
  | ((with_reducible show Ev _ _ _ _ (Expr.Constant (Const.str _) _ _) _); refine' ev_strc ?hs; (case hs => exact rfl))
  | ((with_reducible show Ev _ _ _ _ (Expr.Constant (Const.bool _) _ _) _); exact ev_bool)
  | ((with_reducible show Ev _ _ _ _ (Expr.Constant Const.none _ _) _); exact ev_none)
  | ((with_reducible show Ev _ _ _ _ (Expr.Name _ _) _); first | (refine' ev_local ?hk ?hg; (case hk => exact rfl); (case hg => exact rfl)) | (refine' ev_cell ?hk ?hg; (case hk => exact rfl); (case hg => exact rfl)))
  | ((with_reducible show Ev _ _ _ _ (Expr.UnaryOp UnaryOp.USub _ _) _); refine' ev_neg ?_; walk_at "m.e")
  | ((with_reducible show Ev _ _ _ _ (Expr.BinOp _ _ _ _) _); refine' ev_bin ?hb ?hl ?hr; (case hl => walk_at "m.e"); (case hr => walk_at "m.e"); (case hb => walk_at "m.bin"))
  | ((with_reducible show Ev _ _ _ _ (Expr.Compare _ [_] [_] _) _); refine' ev_cmp ?hb ?hl ?hr; (case hl => walk_at "m.e"); (case hr => walk_at "m.e"); (case hb => walk_at "m.cmp"))
  | ((with_reducible show Ev _ _ _ _ (Expr.Call (Expr.Name _ _) _ _ _) _); refine' ev_callg ?hx ?hf ?ha ?hp; (case hx => exact rfl); (case ha => walk_at "m.es"); (case hp => walk_at "m.pl"); (case hf => walk_at "m.fn"))
  | ((with_reducible show Ev _ _ _ _ (Expr.List _ _) _); refine' ev_list ?ha ?hn; (case ha => walk_at "m.es"); (case hn => walk_at "m.sz"))
  | ((with_reducible show Ev _ _ _ _ (Expr.Tuple _ _ _) _); refine' ev_tuple ?ha ?hn; (case ha => walk_at "m.es"); (case hn => walk_at "m.sz")))

section
variable {B : Base} {k : Nat} {ns : List (Str × NameKind)} {L : List (Str × D)}

set_option maxHeartbeats 1000000 in
theorem fng_dunder (w : Wd B) {l : List Nat} (hl : l.length ≤ 1000) : FnG B (k + 1) "_is_dunder" [S l] (.bool (dunder l)) := by
  refine .of_def (xs := ["name"]) w.dunder (fun pm cd doc vs hv => ?_) rfl (by decide +kernel) ?_
  · match vs, hv with | [v], _ => rfl
  have nm : ∀ {p : Pos}, Ev B k (fscope 1).names (Lk [("name", S l)]) (.Name "name" p) (S l) := ev_local rfl rfl
  refine ex_ret (ex1_return ?_)
  refine ev_and (ev_cmp cmp_gt_int (ev_callg rfl (fng_len_str w (by omega)) (evl_cons nm evl_nil) (plain_cons plain_nil)) ev_int) fun h => ?_
  have h := of_decide_eq_true h
  refine ev_and (ev_chain cmp_eq_S (fun _ => cmp_eq_S) (ev_cut_str nm evo_none (evo_some ev_int) hl) (ev_cut_str nm (evo_some (ev_neg ev_int)) evo_none hl) (fun _ => ev_strc rfl)) fun _ => ?_
  refine ev_and (ev_cmp cmp_ne_S (ev_signat (j := 2) nm ev_int (by omega) (by omega)) (ev_strc rfl)) fun _ => ?_
  exact ev_and1 (ev_cmp cmp_ne_S (ev_signend (j := 3) nm (ev_neg ev_int) (by omega) (by omega) (by omega)) (ev_strc rfl))

set_option maxHeartbeats 1000000 in
theorem fng_sunder (w : Wd B) {l : List Nat} (hl : l.length ≤ 1000) : FnG B (k + 1) "_is_sunder" [S l] (.bool (sunder l)) := by
  refine .of_def (xs := ["name"]) w.sunder (fun pm cd doc vs hv => ?_) rfl (by decide +kernel) ?_
  · match vs, hv with | [v], _ => rfl
  have nm : ∀ {p : Pos}, Ev B k (fscope 2).names (Lk [("name", S l)]) (.Name "name" p) (S l) := ev_local rfl rfl
  refine ex_ret (ex1_return ?_)
  refine ev_and (ev_cmp cmp_gt_int (ev_callg rfl (fng_len_str w (by omega)) (evl_cons nm evl_nil) (plain_cons plain_nil)) ev_int) fun h => ?_
  have h := of_decide_eq_true h
  refine ev_and (ev_chain cmp_eq_S (fun _ => cmp_eq_S) (ev_signat (j := 0) nm ev_int (by omega) (by omega)) (ev_signend (j := 1) nm (ev_neg ev_int) (by omega) (by omega) (by omega)) (fun _ => ev_strc rfl)) fun _ => ?_
  refine ev_and (ev_cmp cmp_ne_S (ev_signat (j := 1) nm ev_int (by omega) (by omega)) (ev_strc rfl)) fun _ => ?_
  exact ev_and1 (ev_cmp cmp_ne_S (ev_signend (j := 2) nm (ev_neg ev_int) (by omega) (by omega) (by omega)) (ev_strc rfl))

theorem tr_and1 {e : Expr} {p : Pos} {Γ : Str → Option D} {a : Bool} (h : Tr B k ns Γ e a) : Tr B k ns Γ (.BoolOp .And [e] p) a := by
  have := tr_and (b := true) (p := p) h fun _ => tr_and0
  rwa [Bool.and_true] at this
/-- a text within an f-string, by its str -/
theorem ev_fmt_s {e : Expr} {p : Pos} {l : List Nat} {Γ : Str → Option D} (h : Ev B k ns Γ e (S l)) (hl : l.length ≤ 1000) : Ev B k ns Γ (.FormattedValue e 115 none p) (S l) := .mk fun A env s W Q E R O S K => by
  have hz : (⟨l.toArray⟩ : Str).length ≤ sizeLine := by
    have : (⟨l.toArray⟩ : Str).length = l.length := by simp [Str.length]
    rw [this]; exact Nat.le_trans hl (by decide)
  rw [arm_eval_FormattedValue]
  refine wpAny_bind (h.go A env s W _ E R O S fun v h1 t1 l1 r1 => ?_)
  cases r1
  refine wpAny_bind (wpAny_standAt ?_)
  show wpAny _ _ (do let v' ← holding [_] (habitSame "fstring-hands-on-the-str" (.str ⟨l.toArray⟩ _)); formatField v' Str.empty) Q E _
  refine wpAny_bind (wpAny_holding (wpAny_habitSame_str ?_ ?_ hz))
  · exact wpAny_formatField_str (K _ h1 _ l1 .str) (K _ h1 _ l1 .str) hz
  · exact wpAny_formatField_str (K _ h1 _ l1 .str) (K _ h1 _ l1 .str) hz
theorem ev_joined3 {a b c : Expr} {p : Pos} {x y z : List Nat} {Γ : Str → Option D} (ha : Ev B k ns Γ a (S x)) (hb : Ev B k ns Γ b (S y)) (hc : Ev B k ns Γ c (S z)) (hn : x.length + y.length + z.length ≤ 2000) :
    Ev B k ns Γ (.JoinedStr [a, b, c] p) (S (x ++ y ++ z)) := .mk fun A env s W Q E R O S K => by
  have len : ∀ l : List Nat, (⟨l.toArray⟩ : Str).length = l.length := fun l => by simp [Str.length]
  have emp : ∀ l : List Nat, (Str.empty ++ (⟨l.toArray⟩ : Str)) = ⟨l.toArray⟩ := fun l => by
    rw [show Str.empty = (⟨([] : List Nat).toArray⟩ : Str) from rfl, str_append]; simp
  refine wpAny_JoinedStr (v₁ := a) (v₂ := b) (rest := [c]) ?_
  show wpAny _ _ (eval a env) _ _ _
  refine ha.go A env s W _ E R O S fun v h1 t1 l1 r1 => ?_
  cases r1
  refine ⟨_, _, rfl, by rw [emp, len]; exact Nat.le_trans (by omega : x.length ≤ 2000) (by decide), ?_⟩
  rw [emp]
  show wpAny _ _ (eval b env) _ _ _
  refine hb.go A env _ W _ E R O (S.le l1) fun v h2 t2 l2 r2 => ?_
  cases r2
  refine ⟨_, _, rfl, by rw [str_append, len, List.length_append]; exact Nat.le_trans (by omega : x.length + y.length ≤ 2000) (by decide), ?_⟩
  rw [str_append]
  show wpAny _ _ (eval c env) _ _ _
  refine hc.go A env _ W _ E R O (S.le (l1.trans l2)) fun v h3 t3 l3 r3 => ?_
  cases r3
  have hz : (x ++ y ++ z).length ≤ sizeLine := by simp only [List.length_append]; exact Nat.le_trans hn (by decide)
  refine ⟨_, _, rfl, by rw [str_append, len]; exact hz, ?_⟩
  rw [str_append]
  exact ⟨by rw [len]; exact hz, K _ h3 _ ((l1.trans l2).trans l3) .str⟩
theorem fn_starts {l p : List Nat} : Fn B k (.builtin "str.startswith") [S l, S p] (.bool (starts l p)) := fn_startswith rfl

set_option maxHeartbeats 1000000 in
theorem fng_priv (w : Wd B) {c l : List Nat} (hc : c.length ≤ 900) (hl : l.length ≤ 1000) : FnG B (k + 1) "_is_private" [S c, S l] (.bool (priv c l)) := by
  refine .of_def (xs := ["cls_name", "name"]) w.priv (fun pm cd doc vs hv => ?_) rfl (by decide +kernel) ?_
  · match vs, hv with | [v, u], _ => rfl
  refine ex_next (ex1_assign (d := S (95 :: c ++ [95, 95])) (ev_joined3 (x := [95]) (y := c) (z := [95, 95]) (ev_strc rfl) (ev_fmt_s ?_ (by omega)) (ev_strc rfl) (by simp; omega)) (.inl rfl)) ?_
  · walk_at "m.e"
  refine ex_next (ex1_assign (d := .int ((95 :: c ++ [95, 95]).length : Nat)) ?_ (.inl rfl)) ?_
  · walk_at "m.e"
  have nm : ∀ {p : Pos}, Ev B k (fscope 3).names (Lk [("pat_len", .int ((95 :: c ++ [95, 95]).length : Nat)), ("pattern", S (95 :: c ++ [95, 95])), ("cls_name", S c), ("name", S l)]) (.Name "name" p) (S l) := ev_local rfl rfl
  have hlen : (95 :: c ++ [95, 95]).length = c.length + 3 := by simp
  refine ex_ret (ex1_if (c := priv c l) ?_ (fun h => ?_) fun h => ?_)
  · refine tr_and (tr_cmp cmp_gt_int ?_ ?_) fun h => ?_
    · walk_at "m.e"
    · walk_at "m.e"
    have h := of_decide_eq_true h
    refine tr_and (tr_of (ev_meth nm (meth_str PySem.F.slot_str_startswith PySem.F.type_str_startswith) (.builtin _) fn_starts ?_ ?_)) fun h2 => ?_
    · walk_at "m.es"
    · walk_at "m.pl"
    refine tr_and1 (tr_or (tr_cmp cmp_ne_S (ev_signend (j := 1) nm (ev_neg ev_int) (by omega) (by omega) (by omega)) (ev_strc rfl)) fun _ => ?_)
    exact tr_or (tr_cmp cmp_ne_S (ev_signend (j := 2) nm (ev_neg ev_int) (by omega) (by omega) (by omega)) (ev_strc rfl)) fun _ => tr_or0
  · rw [h]; exact ex_ret (ex1_return ev_bool)
  · rw [h]; exact ex_ret (ex1_return ev_bool)
end

/-- what the table says of a sign -/
def lookB (c : Int) : Option Str := KTD.datumAt c b3
def lowerL (c : Nat) : List Nat := (Txt.lower ⟨#[c]⟩).cps.toList
def mapB3 (c : Nat) : List Nat := match lookB c with | some s => s.cps.toList | none => lowerL c
/-- what a sign is prepared to -/
def dn (c : Nat) : List Nat := if noiseI.contains (c : Int) then [] else mapB3 c

theorem datumAt_map {α β : Type} (f : α → β) (k : Int) : ∀ l : List (Int × α), KTD.datumAt k (l.map fun p => (p.1, f p.2)) = (KTD.datumAt k l).map f
  | [] => rfl
  | (i, d) :: l => by
    show (if decide (k = i) = true then some (f d) else KTD.datumAt k (l.map fun p => (p.1, f p.2))) = (if decide (k = i) = true then some d else KTD.datumAt k l).map f
    rw [datumAt_map f k l]
    split <;> rfl


section
variable {B : Base} {k : Nat} {ns : List (Str × NameKind)} {L : List (Str × D)}

theorem fng_ord (w : Wd B) {c : Nat} : FnG B k "ord" [S [c]] (.int c) := ⟨_, w.ord, .builtin _, fn_ord⟩
theorem fng_chr (w : Wd B) {i : Int} (h0 : 0 ≤ i) (h1 : i ≤ 1114111) : FnG B k "chr" [.int i] (S [i.toNat]) := ⟨_, w.chr, .builtin _, fn_chr h0 h1⟩
theorem fng_divmod (w : Wd B) {a b : Int} (hb : b ≠ 0) (hs : b.natAbs < 1073741824) : FnG B k "divmod" [.int a, .int b] (.tuple [.int (a.fdiv b), .int (a.fmod b)]) := ⟨_, w.divmod, .builtin _, fn_divmod hb hs⟩
theorem fng_max (w : Wd B) {l : List Int} {m : Int} (hm : m ∈ l) (hall : ∀ a ∈ l, a ≤ m) : FnG B k "max" [.list (dI l)] (.int m) := ⟨_, w.max, .builtin _, fn_max hm hall⟩
theorem fng_min (w : Wd B) {l : List Int} {m : Int} (hm : m ∈ l) (hall : ∀ a ∈ l, m ≤ a) : FnG B k "min" [.list (dI l)] (.int m) := ⟨_, w.min, .builtin _, fn_min hm hall⟩
theorem fng_range1 (w : Wd B) {n : Int} : FnG B k "range" [.int n] (.range 0 n) := ⟨_, w.range, .type _, fn_range1⟩
theorem fng_range2 (w : Wd B) {a b : Int} : FnG B k "range" [.int a, .int b] (.range a b) := ⟨_, w.range, .type _, fn_range2⟩
theorem fng_list_range (w : Wd B) {a b : Int} {n : Nat} (hn : b - a = n) (hb : n ≤ 2000) (h0 : 0 ≤ a) (h1 : a ≤ 1000000) : FnG B k "list" [.range a b] (.list (dI (rangeI a n))) := ⟨_, w.list, .type _, fn_list_range hn hb h0 h1⟩

theorem ex_if {t : Expr} {b : List Stmt} {p : Pos} {c : Bool} {rest : List Stmt} {d : D} (ht : Tr B k ns (Lk L) t c) (hb : c = true → Ex B k ns L b (.ret d)) (hr : c = false → Ex B k ns L rest (.ret d)) : Ex B k ns L (.If t b [] p :: rest) (.ret d) := by
  cases hc : c with
  | true => exact ex_ret (ex1_if ht (fun _ => hb hc) fun h => by rw [hc] at h; cases h)
  | false => exact ex_next (ex1_if (o := .next L) ht (fun h => by rw [hc] at h; cases h) fun _ => ex_nil) (hr hc)

/-- a sign is of table B.1 -/
theorem fng_inb1 (w : Wd B) {c : Nat} : FnG B (k + 1) "in_table_b1" [S [c]] (.bool (noiseI.contains (c : Int))) := by
  refine .of_def (xs := ["code"]) w.inb1 (fun pm cd doc vs hv => ?_) rfl (by decide +kernel) ?_
  · match vs, hv with | [v], _ => rfl
  refine ex_ret (ex1_return ?_)
  obtain ⟨a, ha, hb⟩ := w.b1
  have h1 : ∀ {p q r : Pos}, Ev B k (fscope 6).names (Lk [("code", S [c])]) (.Call (.Name "ord" p) [.Name "code" q] [] r) (.int c) := fun {p q r} => ev_callg rfl (fng_ord w) (evl_cons (ev_local rfl rfl) evl_nil) (plain_cons plain_nil)
  refine .mk fun A env s W Q E R O S K => ?_
  refine wpAny_Compare1 (h1.go A env s W _ E R O S fun v g1 t1 l1 r1 => ?_)
  cases r1
  refine name_glob O (S.le l1) rfl (.inl ha) (by decide) ?_
  exact hb A _ c _ Q E R.line (S.base.trans l1) fun tk => K _ g1 tk l1 .bool

theorem fn_lower1 {l : List Nat} (hl : l.length ≤ 1000) : Fn B k (.builtin "str.lower") [S l] (S (Txt.lower ⟨l.toArray⟩).cps.toList) := .mk fun A vs s W Q E R _ lo r K => by
  cases r with | cons r1 r2 =>
  cases r2
  cases r1
  have e : (⟨l.toArray⟩ : Str).length = l.length := by simp [Str.length]
  refine SCL.lower (by rw [e]; omega) fun _ => ?_
  rw [str_eta (Txt.lower ⟨l.toArray⟩)]
  exact K _ s.heap _ (Le.refl _) .str

def optD : Option Str → D
  | some x => .str x
  | none => .none
theorem fng_mapb3 (w : Wd B) {c : Nat} : FnG B (k + 1) "map_table_b3" [S [c]] (S (mapB3 c)) := by
  refine .of_def (xs := ["code"]) w.mapb3 (fun pm cd doc vs hv => ?_) rfl (by decide +kernel) ?_
  · match vs, hv with | [v], _ => rfl
  obtain ⟨a, ha, hb⟩ := w.b3
  refine ex_next (ex1_assign (d := optD (lookB c)) ?_ (.inl rfl)) ?_
  · have h1 : ∀ {p q r : Pos}, Ev B k (fscope 8).names (Lk [("code", S [c])]) (.Call (.Name "ord" p) [.Name "code" q] [] r) (.int c) := fun {p q r} => ev_callg rfl (fng_ord w) (evl_cons (ev_local rfl rfl) evl_nil) (plain_cons plain_nil)
    refine .mk fun A env s W Q E R O S K => ?_
    refine MethodCall_ (name_glob O S rfl (.inl ha) (by decide) (PyProof.Rows.getMethod_tab PySem.F.slot_dict_get PySem.F.type_dict_get (PyProof.Rows.TabAt.keep hb S.base) ?_)) rfl
    refine Calls.callWith_builtin rfl (evalArgs_of rfl (args_cons (h1.go A env s W _ E R O S fun v g1 t1 l1 r1 => args_nil ?_)))
    cases r1
    refine call_get1_intTab (PyProof.Rows.TabAt.keep hb (S.base.trans l1)) fun v hv => ?_
    rw [show (b3.map fun p => (PyData.int p.1, PyData.str p.2)) = (b3.map fun p => (p.1, PyData.str p.2)).map fun p => (PyData.int p.1, p.2) by rw [List.map_map]; rfl, KTD.lookup_keyed, datumAt_map] at hv
    have hv : PyProof.V.Flat v (((lookB c).map PyData.str).getD .none) := hv
    cases e : lookB c with
    | none => rw [e] at hv; rw [PyProof.V.Flat.none_inv hv]; exact K _ g1 _ l1 (by rw [e]; exact .none)
    | some x => rw [e] at hv; obtain ⟨t, rfl⟩ := PyProof.V.Flat.str_inv hv; exact K _ g1 _ l1 (by rw [e]; exact .str)
  · refine ex_if (c := (lookB c).isSome) ?_ (fun h => ?_) fun h => ?_
    · cases e : lookB c with
      | none => exact tr_cmp cmp_none_isnot (ev_local rfl rfl) ev_none
      | some x => exact tr_cmp cmp_isnot_str (ev_local rfl rfl) ev_none
    · obtain ⟨x, e⟩ := Option.isSome_iff_exists.mp h
      refine ex_ret (ex1_return (ev_local rfl ?_))
      unfold mapB3
      rw [e]
      show some (D.str x) = some (S x.cps.toList)
      exact congrArg (fun z => some (D.str z)) (str_eta x)
    · have e := Option.not_isSome_iff_eq_none.mp (by simpa using h)
      refine ex_ret (ex1_return ?_)
      unfold mapB3
      rw [e]
      exact ev_meth (ev_local rfl rfl) (meth_str PySem.F.slot_str_lower PySem.F.type_str_lower) (.builtin _) (fn_lower1 (l := [c]) (by simp)) evl_nil plain_nil
end

/-! facts of the tables -/
def asc : List (Int × Str) → Bool
  | (a, x) :: (b, y) :: r => decide (a < b) && asc ((b, y) :: r)
  | _ => true
def badN : List Nat := noiseI.map (·.toNat)
def rowOk (p : Int × Str) : Bool := match p.2.cps.toList with
  | [] => false
  | h :: t => decide (128 < p.1) && h != p.1.toNat && (h :: t).all (fun c => c != 95 && !badN.contains c) && decide (t.length ≤ 5)
theorem b3_asc : asc b3 = true := by decide +kernel
theorem b3_ok : b3.all rowOk = true := by decide +kernel
def basesL : List Int := [97, 65, 119808, 119860, 119912, 120016, 120172, 120224, 120276, 120328, 120380, 120432]
def qs : List (Int × List Nat) := (basesL.drop 2).flatMap fun a => (List.range 26).map fun (b : Nat) => (a + (b : Int), [97 + b])
theorem t_sub : qs.isSublist (b3.map fun p => (p.1, p.2.cps.toList)) = true := by decide +kernel
theorem t_small : ((List.range 26).all fun b => lowerL (97 + b) == [97 + b] && lowerL (65 + b) == [97 + b]) = true := by decide +kernel
theorem t_noise : noiseI.all (fun a => dn a.toNat == [] && decide (0 ≤ a) && decide (a ≤ 70000) && decide (150 ≤ a)) = true := by decide +kernel
theorem t_95 : dn 95 = [95] := by decide +kernel
def lowOk (p : Nat × Nat × Nat) : Bool := decide (p.2.2 ≠ p.1) && (95 :: badN).all fun x => decide (x < p.2.2) || decide (p.2.2 + (p.2.1 - p.1) < x)
theorem low_ok : UnicodeData.oneLower.all lowOk = true := by decide +kernel
def sevOk (p : Nat × List Nat) : Bool := match p.2 with
  | [] => false
  | h :: t => h != p.1 && (h :: t).all (fun c => c != 95 && !badN.contains c) && decide (t.length ≤ 5)
theorem sev_ok : UnicodeData.severalLower.all sevOk = true := by decide +kernel
theorem lowerL_eq (c : Nat) : lowerL c = Unicode.lowerOf c := by
  unfold lowerL Txt.lower
  simp [placed, Unicode.lowerAt, Unicode.endsWord]

theorem datumAt_mem {k : Int} {s : Str} : ∀ {l : List (Int × Str)}, KTD.datumAt k l = some s → (k, s) ∈ l
  | [], h => by cases h
  | (a, x) :: l, h => by
    have g : (if decide (k = a) = true then some x else KTD.datumAt k l) = some s := h
    by_cases e : k = a
    · rw [if_pos (by simpa using e)] at g
      rw [e, ← Option.some.inj g]; exact .head _
    · rw [if_neg (by simpa using e)] at g
      exact .tail _ (datumAt_mem g)
theorem lookup_memN {l : List (Nat × List Nat)} {c : Nat} {x : List Nat} (h : l.lookup c = some x) : (c, x) ∈ l := by
  induction l with
  | nil => cases h
  | cons p l ih =>
    obtain ⟨a, y⟩ := p
    rw [List.lookup_cons] at h
    cases e : c == a with
    | true => rw [e] at h; have e : c = a := by simpa using e
              rw [e, ← Option.some.inj h]; exact .head _
    | false => rw [e] at h; exact .tail _ (ih h)
theorem asc_lt : ∀ {l : List (Int × Str)} {a : Int} {x : Str}, asc ((a, x) :: l) = true → ∀ p ∈ l, a < p.1
  | [], _, _, _, p, hp => by cases hp
  | (b, y) :: l, a, x, h, p, hp => by
    unfold asc at h
    rw [Bool.and_eq_true, decide_eq_true_eq] at h
    rcases List.mem_cons.mp hp with rfl | hp
    · exact h.1
    · have := asc_lt h.2 p hp; omega
theorem asc_tail {p : Int × Str} {l : List (Int × Str)} (h : asc (p :: l) = true) : asc l = true := by
  cases l with
  | nil => rfl
  | cons q l =>
    obtain ⟨a, x⟩ := p
    obtain ⟨b, y⟩ := q
    unfold asc at h
    exact (Bool.and_eq_true_iff.mp h).2
theorem datumAt_of_mem {k : Int} {s : Str} : ∀ {l : List (Int × Str)}, asc l = true → (k, s) ∈ l → KTD.datumAt k l = some s
  | [], _, h => by cases h
  | (a, x) :: l, ha, h => by
    show (if decide (k = a) = true then some x else KTD.datumAt k l) = some s
    rcases List.mem_cons.mp h with e | h
    · cases e; simp
    · have := asc_lt ha _ h
      have hk : ¬ k = a := by have this : a < k := this; omega
      rw [if_neg (by simpa using hk)]
      exact datumAt_of_mem (asc_tail ha) h

theorem lookB_mem {c : Int} {s : Str} (h : lookB c = some s) : (c, s) ∈ b3 := datumAt_mem h
theorem lookB_of {c : Int} {s : Str} (h : (c, s) ∈ b3) : lookB c = some s := datumAt_of_mem b3_asc h

/-- a sign that goes on its day -/
def noisy (c : Nat) : Bool := noiseI.contains (c : Int)
theorem noisy_iff (c : Nat) : noisy c = badN.contains c := by
  unfold noisy badN
  rw [Bool.eq_iff_iff, List.contains_iff_mem, List.contains_iff_mem, List.mem_map]
  constructor
  · intro h; exact ⟨_, h, by simp⟩
  · rintro ⟨a, ha, e⟩
    have := List.all_eq_true.mp t_noise a ha
    simp only [Bool.and_eq_true, decide_eq_true_eq] at this
    have : (c : Int) = a := by omega
    rw [this]; exact ha
theorem noisy_95 : noisy 95 = false := by decide +kernel
theorem dn_noisy {c : Nat} (h : noisy c = true) : dn c = [] := by unfold dn; unfold noisy at h; rw [if_pos h]
theorem dn_not {c : Nat} (h : noisy c = false) : dn c = mapB3 c := by unfold dn; unfold noisy at h; rw [h]; rfl

/-- what a list that a sign is folded to is like -/
def Folded (c : Nat) (l : List Nat) : Prop := l ≠ [] ∧ (c ≠ 95 → 95 ∉ l) ∧ (∀ x ∈ l, noisy x = false) ∧ (l = [c] ∨ ∃ h t, l = h :: t ∧ h ≠ c) ∧ l.length ≤ 10
theorem folded_self {c : Nat} (h : noisy c = false) : Folded c [c] := ⟨by simp, fun h => by simpa using fun e => h e.symm, fun x hx => by simp at hx; subst hx; exact h, .inl rfl, by simp⟩
theorem folded_of {c : Nat} {l : List Nat} {h : Nat} {t : List Nat} (e : l = h :: t) (hc : h ≠ c) (hall : ∀ x ∈ l, x ≠ 95 ∧ badN.contains x = false) (hlen : t.length ≤ 5) : Folded c l := by
  refine ⟨by rw [e]; simp, fun _ hm => (hall 95 hm).1 rfl, fun x hx => by rw [noisy_iff]; exact (hall x hx).2, .inr ⟨h, t, e, hc⟩, by rw [e]; simp; omega⟩

theorem shifted_spec {c : Nat} : ∀ {l : List (Nat × Nat × Nat)} {v : Nat}, Unicode.shifted l c = some v → ∃ p ∈ l, p.1 ≤ c ∧ c ≤ p.2.1 ∧ v = p.2.2 + (c - p.1)
  | [], v, h => by cases h
  | (a, b, t) :: l, v, h => by
    unfold Unicode.shifted at h
    split at h
    · cases h
    · split at h
      · cases h; exact ⟨_, .head _, by simp; omega, by simpa, rfl⟩
      · obtain ⟨p, hp, h1⟩ := shifted_spec h
        exact ⟨p, .tail _ hp, h1⟩

theorem folded_lower {c : Nat} (hc : noisy c = false) : Folded c (lowerL c) := by
  rw [lowerL_eq]
  unfold Unicode.lowerOf Unicode.image
  cases e : UnicodeData.severalLower.lookup c with
  | some l =>
    have := List.all_eq_true.mp sev_ok (c, l) (lookup_memN e)
    unfold sevOk at this
    dsimp only at this
    cases l with
    | nil => simp at this
    | cons h t =>
      simp only [Bool.and_eq_true, bne_iff_ne, List.all_eq_true, Bool.not_eq_true', decide_eq_true_eq] at this
      exact folded_of rfl this.1.1 (fun x hx => this.1.2 x hx) this.2
  | none =>
    dsimp only
    cases e2 : Unicode.shifted UnicodeData.oneLower c with
    | none => exact folded_self hc
    | some v =>
      obtain ⟨p, hp, h1, h2, rfl⟩ := shifted_spec e2
      have := List.all_eq_true.mp low_ok p hp
      unfold lowOk at this
      simp only [Bool.and_eq_true, List.all_eq_true, Bool.or_eq_true, decide_eq_true_eq] at this
      refine folded_of (h := p.2.2 + (c - p.1)) (t := []) rfl (by omega) (fun x hx => ?_) (by simp)
      have hx : x = p.2.2 + (c - p.1) := by simpa using hx
      subst hx
      have h95 := this.2 95 (.head _)
      refine ⟨by omega, ?_⟩
      cases eb : badN.contains (p.2.2 + (c - p.1)) with
      | false => rfl
      | true =>
        have := this.2 _ (.tail _ (List.contains_iff_mem.mp eb))
        omega

theorem folded_dn {c : Nat} (hc : noisy c = false) : Folded c (dn c) := by
  rw [dn_not hc]
  unfold mapB3
  cases e : lookB c with
  | none => exact folded_lower hc
  | some s =>
    have := List.all_eq_true.mp b3_ok _ (lookB_mem e)
    unfold rowOk at this
    dsimp only at this ⊢
    cases el : s.cps.toList with
    | nil => rw [el] at this; cases this
    | cons h t =>
      rw [el] at this
      simp only [Bool.and_eq_true, bne_iff_ne, List.all_eq_true, Bool.not_eq_true', decide_eq_true_eq] at this
      exact folded_of rfl (by have := this.1.1.2; simpa using this) (fun x hx => this.1.2 x hx) this.2
theorem dn_len (c : Nat) : (dn c).length ≤ 10 := by
  cases h : noisy c with
  | true => rw [dn_noisy h]; simp
  | false => exact (folded_dn h).2.2.2.2

theorem lookB_small {c : Int} (h : c ≤ 128) : lookB c = none := by
  cases e : lookB c with
  | none => rfl
  | some s =>
    have := List.all_eq_true.mp b3_ok _ (lookB_mem e)
    unfold rowOk at this
    dsimp only at this
    cases el : s.cps.toList with
    | nil => rw [el] at this; cases this
    | cons h t =>
      rw [el] at this
      simp only [Bool.and_eq_true, decide_eq_true_eq] at this
      have := this.1.1.1; omega
theorem noisy_range {c : Nat} (h : noisy c = true) : 150 ≤ c ∧ c ≤ 70000 := by
  unfold noisy at h
  have := List.all_eq_true.mp t_noise _ (List.contains_iff_mem.mp h)
  simp only [Bool.and_eq_true, decide_eq_true_eq] at this
  omega
theorem dn_base {j b : Nat} (hj : j < 12) (hb : b < 26) : dn (basesL.getD j 0 + b).toNat = [97 + b] := by
  have small := List.all_eq_true.mp t_small b (List.mem_range.mpr hb)
  simp only [Bool.and_eq_true, beq_iff_eq] at small
  have low : ∀ c : Nat, c ≤ 128 → lowerL c = [97 + b] → dn c = [97 + b] := fun c hc e => by
    have hn : noisy c = false := by
      cases h : noisy c with
      | false => rfl
      | true => have := noisy_range h; omega
    rw [dn_not hn]; unfold mapB3; rw [lookB_small (by omega)]; exact e
  match j, hj with
  | 0, _ => exact low _ (by simp [basesL]; omega) (by have : (basesL.getD 0 0 + (b : Int)).toNat = 97 + b := by simp [basesL]; omega
                                                      rw [this]; exact small.1)
  | 1, _ => exact low _ (by simp [basesL]; omega) (by have : (basesL.getD 1 0 + (b : Int)).toNat = 65 + b := by simp [basesL]; omega
                                                      rw [this]; exact small.2)
  | j + 2, hj =>
    have hmem : basesL.getD (j + 2) 0 ∈ basesL.drop 2 := by
      have : (basesL.drop 2).getD j 0 = basesL.getD (j + 2) 0 := by
        rw [List.getD_eq_getElem?_getD, List.getD_eq_getElem?_getD, List.getElem?_drop, Nat.add_comm]
      rw [← this, List.getD_eq_getElem?_getD, List.getElem?_eq_getElem (show j < (basesL.drop 2).length by simp [basesL]; omega)]
      exact List.getElem_mem _
    have hbig : ∀ a ∈ basesL.drop 2, (100000 : Int) ≤ a := by decide
    have hb2 := hbig _ hmem
    have hq : (basesL.getD (j + 2) 0 + (b : Int), [97 + b]) ∈ qs := List.mem_flatMap.mpr ⟨_, hmem, List.mem_map.mpr ⟨b, List.mem_range.mpr hb, rfl⟩⟩
    obtain ⟨p, hp, e⟩ := List.mem_map.mp ((List.isSublist_iff_sublist.mp t_sub).subset hq)
    obtain ⟨e1, e2⟩ := Prod.mk.inj e
    have hl : lookB p.1 = some p.2 := lookB_of hp
    have hn : noisy (basesL.getD (j + 2) 0 + (b : Int)).toNat = false := by
      cases h : noisy (basesL.getD (j + 2) 0 + (b : Int)).toNat with
      | false => rfl
      | true => have := noisy_range h; omega
    rw [dn_not hn]
    unfold mapB3
    have : (((basesL.getD (j + 2) 0 + (b : Int)).toNat : Nat) : Int) = p.1 := by rw [e1]; omega
    rw [this, hl]
    exact e2

local macro_rules | `(tactic| walk_at "m.sz") => `(tactic| first | assumption | omega | decide | (simp; done) | (simp; omega) | (simp at *; omega))
local macro_rules | `(tactic| walk_at "m.fn") => `(tactic| first | with_reducible assumption | ((with_reducible refine' fng_len_str ?h1 ?h2); (case h1 => assumption); (case h2 => walk_at "m.sz")) | ((with_reducible refine' fng_len_list ?h1 ?h2); (case h1 => assumption); (case h2 => walk_at "m.sz")) | ((with_reducible refine' fng_ord ?h1); assumption) | ((with_reducible refine' fng_range1 ?h1); assumption) | ((with_reducible refine' fng_range2 ?h1); assumption))

section
variable {B : Base} {k : Nat} {ns : List (Str × NameKind)} {L : List (Str × D)}

def n11 : List Int := [173, 847, 6150, 6155, 6156, 6157, 8203, 8204, 8205, 8288, 65279]
theorem ex_noise {N R : List D} (hr : FnG B k "list" [.range 65024 65040] (.list R)) (w : Wd B)
    (hb : Bin B k .Add (.list (dI n11)) (.list R) (.list N)) : Ex B k (fscope 10).names ([].zip []) (fbody 10) (.ret (.list N)) := by
  refine ex_ret ?_
  refine ex1_return ?_
  refine ev_bin (a := .list (dI n11)) (b := .list R) ?_ ?_ ?_
  · exact hb
  · walk_at "m.e"
  · refine ev_callg rfl hr ?_ ?_
    · walk_at "m.es"
    · walk_at "m.pl"
theorem fng_noise' {N : List D} (w : Wd B) (h : Ex B k (fscope 10).names ([].zip []) (fbody 10) (.ret (.list N))) : FnG B (k + 1) "_law_noise" [] (.list N) :=
  FnG.of_def (xs := []) (ds := []) w.noise (fun pm cd doc vs hv => by match vs, hv with | [], _ => rfl) rfl (by decide +kernel) h
theorem noise_eq : dI n11 ++ dI (rangeI 65024 16) = dI noiseI := by unfold noiseI dI n11; rw [List.map_append]
theorem ex_noiseI (w : Wd B) : Ex B k (fscope 10).names ([].zip []) (fbody 10) (.ret (.list (dI noiseI))) := by
  have hr : FnG B k "list" [.range 65024 65040] (.list (dI (rangeI 65024 16))) := fng_list_range w (by decide) (by decide) (by decide) (by decide)
  have hb : Bin B k .Add (.list (dI n11)) (.list (dI (rangeI 65024 16))) (.list (dI n11 ++ dI (rangeI 65024 16))) := bin_cat (by rw [rangeI_len]; decide)
  rw [noise_eq] at hb
  exact ex_noise hr w hb
theorem fng_noise (w : Wd B) : FnG B (k + 1) "_law_noise" [] (.list (dI noiseI)) := fng_noise' w (ex_noiseI w)

theorem fdiv_fmod_bounds (n : Int) (m : Int) (hm : 0 < m) : 0 ≤ n.fmod m ∧ n.fmod m < m := by
  rw [Int.fmod_eq_emod_of_nonneg n (by omega)]
  exact ⟨Int.emod_nonneg n (by omega), Int.emod_lt_of_pos n hm⟩

def wordsE : Expr → List (Int × Str)
  | .List es _ => es.filterMap fun | .Tuple [.Constant (.int i) _ _, .Constant (.str x) _ _] _ _ => some (i, x) | _ => none
  | _ => []
end

section
variable {B : Base} {k : Nat} {ns : List (Str × NameKind)} {L : List (Str × D)}

/-- an item of a tuple -/
theorem ev_titem {e i : Expr} {p : Pos} {ds : List D} {j : Nat} {d : D} {Γ : Str → Option D} (he : Ev B k ns Γ e (.tuple ds)) (hi : Ev B k ns Γ i (.int j)) (hd : ds[j]? = some d) (hj : j < 1000) : Ev B k ns Γ (.Subscript e i p) d :=
  .mk fun A env s W Q E R O S K => Subscript_ (he.go A env s W _ E R O S fun v h1 t1 l1 r1 => hi.go A env _ W _ E R O (S.le l1) fun u h2 t2 l2 r2 => by
    cases r1 with | tuple nw hl rs =>
    cases r2 with | int =>
    rename_i a vs n t
    obtain ⟨x, hx, rx⟩ := rs.get hd
    have hlt : j < vs.length := (List.getElem?_eq_some_iff.mp hx).1
    have hl2 : PyProof.Rows.IsTup h2 a vs.toArray := ⟨_, l2 _ _ hl, rfl, _, rfl⟩
    refine tail_of (T := "tuple") ⟨_, l2 _ _ hl, rfl⟩ PySem.F.slot_tuple_getitem.lookup
      (PyProof.Rows.getItem_tuple (s := { s with heap := h2, toks := t2 }) (j := j) hl2 (by omega) (by omega) ?_ (by simpa using hx) (K x h2 t2 (l1.trans l2) (rx.le l2)))
    unfold seqIndex?
    have h1 : ¬ ((j : Int) < 0) := by omega
    simp; omega)

theorem cont_any (l : List Int) (a : Int) : (l.any fun x => x == a) = l.contains a := by
  induction l with
  | nil => rfl
  | cons x l ih => rw [List.any_cons, List.contains_cons, ih, Bool.beq_comm]

theorem cast_mod {r : Int} {m : Int} (hm : 0 < m) : ∃ j : Nat, r.fmod m = (j : Int) ∧ (j : Int) < m := by
  obtain ⟨h0, h1⟩ := fdiv_fmod_bounds r m hm
  exact ⟨(r.fmod m).toNat, by omega, by omega⟩

def enc (p : Int × Str) : D := .tuple [.int p.1, .str p.2]
def rowsT : List Expr → List (Int × Str)
  | .Tuple [.Constant (.int i) _ _, .Constant (.str x) _ _] _ _ :: r => (i, x) :: rowsT r
  | _ => []
def wl (i : Nat) : List (Int × Str) := match (fbody 11)[(4 : Nat)]? with
  | some (Stmt.If _ ss _ _) => (match ss[i]? with
    | some (Stmt.Assign _ (.List es _) _) => rowsT es
    | some (Stmt.Assign _ (.BinOp _ _ (.List es _) _) _) => rowsT es
    | _ => [])
  | _ => []
def wds : List (Int × Str) := wl 0 ++ wl 1 ++ wl 2
theorem t_words : wds.all (fun p => decide (0 ≤ p.1) && decide (p.1 ≤ 1114111) && dn p.1.toNat == p.2.cps.toList) = true := by decide +kernel
theorem wds_len : wds.length = 18 := by decide +kernel
theorem wl_len : (wl 0).length = 6 ∧ (wl 1).length = 6 ∧ (wl 2).length = 6 := by decide +kernel
local macro_rules | `(tactic| walk_at "m.w") => `(tactic| first
  | ((with_reducible show EvL _ _ _ _ [] _); exact evl_nil)
  | (refine' evl_cons ?h1 ?h2; (case h1 => (refine' ev_tuple (ds := [_, _]) ?ha ?hn; (case ha => (refine' evl_cons ?a1 ?a2; (case a1 => exact ev_int); (case a2 => (refine' evl_cons ?b1 ?b2; (case b1 => exact ev_str); (case b2 => exact evl_nil))))); (case hn => exact Nat.le_of_ble_eq_true rfl))); (case h2 => walk_at "m.w")))

/-- how the drawn numbers are told apart -/
structure DrawnOk (B : Base) (k : Nat) (n : Int) (c : Nat) (lt : Int) : Prop where
  ex : Ex B (k + 1) (fscope 11).names [("number", .int n)] (fbody 11) (.ret (.list [S [c], S (dn c), .int lt]))

def drw (n : Int) : Nat × Int :=
  if n.fmod 8 < 4 then (95, n.fdiv 8)
  else if n.fmod 8 = 4 then ((noiseI.getD ((n.fdiv 8).fmod 27).toNat default).toNat, (n.fdiv 8).fdiv 27)
  else if n.fmod 8 = 5 then ((basesL.getD ((n.fdiv 8).fmod 12).toNat default + ((n.fdiv 8).fdiv 12).fmod 26).toNat, (n.fdiv 8).fdiv 312)
  else if n.fmod 8 = 6 then ((wds.getD ((n.fdiv 8).fmod 18).toNat default).1.toNat, (n.fdiv 8).fdiv 18)
  else ((if (n.fdiv 8).fmod 1112064 < 55296 then (n.fdiv 8).fmod 1112064 else 2048 + (n.fdiv 8).fmod 1112064).toNat, (n.fdiv 8).fdiv 1112064)

theorem noise_len : noiseI.length = 27 := by decide +kernel
theorem ex_drawn (w : Wd B) (n : Int) : Ex B (k + 1) (fscope 11).names [("number", .int n)] (fbody 11) (.ret (.list [S [(drw n).1], S (dn (drw n).1), .int (drw n).2])) := by
  refine ex_next (ex1_assign_tuple (d := .tuple [.int (n.fdiv 8), .int (n.fmod 8)]) (bs := ([] ++ [(("kind" : Str), D.int (n.fmod 8))]) ++ [(("rest" : Str), D.int (n.fdiv 8))]) ?_ ?_) ?_
  · refine ev_callg (ds := [.int n, .int 8]) rfl (fng_divmod w (by decide) (by decide)) ?_ ?_
    · walk_at "m.es"
    · walk_at "m.pl"
  · refine asg_tuple (ds := [.int (n.fdiv 8), .int (n.fmod 8)]) ?_ (.inr rfl)
    exact .cons (asg_name (.inl rfl)) (.cons (asg_name (.inl rfl)) .nil (by intro _ _; rfl)) (by intro _ _; rfl)
  generalize hr : n.fdiv 8 = r
  generalize hq : n.fmod 8 = q
  refine ex_if (c := decide (q < 4)) (tr_cmp (a := .int q) (b := .int 4) cmp_lt_int ?_ ?_) (fun h => ?_) fun h => ?_
  · walk_at "m.e"
  · walk_at "m.e"
  · have h := of_decide_eq_true h
    have e : drw n = (95, r) := by unfold drw; rw [hq, if_pos h, hr]
    rw [e, t_95]
    refine ex_ret ?_
    refine ex1_return ?_
    walk_at "m.e"
  have h4 := of_decide_eq_false h
  refine ex_if (c := q == 4) (tr_cmp (a := .int q) (b := .int 4) cmp_eq_int ?_ ?_) (fun h => ?_) fun h => ?_
  · walk_at "m.e"
  · walk_at "m.e"
  · have h : q = 4 := by simpa using h
    obtain ⟨j, ej, hj⟩ := cast_mod (r := r) (m := 27) (by decide)
    have e : drw n = ((noiseI.getD j default).toNat, r.fdiv 27) := by unfold drw; rw [hq, if_neg h4, if_pos h, hr, ej]; rfl
    have hmem : noiseI.getD j default ∈ noiseI := by
      rw [List.getD_eq_getElem?_getD, List.getElem?_eq_getElem (show j < noiseI.length by rw [noise_len]; omega)]; exact List.getElem_mem _
    have ht := List.all_eq_true.mp t_noise _ hmem
    simp only [Bool.and_eq_true, decide_eq_true_eq, beq_iff_eq] at ht
    rw [e]
    dsimp only
    rw [ht.1.1.1]
    have hn : FnG B (k + 1) "_law_noise" [] (.list (dI noiseI)) := fng_noise w
    have hc : FnG B (k + 1) "chr" [.int (noiseI.getD j default)] (S [(noiseI.getD j default).toNat]) := fng_chr w (by omega) (by omega)
    generalize hR : (noiseI.getD j default) = R at hc ⊢
    refine ex_ret ?_
    refine ex1_return ?_
    refine ev_list (evl_cons (ev_callg (ds := [.int R]) rfl hc ?_ ?_) (evl_cons (ev_strc (l := []) rfl) (evl_cons ?_ evl_nil))) (Nat.le_of_ble_eq_true rfl)
    · refine evl_cons ?_ evl_nil
      rw [← hR]
      refine ev_at D.int (l := noiseI) (j := j) ?_ ?_ (by rw [noise_len]; omega) (by rw [noise_len]; omega)
      · refine ev_callg (ds := []) rfl hn evl_nil plain_nil
      · rw [← ej]; walk_at "m.e"
    · walk_at "m.pl"
    · walk_at "m.e"
  have h5 : ¬ q = 4 := by simpa using h
  refine ex_if (c := q == 5) (tr_cmp (a := .int q) (b := .int 5) cmp_eq_int ?_ ?_) (fun h => ?_) fun h => ?_
  · walk_at "m.e"
  · walk_at "m.e"
  · have h : q = 5 := by simpa using h
    obtain ⟨j, ej, hj⟩ := cast_mod (r := r) (m := 12) (by decide)
    obtain ⟨b, eb, hb⟩ := cast_mod (r := r.fdiv 12) (m := 26) (by decide)
    have e : drw n = ((basesL.getD j default + (b : Int)).toNat, r.fdiv 312) := by unfold drw; rw [hq, if_neg h4, if_neg h5, if_pos h, hr, ej, eb]; rfl
    have hdn : dn (basesL.getD j default + (b : Int)).toNat = [97 + b] := dn_base (by omega) (by omega)
    have hbs : ∀ a ∈ basesL, (0 : Int) ≤ a ∧ a ≤ 200000 := by decide
    have hmem : basesL.getD j default ∈ basesL := by
      rw [List.getD_eq_getElem?_getD, List.getElem?_eq_getElem (show j < basesL.length by show j < 12; omega)]; exact List.getElem_mem _
    have hbd := hbs _ hmem
    rw [e]
    dsimp only
    rw [hdn]
    have hc1 : FnG B (k + 1) "chr" [.int (basesL.getD j default + (b : Int))] (S [(basesL.getD j default + (b : Int)).toNat]) := fng_chr w (by omega) (by omega)
    have hc2 : FnG B (k + 1) "chr" [.int (97 + (b : Int))] (S [97 + b]) := by
      have := fng_chr (k := k + 1) w (i := 97 + (b : Int)) (by omega) (by omega)
      rwa [show (97 + (b : Int)).toNat = 97 + b by omega] at this
    refine ex_next (ex1_assign (d := .list (dI basesL)) ?_ (.inl rfl)) ?_
    · walk_at "m.e"
    refine ex_ret ?_
    refine ex1_return ?_
    refine ev_list (evl_cons (ev_callg (ds := [.int (basesL.getD j default + (b : Int))]) rfl hc1 ?_ ?_) (evl_cons (ev_callg (ds := [.int (97 + (b : Int))]) rfl hc2 ?_ ?_) (evl_cons ?_ evl_nil))) (Nat.le_of_ble_eq_true rfl)
    · refine evl_cons (ev_bin (a := .int (basesL.getD j default)) (b := .int b) bin_add ?_ ?_) evl_nil
      · refine ev_at D.int (l := basesL) (j := j) ?_ ?_ (by show j < 12; omega) (by decide)
        · walk_at "m.e"
        · rw [← ej]; walk_at "m.e"
      · rw [← eb]; walk_at "m.e"
    · walk_at "m.pl"
    · refine evl_cons (ev_bin (a := .int 97) (b := .int b) bin_add ?_ ?_) evl_nil
      · walk_at "m.e"
      · rw [← eb]; walk_at "m.e"
    · walk_at "m.pl"
    · walk_at "m.e"
  have h6 : ¬ q = 5 := by simpa using h
  refine ex_if (c := q == 6) (tr_cmp (a := .int q) (b := .int 6) cmp_eq_int ?_ ?_) (fun h => ?_) fun h => ?_
  · walk_at "m.e"
  · walk_at "m.e"
  · have h : q = 6 := by simpa using h
    obtain ⟨j, ej, hj⟩ := cast_mod (r := r) (m := 18) (by decide)
    have e : drw n = ((wds.getD j default).1.toNat, r.fdiv 18) := by unfold drw; rw [hq, if_neg h4, if_neg h5, if_neg h6, if_pos h, hr, ej]; rfl
    have hmem : wds.getD j default ∈ wds := by
      rw [List.getD_eq_getElem?_getD, List.getElem?_eq_getElem (show j < wds.length by rw [wds_len]; omega)]; exact List.getElem_mem _
    have ht := List.all_eq_true.mp t_words _ hmem
    simp only [Bool.and_eq_true, decide_eq_true_eq, beq_iff_eq] at ht
    have hS : S (dn (wds.getD j default).1.toNat) = .str (wds.getD j default).2 := by rw [ht.2]
    rw [e]
    dsimp only
    rw [hS]
    have hc : FnG B (k + 1) "chr" [.int (wds.getD j default).1] (S [(wds.getD j default).1.toNat]) := fng_chr w (by omega) (by omega)
    obtain ⟨w0, w1, w2⟩ := wl_len
    refine ex_next (ex1_assign (d := .list ((wl 0).map enc)) ?_ (.inl rfl)) ?_
    · refine ev_list ?_ (by rw [List.length_map, w0]; decide)
      walk_at "m.w"
    refine ex_next (ex1_assign (d := .list ((wl 0).map enc ++ (wl 1).map enc)) ?_ (.inl rfl)) ?_
    · refine ev_bin (a := .list ((wl 0).map enc)) (b := .list ((wl 1).map enc)) (bin_cat (by rw [List.length_map, List.length_map, w0, w1]; decide)) ?_ ?_
      · walk_at "m.e"
      · refine ev_list ?_ (by rw [List.length_map, w1]; decide)
        walk_at "m.w"
    refine ex_next (ex1_assign (d := .list (wds.map enc)) ?_ (.inl rfl)) ?_
    · have e2 : wds.map enc = ((wl 0).map enc ++ (wl 1).map enc) ++ (wl 2).map enc := by unfold wds; rw [List.map_append, List.map_append]
      rw [e2]
      refine ev_bin (a := .list ((wl 0).map enc ++ (wl 1).map enc)) (b := .list ((wl 2).map enc)) (bin_cat (by rw [List.length_append, List.length_map, List.length_map, List.length_map, w0, w1, w2]; decide)) ?_ ?_
      · walk_at "m.e"
      · refine ev_list ?_ (by rw [List.length_map, w2]; decide)
        walk_at "m.w"
    generalize hx : wds.getD j default = x at hc ⊢
    refine ex_ret ?_
    refine ex1_return ?_
    refine ev_list (evl_cons (ev_callg (ds := [.int x.1]) rfl hc ?_ ?_) (evl_cons ?_ (evl_cons ?_ evl_nil))) (Nat.le_of_ble_eq_true rfl)
    · refine evl_cons (ev_titem (ds := [.int x.1, .str x.2]) (j := 0) ?_ ev_int rfl (by decide)) evl_nil
      show Ev _ _ _ _ _ (enc x)
      rw [← hx]
      refine ev_at enc (l := wds) (j := j) ?_ ?_ (by rw [wds_len]; omega) (by rw [wds_len]; omega)
      · walk_at "m.e"
      · rw [← ej]; walk_at "m.e"
    · walk_at "m.pl"
    · refine ev_titem (ds := [.int x.1, .str x.2]) (j := 1) ?_ ev_int rfl (by decide)
      show Ev _ _ _ _ _ (enc x)
      rw [← hx]
      refine ev_at enc (l := wds) (j := j) ?_ ?_ (by rw [wds_len]; omega) (by rw [wds_len]; omega)
      · walk_at "m.e"
      · rw [← ej]; walk_at "m.e"
    · walk_at "m.e"
  have h7 : ¬ q = 6 := by simpa using h
  obtain ⟨j, ej, hj⟩ := cast_mod (r := r) (m := 1112064) (by decide)
  have e : drw n = ((if (j : Int) < 55296 then (j : Int) else 2048 + (j : Int)).toNat, r.fdiv 1112064) := by unfold drw; rw [hq, if_neg h4, if_neg h5, if_neg h6, if_neg h7, hr, ej]
  rw [e]
  dsimp only
  generalize hv : (if (j : Int) < 55296 then (j : Int) else 2048 + (j : Int)) = v
  have hv0 : 0 ≤ v ∧ v ≤ 1114111 := by split at hv <;> omega
  have hc : FnG B (k + 1) "chr" [.int v] (S [v.toNat]) := fng_chr w (by omega) (by omega)
  refine ex_next (ex1_assign (d := .int j) ?_ (.inl rfl)) ?_
  · rw [← ej]; walk_at "m.e"
  refine ex_next (ex1_assign (d := S [v.toNat]) (ev_callg (ds := [.int v]) rfl hc ?_ ?_) (.inl rfl)) ?_
  · refine evl_cons (ev_if (c := decide ((j : Int) < 55296)) (tr_cmp (a := .int j) (b := .int 55296) cmp_lt_int ?_ ?_) (fun h => ?_) fun h => ?_) evl_nil
    · walk_at "m.e"
    · walk_at "m.e"
    · rw [if_pos (of_decide_eq_true h)] at hv; rw [← hv]; walk_at "m.e"
    · rw [if_neg (of_decide_eq_false h)] at hv; rw [← hv]; walk_at "m.e"
  · walk_at "m.pl"
  generalize v.toNat = c
  have hn : FnG B (k + 1) "_law_noise" [] (.list (dI noiseI)) := fng_noise w
  have hm : FnG B (k + 1) "map_table_b3" [S [c]] (S (mapB3 c)) := fng_mapb3 w
  refine ex_ret ?_
  refine ex1_return ?_
  refine ev_list (evl_cons ?_ (evl_cons (ev_if (c := noisy c) ?_ (fun h => ?_) fun h => ?_) (evl_cons ?_ evl_nil))) (Nat.le_of_ble_eq_true rfl)
  · walk_at "m.e"
  · have : noisy c = noiseI.any (· == (c : Int)) := (cont_any _ _).symm
    rw [this]
    refine tr_cmp (a := .int c) (b := .list (dI noiseI)) cmp_in_ints ?_ ?_
    · walk_at "m.e"
    · refine ev_callg (ds := []) rfl hn evl_nil plain_nil
  · rw [dn_noisy h]; walk_at "m.e"
  · rw [dn_not h]
    refine ev_callg (ds := [S [c]]) rfl hm ?_ ?_
    · walk_at "m.es"
    · walk_at "m.pl"
  · walk_at "m.e"

theorem fng_drawn (w : Wd B) (n : Int) : FnG B (k + 2) "_law_drawn" [.int n] (.list [S [(drw n).1], S (dn (drw n).1), .int (drw n).2]) :=
  FnG.of_def (xs := ["number"]) w.drawn (fun pm cd doc vs hv => by match vs, hv with | [v], _ => rfl) rfl (by decide +kernel) (ex_drawn w n)
end

section
variable {B : Base} {k : Nat} {ns : List (Str × NameKind)} {L : List (Str × D)}

theorem lk_nil {G' : List (Str × D)} : ∀ n d, Lk [] n = some d → Lk G' n = some d := fun n d h => by cases h
theorem lk_cons {x : Str} {d0 : D} {G G' : List (Str × D)} (h : Lk G' x = some d0) (h' : ∀ n d, Lk G n = some d → Lk G' n = some d) : ∀ n d, Lk ((x, d0) :: G) n = some d → Lk G' n = some d := fun n d g => by
  have g : List.lookup n ((x, d0) :: G) = some d := g
  rw [List.lookup_cons] at g
  split at g
  · rename_i e
    have e : n = x := by simpa using e
    cases g; rw [e]; exact h
  · exact h' n d g
local macro_rules | `(tactic| walk_at "m.lk") => `(tactic| first | exact lk_nil | (refine' lk_cons rfl ?_; walk_at "m.lk"))

theorem turn_of {bs G G' Gn : List (Str × D)} {target : Expr} {x : D} {body : List Stmt} (h1 : Asg B k ns target x bs) (h2 : Ex B k ns (bs ++ G) body (.next G')) (h3 : ∀ n d, Lk Gn n = some d → Lk G' n = some d) :
    ∃ bs G', Asg B k ns target x bs ∧ Ex B k ns (bs ++ G) body (.next G') ∧ ∀ n d, Lk Gn n = some d → Lk G' n = some d := ⟨bs, G', h1, h2, h3⟩

/-- the order that the numbers tell -/
def ord (l : List Int) : Nat → List Int
  | 0 => []
  | i + 1 => (cut (ord l i) none (some ((l.getD i default).fmod (i + 1))) ++ [(i : Int)]) ++ cut (ord l i) (some ((l.getD i default).fmod (i + 1))) none
def dayOf (l : List Int) (p : Nat) : Int := (((ord l l.length).idxOf (p : Int) : Nat) : Int) + 1
def daysOf (l : List Int) : List Int := (List.range l.length).map (dayOf l)

theorem clip_nat {n : Nat} {i : Int} (h0 : 0 ≤ i) (h1 : i ≤ n) : clipAt n i = i.toNat := by
  unfold clipAt
  have : ¬ i < 0 := by omega
  simp [this]; omega
theorem cut_pos {α : Type} (l : List α) {a b : Nat} : cut l (some (a : Int)) (some (b : Int)) = (l.drop (clipAt l.length a)).take (clipAt l.length b - clipAt l.length a) := rfl
theorem cut_pre {α : Type} (l : List α) {i : Int} (h0 : 0 ≤ i) (h1 : i ≤ l.length) : cut l none (some i) = l.take i.toNat := by
  show (l.drop 0).take (clipAt l.length i - 0) = _
  rw [clip_nat h0 h1]; simp
theorem cut_suf {α : Type} (l : List α) {i : Int} (h0 : 0 ≤ i) (h1 : i ≤ l.length) : cut l (some i) none = l.drop i.toNat := by
  show (l.drop (clipAt l.length i)).take (l.length - clipAt l.length i) = _
  rw [clip_nat h0 h1, List.take_of_length_le (by simp)]

theorem ord_spec (l : List Int) : ∀ i, (ord l i).length = i ∧ ∀ p : Nat, (p : Int) ∈ ord l i ↔ p < i
  | 0 => ⟨rfl, fun p => by simp [ord]⟩
  | i + 1 => by
    obtain ⟨h1, h2⟩ := ord_spec l i
    have hb := fdiv_fmod_bounds (l.getD i default) ((i : Int) + 1) (by omega)
    have hle : (l.getD i default).fmod ((i : Int) + 1) ≤ (ord l i).length := by rw [h1]; omega
    have e : ord l (i + 1) = ((ord l i).take ((l.getD i default).fmod (i + 1)).toNat ++ [(i : Int)]) ++ (ord l i).drop ((l.getD i default).fmod (i + 1)).toNat := by
      show _ ++ _ = _
      rw [cut_pre _ hb.1 hle, cut_suf _ hb.1 hle]
    constructor
    · rw [e]; simp only [List.length_append, List.length_take, List.length_drop, List.length_cons, List.length_nil, h1]; omega
    · intro p
      have : (p : Int) ∈ ord l (i + 1) ↔ (p : Int) ∈ ord l i ∨ p = i := by
        rw [e, List.mem_append, List.mem_append, List.mem_singleton]
        constructor
        · rintro ((h | h) | h)
          · exact .inl (List.mem_of_mem_take h)
          · exact .inr (by omega)
          · exact .inl (List.mem_of_mem_drop h)
        · rintro (h | h)
          · rw [← List.take_append_drop ((l.getD i default).fmod (i + 1)).toNat (ord l i), List.mem_append] at h
            rcases h with h | h
            · exact .inl (.inl h)
            · exact .inr h
          · exact .inl (.inr (by omega))
      rw [this, h2]; omega

theorem days_len (l : List Int) : (daysOf l).length = l.length := by simp [daysOf]
theorem days_mem {l : List Int} {d : Int} (h : d ∈ daysOf l) : 1 ≤ d ∧ d ≤ l.length := by
  unfold daysOf at h
  obtain ⟨p, hp, rfl⟩ := List.mem_map.mp h
  have hp := List.mem_range.mp hp
  obtain ⟨h1, h2⟩ := ord_spec l l.length
  have := List.idxOf_lt_length_of_mem ((h2 p).mpr hp)
  unfold dayOf
  rw [h1] at this
  omega

theorem ev_rlenL {α : Type} {f : α → D} (w : Wd B) {l : List α} {Γ : Str → Option D} {e : Expr} {p q r t : Pos} (h : Ev B k ns Γ e (.list (l.map f))) (hn : l.length ≤ 2000) (h1 : ns.lookup ("range" : Str) = some NameKind.globalImplicit) (h2 : ns.lookup ("len" : Str) = some NameKind.globalImplicit) (he : ∀ r env, starEach (e :: r) env = (false, eval e env) :: starEach r env := by intro _ _; rfl) :
    Ev B k ns Γ (.Call (.Name "range" p) [.Call (.Name "len" q) [e] [] r] [] t) (.range 0 l.length) :=
  ev_callg h1 (fng_range1 w) (evl_cons (ev_callg h2 (by have := fng_len_list (k := k) w (ds := l.map f) (by simpa using hn); rwa [List.length_map] at this) (evl_cons h evl_nil he) (plain_cons plain_nil he)) evl_nil) (plain_cons plain_nil)
theorem ev_rlenS (w : Wd B) {l : List Nat} {Γ : Str → Option D} {e : Expr} {p q r t : Pos} (h : Ev B k ns Γ e (S l)) (hn : l.length ≤ 2000) (h1 : ns.lookup ("range" : Str) = some NameKind.globalImplicit) (h2 : ns.lookup ("len" : Str) = some NameKind.globalImplicit) (he : ∀ r env, starEach (e :: r) env = (false, eval e env) :: starEach r env := by intro _ _; rfl) :
    Ev B k ns Γ (.Call (.Name "range" p) [.Call (.Name "len" q) [e] [] r] [] t) (.range 0 l.length) :=
  ev_callg h1 (fng_range1 w) (evl_cons (ev_callg h2 (fng_len_str w hn) (evl_cons h evl_nil he) (plain_cons plain_nil he)) evl_nil) (plain_cons plain_nil)
theorem ev_rlenS1 (w : Wd B) {l : List Nat} {Γ : Str → Option D} {e : Expr} {p q r t u : Pos} {z : Nat} {o : Pos} (h : Ev B k ns Γ e (S l)) (hn : l.length ≤ 2000) (h1 : ns.lookup ("range" : Str) = some NameKind.globalImplicit) (h2 : ns.lookup ("len" : Str) = some NameKind.globalImplicit) (he : ∀ r env, starEach (e :: r) env = (false, eval e env) :: starEach r env := by intro _ _; rfl) :
    Ev B k ns Γ (.Call (.Name "range" p) [.BinOp (.Call (.Name "len" q) [e] [] r) .Add (.Constant (.int 1) z o) u] [] t) (.range 0 ((l.length + 1 : Nat) : Int)) :=
  ev_callg h1 (fng_range1 w) (evl_cons (ev_bin (by have := bin_add (B := B) (k := k) (a := (l.length : Int)) (b := 1); exact this) (ev_callg h2 (fng_len_str w hn) (evl_cons h evl_nil he) (plain_cons plain_nil he)) ev_int) evl_nil) (plain_cons plain_nil)

theorem ex_days (w : Wd B) (l : List Int) (hl : l.length ≤ 100) : Ex B (k + 1) (fscope 12).names [("lates", .list (dI l))] (fbody 12) (.ret (.list (dI (daysOf l)))) := by
  refine ex_next (ex1_assign (d := .list (dI [])) ?_ (.inr rfl)) ?_
  · walk_at "m.e"
  refine ex_next (ex1_for (xs := (List.range l.length).map fun (i : Nat) => D.int i) (m := l.length) (fun i => [("order", .list (dI (ord l i))), ("lates", .list (dI l))]) (ev_rlenL w (ev_local rfl rfl) (by omega) rfl rfl) (over_range (by omega)) (by simp) ?_ ?_ (.inl ⟨by simp, rfl⟩)) ?_
  · walk_at "m.lk"
  · intro i x hi hx
    rw [List.getElem?_map, List.getElem?_range hi] at hx
    cases hx
    refine' turn_of (bs := [("place", .int i)]) (asg_name (.inl rfl)) ?a ?b
    case a =>
      refine ex_next (ex1_assign (d := .int ((l.getD i default).fmod (i + 1))) ?_ (.inl rfl)) ?_
      · refine ev_bin (a := .int (l.getD i default)) (b := .int (i + 1)) (bin_mod (by omega)) (ev_at D.int (l := l) (j := i) ?_ ?_ hi (by omega)) ?_
        · walk_at "m.e"
        · walk_at "m.e"
        · walk_at "m.e"
      obtain ⟨h1, _⟩ := ord_spec l i
      have e : dI (ord l (i + 1)) = (cut (dI (ord l i)) none (some ((l.getD i default).fmod (i + 1))) ++ [D.int i]) ++ cut (dI (ord l i)) (some ((l.getD i default).fmod (i + 1))) none := by
        have hb := fdiv_fmod_bounds (l.getD i default) ((i : Int) + 1) (by omega)
        have hle : (l.getD i default).fmod ((i : Int) + 1) ≤ (ord l i).length := by rw [h1]; omega
        show (((cut (ord l i) none _ ++ _) ++ cut (ord l i) _ none).map D.int) = _
        rw [cut_pre _ hb.1 hle, cut_suf _ hb.1 hle, cut_pre _ hb.1 (by simpa using hle), cut_suf _ hb.1 (by simpa using hle)]
        simp [dI, List.map_take, List.map_drop]
      refine ex_next (ex1_assign (d := .list (dI (ord l (i + 1)))) ?_ (.inr rfl)) ex_nil
      rw [e]
      have hc1 := cut_len (dI (ord l i)) none (some ((l.getD i default).fmod (i + 1)))
      have hc2 := cut_len (dI (ord l i)) (some ((l.getD i default).fmod (i + 1))) none
      simp only [dI, List.length_map, h1] at hc1 hc2
      refine ev_bin (bin_cat (by simp only [dI, List.length_append, List.length_cons, List.length_nil]; omega)) (ev_bin (bin_cat (by simp only [dI, List.length_cons, List.length_nil]; omega)) (ev_cut_list ?_ ?_ ?_ (by simp only [dI, List.length_map]; omega)) ?_) (ev_cut_list ?_ ?_ ?_ (by simp only [dI, List.length_map]; omega))
      · walk_at "m.e"
      · walk_at "m.o"
      · walk_at "m.o"
      · walk_at "m.e"
      · walk_at "m.e"
      · walk_at "m.o"
      · walk_at "m.o"
    case b => walk_at "m.lk"
  refine ex_ret ?_
  refine ex1_return ?_
  have e : dI (daysOf l) = ((List.range l.length).filter (fun _ => true)).map fun p => D.int (dayOf l p) := by unfold daysOf dI; rw [List.map_map, List.filter_eq_self.mpr (by simp)]; rfl
  rw [e]
  refine ev_comp (e := fun (i : Nat) => D.int i) (ev_rlenL w (ev_local rfl rfl) (by omega) rfl rfl) (over_range (by omega)) (cscope_of (by decide +kernel)) (.cons (x := "order") (by decide +kernel) rfl .nil) (by simp; omega) fun i hi => ?_
  have hi := List.mem_range.mp hi
  refine ⟨[("place", .int i)], by intro q hq; rw [List.mem_singleton.mp hq]; rfl, asg_name (.inl rfl), .inl ⟨rfl, rfl⟩, fun _ => ?_⟩
  obtain ⟨h1, h2⟩ := ord_spec l l.length
  have hm := (h2 i).mpr hi
  have hlt := List.idxOf_lt_length_of_mem hm
  refine ev_bin (a := .int ((ord l l.length).idxOf (i : Int) : Nat)) (b := .int 1) bin_add (ev_meth (ev_cell rfl rfl) (meth_list PySem.F.slot_list_index PySem.F.type_list_index) (.builtin _) (fn_index (by omega) hlt (List.getElem_idxOf hlt) fun m hm hlt' => ?_) (evl_cons (ev_local rfl rfl) evl_nil) (plain_cons plain_nil)) ev_int
  have := List.not_of_lt_findIdx hlt'
  simpa using this

theorem fng_days (w : Wd B) (l : List Int) (hl : l.length ≤ 100) : FnG B (k + 2) "_law_days" [.list (dI l)] (.list (dI (daysOf l))) :=
  FnG.of_def (xs := ["lates"]) w.days (fun pm cd doc vs hv => by match vs, hv with | [v], _ => rfl) rfl (by decide +kernel) (ex_days w l hl)
end

section
variable {B : Base} {k : Nat} {ns : List (Str × NameKind)} {L : List (Str × D)}
local macro_rules | `(tactic| walk_at "m.lk") => `(tactic| first | exact lk_nil | (refine' lk_cons rfl ?_; walk_at "m.lk"))

/-- the day from which the head shows so many underscores -/
def fromGo : List (Nat × Int) → Int → Int → Int → Int
  | [], _, _, z => z
  | (c, e) :: r, day, n, z => if c ≠ 95 then fromGo r (max day e) n z else if n - 1 = 0 then day else fromGo r day (n - 1) z
def stp (x : Nat × Int) (s : Int × Int) : Int × Int := if x.1 ≠ 95 then (max s.1 x.2, s.2) else (s.1, s.2 - 1)
def stAt (t : List (Nat × Int)) (c : Int) : Nat → Int × Int
  | 0 => (0, c)
  | i + 1 => stp (t.getD i (0, 0)) (stAt t c i)
def hit (t : List (Nat × Int)) (c : Int) (i : Nat) : Bool := decide ((t.getD i (0, 0)).1 = 95) && decide ((stAt t c i).2 - 1 = 0)
def hitAt (t : List (Nat × Int)) (c : Int) : Nat := (List.range t.length).findIdx (hit t c)
theorem hitAt_le (t : List (Nat × Int)) (c : Int) : hitAt t c ≤ t.length := by
  have := List.findIdx_le_length (p := hit t c) (xs := List.range t.length)
  simpa [hitAt] using this
theorem not_hit {t : List (Nat × Int)} {c : Int} {i : Nat} (h : i < hitAt t c) : hit t c i = false := by
  have h1 := List.not_of_lt_findIdx h
  simpa using h1
theorem hit_at {t : List (Nat × Int)} {c : Int} (h : hitAt t c < t.length) : hit t c (hitAt t c) = true := by
  have := List.findIdx_getElem (p := hit t c) (xs := List.range t.length) (w := by simpa [hitAt] using h)
  simpa [hitAt] using this
theorem fromGo_at (t : List (Nat × Int)) (c z : Int) : ∀ i, i ≤ hitAt t c → fromGo (t.drop i) (stAt t c i).1 (stAt t c i).2 z = fromGo t 0 c z
  | 0, _ => rfl
  | i + 1, h => by
    rw [← fromGo_at t c z i (by omega)]
    have hn := not_hit (t := t) (c := c) (i := i) (by omega)
    have hl : i < t.length := Nat.lt_of_lt_of_le (by omega) (hitAt_le t c)
    have ed : t.drop i = t[i] :: t.drop (i + 1) := by rw [List.drop_eq_getElem_cons hl]
    have eg : t.getD i (0, 0) = t[i] := by rw [List.getD_eq_getElem?_getD, List.getElem?_eq_getElem hl]; rfl
    unfold hit at hn
    rw [eg] at hn
    show fromGo (t.drop (i + 1)) (stp (t.getD i (0, 0)) (stAt t c i)).1 (stp (t.getD i (0, 0)) (stAt t c i)).2 z = _
    rw [ed, eg]
    generalize t[i] = x at hn
    obtain ⟨a, e⟩ := x
    show _ = if a ≠ 95 then fromGo _ (max _ e) _ z else if _ - 1 = 0 then _ else fromGo _ _ _ z
    unfold stp
    by_cases ha : a = 95
    · subst ha
      have h2 : ¬ ((stAt t c i).2 - 1 = 0) := by simpa using hn
      simp [h2]
    · simp [ha]
theorem fromGo_eq (t : List (Nat × Int)) (c z : Int) : fromGo t 0 c z = if hitAt t c < t.length then (stAt t c (hitAt t c)).1 else z := by
  rw [← fromGo_at t c z _ (Nat.le_refl _)]
  split
  · rename_i hl
    have hh := hit_at hl
    have ed : t.drop (hitAt t c) = t[hitAt t c] :: t.drop (hitAt t c + 1) := by rw [List.drop_eq_getElem_cons hl]
    have eg : t.getD (hitAt t c) (0, 0) = t[hitAt t c] := by rw [List.getD_eq_getElem?_getD, List.getElem?_eq_getElem hl]; rfl
    unfold hit at hh
    rw [eg] at hh
    rw [ed]
    generalize t[hitAt t c] = x at hh
    obtain ⟨a, e⟩ := x
    simp only [Bool.and_eq_true, decide_eq_true_eq] at hh
    unfold fromGo
    simp [hh.1, hh.2]
  · rename_i hl
    have := hitAt_le t c
    rw [List.drop_of_length_le (by omega)]; rfl

theorem zip_getD {l : List Nat} {es : List Int} (h : es.length = l.length) {i : Nat} (hi : i < l.length) : (l.zip es).getD i (0, 0) = (l.getD i 0, es.getD i default) := by
  rw [List.getD_eq_getElem?_getD, List.getElem?_eq_getElem (by simp; omega)]
  simp [List.getD_eq_getElem?_getD, List.getElem?_eq_getElem hi, List.getElem?_eq_getElem (show i < es.length by omega)]

def lawFrom (l : List Nat) (es : List Int) (c : Int) : Int := fromGo (l.zip es) 0 c (l.length + 1)
theorem max_mem2 (a b : Int) : max a b ∈ [a, b] := by rw [Int.max_def]; split <;> simp
theorem max_ge2 (a b : Int) : ∀ x ∈ [a, b], x ≤ max a b := by intro x hx; simp at hx; omega

def frBody : List Stmt := match (fbody 13)[(1 : Nat)]? with | some (Stmt.For _ _ b _ _) => b | _ => []
def frTarget : Expr := match (fbody 13)[(1 : Nat)]? with | some (Stmt.For t _ _ _ _) => t | _ => default
theorem ex_from (w : Wd B) (l : List Nat) (es : List Int) (c : Int) (hl : l.length ≤ 100) (he : es.length = l.length) :
    Ex B (k + 1) (fscope 13).names [("text", S l), ("ends", .list (dI es)), ("count", .int c)] (fbody 13) (.ret (.int (lawFrom l es c))) := by
  have hz : (l.zip es).length = l.length := by simp; omega
  have hm := hitAt_le (l.zip es) c
  rw [hz] at hm
  refine ex_next (ex1_assign (d := .int 0) ?_ (.inl rfl)) ?_
  · walk_at "m.e"
  generalize hT : l.zip es = T at *
  have hg : ∀ i, i < l.length → T.getD i (0, 0) = (l.getD i 0, es.getD i default) := fun i hi => by rw [← hT]; exact zip_getD he hi
  let G : Nat → List (Str × D) := fun i => [("day", .int (stAt T c i).1), ("count", .int (stAt T c i).2), ("text", S l), ("ends", .list (dI es))]
  have txt : ∀ {i : Nat} {p q r : Pos}, i < l.length → Ev B (k + 1) (fscope 13).names (Lk (([("place", D.int i)] : List (Str × D)) ++ G i)) (.Subscript (.Name "text" p) (.Name "place" q) r) (S [l.getD i 0]) := fun {i p q r} hi =>
    ev_signat (ev_local rfl rfl) (ev_local rfl rfl) hi (by omega)
  have turn : ∀ i x, i < hitAt T c → ((List.range l.length).map fun (i : Nat) => D.int i)[i]? = some x → ∃ bs G', Asg B (k + 1) (fscope 13).names frTarget x bs ∧ Ex B (k + 1) (fscope 13).names (bs ++ G i) frBody (.next G') ∧ ∀ n d, Lk (G (i + 1)) n = some d → Lk G' n = some d := fun i x hi hx => by
    have hil : i < l.length := by omega
    rw [List.getElem?_map, List.getElem?_range hil] at hx
    cases hx
    have hn := not_hit hi
    unfold hit at hn
    rw [hg _ hil] at hn
    by_cases hc : l.getD i 0 = 95
    · have h2 : ¬ ((stAt T c i).2 - 1 = 0) := by rw [hc] at hn; simpa using hn
      have e2 : stAt T c (i + 1) = ((stAt T c i).1, (stAt T c i).2 - 1) := by
        show stp (T.getD i (0, 0)) _ = _
        rw [hg _ hil]; unfold stp; rw [if_neg (fun h => h hc)]
      refine' turn_of (bs := [("place", .int i)]) (asg_name (.inl rfl)) ?a ?b
      case a =>
        refine' ex_next (ex1_if (c := [l.getD i 0] != [95]) (tr_cmp cmp_ne_S (txt hil) (ev_strc rfl)) (fun q => ?_) fun _ => ?_) ex_nil
        · rw [hc] at q; cases q
        · refine ex_next (ex1_assign (d := .int ((stAt T c i).2 - 1)) ?_ (.inl rfl)) ?_
          · walk_at "m.e"
          refine ex_next (ex1_if (c := (stAt T c i).2 - 1 == 0) (tr_cmp cmp_eq_int ?_ ?_) (fun q => ?_) fun q => ex_nil) ex_nil
          · walk_at "m.e"
          · walk_at "m.e"
          · exact absurd (by simpa using q) h2
      case b =>
        show ∀ n d, Lk [("day", .int (stAt T c (i + 1)).1), ("count", .int (stAt T c (i + 1)).2), ("text", S l), ("ends", .list (dI es))] n = some d → _
        rw [e2]
        refine lk_cons rfl ?_
        refine lk_cons rfl ?_
        refine lk_cons rfl ?_
        refine lk_cons rfl ?_
        exact lk_nil
    · have e2 : stAt T c (i + 1) = (max (stAt T c i).1 (es.getD i default), (stAt T c i).2) := by
        show stp (T.getD i (0, 0)) _ = _
        rw [hg _ hil]; unfold stp; rw [if_pos hc]
      refine' turn_of (bs := [("place", .int i)]) (asg_name (.inl rfl)) ?a ?b
      case a =>
        refine' ex_next (ex1_if (c := [l.getD i 0] != [95]) (tr_cmp cmp_ne_S (txt hil) (ev_strc rfl)) (fun _ => ?_) fun q => ?_) ex_nil
        · refine ex_next (ex1_assign (d := .int (max (stAt T c i).1 (es.getD i default))) ?_ (.inl rfl)) ex_nil
          refine ev_callg (ds := [.list (dI [(stAt T c i).1, es.getD i default])]) rfl (fng_max w (max_mem2 _ _) (max_ge2 _ _)) ?_ ?_
          · refine evl_cons (ev_list (evl_cons ?_ (evl_cons (ev_at D.int (l := es) (j := i) ?_ ?_ (by omega) (by omega)) evl_nil)) (Nat.le_of_ble_eq_true rfl)) evl_nil
            · walk_at "m.e"
            · walk_at "m.e"
            · walk_at "m.e"
          · walk_at "m.pl"
        · have : l.getD i 0 = 95 := by simpa using q
          exact absurd this hc
      case b =>
        show ∀ n d, Lk [("day", .int (stAt T c (i + 1)).1), ("count", .int (stAt T c (i + 1)).2), ("text", S l), ("ends", .list (dI es))] n = some d → _
        rw [e2]
        walk_at "m.lk"
  have hrange : ∀ {p q r t u : Pos}, Ev B (k + 1) (fscope 13).names (Lk (("day", D.int 0) :: [("text", S l), ("ends", .list (dI es)), ("count", .int c)])) (.Call (.Name "range" p) [.Call (.Name "len" q) [.Name "text" r] [] t] [] u) (.range 0 l.length) := fun {p q r t u} =>
    ev_rlenS w (ev_local rfl rfl) (by omega) rfl rfl
  have h0 : ∀ n d, Lk (G 0) n = some d → Lk (("day", D.int 0) :: [("text", S l), ("ends", .list (dI es)), ("count", .int c)]) n = some d := by
    show ∀ n d, Lk [("day", .int 0), ("count", .int c), ("text", S l), ("ends", .list (dI es))] n = some d → _
    walk_at "m.lk"
  by_cases hlt : hitAt T c < l.length
  · have er : lawFrom l es c = (stAt T c (hitAt T c)).1 := by unfold lawFrom; rw [hT, fromGo_eq, hz, if_pos hlt]
    rw [er]
    refine ex_ret (ex1_for (xs := (List.range l.length).map fun (i : Nat) => D.int i) (m := hitAt T c) G hrange (over_range (by omega)) (by simp; omega) h0 ?_ (.inr ⟨.int (hitAt T c : Nat), [("place", .int (hitAt T c : Nat))], .int (stAt T c (hitAt T c)).1, ?_, asg_name (.inl rfl), ?_, rfl⟩))
    · exact fun i x hi hx => turn i x hi hx
    · simp [hlt]
    · have hh := hit_at (t := T) (c := c) (by rw [hz]; exact hlt)
      unfold hit at hh
      rw [hg _ hlt] at hh
      simp only [Bool.and_eq_true, decide_eq_true_eq] at hh
      refine ex_ret (ex1_if (c := [l.getD (hitAt T c) 0] != [95]) (tr_cmp cmp_ne_S (txt hlt) (ev_strc rfl)) (fun q => ?_) fun _ => ?_)
      · rw [hh.1] at q; cases q
      · refine ex_next (ex1_assign (d := .int ((stAt T c (hitAt T c)).2 - 1)) ?_ (.inl rfl)) ?_
        · walk_at "m.e"
        refine ex_ret (ex1_if (c := (stAt T c (hitAt T c)).2 - 1 == 0) (tr_cmp cmp_eq_int ?_ ?_) (fun _ => ?_) fun q => ?_)
        · walk_at "m.e"
        · walk_at "m.e"
        · refine ex_ret (ex1_return ?_)
          walk_at "m.e"
        · rw [hh.2] at q; cases q
  · have er : lawFrom l es c = l.length + 1 := by unfold lawFrom; rw [hT, fromGo_eq, hz, if_neg hlt]
    rw [er]
    have hm' : hitAt T c = l.length := by omega
    refine ex_next (ex1_for (xs := (List.range l.length).map fun (i : Nat) => D.int i) (m := l.length) G hrange (over_range (by omega)) (by simp) h0 ?_ (.inl ⟨by simp, rfl⟩)) ?_
    · exact fun i x hi hx => turn i x (by omega) hx
    refine ex_ret (ex1_return ?_)
    refine ev_bin (a := .int l.length) (b := .int 1) bin_add ?_ ?_
    · walk_at "m.e"
    · walk_at "m.e"


theorem fng_from (w : Wd B) (l : List Nat) (es : List Int) (c : Int) (hl : l.length ≤ 100) (he : es.length = l.length) : FnG B (k + 2) "_law_from" [S l, .list (dI es), .int c] (.int (lawFrom l es c)) :=
  FnG.of_def (xs := ["text", "ends", "count"]) w.frm (fun pm cd doc vs hv => by match vs, hv with | [_, _, _], _ => rfl) rfl (by decide +kernel) (ex_from w l es c hl he)

def mx (l : List Int) : Int := l.foldr max 0
def mn (b : Int) (l : List Int) : Int := l.foldr min b
theorem mx_le {l : List Int} {s : Int} : mx l ≤ s ↔ 0 ≤ s ∧ ∀ a ∈ l, a ≤ s := by
  induction l with
  | nil => simp [mx]
  | cons a l ih =>
    have e : mx (a :: l) = max a (mx l) := rfl
    rw [e, List.forall_mem_cons]
    constructor
    · intro h; have := ih.mp (by omega); exact ⟨this.1, by omega, this.2⟩
    · rintro ⟨h1, h2, h3⟩; have := ih.mpr ⟨h1, h3⟩; omega
theorem mn_gt {b : Int} {l : List Int} {s : Int} : s < mn b l ↔ s < b ∧ ∀ a ∈ l, s < a := by
  induction l with
  | nil => simp [mn]
  | cons a l ih =>
    have e : mn b (a :: l) = min a (mn b l) := rfl
    rw [e, List.forall_mem_cons]
    constructor
    · intro h; have := ih.mp (by omega); exact ⟨this.1, by omega, this.2⟩
    · rintro ⟨h1, h2, h3⟩; have := ih.mpr ⟨h1, h3⟩; omega
theorem mx_mem (l : List Int) : mx l ∈ (0 : Int) :: l := by
  induction l with
  | nil => simp [mx]
  | cons a l ih =>
    have e : mx (a :: l) = max a (mx l) := rfl
    rw [e, Int.max_def]
    split
    · rcases List.mem_cons.mp ih with h | h
      · rw [h]; simp
      · simp [h]
    · simp
theorem mn_mem (b : Int) (l : List Int) : mn b l ∈ b :: l := by
  induction l with
  | nil => simp [mn]
  | cons a l ih =>
    have e : mn b (a :: l) = min a (mn b l) := rfl
    rw [e, Int.min_def]
    split
    · simp
    · rcases List.mem_cons.mp ih with h | h
      · rw [h]; simp
      · simp [h]
theorem fng_mx (w : Wd B) (l : List Int) : FnG B k "max" [.list (dI (0 :: l))] (.int (mx l)) :=
  fng_max w (mx_mem l) fun a ha => by
    have := (mx_le (l := l) (s := mx l)).mp (Int.le_refl _)
    rcases List.mem_cons.mp ha with rfl | ha
    · exact this.1
    · exact this.2 _ ha
theorem fng_mn (w : Wd B) (b : Int) (l : List Int) : FnG B k "min" [.list (dI (b :: l))] (.int (mn b l)) :=
  fng_min w (mn_mem b l) fun a ha => by
    apply Int.not_lt.mp
    intro q
    have : mn b l ≤ b ∧ ∀ a ∈ l, mn b l ≤ a := by
      constructor
      · apply Int.not_lt.mp; intro q; exact Int.lt_irrefl _ ((mn_gt (b := b) (l := l) (s := b)).mp q).1
      · intro a ha; apply Int.not_lt.mp; intro q; exact Int.lt_irrefl _ ((mn_gt (b := b) (l := l) (s := a)).mp q |>.2 a ha)
    rcases List.mem_cons.mp ha with rfl | ha
    · omega
    · have := this.2 _ ha; omega

def lone (l : List Nat) (es : List Int) : Int := mx (((List.range l.length).filter fun i => [l.getD i 0] != [95]).map fun i => es.getD i default)
def firstOf (l : List Nat) (es : List Int) (c : Int) : Int := max (lawFrom l es c) (lawFrom l.reverse es.reverse c)
def behindOf (l : List Nat) (es : List Int) (c : Int) : Int := mn (lawFrom l es (c + 1)) [lawFrom l.reverse es.reverse (c + 1), lone l es]
def toldOf (l : List Nat) (es : List Int) (c : Int) : List Bool := (List.range (l.length + 1)).map fun (s : Nat) => decide (firstOf l es c ≤ (s : Int)) && decide ((s : Int) < behindOf l es c)
abbrev dB (l : List Bool) : List D := l.map D.bool

theorem ex_told (w : Wd B) (l : List Nat) (es : List Int) (c : Int) (hl : l.length ≤ 100) (he : es.length = l.length) :
    Ex B (k + 2) (fscope 14).names [("text", S l), ("ends", .list (dI es)), ("count", .int c)] (fbody 14) (.ret (.list (dB (toldOf l es c)))) := by
  have F : ∀ c, FnG B (k + 2) "_law_from" [S l, .list (dI es), .int c] (.int (lawFrom l es c)) := fun c => fng_from w l es c hl he
  have R : ∀ c, FnG B (k + 2) "_law_from" [S l.reverse, .list (dI es.reverse), .int c] (.int (lawFrom l.reverse es.reverse c)) := fun c => fng_from w _ _ c (by simpa using hl) (by simpa using he)
  refine ex_next (ex1_assign (d := .int (lone l es)) ?_ (.inl rfl)) ?_
  · refine ev_callg (ds := [.list (dI (0 :: ((List.range l.length).filter fun i => [l.getD i 0] != [95]).map fun i => es.getD i default))]) rfl (fng_mx w _) (evl_cons ?_ evl_nil) ?_
    · have e : dI (0 :: ((List.range l.length).filter fun i => [l.getD i 0] != [95]).map fun i => es.getD i default) = dI [0] ++ ((List.range l.length).filter fun i => [l.getD i 0] != [95]).map fun i => D.int (es.getD i default) := by simp [dI]
      rw [e]
      have hle := List.length_filter_le (fun i => [l.getD i 0] != [95]) (List.range l.length)
      rw [List.length_range] at hle
      refine ev_bin (bin_cat (by simp only [dI, List.length_map, List.length_cons, List.length_nil]; omega)) ?_ (ev_comp (e := fun (i : Nat) => D.int i) (Lc := [("text", S l), ("ends", .list (dI es))]) (ev_rlenS w (ev_cell rfl rfl) (by omega) rfl rfl) (over_range (by omega)) (cscope_of (by decide +kernel)) (.cons (by decide +kernel) rfl (.cons (by decide +kernel) rfl .nil)) (by simp; omega) fun i hi => ?_)
      · walk_at "m.e"
      · have hi := List.mem_range.mp hi
        refine ⟨[("place", .int i)], by intro q hq; rw [List.mem_singleton.mp hq]; rfl, asg_name (.inl rfl), .inr ⟨_, rfl, tr_cmp cmp_ne_S (ev_signat (ev_cell rfl rfl) (ev_local rfl rfl) hi (by omega)) (ev_strc rfl)⟩, fun _ => ?_⟩
        exact ev_at D.int (l := es) (j := i) (ev_cell rfl rfl) (ev_local rfl rfl) (by omega) (by omega)
    · walk_at "m.pl"
  generalize hlone : lone l es = al
  have revs : ∀ {L : List (Str × D)} {p q r t u v w z : Pos} {n m : Nat}, Lk L ("text" : Str) = some (S l) → Lk L ("ends" : Str) = some (.list (dI es)) → True := fun _ _ => trivial
  clear revs
  refine ex_next (ex1_assign (d := .int (firstOf l es c)) ?_ (.inr rfl)) ?_
  · refine ev_callg (ds := [.list (dI [lawFrom l es c, lawFrom l.reverse es.reverse c])]) rfl (fng_max w (max_mem2 _ _) (max_ge2 _ _)) (evl_cons (ev_list (evl_cons (ev_callg rfl (F c) ?_ ?_) (evl_cons (ev_callg rfl (R c) (evl_cons (ev_rev_str ?_ ?_ (by omega)) (evl_cons ?_ (evl_cons ?_ evl_nil))) ?_) evl_nil)) (Nat.le_of_ble_eq_true rfl)) evl_nil) ?_
    · walk_at "m.es"
    · walk_at "m.pl"
    · walk_at "m.e"
    · walk_at "m.e"
    · have : dI es.reverse = (dI es).reverse := by simp [dI]
      rw [this]
      refine ev_rev_list ?_ ?_ (by simp only [dI, List.length_map]; omega)
      · walk_at "m.e"
      · walk_at "m.e"
    · walk_at "m.e"
    · walk_at "m.pl"
    · walk_at "m.pl"
  refine ex_next (ex1_assign (d := .int (behindOf l es c)) ?_ (.inr rfl)) ?_
  · unfold behindOf
    rw [hlone]
    refine ev_callg (ds := [.list (dI [lawFrom l es (c + 1), lawFrom l.reverse es.reverse (c + 1), al])]) rfl (fng_mn w _ _) (evl_cons (ev_list (evl_cons (ev_callg rfl (F (c + 1)) ?_ ?_) (evl_cons (ev_callg rfl (R (c + 1)) (evl_cons (ev_rev_str ?_ ?_ (by omega)) (evl_cons ?_ (evl_cons ?_ evl_nil))) ?_) (evl_cons ?_ evl_nil))) (Nat.le_of_ble_eq_true rfl)) evl_nil) ?_
    · walk_at "m.es"
    · walk_at "m.pl"
    · walk_at "m.e"
    · walk_at "m.e"
    · have : dI es.reverse = (dI es).reverse := by simp [dI]
      rw [this]
      refine ev_rev_list ?_ ?_ (by simp only [dI, List.length_map]; omega)
      · walk_at "m.e"
      · walk_at "m.e"
    · walk_at "m.e"
    · walk_at "m.pl"
    · walk_at "m.e"
    · walk_at "m.pl"
  refine ex_ret ?_
  refine ex1_return ?_
  have e : dB (toldOf l es c) = ((List.range (l.length + 1)).filter (fun _ => true)).map fun (s : Nat) => D.bool (decide (firstOf l es c ≤ (s : Int)) && decide ((s : Int) < behindOf l es c)) := by unfold toldOf dB; rw [List.map_map, List.filter_eq_self.mpr (by simp)]; rfl
  rw [e]
  generalize firstOf l es c = a
  generalize behindOf l es c = b
  refine ev_comp (e := fun (i : Nat) => D.int i) (Lc := [("first", .int a), ("behind", .int b)]) (ev_rlenS1 w (ev_cell rfl rfl) (by omega) rfl rfl) (over_range (by omega)) (cscope_of (by decide +kernel)) (.cons (by decide +kernel) rfl (.cons (by decide +kernel) rfl .nil)) (by simp; omega) fun i hi => ?_
  refine ⟨[("stage", .int i)], by intro q hq; rw [List.mem_singleton.mp hq]; rfl, asg_name (.inl rfl), .inl ⟨rfl, rfl⟩, fun _ => ?_⟩
  exact ev_chain (a := .int a) (b := .int i) (c := .int b) cmp_le_int (fun _ => cmp_lt_int) (ev_cell rfl rfl) (ev_local rfl rfl) fun _ => ev_cell rfl rfl

theorem fng_told (w : Wd B) (l : List Nat) (es : List Int) (c : Int) (hl : l.length ≤ 100) (he : es.length = l.length) : FnG B (k + 3) "_law_told" [S l, .list (dI es), .int c] (.list (dB (toldOf l es c))) :=
  FnG.of_def (xs := ["text", "ends", "count"]) w.told (fun pm cd doc vs hv => by match vs, hv with | [_, _, _], _ => rfl) rfl (by decide +kernel) (ex_told w l es c hl he)
end

section
variable {B : Base} {k : Nat} {ns : List (Str × NameKind)} {L : List (Str × D)} {Γ : Str → Option D}

/-! texts joined -/
theorem str_join_flat : ∀ l : List (List Nat), Str.join (⟨#[]⟩ : Str) (l.map fun x => (⟨x.toArray⟩ : Str)) = ⟨l.flatten.toArray⟩
  | [] => rfl
  | [x] => by show (⟨x.toArray⟩ : Str) = _; simp
  | x :: y :: r => by
    have ih := str_join_flat (y :: r)
    show (⟨x.toArray⟩ : Str) ++ ⟨#[]⟩ ++ Str.join (⟨#[]⟩ : Str) ((y :: r).map fun x => (⟨x.toArray⟩ : Str)) = _
    rw [ih]
    have := str_append x []
    rw [show (⟨#[]⟩ : Str) = ⟨([] : List Nat).toArray⟩ from rfl, this, str_append]
    simp
theorem join_sum : ∀ (l : List (List Nat)) (n : Nat), (l.map fun x => (⟨x.toArray⟩ : Str)).foldl (fun (a : Nat) (t : Str) => a + t.length + (⟨#[]⟩ : Str).length) n = n + l.flatten.length
  | [], n => by simp
  | x :: r, n => by
    rw [List.map_cons, List.foldl_cons, join_sum r]
    simp [Str.length]; omega
theorem fn_join' {l : List (List Nat)} (h : l.flatten.length ≤ 2000) : Fn B k (.builtin "str.join") [S [], .list (dS l)] (S l.flatten) := by
  refine fn_join ?_ ?_
  · unfold JoinOk Builtin.Str.tooLong
    rw [List.foldl_toArray, join_sum]
    have : ¬ sizeLine < 0 + l.flatten.length := Nat.not_lt.mpr (Nat.le_trans (by omega : 0 + l.flatten.length ≤ 2000) (by decide))
    simp; simp at this; exact this
  · show Builtin.Str.glued _ _ = _
    rw [StrLaws.glued_eq_join, str_join_flat]
theorem ev_joined {e : Expr} {l : List (List Nat)} {z : Nat} {p q r : Pos} (he : Ev B k ns Γ e (.list (dS l))) (h : l.flatten.length ≤ 2000) (hs : ∀ r env, starEach (e :: r) env = (false, eval e env) :: starEach r env := by intro _ _; rfl)
    (hm : ∀ env, ∃ pl, eval (.Call (.Attribute (.Constant (.str "") z p) "join" q) [e] [] r) env = (do
      let ov ← eval (.Constant (.str "") z p) env
      standAt q.atName
      let (f, first) ← holding [ov] (getMethod ov "join" pl)
      callWith r f first (backTo r (starEach [e] env)) []) := by intro _; exact ⟨_, rfl⟩) :
    Ev B k ns Γ (.Call (.Attribute (.Constant (.str "") z p) "join" q) [e] [] r) (S l.flatten) :=
  ev_meth (d := S []) (ev_strc rfl) (meth_str PySem.F.slot_str_join PySem.F.type_str_join) (.builtin _) (fn_join' h) (evl_cons he evl_nil hs) (plain_cons plain_nil hs) hm

/-- isinstance of a bool -/
theorem ev_isbool (w : Wd B) {e : Expr} {b : Bool} {p q r : Pos} (he : Ev B k ns Γ e (.bool b)) (h1 : ns.lookup ("isinstance" : Str) = some NameKind.globalImplicit) (h2 : ns.lookup ("bool" : Str) = some NameKind.globalImplicit)
    (hs : ∀ r env, starEach (e :: r) env = (false, eval e env) :: starEach r env := by intro _ _; rfl) : Ev B k ns Γ (.Call (.Name "isinstance" p) [e, .Name "bool" q] [] r) (.bool true) :=
  .mk fun A env s W Q E R O S K => Call_Name rfl (name_glob O S h1 w.isi (by decide) (callWith_of (.builtin _) (fun l => S.base.trans l) ((backTo_any _).trans (plain_cons (plain_cons plain_nil) hs env)) (args_cons (he.go A env s W _ E R O S fun v g1 t1 l1 r1 => by
    refine args_cons (name_glob O (S.le l1) h2 w.bool (by decide) (args_nil ⟨l1, ?_⟩)) (by rfl)
    rw [List.nil_append]
    exact fn_isbool r1 (K _ g1 t1 l1 .bool)) (hs _ env))))

theorem getD_range {α : Type} [Inhabited α] {f : Nat → α} {n i : Nat} (h : i < n) : ((List.range n).map f).getD i default = f i := by
  rw [List.getD_eq_getElem?_getD, List.getElem?_map, List.getElem?_range h]; rfl
theorem getD_map {α β : Type} [Inhabited β] {f : α → β} {l : List α} {i : Nat} {a : α} (h : i < l.length) : (l.map f).getD i default = f (l.getD i a) := by
  rw [List.getD_eq_getElem?_getD, List.getD_eq_getElem?_getD, List.getElem?_map, List.getElem?_eq_getElem h]; rfl

/-! what the law speaks of -/
def endsOf (X : List Nat) (ds : List Int) : List Int := (List.range X.length).map fun p => if noisy (X.getD p 0) then ds.getD p default else ((X.length + 1 : Nat) : Int)
def partsOf (X : List Nat) (ds : List Int) (s : Nat) : List (List Nat) := (List.range X.length).map fun p => if ds.getD p default ≤ (s : Int) then dn (X.getD p 0) else [X.getD p 0]
def nameOf (X : List Nat) (ds : List Int) (s : Nat) : List Nat := (partsOf X ds s).flatten
def stagesOf (X : List Nat) (ds : List Int) : List (List (List Nat)) := (List.range (X.length + 1)).map (partsOf X ds)
def namesOf (X : List Nat) (ds : List Int) : List (List Nat) := (List.range (X.length + 1)).map (nameOf X ds)
def changedOf (X : List Nat) : List Nat := (List.range X.length).filter fun p => [X.getD p 0] != dn (X.getD p 0)
def aheadOf (X : List Nat) (ds : List Int) (a p : Nat) : Nat := ((partsOf X ds a).take p).flatten.length
def fitsOf (X : List Nat) (ds : List Int) (a z : Nat) : Bool := ([(nameOf X ds a).getD 0 0] == [95]) && (cut (nameOf X ds a) (some (z : Int)) (some ((z : Int) + 2)) == [95, 95])
def turnsOf (X : List Nat) (ds : List Int) (a z : Nat) : List Int := ((changedOf X).filter fun p => decide ((aheadOf X ds a p : Int) < (z : Int) + 2)).map fun p => ds.getD p default
def behindP (X : List Nat) (ds : List Int) : Int := lawFrom X.reverse (endsOf X ds).reverse 2
def firstP (X : List Nat) (ds : List Int) (a z : Nat) : Int := mx ((turnsOf X ds a z).filter fun d => decide (d ≤ (a : Int)))
def lastP (X : List Nat) (ds : List Int) (a z : Nat) : Int := mn (behindP X ds) ((turnsOf X ds a z).filter fun d => decide ((a : Int) < d))
def blkT (X : List Nat) (ds : List Int) (a z : Nat) : List Bool := (namesOf X ds).map fun n => priv (cut (nameOf X ds a) (some 1) (some (z : Int))) n
def blkD (X : List Nat) (ds : List Int) (a z : Nat) : List Bool := (List.range (X.length + 1)).map fun (s : Nat) => fitsOf X ds a z && (decide (firstP X ds a z ≤ (s : Int)) && decide ((s : Int) < lastP X ds a z))
def condOf (X : List Nat) (ds : List Int) (a z : Nat) : Bool := fitsOf X ds a z || ((a : Int) == (X.length : Int))
def told0 (X : List Nat) (ds : List Int) : List Bool := (namesOf X ds).map sunder ++ (namesOf X ds).map dunder
def due0 (X : List Nat) (ds : List Int) : List Bool := toldOf X (endsOf X ds) 1 ++ toldOf X (endsOf X ds) 2
/-- the plain law -/
structure Lawful (X : List Nat) (ds : List Int) : Prop where
  heads : told0 X ds = due0 X ds
  blk : ∀ a z, a ≤ X.length → 1 ≤ z → z ≤ (nameOf X ds a).length → condOf X ds a z = true → blkT X ds a z = blkD X ds a z

def addT (X : List Nat) (ds : List Int) (a : Nat) (T : List Bool) : Nat → List Bool
  | 0 => T
  | j + 1 => if condOf X ds a (j + 1) = true then addT X ds a T j ++ blkT X ds a (j + 1) else addT X ds a T j
theorem namesOf_len (X : List Nat) (ds : List Int) : (namesOf X ds).length = X.length + 1 := by simp [namesOf]
theorem addT_len (X : List Nat) (ds : List Int) (a : Nat) (T : List Bool) : ∀ j, (addT X ds a T j).length ≤ T.length + j * (X.length + 1)
  | 0 => by simp [addT]
  | j + 1 => by
    have ih := addT_len X ds a T j
    have e : (j + 1) * (X.length + 1) = j * (X.length + 1) + (X.length + 1) := Nat.succ_mul _ _
    have hb : (blkT X ds a (j + 1)).length = X.length + 1 := by simp [blkT, namesOf_len]
    unfold addT
    split
    · rw [List.length_append, hb]; omega
    · omega
theorem flat_le {l : List (List Nat)} (h : ∀ x ∈ l, x.length ≤ 10) : l.flatten.length ≤ 10 * l.length := by
  induction l with
  | nil => simp
  | cons x l ih =>
    have h1 := h x (.head _)
    have h2 := ih fun y hy => h y (.tail _ hy)
    simp only [List.flatten_cons, List.length_append, List.length_cons]; omega
theorem parts_len (X : List Nat) (ds : List Int) (s : Nat) : (partsOf X ds s).length = X.length := by simp [partsOf]
theorem parts_le (X : List Nat) (ds : List Int) (s : Nat) : ∀ x ∈ partsOf X ds s, x.length ≤ 10 := by
  intro x hx
  obtain ⟨p, _, rfl⟩ := List.mem_map.mp hx
  split
  · exact dn_len _
  · simp
theorem name_le {X : List Nat} (hX : X.length ≤ 8) (ds : List Int) (s : Nat) : (nameOf X ds s).length ≤ 80 := by
  have := flat_le (parts_le X ds s)
  rw [parts_len] at this
  unfold nameOf; omega
theorem turns_len (X : List Nat) (ds : List Int) (a z : Nat) : (turnsOf X ds a z).length ≤ X.length := by
  unfold turnsOf changedOf
  rw [List.length_map]
  refine Nat.le_trans (List.length_filter_le _ _) (Nat.le_trans (List.length_filter_le _ _) ?_)
  simp

abbrev dP (l : List (List (List Nat))) : List D := l.map fun x => .list (dS x)
abbrev dN (l : List Nat) : List D := l.map fun (p : Nat) => D.int p
theorem ev_nameat {X : List Nat} {ds : List Int} {a : Nat} {e i : Expr} {p : Pos} (he : Ev B k ns Γ e (.list (dS (namesOf X ds)))) (hi : Ev B k ns Γ i (.int a)) (ha : a ≤ X.length) (hX : X.length ≤ 8) : Ev B k ns Γ (.Subscript e i p) (S (nameOf X ds a)) := by
  have h := ev_at S (l := namesOf X ds) (j := a) (p := p) he hi (by rw [namesOf_len]; omega) (by rw [namesOf_len]; omega)
  have e : (namesOf X ds).getD a default = nameOf X ds a := getD_range (by omega)
  rwa [e] at h
theorem ev_partsat {X : List Nat} {ds : List Int} {a : Nat} {e i : Expr} {p : Pos} (he : Ev B k ns Γ e (.list (dP (stagesOf X ds)))) (hi : Ev B k ns Γ i (.int a)) (ha : a ≤ X.length) (hX : X.length ≤ 8) : Ev B k ns Γ (.Subscript e i p) (.list (dS (partsOf X ds a))) := by
  have h := ev_at (fun x => D.list (dS x)) (l := stagesOf X ds) (j := a) (p := p) he hi (by simp [stagesOf]; omega) (by simp [stagesOf]; omega)
  have e : (stagesOf X ds).getD a default = partsOf X ds a := getD_range (by omega)
  rwa [e] at h
end

section
variable {B : Base} {k : Nat} {ns : List (Str × NameKind)} {L : List (Str × D)} {Γ : Str → Option D}
local macro_rules | `(tactic| walk_at "m.lk") => `(tactic| first | exact lk_nil | (refine' lk_cons rfl ?_; walk_at "m.lk"))


theorem ev_at' {α : Type} (f : α → D) {l : List α} {j : Nat} {x : α} {e i : Expr} {p : Pos} (he : Ev B k ns Γ e (.list (l.map f))) (hi : Ev B k ns Γ i (.int j)) (h : l[j]? = some x) (hl : l.length ≤ 2000) : Ev B k ns Γ (.Subscript e i p) (f x) := by
  have hlt := (List.getElem?_eq_some_iff.mp h).1
  exact ev_item he hi (by omega) (by rw [List.getElem?_map, Int.toNat_natCast, h]; rfl) (by omega)
theorem ex1_assign_comp' {α : Type} {ι : List α} {e : α → D} {p : α → Bool} {g : α → D} {elt target iter : Expr} {ifs : List Expr} {scope : Scope} {pos : Pos} {d d0 : D} {Lc : List (Str × D)} {x : Str} {px ps : Pos} (h0 : d0 = .list ((ι.filter p).map g)) (hx : ns.lookup x = some .local)
    (hp : (px.line == pos.line && !(scope.names.any fun (n, k) => n == x && (k == .local || k == .cell))) = true)
    (hi : Ev B k ns (Lk L) iter d) (ho : Over d (ι.map e)) (hs : CScope ns scope) (hLc : Cap scope.names (Lk L) Lc) (hn : ι.length ≤ 2000)
    (turn : ∀ a ∈ ι, Turn B k (cns scope) Lc target ifs elt (e a) (p a) (g a)) (hf : ∀ env x, foldedSetIterable iter env x = pure x := by intro _ _; rfl) :
    Ex1 B k ns L (.Assign [.Name x px] (.ListComp elt [⟨target, iter, ifs, 0⟩] scope pos) ps) (.next ((x, d0) :: L)) := by
  rw [h0]; exact ex1_assign_comp hx hp hi ho hs hLc hn turn hf
theorem ev_comp' {α : Type} {ι : List α} {e : α → D} {p : α → Bool} {g : α → D} {elt target iter : Expr} {ifs : List Expr} {scope : Scope} {pos : Pos} {d d0 : D} {Lc : List (Str × D)} (h0 : d0 = .list ((ι.filter p).map g))
    (hi : Ev B k ns (Lk L) iter d) (hx : Over d (ι.map e)) (hs : CScope ns scope) (hLc : Cap scope.names (Lk L) Lc) (hn : ι.length ≤ 2000)
    (turn : ∀ a ∈ ι, Turn B k (cns scope) Lc target ifs elt (e a) (p a) (g a)) (hf : ∀ env x, foldedSetIterable iter env x = pure x := by intro _ _; rfl) :
    Ev B k ns (Lk L) (.ListComp elt [⟨target, iter, ifs, 0⟩] scope pos) d0 := by
  rw [h0]; exact ev_comp hi hx hs hLc hn turn hf
theorem all_kept {α : Type} (l : List α) : l.filter (fun _ => true) = l := List.filter_eq_self.mpr (by simp)

def atBody : List Stmt := match (fbody 15)[(17 : Nat)]? with | some (Stmt.For _ _ b _ _) => b | _ => []
def szBody : List Stmt := match atBody[(1 : Nat)]? with | some (Stmt.For _ _ b _ _) => b | _ => []
def szE (i : Nat) : Expr := match szBody[i]? with | some (Stmt.Assign _ e _) => e | _ => default
def szT : Expr := match szBody[(1 : Nat)]? with | some (Stmt.If t _ _ _) => t | _ => default
def scOf (i : Nat) : Scope := default
/-- what the loops look at -/
def ctx (X : List Nat) (ds : List Int) : List (Str × D) :=
  [("text", S X), ("days", .list (dI ds)), ("names", .list (dS (namesOf X ds))), ("stages", .list (dP (stagesOf X ds))), ("changed", .list (dN (changedOf X))), ("behind", .int (behindP X ds)), ("held", .list (dB (X.map noisy)))]
def ctxA (X : List Nat) (ds : List Int) (a : Nat) : List (Str × D) := ("at", .int a) :: ("ahead", .list (dN ((List.range X.length).map (aheadOf X ds a)))) :: ctx X ds
abbrev TD (T : List Bool) (L : List (Str × D)) : List (Str × D) := ("told", .list (dB T)) :: ("due", .list (dB T)) :: L

theorem ex_size (w : Wd B) {X : List Nat} {ds : List Int} (hX : X.length ≤ 8) (hd : ds.length = X.length) (law : Lawful X ds) {a : Nat} (ha : a ≤ X.length) (T : List Bool) (hT : T.length ≤ 1000) (j : Nat) (hj : j < (nameOf X ds a).length) (hU : (addT X ds a T j).length ≤ 1800) :
    ∃ G', Ex B (k + 3) (fscope 15).names (([("size", D.int ((j + 1 : Nat) : Int))] : List (Str × D)) ++ TD (addT X ds a T j) (ctxA X ds a)) szBody (.next G') ∧ ∀ n d, Lk (TD (addT X ds a T (j + 1)) (ctxA X ds a)) n = some d → Lk G' n = some d := by
  have hn := name_le hX ds a
  have nm : ∀ {L : List (Str × D)} {p q r : Pos}, Lk L ("names" : Str) = some (.list (dS (namesOf X ds))) → Lk L ("at" : Str) = some (.int a) → Ev B (k + 3) (fscope 15).names (Lk L) (.Subscript (.Name "names" p) (.Name "at" q) r) (S (nameOf X ds a)) := fun {L p q r} h1 h2 =>
    ev_nameat (ev_cell rfl h1) (ev_cell rfl h2) ha hX
  generalize hU' : addT X ds a T j = U at *
  have F : Ev B (k + 3) (fscope 15).names (Lk (([("size", D.int ((j + 1 : Nat) : Int))] : List (Str × D)) ++ TD U (ctxA X ds a))) (szE 0) (.bool (fitsOf X ds a (j + 1))) := by
    refine ev_and (ev_cmp cmp_eq_S (ev_signat (j := 0) (nm rfl rfl) ev_int (by omega) (by omega)) (ev_strc rfl)) fun _ => ev_and1 (ev_cmp cmp_eq_S (ev_cut_str (nm rfl rfl) ?_ ?_ (by omega)) (ev_strc rfl))
    · exact evo_some (ev_cell rfl rfl)
    · exact evo_some (ev_bin bin_add (ev_cell rfl rfl) ev_int)
  have hcl : (changedOf X).length ≤ X.length := Nat.le_trans (List.length_filter_le _ _) (by simp)
  have htl := turns_len X ds a (j + 1)
  have C : Tr B (k + 3) (fscope 15).names (Lk (("fits", D.bool (fitsOf X ds a (j + 1))) :: (([("size", D.int ((j + 1 : Nat) : Int))] : List (Str × D)) ++ TD U (ctxA X ds a)))) szT (fitsOf X ds a (j + 1) || ((a : Int) == (X.length : Int) || false)) := by
    refine tr_or (tr_of (ev_cell rfl rfl)) fun _ => tr_or (tr_cmp (a := .int a) (b := .int X.length) cmp_eq_int ?_ ?_) fun _ => tr_or0
    · walk_at "m.e"
    · walk_at "m.e"
  obtain ⟨tu, hTu⟩ : ∃ tu, turnsOf X ds a (j + 1) = tu := ⟨_, rfl⟩
  obtain ⟨fs, hfs⟩ : ∃ fs, firstP X ds a (j + 1) = fs := ⟨_, rfl⟩
  obtain ⟨ls, hls⟩ : ∃ ls, lastP X ds a (j + 1) = ls := ⟨_, rfl⟩
  rw [hTu] at htl
  by_cases hc : condOf X ds a (j + 1) = true
  · have eU : addT X ds a T (j + 1) = U ++ blkT X ds a (j + 1) := by unfold addT; rw [if_pos hc, hU']
    rw [eU]
    have hlaw := law.blk a (j + 1) ha (by omega) (by omega) hc
    refine' ⟨_, ?a, ?b⟩
    case a =>
      refine ex_next (ex1_assign F (.inr rfl)) ?_
      refine' ex_next (ex1_if C (fun _ => ?_) fun q => ?_) ex_nil
      · refine ex_next (ex1_assign_comp' (d0 := .list (dI tu)) (ι := changedOf X) (p := fun p => decide ((aheadOf X ds a p : Int) < ((j + 1 : Nat) : Int) + 2)) (g := fun p => D.int (ds.getD p default)) (e := fun (p : Nat) => D.int p) (Lc := [("ahead", .list (dN ((List.range X.length).map (aheadOf X ds a)))), ("size", .int ((j + 1 : Nat) : Int)), ("days", .list (dI ds))]) ?_ rfl rfl (ev_local rfl rfl) over_list (cscope_of (by decide +kernel)) (.cons (by decide +kernel) rfl (.cons (by decide +kernel) rfl (.cons (by decide +kernel) rfl .nil))) (by omega) fun q hq => ?_) ?_
        · rw [← hTu]; unfold turnsOf dI; rw [List.map_map]; rfl
        · have hq : q < X.length := List.mem_range.mp (List.mem_filter.mp hq).1
          refine ⟨[("place", .int q)], by intro q hq; rw [List.mem_singleton.mp hq]; rfl, asg_name (.inl rfl), .inr ⟨_, rfl, tr_cmp (a := .int (aheadOf X ds a q)) cmp_lt_int (ev_at' (fun (p : Nat) => D.int p) (l := (List.range X.length).map (aheadOf X ds a)) (j := q) (ev_cell rfl rfl) (ev_local rfl rfl) (by simp [hq]) (by simp; omega)) (ev_bin bin_add (ev_cell rfl rfl) ev_int)⟩, fun _ => ?_⟩
          exact ev_at D.int (l := ds) (j := q) (ev_cell rfl rfl) (ev_local rfl rfl) (by omega) (by omega)
        refine ex_next (ex1_assign (d := .int fs) ?_ (.inr rfl)) ?_
        · rw [← hfs]
          unfold firstP
          rw [hTu]
          have hle := List.length_filter_le (fun d => decide (d ≤ (a : Int))) tu
          refine ev_callg (ds := [.list (dI ([0] ++ tu.filter fun d => decide (d ≤ (a : Int))))]) rfl (fng_mx w _) (evl_cons ?_ evl_nil) ?_
          · rw [show dI ([0] ++ tu.filter fun d => decide (d ≤ (a : Int))) = dI [0] ++ dI (tu.filter fun d => decide (d ≤ (a : Int))) from List.map_append]
            refine ev_bin (bin_cat (by simp only [dI, List.length_map, List.length_cons, List.length_nil]; omega)) (ev_list (evl_cons ev_int evl_nil) (Nat.le_of_ble_eq_true rfl)) (ev_comp (e := D.int) (Lc := [("at", .int a)]) (ev_local rfl rfl) over_list (cscope_of (by decide +kernel)) (.cons (by decide +kernel) rfl .nil) (by omega) fun d hdm => ?_)
            exact ⟨[("day", .int d)], by intro q hq; rw [List.mem_singleton.mp hq]; rfl, asg_name (.inl rfl), .inr ⟨_, rfl, tr_cmp cmp_le_int (ev_local rfl rfl) (ev_cell rfl rfl)⟩, fun _ => ev_local rfl rfl⟩
          · walk_at "m.pl"
        refine ex_next (ex1_assign (d := .int ls) ?_ (.inr rfl)) ?_
        · rw [← hls]
          unfold lastP
          rw [hTu]
          have hle := List.length_filter_le (fun d => decide ((a : Int) < d)) tu
          refine ev_callg (ds := [.list (dI ([behindP X ds] ++ tu.filter fun d => decide ((a : Int) < d)))]) rfl (fng_mn w _ _) (evl_cons ?_ evl_nil) ?_
          · rw [show dI ([behindP X ds] ++ tu.filter fun d => decide ((a : Int) < d)) = dI [behindP X ds] ++ dI (tu.filter fun d => decide ((a : Int) < d)) from List.map_append]
            refine ev_bin (bin_cat (by simp only [dI, List.length_map, List.length_cons, List.length_nil]; omega)) (ev_list (evl_cons (ev_local rfl rfl) evl_nil) (Nat.le_of_ble_eq_true rfl)) (ev_comp (e := D.int) (Lc := [("at", .int a)]) (ev_local rfl rfl) over_list (cscope_of (by decide +kernel)) (.cons (by decide +kernel) rfl .nil) (by omega) fun d hdm => ?_)
            exact ⟨[("day", .int d)], by intro q hq; rw [List.mem_singleton.mp hq]; rfl, asg_name (.inl rfl), .inr ⟨_, rfl, tr_cmp cmp_gt_int (ev_local rfl rfl) (ev_cell rfl rfl)⟩, fun _ => ev_local rfl rfl⟩
          · walk_at "m.pl"
        have hbT : (blkT X ds a (j + 1)).length = X.length + 1 := by simp [blkT, namesOf_len]
        have hbD : (blkD X ds a (j + 1)).length = X.length + 1 := by simp [blkD]
        refine ex_next (ex1_assign (d := .list (dB (U ++ blkT X ds a (j + 1)))) ?_ (.inl rfl)) ?_
        · rw [show dB (U ++ blkT X ds a (j + 1)) = dB U ++ dB (blkT X ds a (j + 1)) from List.map_append]
          refine ev_bin (bin_cat (by simp only [dB, List.length_map]; omega)) (ev_local rfl rfl) (ev_comp' (ι := namesOf X ds) (e := S) (p := fun _ => true) (g := fun n => D.bool (priv (cut (nameOf X ds a) (some 1) (some ((j + 1 : Nat) : Int))) n)) (Lc := [("names", .list (dS (namesOf X ds))), ("at", .int a), ("size", .int ((j + 1 : Nat) : Int))]) ?_ (ev_cell rfl rfl) over_list (cscope_of (by decide +kernel)) (.cons (by decide +kernel) rfl (.cons (by decide +kernel) rfl (.cons (by decide +kernel) rfl .nil))) (by rw [namesOf_len]; omega) fun n hnm => ?_)
          · unfold blkT dB; rw [List.map_map, all_kept]; rfl
          · have hnl : n.length ≤ 80 := by
              obtain ⟨s, _, rfl⟩ := List.mem_map.mp hnm
              exact name_le hX ds s
            have hcl := cut_len (nameOf X ds a) (some 1) (some ((j + 1 : Nat) : Int))
            refine ⟨[("name", S n)], by intro q hq; rw [List.mem_singleton.mp hq]; rfl, asg_name (.inl rfl), .inl ⟨rfl, rfl⟩, fun _ => ?_⟩
            refine ev_callg rfl (fng_priv w (by omega) (by omega)) (evl_cons (ev_cut_str (ev_nameat (ev_cell rfl rfl) (ev_cell rfl rfl) ha hX) (evo_some ev_int) (evo_some (ev_cell rfl rfl)) (by omega)) (evl_cons (ev_local rfl rfl) evl_nil)) ?_
            walk_at "m.pl"
        refine ex_next (ex1_assign (d := .list (dB (U ++ blkT X ds a (j + 1)))) ?_ (.inl rfl)) ex_nil
        rw [hlaw, show dB (U ++ blkD X ds a (j + 1)) = dB U ++ dB (blkD X ds a (j + 1)) from List.map_append]
        refine ev_bin (bin_cat (by simp only [dB, List.length_map]; omega)) (ev_local rfl rfl) (ev_comp' (ι := List.range (X.length + 1)) (e := fun (i : Nat) => D.int i) (p := fun _ => true) (g := fun (s : Nat) => D.bool (fitsOf X ds a (j + 1) && (decide (fs ≤ (s : Int)) && decide ((s : Int) < ls)))) (Lc := [("fits", .bool (fitsOf X ds a (j + 1))), ("first", .int fs), ("last", .int ls)]) ?_ (ev_rlenS1 w (ev_cell rfl rfl) (by omega) rfl rfl) (over_range (by omega)) (cscope_of (by decide +kernel)) (.cons (by decide +kernel) rfl (.cons (by decide +kernel) rfl (.cons (by decide +kernel) rfl .nil))) (by simp; omega) fun i hi => ?_)
        · unfold blkD dB; rw [List.map_map, all_kept, hfs, hls]; rfl
        · refine ⟨[("stage", .int i)], by intro q hq; rw [List.mem_singleton.mp hq]; rfl, asg_name (.inl rfl), .inl ⟨rfl, rfl⟩, fun _ => ?_⟩
          exact ev_and (ev_cell rfl rfl) fun _ => ev_and1 (ev_chain (a := .int fs) (b := .int i) (c := .int ls) cmp_le_int (fun _ => cmp_lt_int) (ev_cell rfl rfl) (ev_local rfl rfl) fun _ => ev_cell rfl rfl)
      · unfold condOf at hc; rw [Bool.or_false, hc] at q; cases q
    case b => unfold ctxA ctx; walk_at "m.lk"
  · have eU : addT X ds a T (j + 1) = U := by unfold addT; rw [if_neg hc, hU']
    rw [eU]
    refine' ⟨_, ?a, ?b⟩
    case a =>
      refine ex_next (ex1_assign F (.inr rfl)) ?_
      refine' ex_next (ex1_if C (fun q => ?_) fun q => ex_nil) ex_nil
      unfold condOf at hc; rw [Bool.or_false] at q; exact absurd q hc
    case b => unfold ctxA ctx; walk_at "m.lk"
end

section
variable {B : Base} {k : Nat} {ns : List (Str × NameKind)} {L : List (Str × D)} {Γ : Str → Option D}
local macro_rules | `(tactic| walk_at "m.lk") => `(tactic| first | exact lk_nil | (refine' lk_cons rfl ?_; walk_at "m.lk"))

theorem ex_at (w : Wd B) {X : List Nat} {ds : List Int} (hX : X.length ≤ 8) (hd : ds.length = X.length) (law : Lawful X ds) {a : Nat} (ha : a ≤ X.length) (T : List Bool) (hT : T.length ≤ 1000) :
    ∃ G', Ex B (k + 3) (fscope 15).names (([("at", D.int a)] : List (Str × D)) ++ TD T (ctx X ds)) atBody (.next G') ∧ ∀ n d, Lk (TD (addT X ds a T (nameOf X ds a).length) (ctx X ds)) n = some d → Lk G' n = some d := by
  have hn := name_le hX ds a
  have hb : ∀ j, j ≤ (nameOf X ds a).length → (addT X ds a T j).length ≤ 1800 := fun j hj => by
    have h1 := addT_len X ds a T j
    have h2 : j * (X.length + 1) ≤ 80 * 9 := Nat.mul_le_mul (by omega) (by omega)
    omega
  refine' ⟨_, ?a, ?b⟩
  case a =>
    refine ex_next (ex1_assign (d := .list (dN ((List.range X.length).map (aheadOf X ds a)))) ?_ (.inr rfl) (swaps_cell rfl)) ?_
    · refine ev_comp' (ι := List.range X.length) (e := fun (i : Nat) => D.int i) (p := fun _ => true) (g := fun p => D.int (aheadOf X ds a p)) (Lc := [("stages", .list (dP (stagesOf X ds))), ("at", .int a)]) ?_ (ev_rlenS w (ev_cell rfl rfl) (by omega) rfl rfl) (over_range (by omega)) (cscope_of (by decide +kernel)) (.cons (by decide +kernel) rfl (.cons (by decide +kernel) rfl .nil)) (by simp; omega) fun i hi => ?_
      · unfold dN; rw [List.map_map, all_kept]; rfl
      · have hi := List.mem_range.mp hi
        have hf : ((partsOf X ds a).take i).flatten.length ≤ 2000 := by
          have := flat_le (l := (partsOf X ds a).take i) fun x hx => parts_le X ds a x (List.mem_of_mem_take hx)
          rw [List.length_take, parts_len] at this; omega
        refine ⟨[("place", .int i)], by intro q hq; rw [List.mem_singleton.mp hq]; rfl, asg_name (.inl rfl), .inl ⟨rfl, rfl⟩, fun _ => ?_⟩
        refine ev_callg (ds := [S ((partsOf X ds a).take i).flatten]) rfl (fng_len_str w hf) (evl_cons (ev_joined ?_ hf) evl_nil) (plain_cons plain_nil)
        have e : dS ((partsOf X ds a).take i) = cut (dS (partsOf X ds a)) none (some (i : Int)) := by
          rw [cut_pre _ (by omega) (by simp [parts_len]; omega)]
          show List.map S _ = _
          rw [List.map_take]; rfl
        rw [e]
        exact ev_cut_list (ev_partsat (ev_cell rfl rfl) (ev_cell rfl rfl) ha hX) evo_none (evo_some (ev_local rfl rfl)) (by simp [parts_len]; omega)
    refine' ex_next (ex1_for (xs := (List.range (nameOf X ds a).length).map fun (i : Nat) => D.int (i + 1)) (m := (nameOf X ds a).length) (fun j => TD (addT X ds a T j) (ctxA X ds a)) (ev_callg (ds := [.int 1, .int ((nameOf X ds a).length + 1)]) rfl (fng_range2 w) (evl_cons ev_int (evl_cons (ev_bin bin_add (ev_callg rfl (fng_len_str w (l := nameOf X ds a) (by omega)) (evl_cons (ev_nameat (ev_cell rfl rfl) (ev_cell rfl rfl) ha hX) evl_nil) (plain_cons plain_nil)) ev_int) evl_nil)) (plain_cons (plain_cons plain_nil))) (over_range1 (by omega)) (by simp) ?_ ?_ (.inl ⟨by simp, rfl⟩)) ex_nil
    · show ∀ n d, Lk (TD T (ctxA X ds a)) n = some d → _
      unfold ctxA ctx; walk_at "m.lk"
    · intro i x hi hx
      rw [List.getElem?_map, List.getElem?_range hi] at hx
      cases hx
      obtain ⟨G', h1, h2⟩ := ex_size (k := k) w hX hd law ha T hT i hi (hb i (by omega))
      exact ⟨[("size", D.int ((i + 1 : Nat) : Int))], G', asg_name (.inr rfl), h1, h2⟩
  case b => unfold ctxA ctx; walk_at "m.lk"

def atsOf (X : List Nat) (lates : List Int) : List Nat := ((lates.take 1).map fun x => (x.fmod (X.length : Int)).toNat) ++ [X.length]
def outT (X : List Nat) (ds : List Int) (ats : List Nat) : Nat → List Bool
  | 0 => told0 X ds
  | i + 1 => addT X ds (ats.getD i 0) (outT X ds ats i) (nameOf X ds (ats.getD i 0)).length
theorem told0_len (X : List Nat) (ds : List Int) : (told0 X ds).length = 2 * (X.length + 1) := by simp [told0, namesOf_len]; omega
theorem outT_len {X : List Nat} (hX : X.length ≤ 8) (ds : List Int) (ats : List Nat) : ∀ i, (outT X ds ats i).length ≤ 18 + i * 720
  | 0 => by show (told0 X ds).length ≤ _; rw [told0_len]; omega
  | i + 1 => by
    have ih := outT_len hX ds ats i
    have h1 := addT_len X ds (ats.getD i 0) (outT X ds ats i) (nameOf X ds (ats.getD i 0)).length
    have h2 : (nameOf X ds (ats.getD i 0)).length * (X.length + 1) ≤ 80 * 9 := Nat.mul_le_mul (name_le hX ds _) (by omega)
    show (addT X ds (ats.getD i 0) (outT X ds ats i) (nameOf X ds (ats.getD i 0)).length).length ≤ _
    omega
theorem ats_le {X : List Nat} {lates : List Int} (hl : lates.length = X.length) : ∀ a ∈ atsOf X lates, a ≤ X.length := by
  intro a ha
  rcases List.mem_append.mp ha with h | h
  · obtain ⟨x, hx, rfl⟩ := List.mem_map.mp h
    have hpos : 0 < X.length := by
      have := List.length_pos_of_mem (List.mem_of_mem_take hx); omega
    have := fdiv_fmod_bounds x X.length (by omega)
    omega
  · rw [List.mem_singleton.mp h]; exact Nat.le_refl _
theorem ats_len {X : List Nat} {lates : List Int} : (atsOf X lates).length ≤ 2 := by
  unfold atsOf; simp only [List.length_append, List.length_map, List.length_take, List.length_cons, List.length_nil]; omega

theorem ex_fitsC (w : Wd B) {X : List Nat} {ds lates : List Int} (hX : X.length ≤ 8) (hd : ds.length = X.length) (hl : lates.length = X.length) (law : Lawful X ds) :
    Ex B (k + 3) (fscope 15).names (("lates", .list (dI lates)) :: TD (told0 X ds) (ctx X ds)) ((fbody 15).drop 17) (.ret (.bool true)) := by
  have hal := ats_len (X := X) (lates := lates)
  have hat := ats_le hl
  refine ex_next (ex1_for (xs := dN (atsOf X lates)) (m := (atsOf X lates).length) (fun i => TD (outT X ds (atsOf X lates) i) (ctx X ds)) (d := .list (dN (atsOf X lates))) ?_ over_list (by simp) ?_ ?_ (.inl ⟨by simp, rfl⟩)) ?_
  · have e : dN (atsOf X lates) = dN ((lates.take 1).map fun x => (x.fmod (X.length : Int)).toNat) ++ [D.int X.length] := by unfold atsOf dN; rw [List.map_append]; rfl
    rw [e]
    have hlt : (lates.take 1).length ≤ 1 := by rw [List.length_take]; omega
    refine ev_bin (bin_cat (by simp only [dN, List.length_map, List.length_cons, List.length_nil]; omega)) (ev_comp' (ι := lates.take 1) (e := D.int) (p := fun _ => true) (g := fun x => D.int (x.fmod X.length)) (Lc := [("text", S X)]) ?_ (d := .list (dI (lates.take 1))) ?_ over_list (cscope_of (by decide +kernel)) (.cons (by decide +kernel) rfl .nil) (by omega) fun x hx => ?_) (ev_list (evl_cons (ev_callg rfl (fng_len_str w (l := X) (by omega)) (evl_cons (ev_cell rfl rfl) evl_nil) (plain_cons plain_nil)) evl_nil) (Nat.le_of_ble_eq_true rfl))
    · unfold dN; rw [List.map_map, all_kept]
      congr 1
      apply List.map_congr_left
      intro x hx
      have hpos : 0 < X.length := by
        have := List.length_pos_of_mem (List.mem_of_mem_take hx); omega
      have := fdiv_fmod_bounds x X.length (by omega)
      show D.int (((x.fmod X.length).toNat : Nat) : Int) = _
      rw [Int.toNat_of_nonneg this.1]
    · have e : dI (lates.take 1) = cut (dI lates) none (some 1) := by
        cases lates with
        | nil => rfl
        | cons x r => rw [cut_pre _ (by omega) (by simp; omega)]; show List.map D.int _ = _; rw [List.map_take]; rfl
      rw [e]
      exact ev_cut_list (ev_local rfl rfl) evo_none (evo_some ev_int) (by simp; omega)
    · have hpos : 0 < X.length := by
        have := List.length_pos_of_mem (List.mem_of_mem_take hx); omega
      refine ⟨[("late", .int x)], by intro q hq; rw [List.mem_singleton.mp hq]; rfl, asg_name (.inl rfl), .inl ⟨rfl, rfl⟩, fun _ => ?_⟩
      exact ev_bin (bin_mod (by omega)) (ev_local rfl rfl) (ev_callg rfl (fng_len_str w (l := X) (by omega)) (evl_cons (ev_cell rfl rfl) evl_nil) (plain_cons plain_nil))
  · show ∀ n d, Lk (TD (told0 X ds) (ctx X ds)) n = some d → _
    unfold ctx; walk_at "m.lk"
  · intro i x hi hx
    rw [List.getElem?_map, List.getElem?_eq_getElem hi] at hx
    have hx : x = D.int ((atsOf X lates).getD i 0 : Nat) := by rw [List.getD_eq_getElem?_getD, List.getElem?_eq_getElem hi]; exact (Option.some.inj hx).symm
    subst hx
    have hm : (atsOf X lates).getD i 0 ≤ X.length := hat _ (by rw [List.getD_eq_getElem?_getD, List.getElem?_eq_getElem hi]; exact List.getElem_mem _)
    have hT := outT_len hX ds (atsOf X lates) i
    obtain ⟨G', h1, h2⟩ := ex_at (k := k) w hX hd law hm (outT X ds (atsOf X lates) i) (by omega)
    exact ⟨[("at", D.int ((atsOf X lates).getD i 0 : Nat))], G', asg_name (.inr rfl), h1, h2⟩
  have hT := outT_len hX ds (atsOf X lates) (atsOf X lates).length
  have hT : (outT X ds (atsOf X lates) (atsOf X lates).length).length ≤ 1500 := by
    have : (atsOf X lates).length * 720 ≤ 2 * 720 := Nat.mul_le_mul_right _ hal
    omega
  generalize outT X ds (atsOf X lates) (atsOf X lates).length = T at hT ⊢
  refine ex_ret ?_
  refine ex1_return ?_
  have e0 : D.bool true = D.bool ((T == T) && (([] : List Bool) == [])) := by simp
  rw [e0]
  refine ev_and (ev_cmp (cmp_eq_list D.bool eqE_bool) (ev_local rfl rfl) (ev_local rfl rfl)) fun _ => ev_and1 (ev_cmp (a := .list (([] : List Bool).map D.bool)) (b := .list (([] : List Bool).map D.bool)) (cmp_eq_list D.bool eqE_bool) (ev_comp' (ι := X.map noisy ++ T) (e := D.bool) (p := fun _ => false) (g := D.bool) (Lc := []) ?_ (d := .list (dB (X.map noisy) ++ dB T)) ?_ ?_ (cscope_of (by decide +kernel)) .nil (by simp; omega) fun x hx => ?_) (ev_list evl_nil (by decide)))
  · simp
  · exact ev_bin (bin_cat (by simp; omega)) (ev_local rfl rfl) (ev_local rfl rfl)
  · rw [List.map_append]; exact over_list
  · exact ⟨[("one", .bool x)], by intro q hq; rw [List.mem_singleton.mp hq]; rfl, asg_name (.inl rfl), .inr ⟨_, rfl, tr_not (a := true) (tr_of (ev_isbool w (ev_local rfl rfl) rfl rfl))⟩, fun h => by cases h⟩
end

section
variable {B : Base} {k : Nat} {ns : List (Str × NameKind)} {L : List (Str × D)} {Γ : Str → Option D}
local macro_rules | `(tactic| walk_at "m.lk") => `(tactic| first | exact lk_nil | (refine' lk_cons rfl ?_; walk_at "m.lk"))

theorem ends_len (X : List Nat) (ds : List Int) : (endsOf X ds).length = X.length := by simp [endsOf]
theorem changed_turn {X : List Nat} {i : Nat} (h : i < X.length) : (X.map dn)[i]? = some (dn (X.getD i 0)) := by
  rw [List.getElem?_map, List.getD_eq_getElem?_getD, List.getElem?_eq_getElem h]; rfl

abbrev LB (X : List Nat) (ds lates : List Int) : List (Str × D) :=
  [("text", S X), ("days", .list (dI ds)), ("ends", .list (dI (endsOf X ds))), ("held", .list (dB (X.map noisy))), ("done", .list (dS (X.map dn))), ("means", .list (dS (X.map dn))), ("lates", .list (dI lates))]

theorem ex_fitsB (w : Wd B) {X : List Nat} {ds lates : List Int} (hX : X.length ≤ 8) (hd : ds.length = X.length) (hl : lates.length = X.length) (law : Lawful X ds) :
    Ex B (k + 3) (fscope 15).names (LB X ds lates) ((fbody 15).drop 10) (.ret (.bool true)) := by
  refine ex_collect (L0 := LB X ds lates) (ι := List.range (X.length + 1)) (e := fun (i : Nat) => D.int i) (g := fun s => D.list (dS (partsOf X ds s))) rfl (fun _ _ h => h) rfl (ev_rlenS1 w (ev_cell rfl rfl) (by omega) rfl rfl) (over_range (by omega)) (by simp; omega) (fun s hs => ?_) (plain_cons plain_nil) ?_
  · refine ⟨[("stage", .int s)], fun q hq => ?_, asg_name (.inr rfl), ?_⟩
    · rw [List.mem_singleton.mp hq]; exact ⟨rfl, show ¬ (("stage" : Str) = "stages") by decide⟩
    refine ev_comp' (ι := List.range X.length) (e := fun (i : Nat) => D.int i) (p := fun _ => true) (g := fun p => S (if ds.getD p default ≤ (s : Int) then dn (X.getD p 0) else [X.getD p 0])) (Lc := [("days", .list (dI ds)), ("stage", .int s), ("done", .list (dS (X.map dn))), ("text", S X)]) ?_ (ev_rlenS w (ev_cell rfl rfl) (by omega) rfl rfl) (over_range (by omega)) (cscope_of (by decide +kernel)) (.cons (by decide +kernel) rfl (.cons (by decide +kernel) rfl (.cons (by decide +kernel) rfl (.cons (by decide +kernel) rfl .nil)))) (by simp; omega) fun p hp => ?_
    · unfold partsOf dS; rw [List.map_map, all_kept]; rfl
    · have hp := List.mem_range.mp hp
      refine ⟨[("place", .int p)], by intro q hq; rw [List.mem_singleton.mp hq]; rfl, asg_name (.inl rfl), .inl ⟨rfl, rfl⟩, fun _ => ?_⟩
      refine ev_if (c := decide (ds.getD p default ≤ (s : Int))) (tr_cmp (a := .int (ds.getD p default)) (b := .int s) cmp_le_int (ev_at D.int (l := ds) (j := p) (ev_cell rfl rfl) (ev_local rfl rfl) (by omega) (by omega)) (ev_cell rfl rfl)) (fun h => ?_) fun h => ?_
      · rw [if_pos (of_decide_eq_true h)]
        exact ev_at' S (l := X.map dn) (j := p) (ev_cell rfl rfl) (ev_local rfl rfl) (changed_turn hp) (by simp; omega)
      · rw [if_neg (of_decide_eq_false h)]
        exact ev_signat (ev_cell rfl rfl) (ev_local rfl rfl) hp (by omega)
  have e : (List.range (X.length + 1)).map (fun s => D.list (dS (partsOf X ds s))) = dP (stagesOf X ds) := by unfold dP stagesOf; rw [List.map_map]; rfl
  rw [e]
  refine ex_next (ex1_assign (d := .list (dS (namesOf X ds))) ?_ (.inr rfl) (swaps_cell rfl)) ?_
  · refine ev_comp' (ι := stagesOf X ds) (e := fun x => D.list (dS x)) (p := fun _ => true) (g := fun x => S x.flatten) (Lc := []) ?_ (ev_cell rfl rfl) over_list (cscope_of (by decide +kernel)) .nil (by simp [stagesOf]; omega) fun x hx => ?_
    · unfold dS namesOf stagesOf; rw [List.map_map, all_kept, List.map_map]; rfl
    · obtain ⟨s, _, rfl⟩ := List.mem_map.mp hx
      have := name_le hX ds s
      refine ⟨[("parts", .list (dS (partsOf X ds s)))], by intro q hq; rw [List.mem_singleton.mp hq]; rfl, asg_name (.inl rfl), .inl ⟨rfl, rfl⟩, fun _ => ?_⟩
      exact ev_joined (ev_local rfl rfl) (by unfold nameOf at this; omega)
  have hnl : ∀ n ∈ namesOf X ds, n.length ≤ 80 := fun n hn => by
    obtain ⟨s, _, rfl⟩ := List.mem_map.mp hn
    exact name_le hX ds s
  have hN := namesOf_len X ds
  refine ex_next (ex1_assign (d := .list (dB (told0 X ds))) ?_ (.inl rfl)) ?_
  · have e : dB (told0 X ds) = dB ((namesOf X ds).map sunder) ++ dB ((namesOf X ds).map dunder) := by unfold told0; exact List.map_append
    rw [e]
    refine ev_bin (bin_cat (by simp; omega)) (ev_comp' (ι := namesOf X ds) (e := S) (p := fun _ => true) (g := fun n => D.bool (sunder n)) (Lc := []) ?_ (ev_cell rfl rfl) over_list (cscope_of (by decide +kernel)) .nil (by omega) fun n hn => ?_) (ev_comp' (ι := namesOf X ds) (e := S) (p := fun _ => true) (g := fun n => D.bool (dunder n)) (Lc := []) ?_ (ev_cell rfl rfl) over_list (cscope_of (by decide +kernel)) .nil (by omega) fun n hn => ?_)
    · unfold dB; rw [List.map_map, all_kept]; rfl
    · have := hnl n hn
      exact ⟨[("name", S n)], by intro q hq; rw [List.mem_singleton.mp hq]; rfl, asg_name (.inl rfl), .inl ⟨rfl, rfl⟩, fun _ => ev_callg rfl (fng_sunder w (by omega)) (evl_cons (ev_local rfl rfl) evl_nil) (plain_cons plain_nil)⟩
    · unfold dB; rw [List.map_map, all_kept]; rfl
    · have := hnl n hn
      exact ⟨[("name", S n)], by intro q hq; rw [List.mem_singleton.mp hq]; rfl, asg_name (.inl rfl), .inl ⟨rfl, rfl⟩, fun _ => ev_callg rfl (fng_dunder w (by omega)) (evl_cons (ev_local rfl rfl) evl_nil) (plain_cons plain_nil)⟩
  refine ex_next (ex1_assign (d := .list (dB (told0 X ds))) ?_ (.inl rfl)) ?_
  · rw [law.heads]
    have e : dB (due0 X ds) = dB (toldOf X (endsOf X ds) 1) ++ dB (toldOf X (endsOf X ds) 2) := by unfold due0; exact List.map_append
    rw [e]
    refine ev_bin (bin_cat (by simp [toldOf]; omega)) (ev_callg rfl (fng_told w X (endsOf X ds) 1 (by omega) (ends_len X ds)) (evl_cons (ev_cell rfl rfl) (evl_cons (ev_local rfl rfl) (evl_cons ev_int evl_nil))) (plain_cons (plain_cons (plain_cons plain_nil)))) (ev_callg rfl (fng_told w X (endsOf X ds) 2 (by omega) (ends_len X ds)) (evl_cons (ev_cell rfl rfl) (evl_cons (ev_local rfl rfl) (evl_cons ev_int evl_nil))) (plain_cons (plain_cons (plain_cons plain_nil))))
  refine ex_next (ex1_assign_comp' (d0 := .list (dN (changedOf X))) (ι := List.range X.length) (p := fun p => [X.getD p 0] != dn (X.getD p 0)) (g := fun (p : Nat) => D.int p) (e := fun (p : Nat) => D.int p) (Lc := [("text", S X), ("means", .list (dS (X.map dn)))]) rfl rfl rfl (ev_rlenS w (ev_cell rfl rfl) (by omega) rfl rfl) (over_range (by omega)) (cscope_of (by decide +kernel)) (.cons (by decide +kernel) rfl (.cons (by decide +kernel) rfl .nil)) (by simp; omega) fun p hp => ?_) ?_
  · have hp := List.mem_range.mp hp
    exact ⟨[("place", .int p)], by intro q hq; rw [List.mem_singleton.mp hq]; rfl, asg_name (.inl rfl), .inr ⟨_, rfl, tr_cmp cmp_ne_S (ev_signat (ev_cell rfl rfl) (ev_local rfl rfl) hp (by omega)) (ev_at' S (l := X.map dn) (j := p) (ev_cell rfl rfl) (ev_local rfl rfl) (changed_turn hp) (by simp; omega))⟩, fun _ => ev_local rfl rfl⟩
  refine ex_next (ex1_assign (d := .int (behindP X ds)) ?_ (.inl rfl)) ?_
  · refine ev_callg rfl (fng_from (k := k + 1) w X.reverse (endsOf X ds).reverse 2 (by simp; omega) (by simp [ends_len])) (evl_cons (ev_rev_str (ev_cell rfl rfl) (ev_neg ev_int) (by omega)) (evl_cons ?_ (evl_cons ev_int evl_nil))) (plain_cons (plain_cons (plain_cons plain_nil)))
    have e : dI (endsOf X ds).reverse = (dI (endsOf X ds)).reverse := by simp [dI]
    rw [e]
    exact ev_rev_list (ev_local rfl rfl) (ev_neg ev_int) (by simp [ends_len]; omega)
  refine ex_weak ?_ (ex_fitsC (k := k) w hX hd hl law)
  unfold ctx; walk_at "m.lk"

theorem ends_held {X : List Nat} {ds : List Int} (hd : ds.length = X.length) (hle : ∀ d ∈ ds, d ≤ X.length) : (endsOf X ds).map (fun e => decide (e ≤ (X.length : Int))) = X.map noisy := by
  apply List.ext_getElem
  · simp [ends_len]
  · intro i h1 h2
    have hi : i < X.length := by simpa using h2
    simp only [List.getElem_map, endsOf, List.getElem_range]
    rw [List.getD_eq_getElem?_getD, List.getElem?_eq_getElem hi, List.getD_eq_getElem?_getD, List.getElem?_eq_getElem (show i < ds.length by omega)]
    have := hle _ (List.getElem_mem (show i < ds.length by omega))
    simp only [Option.getD_some]
    cases hq : noisy X[i] <;> simp
    · omega
    · omega

def Xof (l : List Int) : List Nat := l.map fun n => (drw n).1
def Lof (l : List Int) : List Int := l.map fun n => (drw n).2
def row (n : Int) : List D := [S [(drw n).1], S (dn (drw n).1), .int (drw n).2]
theorem ex_fits (w : Wd B) {l : List Int} (hl : l.length ≤ 8) (law : Lawful (Xof l) (daysOf (Lof l))) : Ex B (k + 3) (fscope 15).names [("numbers", .list (dI l))] (fbody 15) (.ret (.bool true)) := by
  have hX : (Xof l).length = l.length := by simp [Xof]
  have hL : (Lof l).length = l.length := by simp [Lof]
  have hD := days_len (Lof l)
  refine ex_next (ex1_assign (d := .list (dI noiseI)) (ev_callg (ds := []) rfl (fng_noise (k := k + 2) w) evl_nil plain_nil) (.inr rfl)) ?_
  have row3 : ∀ {ns : List (Str × NameKind)} {p q r t : Pos} {z : Nat} (n : Int), ns.lookup ("sign" : Str) = some .local → ns.lookup ("meant" : Str) = some .local → ns.lookup ("late" : Str) = some .local →
      Asg B (k + 3) ns (.Tuple [.Name "sign" p, .Name "meant" q, .Name "late" r] z t) (.list (row n)) ((([] ++ [(("late" : Str), D.int (drw n).2)]) ++ [(("meant" : Str), S (dn (drw n).1))]) ++ [(("sign" : Str), S [(drw n).1])]) := fun {ns p q r t z} n h1 h2 h3 =>
    asg_tuple (.cons (asg_name (.inl h1)) (.cons (asg_name (.inl h2)) (.cons (asg_name (.inl h3)) .nil (by intro _ _; rfl)) (by intro _ _; rfl)) (by intro _ _; rfl)) (.inl rfl)
  refine ex_next (ex1_assign_comp' (d0 := .list (l.map fun n => D.list (row n))) (ι := l) (p := fun _ => true) (g := fun n => D.list (row n)) (e := D.int) (Lc := []) (by rw [all_kept]) rfl rfl (ev_local rfl rfl) over_list (cscope_of (by decide +kernel)) .nil (by omega) fun n hn => ?_) ?_
  · exact ⟨[("number", .int n)], by intro q hq; rw [List.mem_singleton.mp hq]; rfl, asg_name (.inl rfl), .inl ⟨rfl, rfl⟩, fun _ => ev_callg rfl (fng_drawn (k := k + 1) w n) (evl_cons (ev_local rfl rfl) evl_nil) (plain_cons plain_nil)⟩
  refine ex_next (ex1_assign (d := S (Xof l)) ?_ (.inr rfl)) ?_
  · have e : Xof l = (l.map fun n => [(drw n).1]).flatten := by
      unfold Xof; clear hl law hX hL hD row3
      induction l with
      | nil => rfl
      | cons n l ih => rw [List.map_cons, List.map_cons, List.flatten_cons, ← ih]; rfl
    rw [e]
    refine ev_joined (ev_comp' (ι := l) (p := fun _ => true) (g := fun n => S [(drw n).1]) (e := fun n => D.list (row n)) (Lc := []) ?_ (ev_local rfl rfl) over_list (cscope_of (by decide +kernel)) .nil (by omega) fun n hn => ?_) (by rw [← e, hX]; omega)
    · unfold dS; rw [List.map_map, all_kept]; rfl
    · exact ⟨_, by intro q hq; simp at hq; rcases hq with rfl | rfl | rfl <;> rfl, row3 n rfl rfl rfl, .inl ⟨rfl, rfl⟩, fun _ => ev_local rfl rfl⟩
  refine ex_next (ex1_assign (d := .list (dS ((Xof l).map dn))) ?_ (.inr rfl) (swaps_cell rfl)) ?_
  · refine ev_comp' (ι := l) (p := fun _ => true) (g := fun n => S (dn (drw n).1)) (e := fun n => D.list (row n)) (Lc := []) ?_ (ev_local rfl rfl) over_list (cscope_of (by decide +kernel)) .nil (by omega) fun n hn => ?_
    · unfold dS Xof; rw [List.map_map, List.map_map, all_kept]; rfl
    · exact ⟨_, by intro q hq; simp at hq; rcases hq with rfl | rfl | rfl <;> rfl, row3 n rfl rfl rfl, .inl ⟨rfl, rfl⟩, fun _ => ev_local rfl rfl⟩
  refine ex_next (ex1_assign_comp' (d0 := .list (dI (Lof l))) (ι := l) (p := fun _ => true) (g := fun n => D.int (drw n).2) (e := fun n => D.list (row n)) (Lc := []) ?_ rfl rfl (ev_local rfl rfl) over_list (cscope_of (by decide +kernel)) .nil (by omega) fun n hn => ?_) ?_
  · unfold dI Lof; rw [List.map_map, all_kept]; rfl
  · exact ⟨_, by intro q hq; simp at hq; rcases hq with rfl | rfl | rfl <;> rfl, row3 n rfl rfl rfl, .inl ⟨rfl, rfl⟩, fun _ => ev_local rfl rfl⟩
  refine ex_next (ex1_assign (d := .list (dI (daysOf (Lof l)))) (ev_callg rfl (fng_days (k := k + 1) w (Lof l) (by omega)) (evl_cons (ev_local rfl rfl) evl_nil) (plain_cons plain_nil)) (.inr rfl)) ?_
  have hle : ∀ d ∈ daysOf (Lof l), d ≤ (Xof l).length := fun d hd => by have := (days_mem hd).2; rw [hL] at this; rw [hX]; exact this
  have hX8 : (Xof l).length ≤ 8 := by omega
  have hds : (daysOf (Lof l)).length = (Xof l).length := by omega
  have hls : (Lof l).length = (Xof l).length := by omega
  generalize daysOf (Lof l) = ds at hle hds law ⊢
  generalize Xof l = X at hle hds law hX8 hls ⊢
  generalize Lof l = lates at hls ⊢
  refine ex_next (ex1_assign_comp' (d0 := .list (dI (endsOf X ds))) (ι := List.range X.length) (p := fun _ => true) (g := fun p => D.int (if noisy (X.getD p 0) then ds.getD p default else ((X.length + 1 : Nat) : Int))) (e := fun (p : Nat) => D.int p) (Lc := [("days", .list (dI ds)), ("text", S X), ("noise", .list (dI noiseI))]) ?_ rfl rfl (ev_rlenS w (ev_cell rfl rfl) (by omega) rfl rfl) (over_range (by omega)) (cscope_of (by decide +kernel)) (.cons (by decide +kernel) rfl (.cons (by decide +kernel) rfl (.cons (by decide +kernel) rfl .nil))) (by simp; omega) fun p hp => ?_) ?_
  · unfold endsOf dI; rw [List.map_map, all_kept]; rfl
  · have hp := List.mem_range.mp hp
    refine ⟨[("place", .int p)], by intro q hq; rw [List.mem_singleton.mp hq]; rfl, asg_name (.inl rfl), .inl ⟨rfl, rfl⟩, fun _ => ?_⟩
    refine ev_if (c := noisy (X.getD p 0)) ?_ (fun h => ?_) fun h => ?_
    · have : noisy (X.getD p 0) = noiseI.any (· == ((X.getD p 0 : Nat) : Int)) := (cont_any _ _).symm
      rw [this]
      exact tr_cmp (a := .int (X.getD p 0 : Nat)) (b := .list (dI noiseI)) cmp_in_ints (ev_callg rfl (fng_ord w) (evl_cons (ev_signat (ev_cell rfl rfl) (ev_local rfl rfl) hp (by omega)) evl_nil) (plain_cons plain_nil)) (ev_cell rfl rfl)
    · rw [if_pos h]
      exact ev_at D.int (l := ds) (j := p) (ev_cell rfl rfl) (ev_local rfl rfl) (by omega) (by omega)
    · rw [if_neg (by rw [h]; decide)]
      exact ev_bin (a := .int X.length) (b := .int 1) bin_add (ev_callg rfl (fng_len_str w (l := X) (by omega)) (evl_cons (ev_cell rfl rfl) evl_nil) (plain_cons plain_nil)) ev_int
  refine ex_next (ex1_assign_comp' (d0 := .list (dB (X.map noisy))) (ι := X) (p := fun _ => true) (g := fun c => D.bool (noisy c)) (e := fun c => S [c]) (Lc := []) ?_ rfl rfl (ev_cell rfl rfl) over_str (cscope_of (by decide +kernel)) .nil (by omega) fun c hc => ?_) ?_
  · unfold dB; rw [List.map_map, all_kept]; rfl
  · exact ⟨[("sign", S [c])], by intro q hq; rw [List.mem_singleton.mp hq]; rfl, asg_name (.inl rfl), .inl ⟨rfl, rfl⟩, fun _ => ev_callg rfl (fng_inb1 w) (evl_cons (ev_local rfl rfl) evl_nil) (plain_cons plain_nil)⟩
  refine ex_next (ex1_assign (d := .list (dS (X.map dn))) ?_ (.inr rfl) (swaps_cell rfl)) ?_
  · refine ev_comp' (ι := X) (p := fun _ => true) (g := fun c => S (dn c)) (e := fun c => S [c]) (Lc := []) ?_ (ev_cell rfl rfl) over_str (cscope_of (by decide +kernel)) .nil (by omega) fun c hc => ?_
    · unfold dS; rw [List.map_map, all_kept]; rfl
    · refine ⟨[("sign", S [c])], by intro q hq; rw [List.mem_singleton.mp hq]; rfl, asg_name (.inl rfl), .inl ⟨rfl, rfl⟩, fun _ => ?_⟩
      refine ev_if (c := noisy c) (tr_of (ev_callg rfl (fng_inb1 w) (evl_cons (ev_local rfl rfl) evl_nil) (plain_cons plain_nil))) (fun h => ?_) fun h => ?_
      · rw [dn_noisy h]; exact ev_strc rfl
      · rw [dn_not h]; exact ev_callg rfl (fng_mapb3 w) (evl_cons (ev_local rfl rfl) evl_nil) (plain_cons plain_nil)
  refine ex_if (c := (X.map noisy != X.map noisy) || ((X.map dn != X.map dn) || false)) (tr_or (tr_cmp (cmp_ne_list D.bool eqE_bool) (ev_local rfl rfl) (ev_comp' (ι := endsOf X ds) (p := fun _ => true) (g := fun e => D.bool (decide (e ≤ (X.length : Int)))) (e := D.int) (Lc := [("text", S X)]) ?_ (ev_local rfl rfl) over_list (cscope_of (by decide +kernel)) (.cons (by decide +kernel) rfl .nil) (by rw [ends_len]; omega) fun e he => ?_)) fun _ => tr_or (tr_cmp (cmp_ne_list S eqE_str) (ev_cell rfl rfl) (ev_cell rfl rfl)) fun _ => tr_or0) (fun h => ?_) fun _ => ?_
  · rw [← ends_held hds hle, List.map_map, all_kept]; rfl
  · exact ⟨[("end", .int e)], by intro q hq; rw [List.mem_singleton.mp hq]; rfl, asg_name (.inl rfl), .inl ⟨rfl, rfl⟩, fun _ => ev_cmp cmp_le_int (ev_local rfl rfl) (ev_callg rfl (fng_len_str w (l := X) (by omega)) (evl_cons (ev_cell rfl rfl) evl_nil) (plain_cons plain_nil))⟩
  · simp at h
  · refine ex_weak ?_ (ex_fitsB (k := k) w hX8 hds hls law)
    walk_at "m.lk"

theorem fng_fits (w : Wd B) {l : List Int} (hl : l.length ≤ 8) (law : Lawful (Xof l) (daysOf (Lof l))) : FnG B (k + 4) "_law_fits" [.list (dI l)] (.bool true) :=
  FnG.of_def (xs := ["numbers"]) w.fits (fun pm cd doc vs hv => by match vs, hv with | [_], _ => rfl) rfl (by decide +kernel) (ex_fits w hl law)
end

section
variable {B : Base} {k : Nat} {ns : List (Str × NameKind)} {L : List (Str × D)} {Γ : Str → Option D}
local macro_rules | `(tactic| walk_at "m.lk") => `(tactic| first | exact lk_nil | (refine' lk_cons rfl ?_; walk_at "m.lk"))

theorem cut_8 (l : List Int) : cut (dI l) none (some 8) = dI (l.take 8) := by
  by_cases h : 8 ≤ l.length
  · rw [cut_pre _ (by omega) (by simp; omega)]; show _ = List.map D.int _; rw [List.map_take]; rfl
  · have e : clipAt (dI l).length 8 = (dI l).length := by unfold clipAt; simp; omega
    show (List.drop 0 (dI l)).take (clipAt (dI l).length 8 - 0) = _
    rw [e, List.drop_zero, Nat.sub_zero, List.take_length, List.take_of_length_le (by omega)]
def small1 : List Int := [16, 4, 1, 981, 2, 52, 3, 1604]
def small2 : List Int := [32, 4, 2221, 118, 1, 2, 1364, 3]
theorem ex_law (w : Wd B) (l : List Int) (hl : l.length ≤ 900) (law : ∀ l : List Int, l.length ≤ 8 → Lawful (Xof l) (daysOf (Lof l))) : Ex B (k + 4) (fscope 16).names [("script", .list (dI l))] (fbody 16) (.ret (.bool true)) := by
  have h8 : ∀ q ∈ [small1, small2, l.take 8], q.length ≤ 8 := by
    intro q hq
    simp at hq
    rcases hq with rfl | rfl | rfl
    · decide
    · decide
    · simp; omega
  refine ex_next (ex1_for (xs := [small1, small2, l.take 8].map fun q => D.list (dI q)) (m := 3) (fun _ => [("script", .list (dI l))]) (d := .list ([small1, small2, l.take 8].map fun q => D.list (dI q))) ?_ over_list (by simp) (fun _ _ h => h) ?_ (.inl ⟨by simp, rfl⟩)) ?_
  · refine ev_list (evl_cons (ev_list (ds := dI small1) ?_ (Nat.le_of_ble_eq_true rfl)) (evl_cons (ev_list (ds := dI small2) ?_ (Nat.le_of_ble_eq_true rfl)) (evl_cons ?_ evl_nil))) (Nat.le_of_ble_eq_true rfl)
    · unfold small1 dI; walk_at "m.es"
    · unfold small2 dI; walk_at "m.es"
    · show Ev _ _ _ _ _ (D.list (dI (l.take 8)))
      rw [← cut_8]
      exact ev_cut_list (ev_local rfl rfl) evo_none (evo_some ev_int) (by simp; omega)
  · intro i x hi hx
    rw [List.getElem?_map] at hx
    have hi' : i < [small1, small2, l.take 8].length := hi
    rw [List.getElem?_eq_getElem hi'] at hx
    have hm := h8 _ (List.getElem_mem hi')
    generalize [small1, small2, l.take 8][i] = q at hx hm
    cases hx
    refine' turn_of (bs := [("numbers", .list (dI q))]) (asg_name (.inl rfl)) ?a ?b
    case a =>
      refine' ex_next (ex1_if (c := !true) (tr_not (tr_of (ev_callg rfl (fng_fits w hm (law q hm)) (evl_cons (ev_local rfl rfl) evl_nil) (plain_cons plain_nil)))) (fun h => by cases h) fun _ => ex_nil) ex_nil
    case b => walk_at "m.lk"
  · exact ex_ret (ex1_return ev_bool)
theorem fng_law (w : Wd B) (l : List Int) (hl : l.length ≤ 900) (law : ∀ l : List Int, l.length ≤ 8 → Lawful (Xof l) (daysOf (Lof l))) : FnG B (k + 5) "law" [.list (dI l)] (.bool true) :=
  FnG.of_def (xs := ["script"]) w.law (fun pm cd doc vs hv => by match vs, hv with | [_], _ => rfl) rfl (by decide +kernel) (ex_law w l hl law)
end

end Mine
end

section
open PySem PySem.W PyProof.Rows
set_option maxRecDepth 20000
set_option linter.unusedVariables false
namespace Mine

/-- so many underscores at the head -/
def heads (n : Nat) (l : List Nat) : Prop := ∀ i, i < n → l[i]? = some 95
theorem heads_cons {n a : Nat} {l : List Nat} : heads (n + 1) (a :: l) ↔ a = 95 ∧ heads n l := by
  constructor
  · intro h
    refine ⟨by simpa using h 0 (by omega), fun i hi => by simpa using h (i + 1) (by omega)⟩
  · rintro ⟨h1, h2⟩ i hi
    cases i with
    | zero => simp [h1]
    | succ i => simpa using h2 i (by omega)
theorem heads_nil {n : Nat} : ¬ heads (n + 1) [] := fun h => by have := h 0 (by omega); simp at this

/-- a sign's part in a name at a stage -/
def Ok (s : Int) (c : Nat) (e : Int) (l : List Nat) : Prop := (c = 95 ∧ l = [95]) ∨ (c ≠ 95 ∧ e ≤ s ∧ l = []) ∨ (c ≠ 95 ∧ s < e ∧ l ≠ [] ∧ 95 ∉ l)
theorem Ok.rev {s : Int} {c : Nat} {e : Int} {l : List Nat} (h : Ok s c e l) : Ok s c e l.reverse := by
  rcases h with ⟨h, rfl⟩ | ⟨h, h2, rfl⟩ | ⟨h, h2, h3, h4⟩
  · exact .inl ⟨h, rfl⟩
  · exact .inr (.inl ⟨h, h2, rfl⟩)
  · exact .inr (.inr ⟨h, h2, by simpa using h3, by simpa using h4⟩)

theorem from_spec {ι : Type} (fc : ι → Nat) (fe : ι → Int) (fl : ι → List Nat) (s z : Int) (hz : s < z) : ∀ t : List ι, (∀ x ∈ t, Ok s (fc x) (fe x) (fl x)) → ∀ (n : Nat) (day : Int),
    fromGo (t.map fun x => (fc x, fe x)) day ((n + 1 : Nat) : Int) z ≤ s ↔ day ≤ s ∧ heads (n + 1) (t.flatMap fl)
  | [], _, n, day => by
    show z ≤ s ↔ _
    constructor
    · intro h; omega
    · rintro ⟨_, h⟩; exact absurd h heads_nil
  | x :: t, h, n, day => by
    have ih := from_spec fc fe fl s z hz t fun y hy => h y (.tail _ hy)
    show (if fc x ≠ 95 then fromGo (t.map fun x => (fc x, fe x)) (max day (fe x)) ((n + 1 : Nat) : Int) z else if ((n + 1 : Nat) : Int) - 1 = 0 then day else fromGo (t.map fun x => (fc x, fe x)) day (((n + 1 : Nat) : Int) - 1) z) ≤ s ↔ day ≤ s ∧ heads (n + 1) (fl x ++ t.flatMap fl)
    rcases h x (.head _) with ⟨hc, e⟩ | ⟨hc, he, e⟩ | ⟨hc, he, e, hn⟩
    · rw [if_neg (by simp [hc]), e]
      show _ ↔ day ≤ s ∧ heads (n + 1) (95 :: t.flatMap fl)
      rw [heads_cons]
      cases n with
      | zero =>
        rw [if_pos (by omega)]
        exact ⟨fun h => ⟨h, rfl, fun i hi => by omega⟩, fun h => h.1⟩
      | succ n =>
        rw [if_neg (by omega), show (((n + 1 + 1 : Nat) : Int) - 1) = ((n + 1 : Nat) : Int) by omega, ih n day]
        exact ⟨fun h => ⟨h.1, rfl, h.2⟩, fun h => ⟨h.1, h.2.2⟩⟩
    · rw [if_pos hc, e, ih n, List.nil_append]
      exact ⟨fun h => ⟨by omega, h.2⟩, fun h => ⟨by omega, h.2⟩⟩
    · rw [if_pos hc, ih n]
      constructor
      · intro h; omega
      · rintro ⟨_, h⟩
        exfalso
        cases hl : fl x with
        | nil => exact e hl
        | cons a r =>
          rw [hl] at h hn
          have := (heads_cons.mp h).1
          exact hn (by rw [this]; exact .head _)

theorem Ok.alone {s : Int} {c : Nat} {e : Int} {l : List Nat} (h : Ok s c e l) : (c ≠ 95 → e ≤ s) ↔ ∀ x ∈ l, x = 95 := by
  rcases h with ⟨h, rfl⟩ | ⟨h, h2, rfl⟩ | ⟨h, h2, h3, h4⟩
  · simp [h]
  · simp [h2]
  · constructor
    · intro q; have := q h; omega
    · intro q
      exfalso
      obtain ⟨a, r, rfl⟩ := List.exists_cons_of_ne_nil h3
      exact h4 (by rw [← q a (.head _)]; exact .head _)

/-- a name with one kind of ends -/
structure Ends (n : Nat) (l : List Nat) : Prop where
  h1 : heads n l
  h2 : heads n l.reverse
  h3 : ¬ heads (n + 1) l
  h4 : ¬ heads (n + 1) l.reverse
  h5 : ¬ ∀ x ∈ l, x = 95

theorem heads_len {n : Nat} {l : List Nat} (h : heads n l) : n ≤ l.length := by
  cases n with
  | zero => omega
  | succ n =>
    have := h n (by omega)
    have := (List.getElem?_eq_some_iff.mp this).1
    omega
theorem heads_getD {n : Nat} {l : List Nat} (hn : n ≤ l.length) : heads n l ↔ ∀ i, i < n → l.getD i 0 = 95 := by
  constructor
  · intro h i hi; rw [List.getD_eq_getElem?_getD, h i hi]; rfl
  · intro h i hi
    have := h i hi
    rw [List.getD_eq_getElem?_getD, List.getElem?_eq_getElem (by omega)] at this
    rw [List.getElem?_eq_getElem (by omega)]
    simpa using this
theorem heads_rev {n : Nat} {l : List Nat} (hn : n ≤ l.length) : heads n l.reverse ↔ ∀ i, i < n → l.getD (l.length - 1 - i) 0 = 95 := by
  rw [heads_getD (by simpa using hn)]
  constructor
  · intro h i hi
    have := h i hi
    rw [List.getD_eq_getElem?_getD, List.getElem?_reverse (by omega)] at this
    rw [List.getD_eq_getElem?_getD]; exact this
  · intro h i hi
    rw [List.getD_eq_getElem?_getD, List.getElem?_reverse (by omega)]
    rw [← List.getD_eq_getElem?_getD]; exact h i hi
theorem ends_long {n : Nat} {l : List Nat} (h : Ends n l) : 2 * n < l.length := by
  apply Nat.lt_of_not_le
  intro q
  apply h.h5
  intro x hx
  obtain ⟨i, hi, rfl⟩ := List.getElem_of_mem hx
  have l1 := heads_len h.h1
  by_cases hin : i < n
  · have := h.h1 i hin
    rw [List.getElem?_eq_getElem hi] at this
    simpa using this
  · have := (heads_rev l1).mp h.h2 (l.length - 1 - i) (by omega)
    rw [show l.length - 1 - (l.length - 1 - i) = i by omega, List.getD_eq_getElem?_getD, List.getElem?_eq_getElem hi] at this
    simpa using this
theorem ends_of {n : Nat} {l : List Nat} (hl : 2 * n < l.length) (h1 : ∀ i, i < n → l.getD i 0 = 95) (h2 : ∀ i, i < n → l.getD (l.length - 1 - i) 0 = 95) (h3 : l.getD n 0 ≠ 95) (h4 : l.getD (l.length - 1 - n) 0 ≠ 95) : Ends n l := by
  refine ⟨(heads_getD (by omega)).mpr h1, (heads_rev (by omega)).mpr h2, fun q => h3 ((heads_getD (by omega)).mp q n (by omega)), fun q => h4 ((heads_rev (by omega)).mp q n (by omega)), fun q => h3 ?_⟩
  rw [List.getD_eq_getElem?_getD, List.getElem?_eq_getElem (show n < l.length by omega)]
  exact q _ (List.getElem_mem _)
theorem ends_out {n : Nat} {l : List Nat} (h : Ends n l) : (∀ i, i < n → l.getD i 0 = 95) ∧ (∀ i, i < n → l.getD (l.length - 1 - i) 0 = 95) ∧ l.getD n 0 ≠ 95 ∧ l.getD (l.length - 1 - n) 0 ≠ 95 := by
  have hl := ends_long h
  have e1 := (heads_getD (by omega)).mp h.h1
  have e2 := (heads_rev (by omega)).mp h.h2
  refine ⟨e1, e2, fun q => h.h3 ((heads_getD (by omega)).mpr fun i hi => ?_), fun q => h.h4 ((heads_rev (by omega)).mpr fun i hi => ?_)⟩
  · by_cases e : i = n
    · rw [e]; exact q
    · exact e1 i (by omega)
  · by_cases e : i = n
    · rw [e]; exact q
    · exact e2 i (by omega)

theorem sunder_iff {l : List Nat} : sunder l = true ↔ Ends 1 l := by
  unfold sunder
  simp only [Bool.and_eq_true, decide_eq_true_eq, bne_iff_ne, beq_iff_eq, ne_eq, List.cons.injEq, and_true]
  constructor
  · rintro ⟨h0, ⟨h1, h2⟩, h3, h4⟩
    refine ends_of (by omega) (fun i hi => ?_) (fun i hi => ?_) h3 (by rw [show l.length - 1 - 1 = l.length - 2 by omega]; exact h4)
    · rw [show i = 0 by omega, h1, h2]
    · rw [show i = 0 by omega]; exact h2
  · intro h
    have hl := ends_long h
    obtain ⟨h1, h2, h3, h4⟩ := ends_out h
    have a := h1 0 (by omega)
    have b := h2 0 (by omega)
    exact ⟨by omega, ⟨a.trans b.symm, b⟩, h3, by rw [show l.length - 2 = l.length - 1 - 1 by omega]; exact h4⟩

theorem clip_neg {n k : Nat} (h : k ≤ n) (hk : 0 < k) : clipAt n (-(k : Int)) = n - k := by
  unfold clipAt
  have : (-(k : Int)) < 0 := by omega
  simp [this]; omega
theorem cut_last2 {l : List Nat} (h : 2 ≤ l.length) : cut l (some (-2)) none = l.drop (l.length - 2) := by
  show (l.drop (clipAt l.length (-((2 : Nat) : Int)))).take (l.length - clipAt l.length (-((2 : Nat) : Int))) = _
  rw [clip_neg h (by omega), List.take_of_length_le (by simp)]
theorem two_eq {l : List Nat} {a b : Nat} (h : 2 ≤ l.length) : l.take 2 = [a, b] ↔ l.getD 0 0 = a ∧ l.getD 1 0 = b := by
  match l, h with
  | x :: y :: r, _ => simp
theorem last2_eq {l : List Nat} {a b : Nat} (h : 2 ≤ l.length) : l.drop (l.length - 2) = [a, b] ↔ l.getD (l.length - 2) 0 = a ∧ l.getD (l.length - 1) 0 = b := by
  have e : l.drop (l.length - 2) = [l.getD (l.length - 2) 0, l.getD (l.length - 1) 0] := by
    apply List.ext_getElem
    · simp; omega
    · intro i h1 h2
      have hi : i < 2 := by simpa using h2
      simp only [List.getElem_drop, List.getD_eq_getElem?_getD]
      match i, hi with
      | 0, _ => simp [List.getElem?_eq_getElem (show l.length - 2 < l.length by omega)]
      | 1, _ => simp [List.getElem?_eq_getElem (show l.length - 1 < l.length by omega), show l.length - 2 + 1 = l.length - 1 by omega]
  rw [e]; simp
theorem dunder_iff {l : List Nat} : dunder l = true ↔ Ends 2 l := by
  unfold dunder
  by_cases hl : 4 < l.length
  · rw [cut_pre _ (by omega) (by omega), cut_last2 (by omega)]
    simp only [Bool.and_eq_true, decide_eq_true_eq, bne_iff_ne, beq_iff_eq, ne_eq, List.cons.injEq, and_true]
    show _ ∧ (l.take 2 = _ ∧ _) ∧ _ ↔ _
    constructor
    · rintro ⟨h0, ⟨h1, h2⟩, h3, h4⟩
      rw [h2] at h1
      have a := (two_eq (by omega)).mp h1
      have b := (last2_eq (by omega)).mp h2
      refine ends_of (by omega) (fun i hi => ?_) (fun i hi => ?_) h3 (by rw [show l.length - 1 - 2 = l.length - 3 by omega]; exact h4)
      · match i, hi with
        | 0, _ => exact a.1
        | 1, _ => exact a.2
      · match i, hi with
        | 0, _ => exact b.2
        | 1, _ => rw [show l.length - 1 - 1 = l.length - 2 by omega]; exact b.1
    · intro h
      obtain ⟨h1, h2, h3, h4⟩ := ends_out h
      have b : l.drop (l.length - 2) = [95, 95] := (last2_eq (by omega)).mpr ⟨by have := h2 1 (by omega); rwa [show l.length - 1 - 1 = l.length - 2 by omega] at this, h2 0 (by omega)⟩
      refine ⟨by omega, ⟨?_, b⟩, h3, by rw [show l.length - 3 = l.length - 1 - 2 by omega]; exact h4⟩
      rw [b]; exact (two_eq (by omega)).mpr ⟨h1 0 (by omega), h1 1 (by omega)⟩
  · constructor
    · intro h
      simp only [Bool.and_eq_true, decide_eq_true_eq] at h
      omega
    · intro h; have := ends_long h; omega
end Mine
end

section
open PySem PySem.W PyProof.Rows
set_option maxRecDepth 20000
set_option linter.unusedVariables false
namespace Mine

def partAt (X : List Nat) (ds : List Int) (s p : Nat) : List Nat := if ds.getD p default ≤ (s : Int) then dn (X.getD p 0) else [X.getD p 0]
def endAt (X : List Nat) (ds : List Int) (p : Nat) : Int := if noisy (X.getD p 0) then ds.getD p default else ((X.length + 1 : Nat) : Int)

theorem part_ok (X : List Nat) (ds : List Int) {s : Nat} (hs : s ≤ X.length) (p : Nat) : Ok s (X.getD p 0) (endAt X ds p) (partAt X ds s p) := by
  unfold endAt partAt
  generalize X.getD p 0 = c
  generalize ds.getD p default = d
  by_cases h95 : c = 95
  · subst h95
    refine .inl ⟨rfl, ?_⟩
    rw [t_95]; split <;> rfl
  · cases hn : noisy c with
    | true =>
      rw [dn_noisy hn, if_pos rfl]
      by_cases hd : d ≤ (s : Int)
      · exact .inr (.inl ⟨h95, hd, if_pos hd⟩)
      · rw [if_neg hd]
        exact .inr (.inr ⟨h95, by omega, by simp, by simpa using fun e => h95 e.symm⟩)
    | false =>
      rw [if_neg (by decide)]
      have f := folded_dn hn
      refine .inr (.inr ⟨h95, by omega, ?_, ?_⟩)
      · split
        · exact f.1
        · simp
      · split
        · exact f.2.1 h95
        · simpa using fun e => h95 e.symm

theorem self_map (X : List Nat) : (List.range X.length).map (fun p => X.getD p 0) = X := by
  apply List.ext_getElem
  · simp
  · intro i h1 h2
    simp [List.getD_eq_getElem?_getD, List.getElem?_eq_getElem h2]
theorem zip_ends (X : List Nat) (ds : List Int) : X.zip (endsOf X ds) = (List.range X.length).map fun p => (X.getD p 0, endAt X ds p) := by
  have : X.zip (endsOf X ds) = ((List.range X.length).map (fun p => X.getD p 0)).zip (endsOf X ds) := by rw [self_map]
  rw [this]
  exact List.zip_map' ..
theorem zip_ends_rev (X : List Nat) (ds : List Int) : X.reverse.zip (endsOf X ds).reverse = (List.range X.length).reverse.map fun p => (X.getD p 0, endAt X ds p) := by
  have : X.reverse.zip (endsOf X ds).reverse = ((List.range X.length).map (fun p => X.getD p 0)).reverse.zip (endsOf X ds).reverse := by rw [self_map]
  rw [this]
  unfold endsOf
  rw [← List.map_reverse, ← List.map_reverse]
  exact List.zip_map' ..
theorem name_flat (X : List Nat) (ds : List Int) (s : Nat) : nameOf X ds s = (List.range X.length).flatMap (partAt X ds s) := by
  unfold nameOf partsOf; rw [List.flatMap_def]; rfl
theorem name_flat_rev (X : List Nat) (ds : List Int) (s : Nat) : (nameOf X ds s).reverse = (List.range X.length).reverse.flatMap fun p => (partAt X ds s p).reverse := by
  rw [name_flat, List.reverse_flatMap]; rfl

theorem from_le (X : List Nat) (ds : List Int) {s : Nat} (hs : s ≤ X.length) (n : Nat) : lawFrom X (endsOf X ds) ((n + 1 : Nat) : Int) ≤ (s : Int) ↔ heads (n + 1) (nameOf X ds s) := by
  unfold lawFrom
  rw [zip_ends, name_flat, from_spec (fun p => X.getD p 0) (endAt X ds) (partAt X ds s) s _ (by omega) _ fun p _ => part_ok X ds hs p]
  exact ⟨fun h => h.2, fun h => ⟨by omega, h⟩⟩
theorem from_rev_le (X : List Nat) (ds : List Int) {s : Nat} (hs : s ≤ X.length) (n : Nat) : lawFrom X.reverse (endsOf X ds).reverse ((n + 1 : Nat) : Int) ≤ (s : Int) ↔ heads (n + 1) (nameOf X ds s).reverse := by
  unfold lawFrom
  rw [zip_ends_rev, name_flat_rev, from_spec (fun p => X.getD p 0) (endAt X ds) (fun p => (partAt X ds s p).reverse) s _ (by rw [List.length_reverse]; omega) _ fun p _ => (part_ok X ds hs p).rev]
  exact ⟨fun h => h.2, fun h => ⟨by omega, h⟩⟩
theorem ends_getD (X : List Nat) (ds : List Int) {p : Nat} (hp : p < X.length) : (endsOf X ds).getD p default = endAt X ds p := getD_range hp
theorem lone_le (X : List Nat) (ds : List Int) {s : Nat} (hs : s ≤ X.length) : lone X (endsOf X ds) ≤ (s : Int) ↔ ∀ x ∈ nameOf X ds s, x = 95 := by
  unfold lone
  rw [mx_le, name_flat]
  constructor
  · rintro ⟨_, h⟩ x hx
    obtain ⟨p, hp, hx⟩ := List.mem_flatMap.mp hx
    refine (part_ok X ds hs p).alone.mp (fun hc => ?_) x hx
    have hp' := List.mem_range.mp hp
    have := h (endAt X ds p) (List.mem_map.mpr ⟨p, List.mem_filter.mpr ⟨hp, by simpa using hc⟩, ends_getD X ds hp'⟩)
    exact this
  · intro h
    refine ⟨by omega, fun a ha => ?_⟩
    obtain ⟨p, hp, rfl⟩ := List.mem_map.mp ha
    obtain ⟨hp, hc⟩ := List.mem_filter.mp hp
    rw [ends_getD X ds (List.mem_range.mp hp)]
    exact (part_ok X ds hs p).alone.mpr (fun x hx => h x (List.mem_flatMap.mpr ⟨p, hp, hx⟩)) (by simpa using hc)

theorem told_ends (X : List Nat) (ds : List Int) {s : Nat} (hs : s ≤ X.length) (n : Nat) : (decide (firstOf X (endsOf X ds) ((n + 1 : Nat) : Int) ≤ (s : Int)) && decide ((s : Int) < behindOf X (endsOf X ds) ((n + 1 : Nat) : Int))) = true ↔ Ends (n + 1) (nameOf X ds s) := by
  have a1 := from_le X ds hs n
  have a2 := from_rev_le X ds hs n
  have a3 := from_le X ds hs (n + 1)
  have a4 := from_rev_le X ds hs (n + 1)
  have a5 := lone_le X ds hs
  have e : (((n + 1 : Nat) : Int) + 1) = ((n + 1 + 1 : Nat) : Int) := by omega
  unfold firstOf behindOf
  rw [Bool.and_eq_true, decide_eq_true_eq, decide_eq_true_eq, mn_gt, e]
  constructor
  · rintro ⟨h1, h2, h3⟩
    have h4 := h3 _ (.head _)
    have h5 := h3 _ (.tail _ (.head _))
    exact ⟨a1.mp (by omega), a2.mp (by omega), fun q => by have := a3.mpr q; omega, fun q => by have := a4.mpr q; omega, fun q => by have := a5.mpr q; omega⟩
  · rintro ⟨h1, h2, h3, h4, h5⟩
    refine ⟨by have := a1.mpr h1; have := a2.mpr h2; omega, ?_, ?_⟩
    · have := mt a3.mp h3; omega
    · intro a ha
      simp only [List.mem_cons, List.not_mem_nil, or_false] at ha
      rcases ha with rfl | rfl
      · have := mt a4.mp h4; omega
      · have := mt a5.mp h5; omega

theorem bool_iff {a b : Bool} (h : a = true ↔ b = true) : a = b := by cases a <;> cases b <;> simp_all
theorem heads_law (X : List Nat) (ds : List Int) : told0 X ds = due0 X ds := by
  unfold told0 due0 namesOf toldOf
  rw [List.map_map, List.map_map]
  congr 1
  · apply List.map_congr_left
    intro s hs
    have hs : s ≤ X.length := by have := List.mem_range.mp hs; omega
    exact bool_iff (sunder_iff.trans (told_ends X ds hs 0).symm)
  · apply List.map_congr_left
    intro s hs
    have hs : s ≤ X.length := by have := List.mem_range.mp hs; omega
    exact bool_iff (dunder_iff.trans (told_ends X ds hs 1).symm)
end Mine
end

section
open PySem PySem.W PyProof.Rows
set_option maxRecDepth 20000
set_option linter.unusedVariables false
namespace Mine

theorem starts_iff {l p : List Nat} : starts l p = true ↔ p <+: l := by
  unfold starts Txt.startswith
  rw [Bool.and_eq_true, decide_eq_true_eq, StrLaws.subAt_eq]
  simp only [Str.length, List.size_toArray, beq_iff_eq, List.drop_zero]
  constructor
  · rintro ⟨_, h⟩
    rw [← h]; exact List.take_prefix _ _
  · intro h
    refine ⟨by have := h.length_le; omega, ?_⟩
    exact (List.prefix_iff_eq_take.mp h).symm

theorem priv_iff {c l : List Nat} : priv c l = true ↔ c.length + 3 < l.length ∧ (95 :: c ++ [95, 95]) <+: l ∧ ¬ heads 2 l.reverse := by
  unfold priv
  simp only [Bool.and_eq_true, Bool.or_eq_true, decide_eq_true_eq, bne_iff_ne, ne_eq, List.cons.injEq, and_true, starts_iff, Bool.false_eq_true, or_false]
  have hlen : (95 :: c ++ [95, 95]).length = c.length + 3 := by simp
  rw [hlen]
  constructor
  · rintro ⟨h1, h2, h3⟩
    refine ⟨by omega, h2, fun q => ?_⟩
    have := (heads_rev (by omega)).mp q
    have a := this 0 (by omega)
    have b := this 1 (by omega)
    rw [show l.length - 1 - 1 = l.length - 2 by omega] at b
    rcases h3 with h | h
    · exact h a
    · exact h b
  · rintro ⟨h1, h2, h3⟩
    refine ⟨by omega, h2, ?_⟩
    by_cases a : l.getD (l.length - 1) 0 = 95
    · right
      intro b
      apply h3
      apply (heads_rev (by omega)).mpr
      intro i hi
      match i, hi with
      | 0, _ => exact a
      | 1, _ => rw [show l.length - 1 - 1 = l.length - 2 by omega]; exact b
    · exact .inl a

/-- two lists, item by item -/
inductive F2 (R : List Nat → List Nat → Prop) : List (List Nat) → List (List Nat) → Prop
  | nil : F2 R [] []
  | cons {a b : List Nat} {A B : List (List Nat)} : R a b → F2 R A B → F2 R (a :: A) (b :: B)
theorem F2.mono {R R' : List Nat → List Nat → Prop} (w : ∀ a b, R a b → R' a b) {A B : List (List Nat)} (h : F2 R A B) : F2 R' A B := by
  induction h with
  | nil => exact .nil
  | cons h _ ih => exact .cons (w _ _ h) ih
theorem F2.swap {R R' : List Nat → List Nat → Prop} (w : ∀ a b, R a b → R' b a) {A B : List (List Nat)} (h : F2 R A B) : F2 R' B A := by
  induction h with
  | nil => exact .nil
  | cons h _ ih => exact .cons (w _ _ h) ih
theorem F2.take {R : List Nat → List Nat → Prop} {A B : List (List Nat)} (h : F2 R A B) : ∀ j, F2 R (A.take j) (B.take j) := by
  induction h with
  | nil => intro j; rw [List.take_nil]; exact .nil
  | cons h _ ih =>
    intro j
    cases j with
    | zero => exact .nil
    | succ j => exact .cons h (ih j)
theorem F2.of_map {R : List Nat → List Nat → Prop} {f g : Nat → List Nat} : ∀ {l : List Nat}, (∀ p ∈ l, R (f p) (g p)) → F2 R (l.map f) (l.map g)
  | [], _ => .nil
  | p :: l, h => .cons (h p (.head _)) (F2.of_map fun q hq => h q (.tail _ hq))

/-- a sign's part earlier and later -/
inductive Rel : List Nat → List Nat → Prop
  | u : Rel [95] [95]
  | same {l : List Nat} : 95 ∉ l → Rel l l
  | noise {c : Nat} : noisy c = true → c ≠ 95 → Rel [c] []
  | sign {c h : Nat} {t : List Nat} : c ≠ 95 → 95 ∉ h :: t → h ≠ c → noisy c = false → (∀ x ∈ h :: t, noisy x = false) → Rel [c] (h :: t)
def Shape (a b : List Nat) : Prop := (a = [95] ∧ b = [95]) ∨ (95 ∉ a ∧ 95 ∉ b)
theorem Rel.shape : ∀ a b, Rel a b → Shape a b := by
  intro a b h
  cases h with
  | u => exact .inl ⟨rfl, rfl⟩
  | same h => exact .inr ⟨h, h⟩
  | noise _ h => exact .inr ⟨by simpa using fun e => h e.symm, by simp⟩
  | sign h1 h2 => exact .inr ⟨by simpa using fun e => h1 e.symm, h2⟩
theorem Shape.symm : ∀ a b, Shape a b → Shape b a := fun a b h => by
  rcases h with h | h
  · exact .inl ⟨h.2, h.1⟩
  · exact .inr ⟨h.2, h.1⟩

theorem same_of_flat {A B : List (List Nat)} (h : F2 Rel A B) : B.flatten.countP noisy ≤ A.flatten.countP noisy ∧ (A.flatten = B.flatten → A = B) := by
  induction h with
  | nil => exact ⟨Nat.le_refl _, fun _ => rfl⟩
  | @cons a b A B r _ ih =>
    obtain ⟨i1, i2⟩ := ih
    simp only [List.flatten_cons, List.countP_append]
    cases r with
    | u =>
      refine ⟨by omega, fun e => ?_⟩
      rw [i2 (List.append_cancel_left e)]
    | same h =>
      refine ⟨by omega, fun e => ?_⟩
      rw [i2 (List.append_cancel_left e)]
    | @noise c hn hc =>
      have e1 : [c].countP noisy = 1 := by simp [hn]
      rw [e1]
      refine ⟨by simp only [List.countP_nil]; omega, fun e => ?_⟩
      exfalso
      have := congrArg (List.countP noisy) e
      rw [List.countP_append, List.countP_append, e1, List.countP_nil] at this
      omega
    | @sign c x t h1 h2 h3 h4 h5 =>
      have e1 : (x :: t).countP noisy = 0 := List.countP_eq_zero.mpr fun y hy => by rw [h5 y hy]; decide
      rw [e1]
      refine ⟨by omega, fun e => ?_⟩
      exfalso
      simp only [List.cons_append, List.cons.injEq] at e
      exact h3 e.1.symm

theorem strip {P R : List Nat} : ∀ {a : List Nat}, 95 ∉ a → (P ++ [95]) <+: a ++ R → ∃ P', P = a ++ P' ∧ (P' ++ [95]) <+: R
  | [], _, h => ⟨P, rfl, h⟩
  | x :: a, ha, h => by
    cases P with
    | nil =>
      exfalso
      have := (List.cons_prefix_cons.mp h).1
      exact ha (by rw [this]; exact .head _)
    | cons p P =>
      obtain ⟨e, h⟩ := List.cons_prefix_cons.mp h
      obtain ⟨P', e', h'⟩ := strip (P := P) (fun q => ha (.tail _ q)) h
      exact ⟨P', by rw [e, e']; rfl, h'⟩
theorem find95 {A B : List (List Nat)} (h : F2 Shape A B) : ∀ P Q : List Nat, (P ++ [95]) <+: A.flatten → (Q ++ [95]) <+: B.flatten → P.count 95 = Q.count 95 →
    ∃ i, A[i]? = some [95] ∧ B[i]? = some [95] ∧ (A.take i).flatten = P ∧ (B.take i).flatten = Q := by
  induction h with
  | nil => intro P Q h; have := h.length_le; simp at this
  | @cons a b A B r _ ih =>
    intro P Q hP hQ hc
    rw [List.flatten_cons] at hP hQ
    rcases r with ⟨rfl, rfl⟩ | ⟨ha, hb⟩
    · cases P with
      | nil =>
        cases Q with
        | nil => exact ⟨0, rfl, rfl, rfl, rfl⟩
        | cons q Q =>
          have := (List.cons_prefix_cons.mp hQ).1
          subst this
          simp at hc
      | cons p P =>
        obtain ⟨e, hP'⟩ := List.cons_prefix_cons.mp hP
        subst e
        cases Q with
        | nil => simp at hc
        | cons q Q =>
          obtain ⟨e, hQ'⟩ := List.cons_prefix_cons.mp hQ
          subst e
          obtain ⟨i, h1, h2, h3, h4⟩ := ih P Q hP' hQ' (by simpa using hc)
          exact ⟨i + 1, h1, h2, by rw [List.take_succ_cons, List.flatten_cons, h3]; rfl, by rw [List.take_succ_cons, List.flatten_cons, h4]; rfl⟩
    · obtain ⟨P', rfl, hP'⟩ := strip ha hP
      obtain ⟨Q', rfl, hQ'⟩ := strip hb hQ
      rw [List.count_append, List.count_append, List.count_eq_zero.mpr ha, List.count_eq_zero.mpr hb] at hc
      obtain ⟨i, h1, h2, h3, h4⟩ := ih P' Q' hP' hQ' (by omega)
      exact ⟨i + 1, h1, h2, by rw [List.take_succ_cons, List.flatten_cons, h3], by rw [List.take_succ_cons, List.flatten_cons, h4]⟩

/-- parts that show the same head ending in an underscore are alike -/
theorem agree_of_head {A B : List (List Nat)} (h : F2 Rel A B ∨ F2 Rel B A) {Q : List Nat} (hA : (Q ++ [95]) <+: A.flatten) (hB : (Q ++ [95]) <+: B.flatten) {i : Nat} {a b : List Nat} (ha : A[i]? = some a) (hb : B[i]? = some b)
    (hl : (A.take i).flatten.length < Q.length + 1) : a = b := by
  have hs : F2 Shape A B := by
    rcases h with h | h
    · exact h.mono Rel.shape
    · exact h.swap fun a b r => Shape.symm _ _ (r.shape)
  obtain ⟨j, h1, h2, h3, h4⟩ := find95 hs Q Q hA hB rfl
  have ht : A.take j = B.take j := by
    rcases h with h | h
    · exact (same_of_flat (h.take j)).2 (h3.trans h4.symm)
    · exact ((same_of_flat (h.take j)).2 (h4.trans h3.symm)).symm
  rcases Nat.lt_trichotomy i j with q | q | q
  · have e1 : (A.take j)[i]? = A[i]? := List.getElem?_take_of_lt q
    have e2 : (B.take j)[i]? = B[i]? := List.getElem?_take_of_lt q
    rw [← e1, ht, e2, hb] at ha
    exact (Option.some.inj ha).symm
  · subst q
    rw [h1] at ha; rw [h2] at hb
    rw [← Option.some.inj ha, ← Option.some.inj hb]
  · exfalso
    have e1 : A.take i = A.take (j + 1) ++ (A.drop (j + 1)).take (i - (j + 1)) := by
      rw [← List.take_add]; congr 1; omega
    have e2 : A.take (j + 1) = A.take j ++ [[95]] := by rw [List.take_add_one, h1]; rfl
    rw [e1, e2, List.flatten_append, List.flatten_append, h3] at hl
    simp at hl

/-- a head that alike parts show -/
theorem head_of_agree : ∀ {A B : List (List Nat)} {n : Nat}, A.length = B.length → (∀ i a b, A[i]? = some a → B[i]? = some b → (A.take i).flatten.length < n → a = b) → A.flatten.take n <+: B.flatten
  | [], B, n, _, _ => by simp
  | a :: A, [], n, h, _ => by simp at h
  | a :: A, b :: B, n, h, w => by
    cases n with
    | zero => simp
    | succ n =>
      have e : a = b := w 0 a b rfl rfl (by simp)
      subst e
      rw [List.flatten_cons, List.flatten_cons, List.take_append]
      by_cases hn : n + 1 ≤ a.length
      · rw [show n + 1 - a.length = 0 by omega, List.take_zero, List.append_nil]
        exact (List.take_prefix _ _).trans (List.prefix_append _ _)
      · rw [List.take_of_length_le (by omega)]
        refine (List.prefix_append_right_inj _).mpr (head_of_agree (by simpa using h) fun i x y hx hy hl => ?_)
        refine w (i + 1) x y hx hy ?_
        rw [List.take_succ_cons, List.flatten_cons, List.length_append]; omega

theorem both_strip {W A B : List Nat} (hW : ∀ x ∈ W, x = 95) : ∀ {l Q : List Nat}, 95 ∉ l → Q ++ W <+: l ++ A → Q <+: l ++ B → (∃ Q', Q = l ++ Q' ∧ Q' ++ W <+: A ∧ Q' <+: B) ∨ W = []
  | [], Q, _, h1, h2 => .inl ⟨Q, rfl, h1, h2⟩
  | x :: l, Q, hl, h1, h2 => by
    cases Q with
    | nil =>
      cases W with
      | nil => exact .inr rfl
      | cons w W =>
        exfalso
        have := (List.cons_prefix_cons.mp h1).1
        have e := hW w (.head _)
        exact hl (by rw [← this, e]; exact .head _)
    | cons q Q =>
      obtain ⟨e, h1⟩ := List.cons_prefix_cons.mp h1
      obtain ⟨_, h2⟩ := List.cons_prefix_cons.mp h2
      rcases both_strip hW (fun z => hl (.tail _ z)) h1 h2 with ⟨Q', e', h3, h4⟩ | h
      · exact .inl ⟨Q', by rw [e, e']; rfl, h3, h4⟩
      · exact .inr h
/-- underscores behind a head that both show come later, too -/
theorem later_tail {A B : List (List Nat)} (h : F2 Rel A B) : ∀ Q W : List Nat, (∀ x ∈ W, x = 95) → (∀ x ∈ Q, noisy x = false) → Q ++ W <+: A.flatten → Q <+: B.flatten → Q ++ W <+: B.flatten := by
  induction h with
  | nil => intro Q W _ _ h _; exact h
  | @cons a b A B r _ ih =>
    intro Q W hW hQ h1 h2
    by_cases hw0 : W = []
    · rw [hw0, List.append_nil]; exact h2
    obtain ⟨w, W', rfl⟩ := List.exists_cons_of_ne_nil hw0
    have ew := hW w (.head _)
    subst ew
    rw [List.flatten_cons] at h1 h2 ⊢
    cases r with
    | u =>
      cases Q with
      | nil =>
        have h1' := (List.cons_prefix_cons.mp h1).2
        exact List.cons_prefix_cons.mpr ⟨rfl, ih [] W' (fun x hx => hW x (.tail _ hx)) (by simp) h1' (List.nil_prefix)⟩
      | cons q Q =>
        obtain ⟨e, h1⟩ := List.cons_prefix_cons.mp h1
        obtain ⟨_, h2⟩ := List.cons_prefix_cons.mp h2
        exact List.cons_prefix_cons.mpr ⟨e, ih Q _ hW (fun x hx => hQ x (.tail _ hx)) h1 h2⟩
    | same hl =>
      rcases both_strip hW hl h1 h2 with ⟨Q', rfl, h3, h4⟩ | h
      · rw [List.append_assoc]
        exact (List.prefix_append_right_inj _).mpr (ih Q' _ hW (fun x hx => hQ x (List.mem_append_right _ hx)) h3 h4)
      · cases h
    | @noise c hn hc =>
      exfalso
      cases Q with
      | nil => exact hc (List.cons_prefix_cons.mp h1).1.symm
      | cons q Q =>
        have := (List.cons_prefix_cons.mp h1).1
        have h := hQ q (.head _)
        rw [this, hn] at h; cases h
    | @sign c x t g1 g2 g3 g4 g5 =>
      exfalso
      cases Q with
      | nil => exact g1 (List.cons_prefix_cons.mp h1).1.symm
      | cons q Q =>
        have e1 := (List.cons_prefix_cons.mp h1).1
        have e2 := (List.cons_prefix_cons.mp h2).1
        exact g3 (e2.symm.trans e1)
end Mine
end

section
open PySem PySem.W PyProof.Rows
set_option maxRecDepth 20000
set_option linter.unusedVariables false
namespace Mine

theorem parts_eq (X : List Nat) (ds : List Int) (s : Nat) : partsOf X ds s = (List.range X.length).map (partAt X ds s) := rfl
theorem rel_parts (X : List Nat) (ds : List Int) {s a : Nat} (h : s ≤ a) (p : Nat) : Rel (partAt X ds s p) (partAt X ds a p) := by
  unfold partAt
  generalize X.getD p 0 = c
  generalize ds.getD p default = d
  by_cases h95 : c = 95
  · subst h95
    rw [t_95]
    split <;> split <;> exact .u
  · have n95 : 95 ∉ [c] := by simpa using fun e => h95 e.symm
    have hdn : 95 ∉ dn c := by
      cases hn : noisy c with
      | true => rw [dn_noisy hn]; simp
      | false => exact (folded_dn hn).2.1 h95
    by_cases h1 : d ≤ (s : Int)
    · rw [if_pos h1, if_pos (by omega)]; exact .same hdn
    · rw [if_neg h1]
      by_cases h2 : d ≤ (a : Int)
      · rw [if_pos h2]
        cases hn : noisy c with
        | true => rw [dn_noisy hn]; exact .noise hn h95
        | false =>
          have f := folded_dn hn
          rcases f.2.2.2.1 with e | ⟨x, t, e, hx⟩
          · rw [e]; exact .same n95
          · have f2 := f.2.1 h95
            have f3 := f.2.2.1
            rw [e] at f2 f3 ⊢
            exact .sign h95 f2 hx hn f3
      · rw [if_neg h2]; exact .same n95
theorem f2_parts (X : List Nat) (ds : List Int) {s a : Nat} (h : s ≤ a) : F2 Rel (partsOf X ds s) (partsOf X ds a) := F2.of_map fun p _ => rel_parts X ds h p
theorem f2_any (X : List Nat) (ds : List Int) (a s : Nat) : F2 Rel (partsOf X ds a) (partsOf X ds s) ∨ F2 Rel (partsOf X ds s) (partsOf X ds a) := by
  rcases Nat.le_total a s with h | h
  · exact .inl (f2_parts X ds h)
  · exact .inr (f2_parts X ds h)
theorem parts_get (X : List Nat) (ds : List Int) (s : Nat) {p : Nat} (hp : p < X.length) : (partsOf X ds s)[p]? = some (partAt X ds s p) := by
  rw [parts_eq, List.getElem?_map, List.getElem?_range hp]; rfl

/-- at the last stage no sign of B.1 is left -/
theorem last_quiet {X : List Nat} {ds : List Int} (hd : ds.length = X.length) (hle : ∀ d ∈ ds, d ≤ X.length) : ∀ x ∈ nameOf X ds X.length, noisy x = false := by
  intro x hx
  rw [name_flat] at hx
  obtain ⟨p, hp, hx⟩ := List.mem_flatMap.mp hx
  have hp := List.mem_range.mp hp
  have hm : ds.getD p default ≤ (X.length : Int) := by
    rw [List.getD_eq_getElem?_getD, List.getElem?_eq_getElem (show p < ds.length by omega)]
    exact hle _ (List.getElem_mem _)
  unfold partAt at hx
  rw [if_pos hm] at hx
  cases hn : noisy (X.getD p 0) with
  | true => rw [dn_noisy hn] at hx; cases hx
  | false => exact (folded_dn hn).2.2.1 x hx

theorem cut_1z {l : List Nat} {z : Nat} (h1 : 1 ≤ z) (h2 : z ≤ l.length) : cut l (some 1) (some (z : Int)) = (l.drop 1).take (z - 1) := by
  show (l.drop (clipAt l.length ((1 : Nat) : Int))).take (clipAt l.length (z : Int) - clipAt l.length ((1 : Nat) : Int)) = _
  rw [clip_nat (by omega) (by omega), clip_nat (by omega) (by omega)]; simp
theorem cut_z2 {l : List Nat} {z : Nat} (h2 : z ≤ l.length) : cut l (some (z : Int)) (some ((z : Int) + 2)) = (l.drop z).take 2 := by
  by_cases h : z + 2 ≤ l.length
  · show (l.drop (clipAt l.length (z : Int))).take (clipAt l.length ((z : Int) + 2) - clipAt l.length (z : Int)) = _
    rw [clip_nat (by omega) (by omega), clip_nat (by omega) (by omega)]
    congr 1; omega
  · have e : clipAt l.length ((z : Int) + 2) = l.length := by unfold clipAt; have : ¬ ((z : Int) + 2 < 0) := by omega
                                                              simp [this]; omega
    show (l.drop (clipAt l.length (z : Int))).take (clipAt l.length ((z : Int) + 2) - clipAt l.length (z : Int)) = _
    rw [e, clip_nat (by omega) (by omega)]
    simp only [Int.toNat_natCast]
    rw [List.take_of_length_le (by simp), List.take_of_length_le (by simp; omega)]
/-- the owner's own head -/
theorem owner_head {l : List Nat} {z : Nat} (h1 : 1 ≤ z) (h2 : z ≤ l.length) (h0 : l.getD 0 0 = 95) : 95 :: cut l (some 1) (some (z : Int)) = l.take z := by
  rw [cut_1z h1 h2]
  match l, h0, z, h1 with
  | x :: l, h0, z + 1, _ =>
    have : x = 95 := h0
    subst this
    simp
  | [], _, z, h1 => simp at h2; omega

def Agree (X : List Nat) (ds : List Int) (a z s : Nat) : Prop := ∀ p, p < X.length → aheadOf X ds a p < z + 2 → partAt X ds a p = partAt X ds s p

theorem agree_turns {X : List Nat} {ds : List Int} {a z s : Nat} : Agree X ds a z s ↔ (∀ d ∈ turnsOf X ds a z, (d ≤ (a : Int) → d ≤ (s : Int)) ∧ ((a : Int) < d → (s : Int) < d)) := by
  constructor
  · intro h d hd
    unfold turnsOf changedOf at hd
    obtain ⟨p, hp, rfl⟩ := List.mem_map.mp hd
    obtain ⟨hp, ha⟩ := List.mem_filter.mp hp
    obtain ⟨hp, hc⟩ := List.mem_filter.mp hp
    have ha := of_decide_eq_true ha
    have hc : [X.getD p 0] ≠ dn (X.getD p 0) := by simpa using hc
    have := h p (List.mem_range.mp hp) (by omega)
    unfold partAt at this
    constructor
    · intro q
      rw [if_pos q] at this
      by_cases r : ds.getD p default ≤ (s : Int)
      · exact r
      · rw [if_neg r] at this; exact absurd this.symm hc
    · intro q
      rw [if_neg (by omega)] at this
      by_cases r : ds.getD p default ≤ (s : Int)
      · rw [if_pos r] at this; exact absurd this hc
      · omega
  · intro h p hp ha
    by_cases hc : [X.getD p 0] = dn (X.getD p 0)
    · unfold partAt; rw [← hc]; split <;> split <;> rfl
    · have := h (ds.getD p default) (List.mem_map.mpr ⟨p, List.mem_filter.mpr ⟨List.mem_filter.mpr ⟨List.mem_range.mpr hp, by simpa using hc⟩, decide_eq_true (by omega)⟩, rfl⟩)
      unfold partAt
      by_cases q : ds.getD p default ≤ (a : Int)
      · rw [if_pos q, if_pos (this.1 q)]
      · rw [if_neg q, if_neg (by have := this.2 (by omega); omega)]

theorem blk_law (X : List Nat) (ds : List Int) (hd : ds.length = X.length) (hle : ∀ d ∈ ds, d ≤ X.length) {a z : Nat} (ha : a ≤ X.length) (hz : 1 ≤ z) (hzl : z ≤ (nameOf X ds a).length) (hc : condOf X ds a z = true) : blkT X ds a z = blkD X ds a z := by
  unfold blkT blkD namesOf
  rw [List.map_map]
  apply List.map_congr_left
  intro s hs
  have hs : s ≤ X.length := by have := List.mem_range.mp hs; omega
  show priv (cut (nameOf X ds a) (some 1) (some (z : Int))) (nameOf X ds s) = _
  apply bool_iff
  rw [priv_iff]
  have hb := from_rev_le X ds hs 1
  have hbh : (s : Int) < behindP X ds ↔ ¬ heads 2 (nameOf X ds s).reverse := by
    unfold behindP
    rw [← hb]
    show _ ↔ ¬ (lawFrom X.reverse (endsOf X ds).reverse 2 ≤ (s : Int))
    omega
  have hcl : (cut (nameOf X ds a) (some 1) (some (z : Int))).length = z - 1 := by rw [cut_1z hz hzl]; simp; omega
  have hcz := cut_z2 hzl
  rw [hcl]
  cases hf : fitsOf X ds a z with
  | true =>
    have hf' := hf
    unfold fitsOf at hf'
    rw [Bool.and_eq_true, hcz] at hf'
    obtain ⟨f1, f2⟩ := hf'
    have f1 : (nameOf X ds a).getD 0 0 = 95 := by simpa using f1
    have f2 : ((nameOf X ds a).drop z).take 2 = [95, 95] := by simpa using f2
    have hlen : z + 2 ≤ (nameOf X ds a).length := by
      have := congrArg List.length f2
      simp at this; omega
    have hpat : 95 :: cut (nameOf X ds a) (some 1) (some (z : Int)) ++ [95, 95] = (nameOf X ds a).take (z + 2) := by
      rw [owner_head hz hzl f1, List.take_add, f2]
    rw [hpat]
    have hP : (nameOf X ds a).take (z + 2) = ((nameOf X ds a).take z ++ [95]) ++ [95] := by rw [List.take_add, f2]; simp
    have hag : (nameOf X ds a).take (z + 2) <+: nameOf X ds s ↔ Agree X ds a z s := by
      constructor
      · intro h p hp hl
        refine agree_of_head (A := partsOf X ds a) (B := partsOf X ds s) (f2_any X ds a s) (Q := (nameOf X ds a).take z ++ [95]) ?_ ?_ (parts_get X ds a hp) (parts_get X ds s hp) ?_
        · rw [← hP]; exact List.take_prefix _ _
        · rw [← hP]; exact h
        · have : ((nameOf X ds a).take z ++ [95]).length = z + 1 := by simp; omega
          rw [this]; exact hl
      · intro h
        refine head_of_agree (A := partsOf X ds a) (B := partsOf X ds s) (by rw [parts_len, parts_len]) fun i x y hx hy hl => ?_
        have hi : i < X.length := by
          have := (List.getElem?_eq_some_iff.mp hx).1
          rwa [parts_len] at this
        rw [parts_get X ds a hi] at hx
        rw [parts_get X ds s hi] at hy
        rw [← Option.some.inj hx, ← Option.some.inj hy]
        exact h i hi hl
    rw [hag, agree_turns, Bool.true_and, Bool.and_eq_true, decide_eq_true_eq, decide_eq_true_eq]
    unfold firstP lastP
    rw [mx_le, mn_gt, hbh]
    constructor
    · rintro ⟨h1, h2, h3⟩
      refine ⟨⟨by omega, fun d hd => ?_⟩, h3, fun d hd => ?_⟩
      · obtain ⟨hd, q⟩ := List.mem_filter.mp hd
        exact (h2 d hd).1 (of_decide_eq_true q)
      · obtain ⟨hd, q⟩ := List.mem_filter.mp hd
        exact (h2 d hd).2 (of_decide_eq_true q)
    · rintro ⟨⟨_, h1⟩, h3, h2⟩
      have h2' : ∀ d ∈ turnsOf X ds a z, (d ≤ (a : Int) → d ≤ (s : Int)) ∧ ((a : Int) < d → (s : Int) < d) := fun d hd => ⟨fun q => h1 d (List.mem_filter.mpr ⟨hd, decide_eq_true q⟩), fun q => h2 d (List.mem_filter.mpr ⟨hd, decide_eq_true q⟩)⟩
      refine ⟨?_, h2', h3⟩
      have hpre := hag.mpr (agree_turns.mpr h2')
      apply Nat.lt_of_le_of_ne
      · have := hpre.length_le
        rw [List.length_take] at this; omega
      · intro q
        apply h3
        have e : (nameOf X ds a).take (z + 2) = nameOf X ds s := hpre.eq_of_length (by rw [List.length_take]; omega)
        rw [← e, hP]
        intro i hi
        match i, hi with
        | 0, _ => simp
        | 1, _ => simp
  | false =>
    rw [Bool.false_and]
    constructor
    · rintro ⟨h1, h2, h3⟩
      exfalso
      unfold condOf at hc
      rw [hf, Bool.false_or] at hc
      have ea : a = X.length := by have : (a : Int) = X.length := by simpa using hc
                                   omega
      subst ea
      have hq := last_quiet hd hle
      have hrel := f2_parts X ds hs
      have hname : ∀ s, nameOf X ds s = (partsOf X ds s).flatten := fun _ => rfl
      have h0 : (nameOf X ds X.length).getD 0 0 = 95 := by
        have : [] ++ [95] <+: (partsOf X ds X.length).flatten := later_tail hrel [] [95] (by simp) (by simp) (List.IsPrefix.trans (by simp) h2) List.nil_prefix
        rw [← hname] at this
        obtain ⟨r, hr⟩ := this
        rw [← hr]; rfl
      rw [owner_head hz hzl h0] at h2
      have h4 : (nameOf X ds X.length).take z ++ [95, 95] <+: (partsOf X ds X.length).flatten := later_tail hrel _ [95, 95] (by simp) (fun x hx => hq x (List.mem_of_mem_take hx)) h2 (List.take_prefix _ _)
      rw [← hname] at h4
      obtain ⟨r, hr⟩ := h4
      have e : ((nameOf X ds X.length).drop z).take 2 = [95, 95] := by
        have : (nameOf X ds X.length).drop z = [95, 95] ++ r := by
          conv => lhs; rw [← hr]
          rw [List.append_assoc, List.drop_append_of_le_length (by simp; omega)]
          simp
        rw [this]; rfl
      unfold fitsOf at hf
      rw [hcz, e, h0] at hf
      simp at hf
    · intro h; cases h

theorem lawful (X : List Nat) (ds : List Int) (hd : ds.length = X.length) (hle : ∀ d ∈ ds, d ≤ X.length) : Lawful X ds := ⟨heads_law X ds, fun a z ha hz hzl hc => blk_law X ds hd hle ha hz hzl hc⟩
theorem lawful_of (l : List Int) : Lawful (Xof l) (daysOf (Lof l)) := by
  have hX : (Xof l).length = l.length := by simp [Xof]
  have hL : (Lof l).length = l.length := by simp [Lof]
  have hD := days_len (Lof l)
  refine lawful _ _ (by omega) fun d hd => ?_
  have := (days_mem hd).2; rw [hL] at this; rw [hX]; exact this
end Mine
end

section
open PySem PySem.W PyProof.Rows
set_option maxRecDepth 20000
set_option linter.unusedVariables false
namespace Mine

section
variable {den : Code → Sem Fin} {prog : Program} {w : World}
theorem calm_run : ∀ {n : Nat} {s : Shared} {t : Thread} {s' : Shared} {t' : Thread}, runNI den prog w n s t = .running s' t' → ∀ k, k < n → ∀ s₁ t₁, runNI den prog w k s t = .running s₁ t₁ → t₁.calm = true
  | 0, _, _, _, _, _, k, hk, _, _, _ => absurd hk (Nat.not_lt_zero _)
  | n + 1, s, t, s', t', h, k, hk, s₁, t₁, hr => by
    simp only [runNI] at h
    cases hs : stepI den prog w s t with
    | halt o s₂ => rw [hs] at h; cases h
    | go s₂ t₂ =>
      rw [hs] at h
      cases k with
      | zero =>
        have e : Run.running s t = .running s₁ t₁ := hr
        injection e with _ e2
        subst e2
        rw [Thread.calm_eq]
        have hl : t.loud = false := by
          cases hl : t.loud with
          | false => rfl
          | true => rw [stepI_loud _ _ _ hl] at hs; cases hs
        have hf : t.refused = false := by
          cases hf : t.refused with
          | false => rfl
          | true =>
            obtain ⟨what, e⟩ := stepK_refused (den := den) (prog := prog) (w := w) (s := s) hf
            rw [stepI_quiet _ _ _ hl, e] at hs; cases hs
        rw [hl, hf]; rfl
      | succ k =>
        simp only [runNI, hs] at hr
        exact calm_run h k (by omega) s₁ t₁ hr
theorem runN_go : ∀ {n k : Nat} {s : Shared} {t : Thread} {s' : Shared} {t' : Thread}, runN den prog w n s t = .running s' t' → k < n → ∀ s₁ t₁, runN den prog w k s t = .running s₁ t₁ → ∃ s₂ t₂, step den prog w s₁ t₁ = .go s₂ t₂
  | 0, k, _, _, _, _, _, hk, _, _, _ => absurd hk (Nat.not_lt_zero _)
  | n + 1, k, s, t, s', t', h, hk, s₁, t₁, hr => by
    simp only [runN] at h
    cases hs : step den prog w s t with
    | halt o s₂ => rw [hs] at h; cases h
    | go s₂ t₂ =>
      rw [hs] at h
      cases k with
      | zero =>
        have e : Run.running s t = .running s₁ t₁ := hr
        injection e with e1 e2
        subst e1 e2
        exact ⟨_, _, hs⟩
      | succ k =>
        simp only [runN, hs] at hr
        exact runN_go h (by omega) s₁ t₁ hr
theorem runN_lives : ∀ {n : Nat} {s : Shared} {t : Thread} {s' : Shared} {t' : Thread}, runN den prog w n s t = .running s' t' → s'.heap.life = s.heap.life
  | 0, s, t, s', t', h => by
    have e : Run.running s t = .running s' t' := h
    injection e with e1 _
    rw [e1]
  | n + 1, s, t, s', t', h => by
    simp only [runN] at h
    cases hs : step den prog w s t with
    | halt o s₂ => rw [hs] at h; cases h
    | go s₂ t₂ => rw [hs] at h; exact (runN_lives h).trans (step_life den prog w s s₂ t t₂ hs)
end

theorem top_ran {p : Program} {w : World} {s₀ : Shared} (z : s₀.asleep) {P : Heap → Prop}
    (h : wpAny (model p w) callerA (topStub p).cur (fun fin s' => fin = .done (.ret .none) ∧ s'.gens = #[] ∧ s'.os = s₀.os ∧ P s'.heap) (fun _ _ => False) s₀) :
    ∃ s₁, P s₁.heap ∧ s₁.gens = #[] ∧ s₁.heap.life = s₀.heap.life ∧ s₁.os = s₀.os ∧ s₁.asleep ∧ ∃ n t, schedN (denote table) p w n (.single s₀ (topStub p)) = .running (.single s₁ t) ∧ through t = true := by
  obtain ⟨s', p', leaf, ⟨n, hn⟩, hl⟩ := wp_comes (Ctx.fits_of (.builtin "claim.caller" {}) []) (topStub p).cur _ _ default s₀ (h _ default caller_in)
  have hn' : runNI (denote table) p w n s₀ (topStub p) = .running s' ⟨leaf, .builtin "claim.caller" {}, p', []⟩ := hn
  rcases hl with ⟨a, rfl, rfl, hg, ho, hP⟩ | ⟨_, _, hf⟩
  · obtain ⟨σ, tau, hr, hσ, htau⟩ := runNI_running_real hn'
    obtain rfl := Shared.eq_of_forget_eq hσ hg
    obtain ⟨cur, code, pos, stack⟩ := tau
    simp only [Thread.forget, Thread.mk.injEq, forgetAll] at htau
    obtain ⟨e2, e3, e4, e5⟩ := htau
    have hst : stack = [] := by cases stack with | nil => rfl | cons x xs => simp at e5
    subst hst e2 e3 e4
    have hlife := runN_lives hr
    refine ⟨_, hP, hg, hlife, ho, Shared.asleep_of_life hlife z, n, ⟨.pure (.done (.ret .none)), .builtin "claim.caller" {}, pos, []⟩, ?_, rfl⟩
    · rw [schedN_prefix (denote table) p w n s₀ (topStub p) z fun k s₁ t₁ hk hrk => ?_, hr]
      · rfl
      · obtain ⟨s₂, t₂, hgo⟩ := runN_go hr hk s₁ t₁ hrk
        refine ⟨?_, fun q => by rw [hgo] at q; cases q⟩
        obtain ⟨s₃, t₃, h₃⟩ := runNI_prefix (Nat.le_of_lt hk) hn'
        obtain ⟨σ₂, tau₂, hr₂, _, ht₂⟩ := runNI_running_real h₃
        rw [hrk] at hr₂
        injection hr₂ with _ e
        subst e
        rw [← Thread.calm_forget, ht₂, Thread.calm_forget]
        exact calm_run hn' k hk s₃ t₃ h₃
  · exact hf.elim
end Mine
end

section
open PySem PySem.W PyProof.Rows
set_option maxRecDepth 20000
set_option linter.unusedVariables false
namespace Mine

theorem boot_pw (w : World) : (∃ s, AfterRun (opening pw) w s) ∧ ∀ s, AfterRun (opening pw) w s → s.gens = #[] ∧ ∃ mb mg c Pl, BootLeft9 (opening pw) s.heap mb mg c Pl := by
  refine AfterImport.of_body9 (prog := opening pw) (w := w) (P := fun s => s.gens = #[] ∧ ∃ mb mg c Pl, BootLeft9 (opening pw) s.heap mb mg c Pl) (out := #[]) fun hp tk mb mg c Pl F hB => ?_
  rw [show (opening pw).main.body = [] from rfl]
  refine codeAny_body rfl rfl (wpAny_mono (E := fun _ _ => False) (wpAny_execs_nil ?_) (fun _ _ x => x) fun _ _ x => x.elim)
  exact ⟨⟨_, rfl⟩, .of hB.toBootLeft (fun b o _ _ e => e) hB.g, ⟨rfl, mb, mg, c, Pl, hB⟩, rfl⟩
theorem fence_pw (s : Shared) : fenceModules? pw s = some s := rfl
theorem bare_pw : pw.bare := ⟨rfl, rfl, rfl, rfl, rfl, by decide +kernel⟩

def Grow (Pl : Addr) (h h' : Heap) : Prop := ∀ b o, b ≠ Pl → b ≠ mainGlobals → h.get? b = some o → h'.get? b = some o
theorem Grow.of_le {Pl : Addr} {h h' : Heap} (l : Le h h') : Grow Pl h h' := fun b o _ _ e => l b o e
theorem Grow.trans {Pl : Addr} {h h' h'' : Heap} (x : Grow Pl h h') (y : Grow Pl h' h'') : Grow Pl h h'' := fun b o h1 h2 e => y b o h1 h2 (x b o h1 h2 e)

def HasH (h : Heap) (mg : Str → Option Value) (Pl : Addr) (name : Str) (i : Nat) : Prop :=
  ∃ a o pm c', mg name = some (.ref a) ∧ a ≠ Pl ∧ a ≠ mainGlobals ∧ h.get? a = some o ∧ o.data = .func (Calls.docDef name (fpar i) (fbody i) (fscope i) pm (.ref c') .none) ∧ c' ≠ Pl ∧ c' ≠ mainGlobals ∧ h.CodeRec (.ref c') name
theorem HasH.step {h h' : Heap} {mg mg' : Str → Option Value} {Pl : Addr} {name : Str} {i : Nat} (x : HasH h mg Pl name i) (g : Grow Pl h h') (e : mg' name = mg name) : HasH h' mg' Pl name i := by
  obtain ⟨a, o, pm, c', h1, h2, h3, h4, h5, h6, h7, h8⟩ := x
  exact ⟨a, o, pm, c', e.trans h1, h2, h3, g a o h2 h3 h4, h5, h6, h7, h8.at fun o e => g c' o h6 h7 e⟩
/-- an object that a name stands for -/
def At (P : Heap → Addr → Prop) (h : Heap) (mg : Str → Option Value) (Pl : Addr) (x : Str) : Prop := ∃ a, mg x = some (.ref a) ∧ a ≠ Pl ∧ a ≠ mainGlobals ∧ P h a
def Stays (P : Heap → Addr → Prop) : Prop := ∀ h h' a, P h a → (∀ o, h.get? a = some o → h'.get? a = some o) → P h' a
theorem At.step {P : Heap → Addr → Prop} (st : Stays P) {h h' : Heap} {mg mg' : Str → Option Value} {Pl : Addr} {x : Str} (y : At P h mg Pl x) (g : Grow Pl h h') (e : mg' x = mg x) : At P h' mg' Pl x := by
  obtain ⟨a, h1, h2, h3, h4⟩ := y
  exact ⟨a, e.trans h1, h2, h3, st h h' a h4 fun o e => g a o h2 h3 e⟩

/-- the top, on its way -/
structure Got (h₀ : Heap) (mg₀ : Str → Option Value) (P1 P3 : Heap → Addr → Prop) (c Pl : Addr) (h : Heap) (mg : Str → Option Value) (ps : Array Value) (L : List (Str × Nat)) (N : List Str) (B1 B3 : Bool) : Prop where
  main : h.Main mg c Pl ps
  high : h₀.objs.size ≤ Pl
  keep : ∀ b o, b ≠ mainGlobals → h₀.get? b = some o → h.get? b = some o
  defs : ∀ q ∈ L, HasH h mg Pl q.1 q.2
  b1 : B1 = true → At P1 h mg Pl "b1_set"
  b3 : B3 = true → At P3 h mg Pl "b3_exceptions"
  other : ∀ x, x ∉ N → mg x = mg₀ x

theorem Got.le {h₀ : Heap} {mg₀ : Str → Option Value} {P1 P3 : Heap → Addr → Prop} {c Pl : Addr} {h h' : Heap} {mg : Str → Option Value} {ps : Array Value} {L : List (Str × Nat)} {N : List Str} {B1 B3 : Bool} (s1 : Stays P1) (s3 : Stays P3)
    (G : Got h₀ mg₀ P1 P3 c Pl h mg ps L N B1 B3) (l : Le h h') : Got h₀ mg₀ P1 P3 c Pl h' mg ps L N B1 B3 := by
  obtain ⟨bm, o, h1, h2, h3, h4, h5, h6⟩ := G.main.bmod
  exact ⟨⟨G.main.g.keeps l, G.main.code.keeps l, G.main.low, ⟨bm, o, h1, h2, h3, h4, l _ _ h5, h6⟩⟩, G.high, fun b o hb e => l b o (G.keep b o hb e), fun q hq => (G.defs q hq).step (.of_le l) rfl, fun b => (G.b1 b).step s1 (.of_le l) rfl, fun b => (G.b3 b).step s3 (.of_le l) rfl, G.other⟩

/-- a name takes a value -/
theorem Got.store {h₀ : Heap} {mg₀ : Str → Option Value} {P1 P3 : Heap → Addr → Prop} {c Pl : Addr} {h h' : Heap} {mg : Str → Option Value} {ps : Array Value} {L : List (Str × Nat)} {N : List Str} {B1 B3 : Bool} {x : Str} {v : Value} (s1 : Stays P1) (s3 : Stays P3)
    (G : Got h₀ mg₀ P1 P3 c Pl h mg ps L N B1 B3) (hg : h'.Ns mainGlobals fun y => if y = x then some v else mg y) (hs : Heap.SameBut mainGlobals h h') (hL : ∀ q ∈ L, q.1 ≠ x) (h1 : B1 = true → x ≠ "b1_set") (h3 : B3 = true → x ≠ "b3_exceptions") (hb : x ≠ "__builtins__") :
    Got h₀ mg₀ P1 P3 c Pl h' (fun y => if y = x then some v else mg y) ps L (x :: N) B1 B3 := by
  have g : Grow Pl h h' := fun b o _ hb e => (hs.2 b hb).trans e
  obtain ⟨bm, o, k1, k2, k3, k4, k5, k6⟩ := G.main.bmod
  refine ⟨⟨hg, G.main.code.sameBut hs (Nat.ne_of_gt G.main.low.1) (Nat.ne_of_gt G.main.low.2), G.main.low, ⟨bm, o, by simp only [Ne.symm hb, if_false]; exact k1, k2, k3, k4, (hs.2 _ k3).trans k5, k6⟩⟩, G.high, fun b o hb e => (hs.2 b hb).trans (G.keep b o hb e),
    fun q hq => (G.defs q hq).step g (if_neg (hL q hq)), fun b => (G.b1 b).step s1 g (if_neg (Ne.symm (h1 b))), fun b => (G.b3 b).step s3 g (if_neg (Ne.symm (h3 b))), fun y hy => ?_⟩
  rw [List.mem_cons, not_or] at hy
  exact (if_neg hy.1).trans (G.other y hy.2)

section
variable {w : World} {A : Around} {E : Value → Shared → Prop} {s : Shared} {h₀ : Heap} {mg₀ : Str → Option Value} {P1 P3 : Heap → Addr → Prop} {c Pl F : Addr} {mg : Str → Option Value} {ps : Array Value} {L : List (Str × Nat)} {N : List Str} {B1 B3 : Bool}

theorem top_def (s1 : Stays P1) (s3 : Stays P3) (G : Got h₀ mg₀ P1 P3 c Pl s.heap mg ps L N B1 B3) {i : Nat} {name : Str} {pos : Pos} {Q : Flow → Shared → Prop}
    (hexec : PlainDefTree name (fpar i) (fbody i) (fscope i) pos) (hfree : ∀ x ∈ (fscope i).names, x.2 ≠ .free) (hdoc : docOf (fbody i) = none) (hloc : pw.main.scope.names.lookup name = some .local)
    (hq : qualnameIn { scope := pw.main.scope, locals := mainGlobals, globals := mainGlobals, cells := [] } name name = name) (hL : ∀ q ∈ L, q.1 ≠ name) (h1 : B1 = true → name ≠ "b1_set") (h3 : B3 = true → name ≠ "b3_exceptions") (hnb : name ≠ "__builtins__")
    (hnf : codeAmong pos ps.toList = none)
    (K : ∀ c' h' tk mg', Got h₀ mg₀ P1 P3 c Pl h' mg' (ps ++ #[rawInt pos.line, rawInt pos.col, .ref c']) ((name, i) :: L) (name :: N) B1 B3 → Q .next { s with heap := h', toks := tk }) :
    wpAny (model pw w) A (exec (.FunctionDef name (fpar i) (fbody i) [] none [] (fscope i) none name pos) (mainEnv pw c F)) Q E s := by
  refine wpAny_plainDef (prog := pw) hexec hfree hdoc hloc hq G.main (fun a c' h' tk ha hm ho hc hk => ?_) hnb rfl hnf
  have g : Grow Pl s.heap h' := fun b o h1 h2 e => hk b o h1 h2 e
  have lowP : Pl < s.heap.objs.size := by
    obtain ⟨_, _, _, _, _, _, _, _, _, op, _, _, _, _, _, _, _, hp, _⟩ := G.main.code
    exact Heap.lt_size hp
  have lowG : mainGlobals < s.heap.objs.size := Nat.lt_trans G.main.low.2 lowP
  refine K c' h' tk _ ⟨hm, G.high, fun b o hb e => hk b o (Nat.ne_of_lt (Nat.lt_of_lt_of_le (Heap.lt_size e) G.high)) hb (G.keep b o hb e), fun q hq => ?_, fun b => (G.b1 b).step s1 g (if_neg (Ne.symm (h1 b))), fun b => (G.b3 b).step s3 g (if_neg (Ne.symm (h3 b))), fun y hy => ?_⟩
  · rcases List.mem_cons.mp hq with rfl | hq
    · exact ⟨a, _, _, c', if_pos rfl, Nat.ne_of_gt (Nat.lt_of_lt_of_le lowP ha), Nat.ne_of_gt (Nat.lt_of_lt_of_le lowG ha), ho, rfl, Nat.ne_of_gt (Nat.lt_of_lt_of_le lowP hc.1), Nat.ne_of_gt (Nat.lt_of_lt_of_le lowG hc.1), hc.2⟩
    · exact (G.defs q hq).step g (if_neg (hL q hq))
  · rw [List.mem_cons, not_or] at hy
    exact (if_neg hy.1).trans (G.other y hy.2)

theorem top_name (s1 : Stays P1) (s3 : Stays P3) (G : Got h₀ mg₀ P1 P3 c Pl s.heap mg ps L N B1 B3) {x : Str} {p q r : Pos} {z : Nat} {v : Str} {Q : Flow → Shared → Prop} (hloc : pw.main.scope.names.lookup x = some .local) (hL : ∀ q ∈ L, q.1 ≠ x) (h1 : B1 = true → x ≠ "b1_set") (h3 : B3 = true → x ≠ "b3_exceptions") (hb : x ≠ "__builtins__")
    (K : ∀ h' tk mg', Got h₀ mg₀ P1 P3 c Pl h' mg' ps L (x :: N) B1 B3 → Q .next { s with heap := h', toks := tk }) :
    wpAny (model pw w) A (exec (.Assign [.Name x p] (.Constant (.str v) z q) r) (mainEnv pw c F)) Q E s := by
  exact wpAny_Assign_Name (show wpAny _ _ (eval (.Constant (.str v) z q) _) _ _ _ from fun _ _ _ => wpAny_storeName_local (env := mainEnv pw c F) (Q := fun _ => Q .next) hloc G.main.g (fun h' hg hs => K h' _ _ (G.store s1 s3 hg hs hL h1 h3 hb)) rfl) (by rfl)
end
end Mine
end

section
open PySem PySem.W PyProof.Rows
set_option maxRecDepth 20000
set_option linter.unusedVariables false
namespace Mine

def P1 (w : World) (h : Heap) (a : Addr) : Prop := ∃ n, h.SetOf (intKind pw w) a (fun i => noiseI.contains i) n
theorem stays1 (w : World) : Stays (P1 w) := fun h h' a ⟨n, o, es, ep, t, ho, r⟩ k => ⟨n, o, es, ep, t, k o ho, r⟩

inductive IntsE : List Expr → List Int → Prop
  | nil : IntsE [] []
  | cons {i : Int} {n : Nat} {p : Pos} {es : List Expr} {ls : List Int} : IntsE es ls → IntsE (.Constant (.int i) n p :: es) (i :: ls)
theorem ints_run {M : Model} {A : Around} {E : Value → Shared → Prop} {env : Env} {pos : Pos} {W : Addr → Prop} {es : List Expr} {ls : List Int} (h : IntsE es ls) : ∀ {s : Shared} {Q : List Value → Shared → Prop},
    (∀ vs tk, Reps W s.heap vs (dI ls) → Q vs { s with toks := tk }) → wpAny M A (spliced (backTo pos (starEach es env))) Q E s := by
  induction h with
  | nil => intro s Q K; exact args_nil (K [] s.toks .nil)
  | cons h ih =>
    intro s Q K
    exact args_cons (wpAny_Constant_int (ih fun vs tk r => K _ tk (.cons .int r))) (by rfl)

section
variable {w : World} {A : Around} {E : Value → Shared → Prop} {s : Shared} {h₀ : Heap} {mg₀ : Str → Option Value} {P3 : Heap → Addr → Prop} {c Pl F : Addr} {mg mb : Str → Option Value} {ps : Array Value} {L : List (Str × Nat)} {N : List Str} {B3 : Bool}

theorem mname {x : Str} {p : Pos} {v : Value} {Q : Value → Shared → Prop} (hg : s.heap.Ns mainGlobals mg) (hb : s.heap.Ns builtinsNs mb) (h1 : mg x = none) (h2 : mb x = some v) (hd : (x == ("__debug__" : Str)) = false) (K : Q v s) : wpAny (model pw w) A (eval (.Name x p) (mainEnv pw c F)) Q E s :=
  Calls.Name_module rfl rfl (Calls.loadGlobal_builtin hg h1 hb h2 K) hd

theorem run_list {B : Base} {env : Env} {W : Addr → Prop} {es : List Expr} {ls : List Int} {p : Pos} {Q : Value → Shared → Prop} (he : IntsE es ls) (hn : ls.length ≤ 1000) (lo : ¬ W s.heap.objs.size)
    (K : ∀ v h' tk, Le s.heap h' → Rep W h' v (.list (dI ls)) → Q v { s with heap := h', toks := tk }) : wpAny B.M A (eval (.List es p) env) Q E s := by
  show wpAny _ A (standAt p >>= fun _ => spliced (backTo p (starEach es env)) >>= newList) Q E s
  refine wpAny_bind (wpAny_standAt (wpAny_bind (ints_run (W := W) he fun vs tk rv => ?_)))
  have hvl := rv.length
  have hvl : vs.length = ls.length := by rw [hvl]; simp [dI]
  refine wpAny_newObj_type (hd := by show vs.toArray.size ≤ _; rw [List.size_toArray, hvl]; exact Nat.le_trans hn (by decide)) ?_
  exact K _ _ _ (Le.push _ _) (.list lo (vs := vs) (Heap.get?_push_size _ rfl) (rv.le (Le.push _ _)))

theorem run_range {B : Base} {env : Env} {W : Addr → Prop} {es : List Expr} {a b : Int} {p p' : Pos} {Q : Value → Shared → Prop} (R : Room 3 A) (l : Le B.h0 s.heap) (lo : Low W s.heap) (he : IntsE es [a, b]) (hp : Plain es)
    (hname : ∀ {Q : Value → Shared → Prop}, Q (.type "range") s → wpAny B.M A (eval (.Name "range" p) env) Q E s)
    (K : ∀ v h' tk, Le s.heap h' → Rep W h' v (.range a b) → Q v { s with heap := h', toks := tk }) : wpAny B.M A (eval (.Call (.Name "range" p) es [] p') env) Q E s := by
  refine Call_Name rfl (hname ?_)
  refine callWith_of (B := B) (.type "range") (fun q => l.trans q) ((backTo_any _).trans (hp env)) ?_
  refine ints_run (W := W) he fun us tk ru => ?_
  refine ⟨Le.refl _, ?_⟩
  rw [List.nil_append]
  exact (fn_range2 (B := B) (k := 3) (a := a) (b := b)).go A us _ W _ E R l lo ru K
theorem run_list_range {B : Base} {env : Env} {W : Addr → Prop} {e : Expr} {a b : Int} {n : Nat} {p p' : Pos} {Q : Value → Shared → Prop} (R : Room 3 A) (l : Le B.h0 s.heap) (lo : Low W s.heap) (hn : b - a = n) (hb : n ≤ 2000) (h0 : 0 ≤ a) (h1 : a ≤ 1000000)
    (hname : ∀ {Q : Value → Shared → Prop}, Q (.type "list") s → wpAny B.M A (eval (.Name "list" p) env) Q E s) (hp : Plain [e]) (hs : starEach [e] env = (false, eval e env) :: starEach [] env)
    (he : ∀ {Q : Value → Shared → Prop}, (∀ v h' tk, Le s.heap h' → Rep W h' v (.range a b) → Q v { s with heap := h', toks := tk }) → wpAny B.M A (eval e env) Q E s)
    (K : ∀ v h' tk, Le s.heap h' → Rep W h' v (.list (dI (rangeI a n))) → Q v { s with heap := h', toks := tk }) : wpAny B.M A (eval (.Call (.Name "list" p) [e] [] p') env) Q E s := by
  refine Call_Name rfl (hname ?_)
  refine callWith_of (B := B) (.type "list") (fun q => l.trans q) ((backTo_any _).trans (hp env)) ?_
  refine args_cons (he fun v h1' t1 l1 r1 => ?_) hs
  refine args_nil ⟨l1, ?_⟩
  rw [List.nil_append]
  exact (fn_list_range (B := B) (k := 3) (a := a) (b := b) (n := n) hn hb h0 h1).go A [v] _ W _ E R (l.trans l1) (lo.le l1) (.cons r1 .nil) fun u h2 t2 l2 r2 => K u h2 t2 (l1.trans l2) r2

theorem run_set {B : Base} {W : Addr → Prop} {v : Value} {Q : Value → Shared → Prop} (hw : B.prog = pw) (R : Room 3 A) (rv : Rep W s.heap v (.list (dI noiseI)))
    (K : ∀ a h' tk, Le s.heap h' → (∀ b o, s.heap.get? b = some o → b ≠ a) → P1 B.w h' a → Q (.ref a) { s with heap := h', toks := tk }) : wpAny B.M A (call (.type "set") [v]) Q E s := by
  obtain ⟨prog, w, h0, mg, mb, g, b, lim⟩ := B
  dsimp only at hw
  subst hw
  cases rv with | list nw hl rs =>
  rename_i a vs' n
  have hlen : vs'.length = 27 := by rw [rs.length]; simp [dI, noise_len]
  refine PySem.call_set_list (items := vs'.toArray) (ns := noiseI) R.quiet (IsL.isList' hl) rs.intsAre (by rw [List.size_toArray, hlen]; decide) fun h5 t5 hS hk => ?_
  refine K _ h5 t5 (fun b o e => hk b o (Heap.lt_size e) e) (fun b o e => Nat.ne_of_lt (Heap.lt_size e)) ⟨_, SetOf_congr hS (fun k => ?_) rfl⟩
  rw [firstMet_any]
  show (((List.range vs'.toArray.size).map fun i => noiseI.getD i 0).any fun x => x == k) = noiseI.contains k
  rw [List.size_toArray, hlen, ← cont_any]
  rw [show ((List.range 27).map fun i => noiseI.getD i 0) = noiseI by decide +kernel]

theorem run_b1 {es : List Expr} {p1 p2 p3 p4 p5 p6 p7 p8 p9 p10 : Pos} {z1 z2 : Nat} (hes : IntsE es n11) (R : Room 3 A) (hg : s.heap.Ns mainGlobals mg) (hb : s.heap.Ns builtinsNs mb) (hlim : s.heap.NoLimit)
    (hset : mg "set" = none ∧ mb "set" = some (.type "set")) (hlist : mg "list" = none ∧ mb "list" = some (.type "list")) (hrange : mg "range" = none ∧ mb "range" = some (.type "range")) {Q : Value → Shared → Prop}
    (K : ∀ a h' tk, Le s.heap h' → (∀ b o, s.heap.get? b = some o → b ≠ a) → P1 w h' a → Q (.ref a) { s with heap := h', toks := tk }) :
    wpAny (model pw w) A (eval (.Call (.Name "set" p1) [.BinOp (.List es p2) .Add (.Call (.Name "list" p3) [.Call (.Name "range" p4) [.Constant (.int 65024) z1 p5, .Constant (.int 65040) z2 p6] [] p7] [] p8) p9] [] p10) (mainEnv pw c F)) Q E s := by
  obtain ⟨B, hB⟩ : ∃ B : Base, B = ⟨pw, w, s.heap, mg, mb, hg, hb, hlim⟩ := ⟨_, rfl⟩
  have hp : B.prog = pw := by rw [hB]
  have hw : B.w = w := by rw [hB]
  have h0 : B.h0 = s.heap := by rw [hB]
  have hM : model pw w = B.M := by show _ = model B.prog B.w; rw [hp, hw]
  clear hB
  rw [hM]
  have bl : Le B.h0 s.heap := by rw [h0]; exact Le.refl _
  let W : Addr → Prop := fun _ => False
  have low : ∀ h : Heap, Low W h := fun h a q => q.elim
  have nm : ∀ {x : Str} {p : Pos} {v : Value} {s' : Shared} {Q : Value → Shared → Prop} {E : Value → Shared → Prop}, Le s.heap s'.heap → mg x = none ∧ mb x = some v → (x == ("__debug__" : Str)) = false → Q v s' → wpAny B.M A (eval (.Name x p) (mainEnv pw c F)) Q E s' := fun {x p v s' Q E} l h hd k => by
    rw [← hM]
    exact mname (hg.keeps l) (hb.keeps l) h.1 h.2 hd k
  refine Call_Name rfl (nm (Le.refl _) hset (by decide) ?_)
  refine callWith_of (B := B) (.type "set") (fun l => bl.trans l) rfl ?_
  refine args_cons (wpAny_BinOp (run_list (W := W) hes (by decide) (fun q => q) fun v1 h1 t1 l1 r1 => ?_)) (by rfl)
  refine run_list_range (B := B) (W := W) (n := 16) R (bl.trans l1) (low _) (by decide) (by decide) (by decide) (by decide) (fun k => nm l1 hlist (by decide) k) (plain_cons plain_nil) rfl
    (fun K2 => run_range (B := B) (W := W) R (bl.trans l1) (low _) (.cons (.cons .nil)) (plain_cons (plain_cons plain_nil)) (fun k => nm l1 hrange (by decide) k) K2) fun v2 h2 t2 l2 r2 => ?_
  refine (bin_cat (B := B) (k := 3) (a := dI n11) (b := dI (rangeI 65024 16)) (by rw [rangeI_len]; decide)).go A _ W _ E _ _ R (bl.trans (l1.trans l2)) (low _) (r1.le l2) r2 fun v3 h3 t3 l3 r3 => ?_
  refine args_nil ⟨l1.trans (l2.trans l3), ?_⟩
  rw [List.nil_append]
  rw [noise_eq] at r3
  refine run_set (B := B) (W := W) hp R r3 fun a h4 t4 l4 hne hP => ?_
  exact K a h4 t4 (l1.trans (l2.trans (l3.trans l4))) (fun b o e => hne b o ((l1.trans (l2.trans l3)) b o e)) (by rw [← hw]; exact hP)

theorem top_set {P1' P3' : Heap → Addr → Prop} {B1 B3' : Bool} {v : Addr} {h' : Heap} (s1 : Stays P1') (s3 : Stays P3') (G : Got h₀ mg₀ P1' P3' c Pl s.heap mg ps L N B1 B3') {x : Str} {p r : Pos} {e : Expr} {Q : Flow → Shared → Prop} (hloc : pw.main.scope.names.lookup x = some .local)
    (hL : ∀ q ∈ L, q.1 ≠ x) (h1 : B1 = true → x ≠ "b1_set") (h3 : B3' = true → x ≠ "b3_exceptions") (hb : x ≠ "__builtins__") {P : Heap → Addr → Prop} (sP : Stays P) (hs : swapsWith e (some (.Name x p)) r.line (mainEnv pw c F) = pure false)
    (he : ∀ {Q : Value → Shared → Prop}, (∀ a h' tk, Le s.heap h' → (∀ b o, s.heap.get? b = some o → b ≠ a) → P h' a → Q (.ref a) { s with heap := h', toks := tk }) → wpAny (model pw w) A (eval e (mainEnv pw c F)) Q E s)
    (K : ∀ h' tk mg', Got h₀ mg₀ P1' P3' c Pl h' mg' ps L (x :: N) B1 B3' → At P h' mg' Pl x → Q .next { s with heap := h', toks := tk }) :
    wpAny (model pw w) A (exec (.Assign [.Name x p] e r) (mainEnv pw c F)) Q E s := by
  refine wpAny_Assign_Name (he fun a h1' tk l hne hP => ?_) hs
  have G' := G.le s1 s3 l
  refine wpAny_storeName_local (env := mainEnv pw c F) (Q := fun _ => Q .next) hloc G'.main.g (fun h2 hg hs2 => ?_) rfl
  have hG : (s.heap.get? mainGlobals).isSome = true := by
    obtain ⟨o, _, _, e, _⟩ := G.main.g; rw [e]; rfl
  have hPl : (s.heap.get? Pl).isSome = true := by
    obtain ⟨_, _, _, _, _, _, _, _, _, op, _, _, _, _, _, _, _, hp, _⟩ := G.main.code; rw [hp]; rfl
  obtain ⟨o1, e1⟩ := Option.isSome_iff_exists.mp hG
  obtain ⟨o2, e2⟩ := Option.isSome_iff_exists.mp hPl
  have n1 : a ≠ mainGlobals := fun q => hne _ _ e1 q.symm
  have n2 : a ≠ Pl := fun q => hne _ _ e2 q.symm
  refine K h2 _ _ (G'.store s1 s3 hg hs2 hL h1 h3 hb) ⟨a, if_pos rfl, n2, n1, sP _ _ _ hP fun o e => (hs2.2 a n1).trans e⟩
theorem Got.with1 {P1' P3' : Heap → Addr → Prop} {B1 B3' : Bool} {h : Heap} (G : Got h₀ mg₀ P1' P3' c Pl h mg ps L N B1 B3') (x : At P1' h mg Pl "b1_set") : Got h₀ mg₀ P1' P3' c Pl h mg ps L N true B3' := ⟨G.main, G.high, G.keep, G.defs, fun _ => x, G.b3, G.other⟩
theorem Got.with3 {P1' P3' : Heap → Addr → Prop} {B1 B3' : Bool} {h : Heap} (G : Got h₀ mg₀ P1' P3' c Pl h mg ps L N B1 B3') (x : At P3' h mg Pl "b3_exceptions") : Got h₀ mg₀ P1' P3' c Pl h mg ps L N B1 true := ⟨G.main, G.high, G.keep, G.defs, G.b1, fun _ => x, G.other⟩
end
end Mine
end

section
open PySem PyProof.Rows
set_option maxRecDepth 20000
set_option linter.unusedVariables false
namespace Mine

theorem sub_dict_dict : isSubtype (.type "dict") (.type "dict") = pure true := by rw [isSubtype_type]; kernel_rfl

section
variable {prog : Program} {w : World} {K : Type} [DecidableEq K] {knd : KeyKind prog w K} {A : Around} {E : Value → Shared → Prop} {s : Shared}

theorem fresh_at {d : Addr} {acc : List (K × Value)} {k : K} {es : Array DictEntry} (hp : Pairs knd es.toList acc) (hnew : k ∉ acc.map (·.1)) : (es.findIdx? fun e => knd.is k e.key) = none := by
  have hidx : (es.findIdx? fun e => knd.is k e.key) = acc.findIdx? fun kv => decide (kv.1 = k) := by
    rw [← hp.findIdx k]; obtain ⟨l⟩ := es; simp
  rw [hidx, List.findIdx?_eq_none_iff]
  intro x hx
  simp only [decide_eq_false_iff_not]
  exact fun e => hnew (List.mem_map.mpr ⟨x, hx, e⟩)

theorem put_new {d : Addr} {acc : List (K × Value)} {k : K} {key v : Value} {Q : Unit → Shared → Prop} (hkey : knd.is k key = true) (hm : s.heap.DictOf knd d acc) (hnew : k ∉ acc.map (·.1)) (hz : acc.length ≤ 2000)
    (hQ : ∀ h', h'.DictOf knd d (acc ++ [(k, v)]) → Heap.SameBut d s.heap h' → Q () { s with heap := h' }) : wpAny (model prog w) A (dictPut d (knd.hash k) key v) Q E s := by
  obtain ⟨o, es, ep, ho, hc, hd, hk, hp, hn⟩ := hm
  have hes : es.size ≤ sizeLine := by
    have e1 := hp.length
    have e2 : es.toList.length = es.size := by simp
    exact Nat.le_trans (by omega : es.size ≤ 2000) (by decide)
  unfold dictPut
  refine wpAny_bind (wpAny_dictFind_of hkey ho hd hk ?_)
  rw [fresh_at (d := d) hp hnew]
  refine wpAny_updateDictKeys (hz := hes) ho hd (hQ _ ⟨_, _, ep + 1, Heap.get?_update_self _ ho (Obj.isFreed_of_dict (Obj.data_mapDictKeys hd _)), hc.mapDictKeys _, Obj.data_mapDictKeys hd _, hk.push hkey _, ?_, ?_⟩ (Heap.SameBut.update ..))
  · have := hp.append hkey (knd.hash k) v
    obtain ⟨l⟩ := es
    simpa using this
  · rw [List.map_append, List.nodup_append]
    refine ⟨hn, by simp, ?_⟩
    intro a ha b hb
    simp only [List.map_cons, List.map_nil, List.mem_singleton] at hb
    subst hb
    exact fun e => hnew (e ▸ ha)

theorem merge_new {d a : Addr} {acc more : List (K × Value)} {Q : Unit → Shared → Prop} (hne : d ≠ a) (hS : (a == sysModules) = false) (h0 : acc ≠ []) (hd : s.heap.DictOf knd d acc) (ha : s.heap.DictOf knd a more) (hnew : ((acc ++ more).map (·.1)).Nodup) (hz : acc.length + more.length ≤ 2000)
    (hQ : ∀ h', h'.DictOf knd d (acc ++ more) → Heap.SameBut d s.heap h' → Q () { s with heap := h' }) : wpAny (model prog w) A (mergeMapping d (.ref a) false) Q E s := by
  obtain ⟨oo, eso, epo, hoo, hco, hdo, hko, hpo, hno⟩ := ha
  have hT : s.TypeIs (.ref a) "dict" := ⟨oo, hoo, hco.1⟩
  have hlen : more.length = eso.size := by rw [← hpo.length]; simp
  unfold mergeMapping
  simp only [Bool.false_eq_true, if_false]
  refine wpAny_bind (wpAny_isInstance hT sub_dict_dict ?_)
  rw [if_pos rfl]
  refine wpAny_bind (wpAny_specialOf hT PySem.F.slot_dict_iter.lookup ?_)
  have hbe : (some (Value.builtin "dict.__iter__") == some (Value.builtin "dict.__iter__")) = true := by decide
  rw [hbe]
  refine wpAny_bind (wpAny_pure ?_)
  dsimp only
  rw [if_neg (by rw [hS]; decide)]
  obtain ⟨od, esd, epd, hod, hcd, hdd, hkd, hpd, hnd⟩ := id hd
  refine wpAny_bind (wpAny_dictEntries hod hdd ?_)
  have hemp : esd.isEmpty = false := by
    have e1 := hpd.length
    have e2 : esd.toList.length = esd.size := by simp
    have e3 : acc.length ≠ 0 := fun q => h0 (List.length_eq_zero_iff.mp q)
    rw [Array.isEmpty, decide_eq_false_iff_not]
    omega
  rw [hemp]
  simp only [Bool.false_eq_true, if_false]
  refine wpAny_bind (wpAny_dictEntries hoo hdo ?_)
  refine wpAny_bind (wpAny_dictEpoch hoo hdo ?_)
  refine wpAny_bind ?_
  refine wpAny_forIn_list _ (fun rest _ s' => ∃ h' i, s' = { s with heap := h' } ∧ rest = List.range' i (eso.size - i) ∧ i ≤ eso.size ∧ h'.DictOf knd d (acc ++ more.take i) ∧ Heap.SameBut d s.heap h') _ ?_ ?_ _ _
    ⟨s.heap, 0, rfl, by rw [List.range_eq_range']; simp, Nat.zero_le _, by simpa using hd, Heap.SameBut.refl _ _⟩
  · rintro x rest b s' ⟨h', i, rfl, hr, hi, hd', hs'⟩
    have hlt : i < eso.size := by
      rcases Nat.lt_or_ge i eso.size with h | h
      · exact h
      · rw [Nat.sub_eq_zero_of_le h] at hr; simp at hr
    obtain ⟨rfl, hrest⟩ : x = i ∧ rest = List.range' (i + 1) (eso.size - (i + 1)) := by
      have e : eso.size - i = (eso.size - (i + 1)) + 1 := by omega
      rw [e, List.range'_succ] at hr
      injection hr with h1 h2
      exact ⟨h1, h2⟩
    have hoo' : h'.get? a = some oo := (hs'.2 a (Ne.symm hne)).trans hoo
    refine wpAny_bind (wpAny_dictEntries (s := { s with heap := h' }) hoo' hdo ?_)
    rw [Array.getElem?_eq_getElem hlt]
    obtain ⟨kv, hkv⟩ : ∃ kv, more[x]? = some kv := ⟨more[x]'(by rw [hlen]; exact hlt), List.getElem?_eq_getElem _⟩
    obtain ⟨k, v⟩ := kv
    obtain ⟨hkey, hval⟩ := hpo.get? (e := eso[x]) (by simp [hlt]) hkv
    obtain ⟨k', hkey', hhash⟩ := hko eso[x] (Array.getElem_mem hlt)
    obtain rfl : k' = k := knd.inj _ _ _ hkey' hkey
    dsimp only
    refine wpAny_bind (wpAny_holding ?_)
    rw [hhash, hval]
    have hml : (more.take x).length ≤ more.length := by rw [List.length_take]; omega
    have hmem : (k', v) ∈ more.drop x := by
      rw [List.drop_eq_getElem_cons (by rw [hlen]; exact hlt)]
      have : more[x]'(by rw [hlen]; exact hlt) = (k', v) := by rw [List.getElem?_eq_getElem (by rw [hlen]; exact hlt)] at hkv; exact Option.some.inj hkv
      rw [this]; exact .head _
    have hfresh : k' ∉ (acc ++ more.take x).map (·.1) := by
      intro q
      have hnew' : (((acc ++ more.take x) ++ more.drop x).map (·.1)).Nodup := by rw [List.append_assoc, List.take_append_drop]; exact hnew
      rw [List.map_append, List.nodup_append] at hnew'
      exact hnew'.2.2 _ q _ (List.mem_map.mpr ⟨_, hmem, rfl⟩) rfl
    refine put_new (s := { s with heap := h' }) hkey hd' hfresh (by rw [List.length_append]; omega) fun h2 hd2 hs2 => ?_
    have hoo2 : h2.get? a = some oo := (hs2.2 a (Ne.symm hne)).trans hoo'
    refine wpAny_bind (wpAny_dictEpoch (s := { s with heap := h2 }) hoo2 hdo ?_)
    have : (epo != epo) = false := by simp
    rw [this]
    simp only [Bool.false_eq_true, if_false]
    refine wpAny_pure ⟨h2, x + 1, rfl, hrest, hlt, ?_, hs'.trans hs2⟩
    have et : more.take (x + 1) = more.take x ++ [(k', v)] := by rw [List.take_add_one, hkv]; rfl
    rw [et, ← List.append_assoc]; exact hd2
  · rintro b s' ⟨h', i, rfl, hr, hi, hd', hs'⟩
    have hi' : i = eso.size := by
      have := congrArg List.length hr
      simp at this; omega
    subst hi'
    rw [← hlen, List.take_length] at hd'
    exact wpAny_pure (hQ h' hd' hs')
end
end Mine
end

section
open PySem PyProof.Rows
set_option maxRecDepth 20000
set_option linter.unusedVariables false
namespace Mine

def IsK (M : Model) (t : Sem Value) (i : Int) : Prop := ∀ (A : Around) (E : Value → Shared → Prop) (s : Shared) (Q : Value → Shared → Prop), (∀ t' tk, Q (.int i t') { s with toks := tk }) → wpAny M A t Q E s
def IsV (M : Model) (t : Sem Value) (x : Str) : Prop := ∀ (A : Around) (E : Value → Shared → Prop) (s : Shared) (Q : Value → Shared → Prop), (∀ t' tk, Q (.str x t') { s with toks := tk }) → wpAny M A t Q E s
inductive Prs (M : Model) : List (Sem Value × Sem Value) → List (Int × Str) → Prop
  | nil : Prs M [] []
  | cons {k v : Sem Value} {i : Int} {x : Str} {ps : List (Sem Value × Sem Value)} {qs : List (Int × Str)} : IsK M k i → IsV M v x → Prs M ps qs → Prs M ((k, v) :: ps) ((i, x) :: qs)
inductive KVs : List (Int × Value) → List (Int × Str) → Prop
  | nil : KVs [] []
  | cons {i : Int} {x : Str} {t : Tok} {kvs : List (Int × Value)} {qs : List (Int × Str)} : KVs kvs qs → KVs ((i, .str x t) :: kvs) ((i, x) :: qs)
theorem KVs.keys {a : List (Int × Value)} {b : List (Int × Str)} (h : KVs a b) : a.map (·.1) = b.map (·.1) := by
  induction h with
  | nil => rfl
  | cons _ ih => simp [ih]
theorem KVs.len {a : List (Int × Value)} {b : List (Int × Str)} (h : KVs a b) : a.length = b.length := by
  have := congrArg List.length h.keys; simpa using this
theorem KVs.app {a c : List (Int × Value)} {b d : List (Int × Str)} (h : KVs a b) (h' : KVs c d) : KVs (a ++ c) (b ++ d) := by
  induction h with
  | nil => exact h'
  | cons _ ih => exact .cons ih
theorem Prs.len {M : Model} {a : List (Sem Value × Sem Value)} {b : List (Int × Str)} (h : Prs M a b) : a.length = b.length := by
  induction h with
  | nil => rfl
  | cons _ _ _ ih => simp [ih]
theorem Prs.snoc {M : Model} {a : List (Sem Value × Sem Value)} {b : List (Int × Str)} {k v : Sem Value} {i : Int} {x : Str} (h : Prs M a b) (hk : IsK M k i) (hv : IsV M v x) : Prs M (a ++ [(k, v)]) (b ++ [(i, x)]) := by
  induction h with
  | nil => exact .cons hk hv .nil
  | cons h1 h2 _ ih => exact .cons h1 h2 ih

theorem stored_new {acc : List (Int × Value)} {k : Int} {v : Value} (h : k ∉ acc.map (·.1)) : stored acc k v = acc ++ [(k, v)] := by
  unfold stored
  rw [if_neg]
  rw [List.any_eq_true]
  rintro ⟨x, hx, e⟩
  exact h (List.mem_map.mpr ⟨x, hx, of_decide_eq_true e⟩)

section
variable {prog : Program} {w : World} {A : Around} {E : Value → Shared → Prop}

theorem new_dict {h : Heap} : (h.push { cls := .type "dict", data := .dict #[] }).DictOf (intKind prog w) h.objs.size [] :=
  ⟨_, #[], _, Heap.get?_push_size _ rfl, ⟨rfl, rfl, rfl⟩, rfl, fun e he => by simp at he, .nil, List.nodup_nil⟩

theorem long_go {d : Addr} {pairs : List (Sem Value × Sem Value)} {qs : List (Int × Str)} (hP : Prs (model prog w) pairs qs) : ∀ {acc : List (Int × Value)} {s : Shared} {Q : PUnit → Shared → Prop}, s.heap.DictOf (intKind prog w) d acc → (acc.map (·.1) ++ qs.map (·.1)).Nodup → acc.length + qs.length ≤ 2000 →
    (∀ h' tk kvs, KVs kvs qs → h'.DictOf (intKind prog w) d (acc ++ kvs) → Heap.SameBut d s.heap h' → Q PUnit.unit { s with heap := h', toks := tk }) →
    wpAny (model prog w) A (forIn pairs PUnit.unit fun (x : Sem Value × Sem Value) (_ : PUnit) => (do let kv ← x.1; let vv ← holding [kv] x.2; holding [kv, vv] (dictSet d kv vv); pure (ForInStep.yield PUnit.unit) : Sem (ForInStep PUnit))) Q E s := by
  induction hP with
  | nil =>
    intro acc s Q hd hn hz K
    rw [List.forIn_nil]
    exact wpAny_pure (K s.heap s.toks [] .nil (by simpa using hd) (Heap.SameBut.refl _ _))
  | @cons k v i x ps qs hk hv hp ih =>
    intro acc s Q hd hn hz K
    rw [List.forIn_cons]
    refine wpAny_bind (wpAny_bind (hk A E s _ fun t' tk => ?_))
    refine wpAny_bind (wpAny_holding (hv A E _ _ fun t2 tk2 => ?_))
    rw [List.map_cons] at hn
    have hnew : i ∉ acc.map (·.1) := fun q => (List.nodup_append.mp hn).2.2 _ q _ (.head _) rfl
    rw [List.length_cons] at hz
    refine wpAny_bind (wpAny_holding (wpAny_dictSet_pairs (knd := intKind prog w) (k := i) (hsz := Nat.le_trans (by omega : acc.length ≤ 2000) (by decide)) (intKind_is _ _ _ _) hd fun h1 hm1 hs1 => wpAny_pure ?_))
    rw [stored_new hnew] at hm1
    refine ih (s := { s with heap := h1, toks := tk2 + 1 }) hm1 (by simpa using hn) (by simp; omega) fun h' tk3 kvs hkv hd' hs' => ?_
    exact K h' tk3 _ (.cons (t := t2) hkv) (by simpa using hd') (hs1.trans hs')

theorem ev_pairs {pairs : List (Sem Value × Sem Value)} {qs : List (Int × Str)} (hP : Prs (model prog w) pairs qs) : ∀ {s : Shared} {Q : List (Value × Value) → Shared → Prop},
    (∀ vs kvs tk, Carries (intKind prog w) vs kvs → KVs kvs qs → Q vs { s with toks := tk }) → wpAny (model prog w) A (evalPairs pairs) Q E s := by
  induction hP with
  | nil => intro s Q K; exact evalPairs_nil (K [] [] s.toks trivial .nil)
  | @cons k v i x ps qs hk hv hp ih =>
    intro s Q K
    refine evalPairs_cons (hk A E s _ fun t' tk => hv A E _ _ fun t2 tk2 => ih fun vs kvs tk3 hc hkv => ?_)
    exact K _ ((i, .str x t2) :: kvs) tk3 ⟨intKind_is _ _ _ _, rfl, hc⟩ (.cons hkv)

theorem sub_run {pairs : List (Sem Value × Sem Value)} {qs : List (Int × Str)} {s : Shared} {Q : Addr → Shared → Prop} (hP : Prs (model prog w) pairs qs) (hlen : pairs.length ≤ 17) (hn : (qs.map (·.1)).Nodup)
    (K : ∀ h' tk kvs, KVs kvs qs → h'.DictOf (intKind prog w) s.heap.objs.size kvs → (∀ b o, s.heap.get? b = some o → h'.get? b = some o) → Q s.heap.objs.size { s with heap := h', toks := tk }) : wpAny (model prog w) A (subDict pairs) Q E s := by
  have old : ∀ {h' : Heap}, Heap.SameBut s.heap.objs.size (s.heap.push { cls := .type "dict", data := .dict #[] }) h' → ∀ b o, s.heap.get? b = some o → h'.get? b = some o := fun hs b o e =>
    (hs.2 b (Nat.ne_of_lt (Heap.lt_size e))).trans (Heap.get?_push_of_some _ e)
  have hql := hP.len
  by_cases h15 : pairs.length ≤ 15
  · refine wpAny_subDict (knd := intKind prog w) h15 (ev_pairs hP fun vs kvs tk hc hkv => ⟨kvs, hc, new_dict, fun h' hm hs => ?_⟩)
    rw [merged_nil_of_nodup _ (by rw [hkv.keys]; exact hn)] at hm
    exact K h' _ kvs hkv hm (old hs)
  · unfold subDict
    refine wpAny_bind (wpAny_alloc ?_)
    refine wpAny_bind (wpAny_holding ?_)
    rw [if_neg h15]
    refine wpAny_bind (wpAny_rule ?_)
    refine wpAny_bind (long_go hP (acc := []) new_dict (by simpa using hn) (by simp; omega) fun h' tk kvs hkv hd hs => ?_)
    exact wpAny_pure (wpAny_pure (K h' tk kvs hkv (by simpa using hd) (old hs)))
end
end Mine
end

section
open PySem PyProof.Rows
set_option maxRecDepth 20000
set_option linter.unusedVariables false
namespace Mine

def flush0 (run : List (Sem Value × Sem Value)) (main : Option Addr) : Sem (Option Addr) :=
  if run.isEmpty = true then pure main else match main with
    | none => do let d ← subDict run; pure (some d)
    | some d => do
      let sub ← holding [.ref d] (subDict run)
      (holding [.ref d, .ref sub] (mergeMapping d (.ref sub) false)).onRaise fun x => do let _ ← holding [.ref d, x] (runValue (.builtin "proto.let_go" {})); pure ()
      pure (some d)

section
variable {prog : Program} {w : World} {A : Around} {E : Value → Shared → Prop}

/-- the display, on its way -/
structure Inv (prog : Program) (w : World) (hb : Heap) (main : Option Addr) (done : List (Int × Str)) (h : Heap) : Prop where
  old : ∀ b o, hb.get? b = some o → h.get? b = some o
  zero : main = none → done = []
  some : ∀ d, main = some d → hb.get? d = none ∧ done ≠ [] ∧ ∃ acc, KVs acc done ∧ h.DictOf (intKind prog w) d acc

theorem flush_run {hb : Heap} {main : Option Addr} {run : List (Sem Value × Sem Value)} {rq done : List (Int × Str)} {s : Shared} {Q : Option Addr → Shared → Prop} (hsys : (hb.get? sysModules).isSome = true) (hP : Prs (model prog w) run rq) (hr : run ≠ []) (hlen : run.length ≤ 17)
    (I : Inv prog w hb main done s.heap) (hn : ((done ++ rq).map (·.1)).Nodup) (hz : done.length + rq.length ≤ 2000) (K : ∀ d h' tk, Inv prog w hb (some d) (done ++ rq) h' → Q (some d) { s with heap := h', toks := tk }) : wpAny (model prog w) A (flush0 run main) Q E s := by
  have hql := hP.len
  have hrq : rq ≠ [] := fun q => hr (List.length_eq_zero_iff.mp (by rw [hql, q]; rfl))
  have hn' := hn
  rw [List.map_append, List.nodup_append] at hn'
  obtain ⟨os, es⟩ := Option.isSome_iff_exists.mp hsys
  have fresh : hb.get? s.heap.objs.size = none := by
    cases e : hb.get? s.heap.objs.size with
    | none => rfl
    | some o => exact absurd (Heap.lt_size (I.old _ _ e)) (Nat.lt_irrefl _)
  unfold flush0
  rw [if_neg (by simpa using hr)]
  cases main with
  | none =>
    have hd0 := I.zero rfl
    subst hd0
    refine wpAny_bind (sub_run hP hlen hn'.2.1 fun h' tk kvs hkv hd ho => wpAny_pure (K _ h' tk ⟨fun b o e => ho b o (I.old b o e), nofun, fun d e => ?_⟩))
    cases e
    exact ⟨fresh, by simpa using hrq, kvs, by simpa using hkv, hd⟩
  | some d =>
    obtain ⟨hdn, hdone, acc, hacc, hd⟩ := I.some d rfl
    obtain ⟨od, _, _, hod, _⟩ := id hd
    dsimp only
    refine wpAny_bind (wpAny_holding (sub_run hP hlen hn'.2.1 fun h' tk kvs hkv hd' ho => ?_))
    have hne : d ≠ s.heap.objs.size := Nat.ne_of_lt (Heap.lt_size hod)
    have hd2 : h'.DictOf (intKind prog w) d acc := by
      obtain ⟨o, es, ep, h1, r⟩ := hd
      exact ⟨o, es, ep, ho _ _ h1, r⟩
    have hsz : (s.heap.objs.size == sysModules) = false := beq_eq_false_iff_ne.mpr fun q => by
      have := Heap.lt_size (I.old _ _ es)
      rw [← q] at this
      exact Nat.lt_irrefl _ this
    refine wpAny_bind (wpAny_onRaise (wpAny_holding (merge_new (knd := intKind prog w) (s := { s with heap := h', toks := tk }) hne hsz (fun q => hdone (List.length_eq_zero_iff.mp (by rw [← hacc.len, q]; rfl))) hd2 hd' ?_ (by rw [hacc.len, hkv.len]; exact hz) fun h2 hd3 hs => wpAny_pure (K d h2 tk ⟨fun b o e => ?_, nofun, fun d' e => ?_⟩))))
    · rw [List.map_append, hacc.keys, hkv.keys, ← List.map_append]; exact hn
    · have hbd : b ≠ d := fun q => by rw [q, hdn] at e; cases e
      exact (hs.2 b hbd).trans (ho b o (I.old b o e))
    · cases e
      exact ⟨hdn, by simp [hdone], _, hacc.app hkv, hd3⟩

theorem disp_go {hb : Heap} (hsys : (hb.get? sysModules).isSome = true) {f : (Option (Sem Value) × Sem Value) → (Option Addr × List (Sem Value × Sem Value)) → Sem (ForInStep (Option Addr × List (Sem Value × Sem Value)))}
    (hf : ∀ (p : Sem Value × Sem Value) (st : Option Addr × List (Sem Value × Sem Value)), f (some p.1, p.2) st = if ((st.2 ++ [p]).length == 17) = true then (do let m ← flush0 (st.2 ++ [p]) st.1; pure (.yield (m, []))) else pure (.yield (st.1, st.2 ++ [p])))
    {items : List (Sem Value × Sem Value)} {qs : List (Int × Str)} (hP : Prs (model prog w) items qs) : ∀ {main : Option Addr} {run : List (Sem Value × Sem Value)} {rq done : List (Int × Str)} {s : Shared} {Q : (Option Addr × List (Sem Value × Sem Value)) → Shared → Prop},
    Prs (model prog w) run rq → run.length < 17 → Inv prog w hb main done s.heap → ((done ++ rq ++ qs).map (·.1)).Nodup → (done ++ rq ++ qs).length ≤ 2000 →
    (∀ main' run' rq' done' h' tk, Prs (model prog w) run' rq' → run'.length < 17 → Inv prog w hb main' done' h' → done' ++ rq' = done ++ rq ++ qs → Q (main', run') { s with heap := h', toks := tk }) →
    wpAny (model prog w) A (forIn (items.map fun p => (some p.1, p.2)) (main, run) f) Q E s := by
  induction hP with
  | nil =>
    intro main run rq done s Q hr hlt I hn hz K
    rw [List.map_nil, List.forIn_nil]
    exact wpAny_pure (K main run rq done s.heap s.toks hr hlt I (by simp))
  | @cons k v i x ps qs hk hv hp ih =>
    intro main run rq done s Q hr hlt I hn hz K
    rw [List.map_cons, List.forIn_cons, hf (k, v) (main, run)]
    have hr' := hr.snoc hk hv
    have e : done ++ rq ++ (i, x) :: qs = done ++ (rq ++ [(i, x)]) ++ qs := by simp
    rw [e] at hn hz K
    have hql := hr'.len
    simp only [List.length_append] at hz
    by_cases h17 : ((run ++ [(k, v)]).length == 17) = true
    · rw [if_pos h17]
      have h17' : (run ++ [(k, v)]).length = 17 := by simpa using h17
      refine wpAny_bind (wpAny_bind (flush_run hsys hr' (by simp) (Nat.le_of_eq h17') I ?_ (by simp only [List.length_append]; omega) fun d h' tk I' => wpAny_pure ?_))
      · rw [List.map_append] at hn
        exact (List.nodup_append.mp hn).1
      · refine ih (s := { s with heap := h', toks := tk }) (rq := []) .nil (by simp) I' (by simpa using hn) (by simp only [List.length_append, List.length_nil]; omega) fun main' run' rq' done' h2 tk2 a b c e2 => ?_
        exact K main' run' rq' done' h2 tk2 a b c (by rw [e2]; simp)
    · rw [if_neg h17]
      have hl : (run ++ [(k, v)]).length < 17 := by
        have : (run ++ [(k, v)]).length ≠ 17 := by simpa using h17
        have : (run ++ [(k, v)]).length = run.length + 1 := by simp
        omega
      refine wpAny_bind (wpAny_pure ?_)
      exact ih hr' hl I hn (by simp only [List.length_append]; omega) K

theorem disp_run {items : List (Sem Value × Sem Value)} {qs : List (Int × Str)} {s : Shared} {Q : Value → Shared → Prop} (hsys : (s.heap.get? sysModules).isSome = true) (hP : Prs (model prog w) items qs) (h0 : qs ≠ []) (hn : (qs.map (·.1)).Nodup) (hz : qs.length ≤ 2000)
    (K : ∀ d h' tk acc, (∀ b o, s.heap.get? b = some o → h'.get? b = some o) → s.heap.get? d = none → KVs acc qs → h'.DictOf (intKind prog w) d acc → Q (.ref d) { s with heap := h', toks := tk }) : wpAny (model prog w) A (dictDisplay (items.map fun p => (some p.1, p.2))) Q E s := by
  unfold dictDisplay
  dsimp only
  refine wpAny_bind (disp_go (hb := s.heap) hsys ?_ hP (rq := []) (done := []) .nil (by simp) ⟨fun _ _ e => e, fun _ => rfl, fun d e => by cases e⟩ (by simpa using hn) (by simpa using hz) fun main' run' rq' done' h' tk hr hl I e => ?_)
  · intro p st
    rfl
  · have e : done' ++ rq' = qs := by simpa using e
    have fin : ∀ d h2 tk2, Inv prog w s.heap (some d) qs h2 → Q (.ref d) { s with heap := h2, toks := tk2 } := fun d h2 tk2 I2 => by
      obtain ⟨a, _, acc, b, c⟩ := I2.some d rfl
      exact K d h2 tk2 acc I2.old a b c
    by_cases hr0 : run' = []
    · subst hr0
      have hq0 : rq' = [] := List.length_eq_zero_iff.mp hr.len.symm
      subst hq0
      rw [List.append_nil] at e
      subst e
      cases main' with
      | none => exact absurd (I.zero rfl) h0
      | some d =>
        refine wpAny_bind (wpAny_pure ?_)
        exact wpAny_pure (fin d h' tk I)
    · show wpAny _ _ (flush0 run' main' >>= _) _ _ _
      refine wpAny_bind (flush_run (s := { s with heap := h', toks := tk }) hsys hr hr0 (by omega) I (by rw [e]; exact hn) (by have := congrArg List.length e; rw [List.length_append] at this; omega) fun d h2 tk2 I2 => ?_)
      rw [e] at I2
      exact wpAny_pure (fin d h2 tk2 I2)
end
end Mine
end

section
open PySem PySem.W PyProof.Rows
set_option maxRecDepth 20000
set_option linter.unusedVariables false
namespace Mine

def P3 (w : World) (h : Heap) (a : Addr) : Prop := PyProof.Rows.IntTab pw w h a (b3.map fun p => (PyData.int p.1, PyData.str p.2))
theorem stays3 (w : World) : Stays (P3 w) := fun h h' a T k => by
  obtain ⟨lo, kvs, ⟨o, es, ep, ho, r⟩, hf⟩ := T
  exact ⟨lo, kvs, ⟨o, es, ep, k o ho, r⟩, hf⟩

theorem nodup_asc : ∀ {l : List (Int × Str)}, asc l = true → (l.map (·.1)).Nodup
  | [], _ => List.nodup_nil
  | (a, x) :: l, h => by
    rw [List.map_cons, List.nodup_cons]
    refine ⟨fun q => ?_, nodup_asc (asc_tail h)⟩
    obtain ⟨p, hp, e⟩ := List.mem_map.mp q
    have := asc_lt h p hp
    rw [e] at this
    exact Int.lt_irrefl _ this

def allRows : List (Option Expr) → List Expr → Bool
  | [], [] => true
  | some (.Constant (.int _) _ _) :: ks, .Constant (.str _) _ _ :: vs => allRows ks vs
  | _, _ => false
theorem prs_rows {M : Model} {env : Env} {pos : Pos} : ∀ {ks : List (Option Expr)} {vs : List Expr}, allRows ks vs = true → Prs M (pairTrees ks vs env pos) (rowsOf ks vs) ∧ ks.all (·.isSome) = true ∧ ks.length = vs.length
  | [], [], _ => ⟨.nil, rfl, rfl⟩
  | some (.Constant (.int i) n p) :: ks, .Constant (.str x) m q :: vs, h => by
    obtain ⟨h1, h2, h3⟩ := prs_rows (M := M) (env := env) (pos := pos) (ks := ks) (vs := vs) h
    refine ⟨.cons (fun A E s Q K => wpAny_Constant_int (K _ _)) (fun A E s Q K => ?_) h1, by simpa using h2, by simp [h3]⟩
    have k : ∀ (t : Tok) (s' : Shared), (∃ tk, s' = { s with toks := tk }) → wpAny M A (do standAt pos; pure (Value.str x t)) Q E s' := fun t s' ⟨tk, e⟩ => by
      rw [e]; exact wpAny_bind (wpAny_standAt (wpAny_pure (K _ _)))
    exact wpAny_bind (show wpAny _ _ (eval (.Constant (.str x) m q) env) _ _ _ from fun _ _ _ => k _ _ ⟨_, rfl⟩)
def b3K : List (Option Expr) := match pw.main.body[(7 : Nat)]? with | some (Stmt.Assign _ (.Dict ks _ _) _) => ks | _ => []
def b3V : List Expr := match pw.main.body[(7 : Nat)]? with | some (Stmt.Assign _ (.Dict _ vs _) _) => vs | _ => []
theorem b3_rows : allRows b3K b3V = true := by decide +kernel
theorem b3_is : rowsOf b3K b3V = b3 := rfl
theorem b3_len : b3.length = 650 := by decide +kernel
theorem flat_of {a : List (Int × Value)} {b : List (Int × Str)} (h : KVs a b) : PyProof.V.FlatPairs PyData.int a (b.map fun p => (PyData.int p.1, PyData.str p.2)) := by
  induction h with
  | nil => exact .nil
  | cons _ ih => exact .cons (PyProof.V.Flat.str _ _) ih

theorem run_rows {w : World} {A : Around} {E : Value → Shared → Prop} {s : Shared} {env : Env} {pos : Pos} {ks : List (Option Expr)} {vs : List Expr} {l : List (Int × Str)} {Q : Value → Shared → Prop} (h : allRows ks vs = true) (hl : rowsOf ks vs = l) (h0 : l ≠ []) (hn : (l.map (·.1)).Nodup) (hz : l.length ≤ 2000)
    (hsys : (s.heap.get? sysModules).isSome = true)
    (K : ∀ a h' tk, Le s.heap h' → (∀ b o, s.heap.get? b = some o → b ≠ a) → PyProof.Rows.IntTab pw w h' a (l.map fun p => (PyData.int p.1, PyData.str p.2)) → Q (.ref a) { s with heap := h', toks := tk }) : wpAny (model pw w) A (eval (.Dict ks vs pos) env) Q E s := by
  obtain ⟨hP, ha, hlen⟩ := prs_rows (M := model pw w) (env := env) (pos := pos) h
  rw [hl] at hP
  rw [arm_eval_Dict, zip_pairTrees ks vs env pos ha hlen]
  refine wpAny_bind (wpAny_standAt (disp_run hsys hP h0 hn hz fun d h' tk acc ho hd hkv hD => ?_))
  refine K d h' tk ho (fun b o e q => by rw [q, hd] at e; cases e) ⟨beq_eq_false_iff_ne.mpr fun q => ?_, acc, hD, flat_of hkv⟩
  rw [q] at hd; rw [hd] at hsys; cases hsys
theorem b3_ne : b3 ≠ [] := fun q => by
  have := b3_len
  rw [q] at this; cases this
theorem b3_short : b3.length ≤ 2000 := by rw [b3_len]; decide
theorem run_b3 {w : World} {A : Around} {E : Value → Shared → Prop} {s : Shared} {env : Env} {pos : Pos} {Q : Value → Shared → Prop} (hsys : (s.heap.get? sysModules).isSome = true)
    (K : ∀ a h' tk, Le s.heap h' → (∀ b o, s.heap.get? b = some o → b ≠ a) → P3 w h' a → Q (.ref a) { s with heap := h', toks := tk }) : wpAny (model pw w) A (eval (.Dict b3K b3V pos) env) Q E s :=
  by
  have h1 := b3_rows
  have h2 := b3_is
  have h3 := b3_ne
  have h4 := nodup_asc b3_asc
  have h5 := b3_short
  unfold P3 at K
  generalize b3 = l at h2 h3 h4 h5 K
  generalize b3K = ks at h1 h2 ⊢
  generalize b3V = vs at h1 h2 ⊢
  exact run_rows h1 h2 h3 h4 h5 hsys K
end Mine
end

section
open PySem PySem.W PyProof.Rows
set_option maxRecDepth 20000
set_option linter.unusedVariables false
namespace Mine

def fpos (i : Nat) : Pos := match pw.main.body[i]? with | some (.FunctionDef _ _ _ _ _ _ _ _ _ p) => p | _ => default
theorem execs_at {M : Model} {A : Around} {E : Value → Shared → Prop} {s : Shared} {env : Env} {body : List Stmt} {i : Nat} {st : Stmt} {Q : Flow → Shared → Prop} (h : body[i]? = some st)
    (K : wpAny M A (exec st env) (fun f s' => match f with | .next => wpAny M A (execs (body.drop (i + 1)) env) Q E s' | f => Q f s') E s) : wpAny M A (execs (body.drop i) env) Q E s := by
  obtain ⟨hi, e⟩ := List.getElem?_eq_some_iff.mp h
  rw [List.drop_eq_getElem_cons hi, e]
  exact wpAny_execs_cons K
theorem st1 : pw.main.body[(1 : Nat)]? = some (.FunctionDef "_is_dunder" (fpar 1) (fbody 1) [] none [] (fscope 1) none "_is_dunder" (fpos 1)) := rfl
theorem st2 : pw.main.body[(2 : Nat)]? = some (.FunctionDef "_is_sunder" (fpar 2) (fbody 2) [] none [] (fscope 2) none "_is_sunder" (fpos 2)) := rfl
theorem st3 : pw.main.body[(3 : Nat)]? = some (.FunctionDef "_is_private" (fpar 3) (fbody 3) [] none [] (fscope 3) none "_is_private" (fpos 3)) := rfl
theorem st6 : pw.main.body[(6 : Nat)]? = some (.FunctionDef "in_table_b1" (fpar 6) (fbody 6) [] none [] (fscope 6) none "in_table_b1" (fpos 6)) := rfl
theorem st8 : pw.main.body[(8 : Nat)]? = some (.FunctionDef "map_table_b3" (fpar 8) (fbody 8) [] none [] (fscope 8) none "map_table_b3" (fpos 8)) := rfl
theorem st10 : pw.main.body[(10 : Nat)]? = some (.FunctionDef "_law_noise" (fpar 10) (fbody 10) [] none [] (fscope 10) none "_law_noise" (fpos 10)) := rfl
theorem st11 : pw.main.body[(11 : Nat)]? = some (.FunctionDef "_law_drawn" (fpar 11) (fbody 11) [] none [] (fscope 11) none "_law_drawn" (fpos 11)) := rfl
theorem st12 : pw.main.body[(12 : Nat)]? = some (.FunctionDef "_law_days" (fpar 12) (fbody 12) [] none [] (fscope 12) none "_law_days" (fpos 12)) := rfl
theorem st13 : pw.main.body[(13 : Nat)]? = some (.FunctionDef "_law_from" (fpar 13) (fbody 13) [] none [] (fscope 13) none "_law_from" (fpos 13)) := rfl
theorem st14 : pw.main.body[(14 : Nat)]? = some (.FunctionDef "_law_told" (fpar 14) (fbody 14) [] none [] (fscope 14) none "_law_told" (fpos 14)) := rfl
theorem st15 : pw.main.body[(15 : Nat)]? = some (.FunctionDef "_law_fits" (fpar 15) (fbody 15) [] none [] (fscope 15) none "_law_fits" (fpos 15)) := rfl
theorem st16 : pw.main.body[(16 : Nat)]? = some (.FunctionDef "law" (fpar 16) (fbody 16) [] none [] (fscope 16) none "law" (fpos 16)) := rfl

theorem st0 : ∃ p z q r, pw.main.body[(0 : Nat)]? = some (.Assign [.Name "__name__" p] (.Constant (.str "cpy313.enum") z q) r) := ⟨_, _, _, _, rfl⟩
theorem st4 : ∃ p z q r, pw.main.body[(4 : Nat)]? = some (.Assign [.Name "__name__" p] (.Constant (.str "cpy313.stringprep") z q) r) := ⟨_, _, _, _, rfl⟩
theorem st9 : ∃ p z q r, pw.main.body[(9 : Nat)]? = some (.Assign [.Name "__name__" p] (.Constant (.str "law_rw0077_01") z q) r) := ⟨_, _, _, _, rfl⟩
theorem st5 : ∃ p r es p1 p2 p3 p4 p5 p6 p7 p8 p9 p10 z1 z2, IntsE es n11 ∧ pw.main.body[(5 : Nat)]? = some (.Assign [.Name "b1_set" p] (.Call (.Name "set" p1) [.BinOp (.List es p2) .Add (.Call (.Name "list" p3) [.Call (.Name "range" p4) [.Constant (.int 65024) z1 p5, .Constant (.int 65040) z2 p6] [] p7] [] p8) p9] [] p10) r) := by
  refine ⟨_, _, _, _, _, _, _, _, _, _, _, _, _, _, _, ?_, rfl⟩
  unfold n11
  repeat (first | exact .nil | refine .cons ?_)
theorem st7 : ∃ p q r, pw.main.body[(7 : Nat)]? = some (.Assign [.Name "b3_exceptions" p] (.Dict b3K b3V q) r) := ⟨_, _, _, rfl⟩
theorem body_len : pw.main.body.length = 17 := by decide +kernel
theorem tree_1 : PlainDefTree "_is_dunder" (fpar 1) (fbody 1) (fscope 1) (fpos 1) := fun _ => rfl
theorem free_1 : ∀ x ∈ (fscope 1).names, x.2 ≠ .free := by decide +kernel
theorem doc_1 : docOf (fbody 1) = none := rfl
theorem qual_1 : qualnameIn { scope := pw.main.scope, locals := mainGlobals, globals := mainGlobals, cells := [] } "_is_dunder" "_is_dunder" = "_is_dunder" := rfl
theorem tree_2 : PlainDefTree "_is_sunder" (fpar 2) (fbody 2) (fscope 2) (fpos 2) := fun _ => rfl
theorem free_2 : ∀ x ∈ (fscope 2).names, x.2 ≠ .free := by decide +kernel
theorem doc_2 : docOf (fbody 2) = none := rfl
theorem qual_2 : qualnameIn { scope := pw.main.scope, locals := mainGlobals, globals := mainGlobals, cells := [] } "_is_sunder" "_is_sunder" = "_is_sunder" := rfl
theorem tree_3 : PlainDefTree "_is_private" (fpar 3) (fbody 3) (fscope 3) (fpos 3) := fun _ => rfl
theorem free_3 : ∀ x ∈ (fscope 3).names, x.2 ≠ .free := by decide +kernel
theorem doc_3 : docOf (fbody 3) = none := rfl
theorem qual_3 : qualnameIn { scope := pw.main.scope, locals := mainGlobals, globals := mainGlobals, cells := [] } "_is_private" "_is_private" = "_is_private" := rfl
theorem tree_6 : PlainDefTree "in_table_b1" (fpar 6) (fbody 6) (fscope 6) (fpos 6) := fun _ => rfl
theorem free_6 : ∀ x ∈ (fscope 6).names, x.2 ≠ .free := by decide +kernel
theorem doc_6 : docOf (fbody 6) = none := rfl
theorem qual_6 : qualnameIn { scope := pw.main.scope, locals := mainGlobals, globals := mainGlobals, cells := [] } "in_table_b1" "in_table_b1" = "in_table_b1" := rfl
theorem tree_8 : PlainDefTree "map_table_b3" (fpar 8) (fbody 8) (fscope 8) (fpos 8) := fun _ => rfl
theorem free_8 : ∀ x ∈ (fscope 8).names, x.2 ≠ .free := by decide +kernel
theorem doc_8 : docOf (fbody 8) = none := rfl
theorem qual_8 : qualnameIn { scope := pw.main.scope, locals := mainGlobals, globals := mainGlobals, cells := [] } "map_table_b3" "map_table_b3" = "map_table_b3" := rfl
theorem tree_10 : PlainDefTree "_law_noise" (fpar 10) (fbody 10) (fscope 10) (fpos 10) := fun _ => rfl
theorem free_10 : ∀ x ∈ (fscope 10).names, x.2 ≠ .free := by decide +kernel
theorem doc_10 : docOf (fbody 10) = none := rfl
theorem qual_10 : qualnameIn { scope := pw.main.scope, locals := mainGlobals, globals := mainGlobals, cells := [] } "_law_noise" "_law_noise" = "_law_noise" := rfl
theorem tree_11 : PlainDefTree "_law_drawn" (fpar 11) (fbody 11) (fscope 11) (fpos 11) := fun _ => rfl
theorem free_11 : ∀ x ∈ (fscope 11).names, x.2 ≠ .free := by decide +kernel
theorem doc_11 : docOf (fbody 11) = none := rfl
theorem qual_11 : qualnameIn { scope := pw.main.scope, locals := mainGlobals, globals := mainGlobals, cells := [] } "_law_drawn" "_law_drawn" = "_law_drawn" := rfl
theorem tree_12 : PlainDefTree "_law_days" (fpar 12) (fbody 12) (fscope 12) (fpos 12) := fun _ => rfl
theorem free_12 : ∀ x ∈ (fscope 12).names, x.2 ≠ .free := by decide +kernel
theorem doc_12 : docOf (fbody 12) = none := rfl
theorem qual_12 : qualnameIn { scope := pw.main.scope, locals := mainGlobals, globals := mainGlobals, cells := [] } "_law_days" "_law_days" = "_law_days" := rfl
theorem tree_13 : PlainDefTree "_law_from" (fpar 13) (fbody 13) (fscope 13) (fpos 13) := fun _ => rfl
theorem free_13 : ∀ x ∈ (fscope 13).names, x.2 ≠ .free := by decide +kernel
theorem doc_13 : docOf (fbody 13) = none := rfl
theorem qual_13 : qualnameIn { scope := pw.main.scope, locals := mainGlobals, globals := mainGlobals, cells := [] } "_law_from" "_law_from" = "_law_from" := rfl
theorem tree_14 : PlainDefTree "_law_told" (fpar 14) (fbody 14) (fscope 14) (fpos 14) := fun _ => rfl
theorem free_14 : ∀ x ∈ (fscope 14).names, x.2 ≠ .free := by decide +kernel
theorem doc_14 : docOf (fbody 14) = none := rfl
theorem qual_14 : qualnameIn { scope := pw.main.scope, locals := mainGlobals, globals := mainGlobals, cells := [] } "_law_told" "_law_told" = "_law_told" := rfl
theorem tree_15 : PlainDefTree "_law_fits" (fpar 15) (fbody 15) (fscope 15) (fpos 15) := fun _ => rfl
theorem free_15 : ∀ x ∈ (fscope 15).names, x.2 ≠ .free := by decide +kernel
theorem doc_15 : docOf (fbody 15) = none := rfl
theorem qual_15 : qualnameIn { scope := pw.main.scope, locals := mainGlobals, globals := mainGlobals, cells := [] } "_law_fits" "_law_fits" = "_law_fits" := rfl
theorem tree_16 : PlainDefTree "law" (fpar 16) (fbody 16) (fscope 16) (fpos 16) := fun _ => rfl
theorem free_16 : ∀ x ∈ (fscope 16).names, x.2 ≠ .free := by decide +kernel
theorem doc_16 : docOf (fbody 16) = none := rfl
theorem qual_16 : qualnameIn { scope := pw.main.scope, locals := mainGlobals, globals := mainGlobals, cells := [] } "law" "law" = "law" := rfl

end Mine
end

section
open PySem PySem.W PyProof.Rows
set_option maxRecDepth 20000
set_option linter.unusedVariables false
namespace Mine

def defsL : List (Str × Nat) := [("law", 16), ("_law_fits", 15), ("_law_told", 14), ("_law_from", 13), ("_law_days", 12), ("_law_drawn", 11), ("_law_noise", 10), ("map_table_b3", 8), ("in_table_b1", 6), ("_is_private", 3), ("_is_sunder", 2), ("_is_dunder", 1)]
theorem at0 {body : List Stmt} : body = body.drop 0 := rfl
section
variable {w : World} {A : Around} {E : Value → Shared → Prop} {s : Shared} {h₀ : Heap} {mg₀ mb mg : Str → Option Value} {c Pl F : Addr} {ps : Array Value} {L : List (Str × Nat)} {N : List Str} {B1 B3 : Bool} {Q : Flow → Shared → Prop}

theorem swaps_dict {ks : List (Option Expr)} {vs : List Expr} {q : Pos} {t : Option Expr} {l : Nat} {env : Env} : swapsWith (.Dict ks vs q) t l env = pure false := rfl
/-- the builtins, on the way -/
structure Blt (h₀ : Heap) (mg₀ mb : Str → Option Value) : Prop where
  b : h₀.Ns builtinsNs mb
  st : h₀.Ns cStatics (fun _ => none)
  sys : (h₀.get? sysModules).isSome = true
  set : mg₀ "set" = none ∧ mb "set" = some (.type "set")
  list : mg₀ "list" = none ∧ mb "list" = some (.type "list")
  range : mg₀ "range" = none ∧ mb "range" = some (.type "range")

/-- the places of the codes: all above a line -/
inductive Tri (b : Nat) : List Value → Prop
  | nil : Tri b []
  | cons {l c : Nat} {t u : Tok} {v : Value} {r : List Value} : l ≤ b → Tri b r → Tri b (.int l t :: .int c u :: v :: r)
theorem Tri.away {b : Nat} {l : List Value} (h : Tri b l) {pos : Pos} (hp : b < pos.line) : codeAmong pos l = none := by
  induction h with
  | nil => rfl
  | @cons l c t u v r hl _ ih =>
    show (if ((l : Int) == (pos.line : Int) && (c : Int) == (pos.col : Int)) = true then some v else codeAmong pos r) = none
    have : ((l : Int) == (pos.line : Int)) = false := beq_eq_false_iff_ne.mpr (by omega)
    rw [this, Bool.false_and, if_neg (by decide)]
    exact ih
theorem Tri.snoc {b b' : Nat} {l : List Value} (h : Tri b l) (hb : b ≤ b') {p : Pos} (hp : p.line ≤ b') {v : Value} : Tri b' (l ++ [rawInt p.line, rawInt p.col, v]) := by
  induction h with
  | nil => exact .cons hp .nil
  | cons hl _ ih => exact .cons (Nat.le_trans hl hb) ih
def St5 (bd : List Stmt) : Prop := ∃ p r es p1 p2 p3 p4 p5 p6 p7 p8 p9 p10 z1 z2, IntsE es n11 ∧ bd[(5 : Nat)]? = some (.Assign [.Name "b1_set" p] (.Call (.Name "set" p1) [.BinOp (.List es p2) .Add (.Call (.Name "list" p3) [.Call (.Name "range" p4) [.Constant (.int 65024) z1 p5, .Constant (.int 65040) z2 p6] [] p7] [] p8) p9] [] p10) r)
variable {bd : List Stmt}
theorem step_def (G : Got h₀ mg₀ (P1 w) (P3 w) c Pl s.heap mg ps L N B1 B3) {i : Nat} {name : Str} (hst : bd[i]? = some (.FunctionDef name (fpar i) (fbody i) [] none [] (fscope i) none name (fpos i)))
    (hexec : PlainDefTree name (fpar i) (fbody i) (fscope i) (fpos i)) (hfree : ∀ x ∈ (fscope i).names, x.2 ≠ .free) (hdoc : docOf (fbody i) = none) (hloc : pw.main.scope.names.lookup name = some .local)
    (hq : qualnameIn { scope := pw.main.scope, locals := mainGlobals, globals := mainGlobals, cells := [] } name name = name) (hL : ∀ q ∈ L, q.1 ≠ name) (h1 : name ≠ "b1_set") (h3 : name ≠ "b3_exceptions") (hnb : name ≠ "__builtins__")
    {b : Nat} (hT : Tri b ps.toList) (hlt : b < (fpos i).line)
    (K : ∀ (c' : Addr) h' tk mg' ps', Got h₀ mg₀ (P1 w) (P3 w) c Pl h' mg' ps' ((name, i) :: L) (name :: N) B1 B3 → Tri (fpos i).line ps'.toList → wpAny (model pw w) A (execs (bd.drop (i + 1)) (mainEnv pw c F)) Q E { s with heap := h', toks := tk }) :
    wpAny (model pw w) A (execs (bd.drop i) (mainEnv pw c F)) Q E s :=
  execs_at hst (top_def (stays1 w) (stays3 w) G hexec hfree hdoc hloc hq hL (fun _ => h1) (fun _ => h3) hnb (hT.away hlt) fun c' h' tk mg' G' => K c' h' tk mg' _ G' (by rw [Array.toList_append]; exact hT.snoc (Nat.le_of_lt hlt) (Nat.le_refl _)))

theorem step_name (G : Got h₀ mg₀ (P1 w) (P3 w) c Pl s.heap mg ps L N B1 B3) {i : Nat} {v : Str} (hst : ∃ p z q r, bd[i]? = some (.Assign [.Name "__name__" p] (.Constant (.str v) z q) r)) (hL : ∀ q ∈ L, q.1 ≠ "__name__")
    (K : ∀ h' tk mg', Got h₀ mg₀ (P1 w) (P3 w) c Pl h' mg' ps L ("__name__" :: N) B1 B3 → wpAny (model pw w) A (execs (bd.drop (i + 1)) (mainEnv pw c F)) Q E { s with heap := h', toks := tk }) :
    wpAny (model pw w) A (execs (bd.drop i) (mainEnv pw c F)) Q E s := by
  obtain ⟨p, z, q, r, hst⟩ := hst
  exact execs_at hst (top_name (stays1 w) (stays3 w) G rfl hL (fun _ => by decide) (fun _ => by decide) (by decide) fun h' tk mg' G' => K h' tk mg' G')

theorem step_b1 (st5 : St5 bd) (R : Room 3 A) (Bt : Blt h₀ mg₀ mb) (G : Got h₀ mg₀ (P1 w) (P3 w) c Pl s.heap mg ps L N false B3) (hN : ∀ x ∈ (["set", "list", "range"] : List Str), x ∉ N) (hL : ∀ q ∈ L, q.1 ≠ "b1_set")
    (K : ∀ h' tk mg', Got h₀ mg₀ (P1 w) (P3 w) c Pl h' mg' ps L ("b1_set" :: N) true B3 → wpAny (model pw w) A (execs (bd.drop 6) (mainEnv pw c F)) Q E { s with heap := h', toks := tk }) :
    wpAny (model pw w) A (execs (bd.drop 5) (mainEnv pw c F)) Q E s := by
  obtain ⟨p, r, es, p1, p2, p3, p4, p5, p6, p7, p8, p9, p10, z1, z2, hes, hst⟩ := st5
  have hb : s.heap.Ns builtinsNs mb := Bt.b.at fun o => G.keep _ o (by decide)
  have hlim : s.heap.NoLimit := ⟨_, Bt.st.at fun o => G.keep _ o (by decide), rfl⟩
  have nm : ∀ x ∈ (["set", "list", "range"] : List Str), mg x = mg₀ x := fun x hx => G.other x (hN x hx)
  refine execs_at hst (top_set (P := P1 w) (h' := s.heap) (v := 0) (stays1 w) (stays3 w) G rfl hL (fun h => by cases h) (fun _ => by decide) (by decide) (stays1 w) (by rfl) (fun K2 => run_b1 hes R G.main.g hb hlim ⟨(nm _ (by simp)).trans Bt.set.1, Bt.set.2⟩ ⟨(nm _ (by simp)).trans Bt.list.1, Bt.list.2⟩ ⟨(nm _ (by simp)).trans Bt.range.1, Bt.range.2⟩ K2) fun h' tk mg' G' a => ?_)
  exact K h' tk mg' (G'.with1 a)

def RunB3 (w : World) (A : Around) (E : Value → Shared → Prop) (s : Shared) (e : Expr) (env : Env) : Prop := ∀ Q : Value → Shared → Prop, (s.heap.get? sysModules).isSome = true → (∀ a h' tk, Le s.heap h' → (∀ b o, s.heap.get? b = some o → b ≠ a) → P3 w h' a → Q (.ref a) { s with heap := h', toks := tk }) → wpAny (model pw w) A (eval e env) Q E s

theorem run_b3' (w : World) (A : Around) (E : Value → Shared → Prop) (s : Shared) (env : Env) (q : Pos) : RunB3 w A E s (.Dict b3K b3V q) env := by
  unfold RunB3
  exact fun Q => @run_b3 w A E s env q Q
theorem st7' : ∃ p r e, pw.main.body[(7 : Nat)]? = some (.Assign [.Name "b3_exceptions" p] e r) ∧ (∀ t l env, swapsWith e t l env = pure false) ∧ ∀ w A E s env, RunB3 w A E s e env := by
  obtain ⟨p, q, r, h⟩ := st7
  refine ⟨p, r, .Dict b3K b3V q, h, ?_, ?_⟩
  · intro t l env
    exact swaps_dict
  · intro w A E s env
    have := @run_b3' w A E s env q
    revert this
    generalize Expr.Dict b3K b3V q = e
    exact id
theorem step_b3' {bd : List Stmt} {p r : Pos} {e : Expr} (hst : bd[(7 : Nat)]? = some (.Assign [.Name "b3_exceptions" p] e r)) (hsw : ∀ t l env, swapsWith e t l env = pure false) (hrun : RunB3 w A E s e (mainEnv pw c F))
    (Bt : Blt h₀ mg₀ mb) (G : Got h₀ mg₀ (P1 w) (P3 w) c Pl s.heap mg ps L N B1 false) (hL : ∀ q ∈ L, q.1 ≠ "b3_exceptions")
    (K : ∀ h' tk mg', Got h₀ mg₀ (P1 w) (P3 w) c Pl h' mg' ps L ("b3_exceptions" :: N) B1 true → wpAny (model pw w) A (execs (bd.drop 8) (mainEnv pw c F)) Q E { s with heap := h', toks := tk }) :
    wpAny (model pw w) A (execs (bd.drop 7) (mainEnv pw c F)) Q E s := by
  have hsys : (s.heap.get? sysModules).isSome = true := by
    obtain ⟨o, e⟩ := Option.isSome_iff_exists.mp Bt.sys
    rw [G.keep _ o (by decide) e]; rfl
  unfold RunB3 at hrun
  refine execs_at hst (top_set (P := P3 w) (h' := s.heap) (v := 0) (stays1 w) (stays3 w) G rfl hL (fun _ => by decide) (fun h => by cases h) (by decide) (stays3 w) (hsw _ _ _) (fun {Q} K2 => hrun Q hsys K2) fun h' tk mg' G' a => ?_)
  exact K h' tk mg' (G'.with3 a)
def St7 (bd : List Stmt) : Prop := ∃ p r e, bd[(7 : Nat)]? = some (.Assign [.Name "b3_exceptions" p] e r) ∧ (∀ t l env, swapsWith e t l env = pure false) ∧ ∀ w A E s env, RunB3 w A E s e env
theorem step_b3 (st7 : St7 bd) (Bt : Blt h₀ mg₀ mb) (G : Got h₀ mg₀ (P1 w) (P3 w) c Pl s.heap mg ps L N B1 false) (hL : ∀ q ∈ L, q.1 ≠ "b3_exceptions")
    (K : ∀ h' tk mg', Got h₀ mg₀ (P1 w) (P3 w) c Pl h' mg' ps L ("b3_exceptions" :: N) B1 true → wpAny (model pw w) A (execs (bd.drop 8) (mainEnv pw c F)) Q E { s with heap := h', toks := tk }) :
    wpAny (model pw w) A (execs (bd.drop 7) (mainEnv pw c F)) Q E s := by
  obtain ⟨p, r, e, hst, hsw, hrun⟩ := st7
  exact step_b3' hst hsw (hrun w A E s (mainEnv pw c F)) Bt G hL K
def StD (bd : List Stmt) (i : Nat) (name : Str) : Prop := bd[i]? = some (.FunctionDef name (fpar i) (fbody i) [] none [] (fscope i) none name (fpos i))
def StN (bd : List Stmt) (i : Nat) (v : Str) : Prop := ∃ p z q r, bd[i]? = some (.Assign [.Name "__name__" p] (.Constant (.str v) z q) r)
structure Stmts (bd : List Stmt) : Prop where
  s0 : StN bd 0 "cpy313.enum"
  s1 : StD bd 1 "_is_dunder"
  s2 : StD bd 2 "_is_sunder"
  s3 : StD bd 3 "_is_private"
  s4 : StN bd 4 "cpy313.stringprep"
  s5 : St5 bd
  s6 : StD bd 6 "in_table_b1"
  s7 : St7 bd
  s8 : StD bd 8 "map_table_b3"
  s9 : StN bd 9 "law_rw0077_01"
  s10 : StD bd 10 "_law_noise"
  s11 : StD bd 11 "_law_drawn"
  s12 : StD bd 12 "_law_days"
  s13 : StD bd 13 "_law_from"
  s14 : StD bd 14 "_law_told"
  s15 : StD bd 15 "_law_fits"
  s16 : StD bd 16 "law"
  len : bd.length = 17
theorem stmts_pw : Stmts pw.main.body := ⟨st0, st1, st2, st3, st4, st5, st6, st7', st8, st9, st10, st11, st12, st13, st14, st15, st16, body_len⟩
end
end Mine
end

section
open PySem PySem.W PyProof.Rows
set_option maxRecDepth 20000
set_option linter.unusedVariables false
namespace Mine

def namesN : List Str := ["law", "_law_fits", "_law_told", "_law_from", "_law_days", "_law_drawn", "_law_noise", "__name__", "map_table_b3", "b3_exceptions", "in_table_b1", "b1_set", "__name__", "_is_private", "_is_sunder", "_is_dunder", "__name__"]
section
variable {w : World} {A : Around} {E : Value → Shared → Prop} {s : Shared} {h₀ : Heap} {mg₀ mb mg : Str → Option Value} {c Pl F : Addr} {Q : Flow → Shared → Prop}
set_option maxHeartbeats 4000000 in
theorem top_run {bd : List Stmt} (S : Stmts bd) (R : Room 3 A) (Bt : Blt h₀ mg₀ mb) (G : Got h₀ mg₀ (P1 w) (P3 w) c Pl s.heap mg #[] [] [] false false)
    (K : ∀ h' tk mg' ps, Got h₀ mg₀ (P1 w) (P3 w) c Pl h' mg' ps defsL namesN true true → Q .next { s with heap := h', toks := tk }) :
    wpAny (model pw w) A (execs bd (mainEnv pw c F)) Q E s := by
  rw [show bd = bd.drop 0 from rfl]
  have T : Tri 0 (#[] : Array Value).toList := .nil
  refine step_name G S.s0 (by decide) fun h0 t0 mg0 G => ?_
  refine step_def G S.s1 tree_1 free_1 doc_1 rfl qual_1 (by decide) (by decide) (by decide) (by decide) T (by decide +kernel) fun c1 h1 t1 mg1 ps1 G T => ?_
  refine step_def G S.s2 tree_2 free_2 doc_2 rfl qual_2 (by decide) (by decide) (by decide) (by decide) T (by decide +kernel) fun c2 h2 t2 mg2 ps2 G T => ?_
  refine step_def G S.s3 tree_3 free_3 doc_3 rfl qual_3 (by decide) (by decide) (by decide) (by decide) T (by decide +kernel) fun c3 h3 t3 mg3 ps3 G T => ?_
  refine step_name G S.s4 (by decide) fun h4 t4 mg4 G => ?_
  refine step_b1 S.s5 R Bt G (by decide) (by decide) fun h5 t5 mg5 G => ?_
  refine step_def G S.s6 tree_6 free_6 doc_6 rfl qual_6 (by decide) (by decide) (by decide) (by decide) T (by decide +kernel) fun c6 h6 t6 mg6 ps6 G T => ?_
  refine step_b3 S.s7 Bt G (by decide) fun h7 t7 mg7 G => ?_
  refine step_def G S.s8 tree_8 free_8 doc_8 rfl qual_8 (by decide) (by decide) (by decide) (by decide) T (by decide +kernel) fun c8 h8 t8 mg8 ps8 G T => ?_
  refine step_name G S.s9 (by decide) fun h9 t9 mg9 G => ?_
  refine step_def G S.s10 tree_10 free_10 doc_10 rfl qual_10 (by decide) (by decide) (by decide) (by decide) T (by decide +kernel) fun c10 h10 t10 mg10 ps10 G T => ?_
  refine step_def G S.s11 tree_11 free_11 doc_11 rfl qual_11 (by decide) (by decide) (by decide) (by decide) T (by decide +kernel) fun c11 h11 t11 mg11 ps11 G T => ?_
  refine step_def G S.s12 tree_12 free_12 doc_12 rfl qual_12 (by decide) (by decide) (by decide) (by decide) T (by decide +kernel) fun c12 h12 t12 mg12 ps12 G T => ?_
  refine step_def G S.s13 tree_13 free_13 doc_13 rfl qual_13 (by decide) (by decide) (by decide) (by decide) T (by decide +kernel) fun c13 h13 t13 mg13 ps13 G T => ?_
  refine step_def G S.s14 tree_14 free_14 doc_14 rfl qual_14 (by decide) (by decide) (by decide) (by decide) T (by decide +kernel) fun c14 h14 t14 mg14 ps14 G T => ?_
  refine step_def G S.s15 tree_15 free_15 doc_15 rfl qual_15 (by decide) (by decide) (by decide) (by decide) T (by decide +kernel) fun c15 h15 t15 mg15 ps15 G T => ?_
  refine step_def G S.s16 tree_16 free_16 doc_16 rfl qual_16 (by decide) (by decide) (by decide) (by decide) T (by decide +kernel) fun c16 h16 t16 mg16 ps16 G T => ?_
  rw [List.drop_of_length_le (by rw [S.len]; decide)]
  exact wpAny_execs_nil (K _ _ _ _ G)
end
end Mine
end

section
open PySem PySem.W PyProof.Rows
set_option maxRecDepth 20000
set_option linter.unusedVariables false
namespace Mine

def TopIs (w : World) (h₀ : Heap) (mg₀ : Str → Option Value) (h : Heap) : Prop := ∃ c Pl mg ps, Got h₀ mg₀ (P1 w) (P3 w) c Pl h mg ps defsL namesN true true

theorem room_top : Room 4 (callerA.mark none) := ⟨rfl, by decide +kernel, by decide +kernel⟩
theorem room_call : Room 8 callerA := ⟨rfl, by decide +kernel, by decide +kernel⟩
theorem top_wp {w : World} {s : Shared} {mb mg : Str → Option Value} {c0 Pl0 : Addr} (hg : s.gens = #[]) (hB : BootLeft9 (opening pw) s.heap mb mg c0 Pl0) (Bt : Blt s.heap mg mb) :
    wpAny (model pw w) callerA (topStub pw).cur (fun fin s' => fin = .done (.ret .none) ∧ s'.gens = #[] ∧ s'.os = s.os ∧ TopIs w s.heap mg s'.heap) (fun _ _ => False) s := by
  show wpAny (model pw w) callerA (do
      let code ← moduleCode pw.main
      let frame ← newBodyFrame code mainNs mainNs
      let _ ← run (.body (behindTheImports pw) { scope := pw.main.scope, locals := mainNs, globals := mainNs, cells := [], code, frame := some frame })
      ret .none) _ _ s
  refine wpAny_bind (wpAny_moduleCode fun c Pl h₁ tk₁ hk hc hPl hcode => ?_)
  unfold newBodyFrame
  refine wpAny_bind (wpAny_bind (wpAny_nsGet (hB.g.keeps hk) (wpAny_alloc ?_)))
  have hglt := hB.g.lt
  obtain ⟨bm, o, b1, b2, b3', b4, b5, b6⟩ := hB.bmod
  refine wpAny_bind (wpAny_run (codeAny_body (by decide +kernel) rfl ?_))
  rw [show behindTheImports pw = pw.main.body from rfl]
  refine wpAny_mono (E := fun _ _ => False) (top_run (w := w) (h₀ := s.heap) (mg₀ := mg) (mb := mb) (mg := mg) (c := c) (Pl := Pl) stmts_pw (room_top.deeper _) Bt ⟨⟨(hB.g.keeps hk).push _, hcode.push _, ⟨Nat.lt_of_lt_of_le hglt hc, Nat.lt_of_lt_of_le hglt hPl⟩, ⟨bm, o, b1, b2, b3', Nat.ne_of_lt (Nat.lt_of_lt_of_le (Heap.lt_size b5) hPl), Heap.get?_push_of_some _ (hk _ _ b5), b6⟩⟩, hPl, fun b o _ e => Heap.get?_push_of_some _ (hk b o e), by simp, nofun, nofun, fun _ _ => rfl⟩
    fun h' tk mg' ps G => ?_) (fun _ _ x => x) fun _ _ x => x.elim
  exact wpAny_pure ⟨rfl, hg, rfl, c, Pl, mg', ps, G⟩

theorem boot_blt {h : Heap} {mb mg : Str → Option Value} {c Pl : Addr} (hB : BootLeft9 (opening pw) h mb mg c Pl) : Blt h mg mb := by
  obtain ⟨mm, hm, _⟩ := hB.noThreading
  obtain ⟨o, es, ep, ho, _⟩ := hm
  refine ⟨hB.b, hB.statics, by rw [ho]; rfl, ⟨hB.others _ (by decide), (hB.builtins _ (by decide)).trans (by decide +kernel)⟩, ⟨hB.others _ (by decide), (hB.builtins _ (by decide)).trans (by decide +kernel)⟩, ⟨hB.others _ (by decide), (hB.builtins _ (by decide)).trans (by decide +kernel)⟩⟩

theorem names_ok : namesN.all (fun x => startupNames.contains x || pw.boundNames.contains x) = true := by decide +kernel
theorem laid_ok : laidNames.all (fun x => !namesN.contains x) = true := by decide +kernel
open PySem.Claim2Try (globalOf_of_ns)
theorem ran {w : World} {s s₁ : Shared} {mb mg : Str → Option Value} {c0 Pl0 : Addr} (hB : BootLeft9 (opening pw) s.heap mb mg c0 Pl0) (hT : TopIs w s.heap mg s₁.heap) (hg : s₁.gens = #[]) (hl : s₁.heap.life = s.heap.life) (ho : s₁.os = s.os)
    (hr : ∃ n t, schedN (denote table) pw w n (.single s (topStub pw)) = .running (.single s₁ t) ∧ through t = true) : TopRan pw w s s₁ := by
  obtain ⟨c, Pl, mg', ps, G⟩ := hT
  have hst : s₁.heap.Ns cStatics (fun _ => none) := hB.statics.at fun o => G.keep _ o (by decide)
  have hb : s₁.heap.Ns builtinsNs mb := hB.b.at fun o => G.keep _ o (by decide)
  obtain ⟨bm, o, b1, b2, b3', b4, b5, b6, b7, b8⟩ := G.main.bmod
  refine ⟨hr, hl, Shared.rest_eq ho, fun b o e hn => G.keep b o (fun q => hn (.inl q)) e, fun key v hv => ?_, fun key => .inl ((Pin.staticOf_of_ns hst key).trans (Pin.staticOf_of_ns hB.statics key).symm), Pin.keysAreStrs_of_ns G.main.g,
    fun x hx => (Pin.builtinOf_of_ns hb x).trans (hB.builtins x hx), ⟨bm, o, (globalOf_of_ns G.main.g _).trans b1, b5, b6, b7⟩, (fun g hgm => by rw [hg] at hgm; simp at hgm), fun x v hx => ?_, fun x hx => ?_⟩
  · rw [Pin.staticOf_of_ns hst key] at hv; cases hv
  · rw [globalOf_of_ns G.main.g] at hx
    by_cases hm : x ∈ namesN
    · have := List.all_eq_true.mp names_ok x hm
      simpa only [Bool.or_eq_true, List.contains_iff_mem] using this
    · rw [G.other x hm] at hx
      by_cases hbn : x ∈ bootMainNames
      · exact .inl hbn
      · rw [hB.others x hbn] at hx; cases hx
  · rw [globalOf_of_ns G.main.g, globalOf_of_ns hB.g]
    have := List.all_eq_true.mp laid_ok x hx
    exact G.other x (by simpa [List.contains_iff_mem] using this)
end Mine
end

section
open PySem PySem.W PyProof.Rows
set_option maxRecDepth 20000
set_option linter.unusedVariables false
namespace Mine
open PySem.Claim2Try (globalOf_of_ns)

section
variable {w : World} {h₀ h : Heap} {mg₀ mg mb : Str → Option Value} {c Pl c0 Pl0 : Addr} {ps : Array Value}

theorem has_of {B : Base} {i : Nat} {name : Str} (hh : B.h0 = h) (hm : B.mg = mg) (x : HasH h mg Pl name i) : Has B name i := by
  obtain ⟨a, o, pm, c', h1, _, _, h4, h5, _, _, h8⟩ := x
  exact ⟨a, o, pm, .ref c', .none, by rw [hm]; exact h1, by rw [hh]; exact h4, h5, by rw [hh]; exact h8⟩

theorem wd_of (hB : BootLeft9 (opening pw) h₀ mb mg₀ c0 Pl0) (G : Got h₀ mg₀ (P1 w) (P3 w) c Pl h mg ps defsL namesN true true) :
    ∃ B : Base, B.prog = pw ∧ B.w = w ∧ B.h0 = h ∧ B.mg = mg ∧ Wd B := by
  have hst : h.Ns cStatics (fun _ => none) := hB.statics.at fun o => G.keep _ o (by decide)
  have hb : h.Ns builtinsNs mb := hB.b.at fun o => G.keep _ o (by decide)
  refine ⟨⟨pw, w, h, mg, mb, G.main.g, hb, ⟨_, hst, rfl⟩⟩, rfl, rfl, rfl, rfl, ?_⟩
  have D : ∀ name i, (name, i) ∈ defsL → HasH h mg Pl name i := fun name i hm => G.defs _ hm
  have gl : ∀ (x : Str) (v : Value), x ∉ namesN → x ∉ bootMainNames → x ≠ "__name__" → bootBuiltins x = some v → mg x = some v ∨ (mg x = none ∧ mb x = some v) := fun x v h1 h2 h3 h4 =>
    .inr ⟨(G.other x h1).trans (hB.others x h2), (hB.builtins x h3).trans h4⟩
  obtain ⟨a1, m1, _, _, n1, S1⟩ := G.b1 rfl
  obtain ⟨a3, m3, _, _, T3⟩ := G.b3 rfl
  exact {
    sunder := has_of rfl rfl (D _ _ (by simp [defsL]))
    dunder := has_of rfl rfl (D _ _ (by simp [defsL]))
    priv := has_of rfl rfl (D _ _ (by simp [defsL]))
    inb1 := has_of rfl rfl (D _ _ (by simp [defsL]))
    mapb3 := has_of rfl rfl (D _ _ (by simp [defsL]))
    noise := has_of rfl rfl (D _ _ (by simp [defsL]))
    drawn := has_of rfl rfl (D _ _ (by simp [defsL]))
    days := has_of rfl rfl (D _ _ (by simp [defsL]))
    frm := has_of rfl rfl (D _ _ (by simp [defsL]))
    told := has_of rfl rfl (D _ _ (by simp [defsL]))
    fits := has_of rfl rfl (D _ _ (by simp [defsL]))
    law := has_of rfl rfl (D _ _ (by simp [defsL]))
    b1 := ⟨a1, m1, fun A s i t Q E _ l K => by
      have S1' : s.heap.SetOf (intKind pw w) a1 (fun i => noiseI.contains i) n1 := by
        obtain ⟨o, es, ep, tb, ho, r⟩ := S1
        exact ⟨o, es, ep, tb, l _ _ ho, r⟩
      exact wpAny_inSet_of (knd := intKind pw w) (k := i) (intKind_is _ _ _ _) rfl S1' (K _)⟩
    b3 := ⟨a3, m3, T3⟩
    len := gl _ _ (by decide) (by decide) (by decide) (by decide +kernel)
    ord := gl _ _ (by decide) (by decide) (by decide) (by decide +kernel)
    chr := gl _ _ (by decide) (by decide) (by decide) (by decide +kernel)
    divmod := gl _ _ (by decide) (by decide) (by decide) (by decide +kernel)
    max := gl _ _ (by decide) (by decide) (by decide) (by decide +kernel)
    min := gl _ _ (by decide) (by decide) (by decide) (by decide +kernel)
    isi := gl _ _ (by decide) (by decide) (by decide) (by decide +kernel)
    range := gl _ _ (by decide) (by decide) (by decide) (by decide +kernel)
    list := gl _ _ (by decide) (by decide) (by decide) (by decide +kernel)
    bool := gl _ _ (by decide) (by decide) (by decide) (by decide +kernel) }
end
end Mine
end

section
open PySem PySem.W PyProof.Rows
set_option maxRecDepth 20000
set_option linter.unusedVariables false
namespace Mine
open PySem.Claim2Try (globalOf_of_ns)

abbrev rw77 : OpenLaw := PySem.Challenge.rw_rw0077_01
theorem reps_of {P : Params} {h : Heap} : ∀ {vs : List Value} {ns : List Int}, WellAll P h vs (ns.map .int) → Reps (fun _ => False) h vs (dI ns)
  | _, [], x => by cases x; exact .nil
  | _, n :: ns, x => by
    rw [List.map_cons] at x
    cases x with
    | cons a b =>
      cases a with
      | int i t => exact .cons .int (reps_of b)

theorem args_of {args : List WData} (h : rw77.row.toRowW.claim.pre args = true) : ∃ ns : List Int, args = [.list (ns.map .int)] ∧ ns.length ≤ 63 := by
  have h1 := (pre_splitW h).1
  have h2 := (pre_splitW h).2
  have e1 : rw77.row.toRowW.args = [.list .int] := rfl
  rw [e1] at h1
  obtain ⟨d, r, rfl, h3, h4⟩ := hasAllW_cons h1
  have hr : r = [] := by
    cases r with
    | nil => rfl
    | cons x y => simp [WShape.hasAll] at h4
  subst hr
  obtain ⟨xs, rfl, h5⟩ := hasW_list h3
  obtain ⟨ns, rfl⟩ := items_int h5
  refine ⟨ns, rfl, ?_⟩
  have e2 : rw77.row.toRowW.pre = .and (.not (.lt (.lit (.int 63)) (.len (.arg 0)))) (.lit (.bool true)) := rfl
  rw [e2] at h2
  simp [WTm.holds, WTm.value] at h2
  have e3 : less? (WData.int 63) (WData.int (ns.length : Int)) = some (decide ((63 : Int) < (ns.length : Int))) := rfl
  rw [e3] at h2
  apply Nat.le_of_not_lt
  intro q
  have e4 : decide ((63 : Int) < (ns.length : Int)) = true := decide_eq_true (by omega)
  rw [e4] at h2
  simp at h2

theorem law_call {w : World} {s s₁ : Shared} {mb mg₀ : Str → Option Value} {c0 Pl0 : Addr} (hB : BootLeft9 (opening pw) s.heap mb mg₀ c0 Pl0) (hT : TopIs w s.heap mg₀ s₁.heap) {s₂ : Shared} (keeps : Le s₁.heap s₂.heap) {vs : List Value} {ns : List Int} (hn : ns.length ≤ 63)
    (hw : WellAll w.params s₂.heap vs [.list (ns.map .int)]) {Q : Fin → Shared → Prop} {E : Value → Shared → Prop} (K : ∀ h' tk, Le s₂.heap h' → Q (.done (.ret (.bool true))) { s₂ with heap := h', toks := tk }) : wpAny (model pw w) callerA (callStub "law" vs).cur Q E s₂ := by
  obtain ⟨c, Pl, mg, ps, G⟩ := hT
  have G2 := G.le (stays1 w) (stays3 w) keeps
  obtain ⟨B, e1, e2, e3, e4, W⟩ := wd_of hB G2
  obtain ⟨fv, hgl, _, hfn⟩ := fng_law (B := B) (k := 0) W ns (by omega) fun l _ => lawful_of l
  obtain ⟨a, o, pm, c', h1, _⟩ := G2.defs ("law", 16) (by simp [defsL])
  have hfv : fv = .ref a := by
    rcases hgl with q | ⟨q, _⟩
    · rw [e4, h1] at q; exact (Option.some.inj q).symm
    · rw [e4, h1] at q; cases q
  subst hfv
  have hr : Reps (fun _ => False) s₂.heap vs [.list (dI ns)] := by
    cases hw with
    | cons x y =>
      cases y
      cases x with
      | list ho hx => exact .cons (.list (fun q => q) ho (reps_of hx)) .nil
  have hM : model pw w = B.M := by show _ = model B.prog B.w; rw [e1, e2]
  rw [hM]
  refine wpAny_bind (wpAny_nsGet G2.main.g ?_)
  rw [h1]
  refine wpAny_bind (hfn.go callerA vs s₂ (fun _ => False) _ E (room_call.less (by decide)) (by rw [e3]; exact Le.refl _) (fun a q => q.elim) hr fun v h' tk l r => ?_)
  cases r
  exact wpAny_pure (K h' tk l)
end Mine
end

section
open PySem PySem.W PyProof.Rows
set_option maxRecDepth 100000
set_option linter.unusedVariables false
namespace Mine
open PySem.Claim2Try (globalOf_of_ns)

theorem promised77 : rw77.row.toRowW.promised := ⟨[.list [.int 3, .int 1]], by decide +kernel, by decide +kernel⟩
theorem opens77 : opensWell pw = true := by decide +kernel
theorem theDef77 : pw.theDef "law" = some (fpar 16, fbody 16, fscope 16) := rfl
theorem pin77 {w : World} {h₀ h : Heap} {mg₀ : Str → Option Value} (hT : TopIs w h₀ mg₀ h) : isTheDefsW pw h "law" := by
  obtain ⟨c, Pl, mg, ps, G⟩ := hT
  obtain ⟨a, o, pm, c', h1, _, _, h4, h5, _⟩ := G.defs ("law", 16) (by simp [defsL])
  exact ⟨a, o, _, _, _, _, (globalOf_of_ns G.main.g _).trans h1, h4, h5, theDef77, rfl, rfl, rfl, rfl, rfl, rfl, rfl, rfl, .inl ⟨rfl, rfl⟩, [], rfl, .inl ⟨rfl, rfl⟩⟩

theorem post77 (xs : List WData) : rw77.row.toRowW.claim.post xs (.bool true) xs = true := by
  show (WShape.has [] (.bool true) .bool && (WTm.eq .res (.lit (.bool true))).holds [] { args := xs, res := some (.bool true), after := xs }) = true
  rw [show WShape.has [] (.bool true) .bool = true by decide +kernel, Bool.true_and]
  simp [WTm.holds, WTm.value]
  rw [show same (WData.bool true) (WData.bool true) = true by decide +kernel]
theorem row_holds (said : rw77.row.wellSaid = true) : rw77.row.Holds := by
  have hw := promised77
  refine ⟨said, hw, ⟨bare_pw, opens77, rfl⟩, hw.witness, fun w => ⟨(boot_pw w).1, fun s hs => ?_⟩⟩
  obtain ⟨hg, mb, mg, c, Pl, hB⟩ := (boot_pw w).2 s hs
  have z : s.asleep := AfterImport.life hs
  obtain ⟨s₁, hT, hg1, hl, ho, z1, hr⟩ := top_ran z (top_wp hg hB (boot_blt hB))
  have R := ran hB hT hg1 hl ho hr
  refine ⟨s, fence_pw s, hg, s₁, R, fun n hn => ?_, fun x hx => (nomatch hx), fun x hx => (nomatch hx), ?_⟩
  · have : n = "law" := by
      have hn : n ∈ [("law" : Str)] := hn
      exact List.mem_singleton.mp hn
    rw [this]; exact pin77 hT
  · refine ClaimW.callFrom_of_specG (c := rw77.row.toRowW.claim) (tree := fun vs => (callStub "law" vs).cur) z1 hg1 fun args hpre hlay ord hord => ?_
    obtain ⟨ns, rfl, hn⟩ := args_of hpre
    obtain ⟨⟨vs, s₂⟩, hlaid⟩ := Option.isSome_iff_exists.mp (layAllW_isSome (P := w.params) (ord := ord) (R := rw77.row.toRowW.claim.records) (cl := classAt s₁.heap) (fun c hc => (nomatch hc)) [.list (ns.map .int)] rw77.row.toRowW.args s₁ (pre_splitW hpre).1)
    have keeps := layAllW_keeps _ _ _ hlaid
    have hal := layAllW_rest _ _ _ hlaid
    obtain ⟨as, hrd, hin, hold⟩ := reads_layAllW hord _ _ _ hlaid hlay s₂.heap (fun _ _ e => e)
    have L : Laid rw77.row.toRowW.claim.records w s₁ s₂ [.list (ns.map .int)] vs as := ⟨⟨ord, hord, hlaid⟩, hrd, hin, hold, keeps, hal.1.trans hg1, hal.2.2.1⟩
    refine ⟨vs, s₂, hlaid, law_call hB hT keeps hn (well_layAllW hord _ _ _ hlaid _ fun _ _ e => e) fun h' tk l => ?_⟩
    have g : GoodWG rw77.row.toRowW.claim (classAt s₁.heap) (ExcName.means s₁.heap) [.list (ns.map .int)] s₂ (.ok (.ret (.bool true))) { s₂ with heap := h', toks := tk } :=
      ⟨.inl ⟨.bool true, .bool true, [], rfl, fun cls => rfl, .bool true, post77 _, fun _ => ⟨List.nodup_nil, fun a ha => (nomatch ha)⟩⟩, .of_keep l, rfl, .of_eq (hal.1.trans hg1)⟩
    have q := g.laid (c := rw77.row.toRowW.claim) rfl rfl (ident_freeW rfl rfl rfl) L
    exact ⟨_, rfl, q.1, q.2.1, q.2.2, fun e => by cases e⟩
end Mine
end

open PySem PySem.W PyProof.Rows
set_option maxRecDepth 100000 in
set_option maxHeartbeats 8000000 in
theorem PySem.Challenge.cw_rw0077_01_holds : PySem.Challenge.rw_rw0077_01.Holds := by
  o_law
  exact Mine.row_holds (by assumption)
