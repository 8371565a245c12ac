import PyProof.Rows.All
import Wide.All
import OpenK.AllK
import Wide.FinOn
import Lean
import PySem.Challenge.RW_ti0022_01
open PySem PySem.W PySem.Calls PyProof.Rows
set_option maxRecDepth 100000
set_option Elab.async false
set_option linter.unusedVariables false
set_option genSizeOf false
set_option genInjectivity false
set_option maxHeartbeats 4000000
namespace Mine
section
abbrev PR : Program := PySem.Challenge.rw_ti0022_01.row.prog
abbrev LO : List Str := [Str.ofString "EXACT_TOKEN_TYPES"]
/-- all that stood stands -/
abbrev Ext (h h' : Heap) : Prop := ∀ b o, h.get? b = some o → h'.get? b = some o
theorem Ext.refl (h : Heap) : Ext h h := fun _ _ e => e
theorem Ext.trans {a b c : Heap} (x : Ext a b) (y : Ext b c) : Ext a c := fun d o e => y d o (x d o e)
/-- the room that a call of n levels wants -/
structure Amb (n : Nat) (A : Around) : Prop where
  handled : A.handled = none
  depth : A.depth + n < recursionLimit
  units : A.units + 40 * n < cLine
theorem Amb.deeper {n : Nat} {A : Around} (h : Amb (n + 1) A) (env : Env) : Amb n (A.deeper env) := by
  obtain ⟨a, b, c⟩ := h
  refine ⟨a, ?_, ?_⟩
  · show A.depth + 1 + n < _; omega
  · show A.units + 3 + 40 * n < _; omega
theorem Amb.le {n m : Nat} {A : Around} (h : Amb n A) (hm : m ≤ n) : Amb m A := by
  obtain ⟨a, b, c⟩ := h
  exact ⟨a, by omega, by omega⟩
/-- what a turn of a loop leaves -/
def LPost (n : Nat) (I : Nat → Shared → Prop) (R : Result → Shared → Prop) (f : Flow) (s₃ : Shared) : Prop :=
  match f with
  | .next | .cont => ∃ m, m < n ∧ I m s₃
  | .brk => R (.ok .next) s₃
  | .ret v => R (.ok (.ret v)) s₃
theorem LPost.next {n m : Nat} {I : Nat → Shared → Prop} {R : Result → Shared → Prop} {s₃ : Shared} (h : m < n) (hi : I m s₃) : LPost n I R .next s₃ := ⟨m, h, hi⟩
section
variable {w : World} {A : Around} {env : Env}
theorem for_any {R : Result → Shared → Prop} {target it body orelse} (I : Nat → Shared → Prop)
    (turn : ∀ n s, I n s → wpAny (model PR w) A (pyNext it) (fun r s₁ => match r with
      | none => wpAny (model PR w) A (execs orelse env) (fun f s₃ => R (.ok f) s₃) (fun _ _ => False) s₁
      | some v => wpAny (model PR w) A (letOwnedTupleGo target it v) (fun _ s₂ => wpAny (model PR w) A (assign target env v) (fun _ s₃ => wpAny (model PR w) A (execs body env) (LPost n I R) (fun _ _ => False) s₃) (fun _ _ => False) s₂) (fun _ _ => False) s₁) (fun _ _ => False) s)
    (n : Nat) (h : I n s) : codeAny (model PR w) A (.forLoop target it body orelse env) R s := by
  refine codeAny_forLoop_any I (fun n s hI => wpAny_mono (turn n s hI) (fun r s₁ h₁ => ?_) fun _ _ x => x.elim) n h
  cases r with
  | none => exact wpAny_mono h₁ (fun _ _ x => x) fun _ _ x => x.elim
  | some v =>
    refine wpAny_mono h₁ (fun _ s₂ h₂ => wpAny_mono h₂ (fun _ s₃ h₃ => wpAny_mono h₃ (fun f s₄ h₄ => ?_) fun _ _ x => x.elim) fun _ _ x => x.elim) fun _ _ x => x.elim
    cases f <;> exact h₄
theorem while_any {R : Result → Shared → Prop} {test body orelse} (I : Nat → Shared → Prop)
    (turn : ∀ n s, I n s → wpAny (model PR w) A (isTrue test env (eval test env)) (fun b s₂ =>
        if b then wpAny (model PR w) A (execs body env) (LPost n I R) (fun _ _ => False) s₂
        else wpAny (model PR w) A (execs orelse env) (fun f s₃ => R (.ok f) s₃) (fun _ _ => False) s₂) (fun _ _ => False) s)
    (n : Nat) (h : I n s) : codeAny (model PR w) A (.whileLoop test body orelse env) R s := by
  refine codeAny_whileLoop I (fun n s hI => wpAny_mono (turn n s hI) (fun b s₂ h₂ => ?_) fun _ _ x => x.elim) n h
  cases b with
  | false =>
    simp only [Bool.false_eq_true, if_false] at h₂ ⊢
    exact wpAny_mono h₂ (fun _ _ x => x) fun _ _ x => x.elim
  | true =>
    simp only [if_true] at h₂ ⊢
    refine wpAny_mono h₂ (fun f s₃ h₃ => ?_) fun _ _ x => x.elim
    cases f <;> exact h₃
end
end
section
/-- values without their tokens -/
inductive PV where
  | bool (b : Bool)
  | int (i : Int)
  | str (x : Str)
  | fix (v : Value)
  | list (xs : List PV)
  | tup (xs : List PV)
  | dct (kvs : List (Str × Int))
  | tok (x : Str) (n : Nat)
def DK : List (Str × Int) → List (Str × Value) → Prop
  | [], [] => True
  | (k, i) :: r, (k', v) :: es => (k' = k ∧ ∃ u, v = .int i u) ∧ DK r es
  | _, _ => False
mutual
inductive Is (w : World) (ok : Addr → Prop) (h : Heap) : PV → Value → Prop
  | bool (b : Bool) : Is w ok h (.bool b) (.bool b)
  | int (i : Int) (t : Tok) : Is w ok h (.int i) (.int i t)
  | str (x : Str) (t : Tok) : Is w ok h (.str x) (.str x t)
  | fix (v : Value) : Is w ok h (.fix v) v
  | tok (x : Str) (n : Nat) (t : Tok) (e : @LE.le Nat _ n t) : Is w ok h (.tok x n) (.str x t)
  | list {xs : List PV} {vs : List Value} {a : Addr} {n : Nat} (hok : ok a) (ho : h.get? a = some { cls := .type "list", data := .seq vs.toArray n }) (hi : IsL w ok h xs vs) : Is w ok h (.list xs) (.ref a)
  | tup {xs : List PV} {vs : List Value} {a : Addr} {n : Nat} (hok : ok a) (ho : h.get? a = some { cls := .type "tuple", data := .seq vs.toArray n }) (hi : IsL w ok h xs vs) : Is w ok h (.tup xs) (.ref a)
  | dct {kvs : List (Str × Int)} {es : List (Str × Value)} {a : Addr} {o : Obj} (hok : ok a) (ho : h.get? a = some o) (hd : o.IsDictOf (PySem.strKind PR w) es) (hi : DK kvs es) : Is w ok h (.dct kvs) (.ref a)
inductive IsL (w : World) (ok : Addr → Prop) (h : Heap) : List PV → List Value → Prop
  | nil : IsL w ok h [] []
  | cons {x : PV} {v : Value} {xs : List PV} {vs : List Value} (h1 : Is w ok h x v) (h2 : IsL w ok h xs vs) : IsL w ok h (x :: xs) (v :: vs)
end
section
variable {w : World} {ok ok' : Addr → Prop} {h h' : Heap}
mutual
theorem Is.mono (g : ∀ a o, ok a → h.get? a = some o → ok' a ∧ h'.get? a = some o) : ∀ {r : PV} {v : Value}, Is w ok h r v → Is w ok' h' r v
  | _, _, .bool b => .bool b
  | _, _, .int i t => .int i t
  | _, _, .str x t => .str x t
  | _, _, .fix v => .fix v
  | _, _, .tok x n t e => .tok x n t e
  | _, _, .list hok ho hi => .list (g _ _ hok ho).1 (g _ _ hok ho).2 (IsL.mono g hi)
  | _, _, .tup hok ho hi => .tup (g _ _ hok ho).1 (g _ _ hok ho).2 (IsL.mono g hi)
  | _, _, .dct hok ho hd hi => .dct (g _ _ hok ho).1 (g _ _ hok ho).2 hd hi
theorem IsL.mono (g : ∀ a o, ok a → h.get? a = some o → ok' a ∧ h'.get? a = some o) : ∀ {xs : List PV} {vs : List Value}, IsL w ok h xs vs → IsL w ok' h' xs vs
  | _, _, .nil => .nil
  | _, _, .cons h1 h2 => .cons (Is.mono g h1) (IsL.mono g h2)
end
theorem Is.ext {r : PV} {v : Value} (x : Is w ok h r v) (e : Ext h h') : Is w ok h' r v := x.mono fun a o q c => ⟨q, e a o c⟩
theorem IsL.ext {xs : List PV} {vs : List Value} (x : IsL w ok h xs vs) (e : Ext h h') : IsL w ok h' xs vs := x.mono fun a o q c => ⟨q, e a o c⟩
theorem IsL.length {xs : List PV} {vs : List Value} (x : IsL w ok h xs vs) : xs.length = vs.length := by
  match x with
  | .nil => rfl
  | .cons _ h2 => exact congrArg (· + 1) h2.length
theorem IsL.get {xs : List PV} {vs : List Value} (x : IsL w ok h xs vs) (i : Nat) {r : PV} (e : xs[i]? = some r) : ∃ v, vs[i]? = some v ∧ Is w ok h r v := by
  match x, i with
  | .nil, _ => cases e
  | .cons h1 _, 0 => exact ⟨_, rfl, by cases e; exact h1⟩
  | .cons _ h2, i + 1 => exact h2.get i e
theorem IsL.append {xs ys : List PV} {vs us : List Value} (x : IsL w ok h xs vs) (y : IsL w ok h ys us) : IsL w ok h (xs ++ ys) (vs ++ us) := by
  match x with
  | .nil => exact y
  | .cons h1 h2 => exact .cons h1 (h2.append y)
end

/-- what stands at a place -/
def At (w : World) (ok : Addr → Prop) (h : Heap) (a : Addr) : PV → Prop
  | .list xs => ∃ vs n, h.get? a = some { cls := .type "list", data := .seq (List.toArray vs) n } ∧ IsL w ok h xs vs
  | .dct kvs => ∃ o es, h.get? a = some o ∧ Obj.IsDictOf (PySem.strKind PR w) o es ∧ DK kvs es
  | _ => False
theorem At.mono {w : World} {ok ok' : Addr → Prop} {h h' : Heap} {a : Addr} {r : PV} (x : At w ok h a r) (g : ∀ a o, ok a → h.get? a = some o → ok' a ∧ h'.get? a = some o) (ga : ∀ o, h.get? a = some o → h'.get? a = some o) : At w ok' h' a r := by
  cases r <;> first | exact x.elim | exact (let ⟨vs, n, e, i⟩ := x; ⟨vs, n, ga _ e, i.mono g⟩) | exact (let ⟨o, es, e, d, i⟩ := x; ⟨o, es, ga _ e, d, i⟩)
/-- the text's own names and the builtins -/
structure TR (mg mb : Str → Option Value) (h : Heap) : Prop where
  g : h.Ns mainGlobals mg
  b : h.Ns builtinsNs mb
  nolimit : h.NoLimit
  builtins : ∀ x : Str, x ≠ "__name__" → mb x = bootBuiltins x
theorem TR.keeps {mg mb : Str → Option Value} {h h' : Heap} (T : TR mg mb h) (e : Ext h h') : TR mg mb h' := ⟨T.g.keeps e, T.b.keeps e, T.nolimit.keeps e, T.builtins⟩
/-- a frame and its place -/
structure FC where
  K : Params → Frag
  w : World
  A : Around
  env : Env
  h₀ : Heap
  ok : Addr → Prop
  n : Nat
  okr : Addr → Prop
  ma : Addr
  mx : Str
  lo : Nat
structure FC.Good (C : FC) : Prop where
  amb : Amb C.n C.A
  X : (C.K C.w.params).In C.h₀
  T : ∃ mg mb, TR mg mb C.h₀
  fn : C.env.scope.kind = .function
  gl : C.env.globals = mainGlobals
  bl : C.env.builtins = builtinsNs
  notL : ¬ C.ok C.env.locals
  newL : C.h₀.get? C.env.locals = none
  notC : ∀ x c, C.env.cells.lookup x = some c → ¬ C.ok c ∧ C.h₀.get? c = none ∧ c ≠ C.env.locals
  apart : ∀ x y c, C.env.cells.lookup x = some c → C.env.cells.lookup y = some c → x = y
  okr : ∀ a, C.ok a → C.okr a
  notM : ¬ C.ok C.ma
  hat : C.env.kindOf ("@" : Str) = none
abbrev Vars := List (Str × PV)
/-- the names' values as the frame bears them -/
structure Sees (C : FC) (μ : Vars) (h : Heap) : Prop where
  keep : Ext C.h₀ h
  fresh : ∀ a, h.get? a = none → C.ok a
  ns : ∃ m, h.Ns C.env.locals m ∧ ∀ x r, μ.lookup x = some r → C.env.kindOf x = some .local → ∃ v, m x = some v ∧ Is C.w C.ok h r v
  cells : ∀ x r, μ.lookup x = some r → (C.env.kindOf x = some .cell ∨ C.env.kindOf x = some .free) → ∃ c v, C.env.cells.lookup x = some c ∧ h.IsCell c (some v) ∧ Is C.w C.ok h r v
  own : ∀ x, C.env.kindOf x = some .cell → ∃ c ov, C.env.cells.lookup x = some c ∧ h.IsCell c ov
  live : ∀ x c, C.env.cells.lookup x = some c → ∃ o, h.get? c = some o
  mlive : ∃ o, h.get? C.ma = some o
  mu : ∀ r, μ.lookup ("@" : Str) = some r → At C.w C.ok h C.ma r ∧ (¬ C.ok C.ma ∧ C.okr C.ma ∧ C.h₀.get? C.ma = none ∧ C.ma ≠ C.env.locals ∧ (∀ x, C.env.cells.lookup x ≠ some C.ma) ∧ C.env.kindOf C.mx = some .local) ∧ ∃ m, h.Ns C.env.locals m ∧ m C.mx = some (.ref C.ma)
/-- what no name, no cell and no growing thing bears stands -/
def Keep (C : FC) (h h' : Heap) : Prop := ∀ b o, b ≠ C.env.locals → b ≠ C.ma → (∀ x, C.env.cells.lookup x ≠ some b) → h.get? b = some o → h'.get? b = some o
theorem Keep.of {C : FC} {h h' : Heap} (e : Ext h h') : Keep C h h' := fun b o _ _ _ => e b o
theorem Keep.trans {C : FC} {a b c : Heap} (x : Keep C a b) (y : Keep C b c) : Keep C a c := fun d o p q r e => y d o p q r (x d o p q r e)
section
variable {C : FC} {μ : Vars} {h h' : Heap}
theorem Sees.ext (S : Sees C μ h) (e : Ext h h') : Sees C μ h' where
  keep := fun b o q => e b o (S.keep b o q)
  fresh := fun a q => S.fresh a (by
    cases z : h.get? a with
    | none => rfl
    | some o => rw [e a o z] at q; cases q)
  ns := let ⟨m, hn, hv⟩ := S.ns; ⟨m, hn.keeps e, fun x r hx hk => let ⟨v, e1, e2⟩ := hv x r hx hk; ⟨v, e1, e2.ext e⟩⟩
  cells := fun x r hx hk => let ⟨c, v, e1, e2, e3⟩ := S.cells x r hx hk; ⟨c, v, e1, e2.keeps e, e3.ext e⟩
  own := fun x hk => let ⟨c, ov, e1, e2⟩ := S.own x hk; ⟨c, ov, e1, e2.keeps e⟩
  live := fun x c hc => let ⟨o, ho⟩ := S.live x c hc; ⟨o, e _ _ ho⟩
  mlive := let ⟨o, ho⟩ := S.mlive; ⟨o, e _ _ ho⟩
  mu := fun r hr => let ⟨a, b, m, hn, hm⟩ := S.mu r hr; ⟨a.mono (fun a o q c => ⟨q, e a o c⟩) fun o => e _ o, b, m, hn.keeps e, hm⟩
theorem Sees.sub {μ' : Vars} (S : Sees C μ h) (hs : ∀ x r, μ'.lookup x = some r → μ.lookup x = some r) : Sees C μ' h :=
  ⟨S.keep, S.fresh, let ⟨m, hn, hv⟩ := S.ns; ⟨m, hn, fun x r hx hk => hv x r (hs x r hx) hk⟩, fun x r hx hk => S.cells x r (hs x r hx) hk, S.own, S.live, S.mlive, fun r hr => S.mu r (hs _ r hr)⟩
/-- the values of μ' stand in μ -/
def Sub (μ' μ : Vars) : Prop := μ'.map (fun p => μ.lookup p.1) = μ'.map (fun p => some p.2)
theorem Sub.mem {μ' μ : Vars} (h : Sub μ' μ) : ∀ p ∈ μ', μ.lookup p.1 = some p.2 := List.map_inj_left.mp h
theorem sub_of {μ μ' : Vars} (hs : Sub μ' μ) : ∀ x r, μ'.lookup x = some r → μ.lookup x = some r := fun x r hx => hs.mem (x, r) (mem_of_lookup hx)
end
/-- an expression that gives r and lays new objects alone -/
def EV (C : FC) (μ : Vars) (e : PySem.Expr) (r : PV) : Prop :=
  C.Good → ∀ (s : Shared) (Q : Value → Shared → Prop) (E : Value → Shared → Prop), Sees C μ s.heap → C.lo ≤ s.toks → (∀ v h' tk', Ext s.heap h' → s.toks ≤ tk' → Is C.w C.ok h' r v → Q v { s with heap := h', toks := tk' }) → wpAny (model PR C.w) C.A (eval e C.env) Q E s
def EVs (C : FC) (μ : Vars) (es : List PySem.Expr) (rs : List PV) : Prop :=
  C.Good → ∀ (pos : Pos) (s : Shared) (Q : List Value → Shared → Prop) (E : Value → Shared → Prop), Sees C μ s.heap → C.lo ≤ s.toks → (∀ vs h' tk', Ext s.heap h' → s.toks ≤ tk' → IsL C.w C.ok h' rs vs → Q vs { s with heap := h', toks := tk' }) →
    wpAny (model PR C.w) C.A (spliced (backTo pos (starEach es C.env))) Q E s
inductive Out where
  | next (μ : Vars)
  | ret (r : PV)
def OutIs (C : FC) : Out → Flow → Heap → Prop
  | .next μ, f, h => f = .next ∧ Sees C μ h
  | .ret r, f, h => ∃ v, f = .ret v ∧ Ext C.h₀ h ∧ Is C.w C.okr h r v
def EX (C : FC) (μ : Vars) (st : Stmt) (o : Out) : Prop :=
  C.Good → ∀ (s : Shared) (Q : Flow → Shared → Prop), Sees C μ s.heap → C.lo ≤ s.toks → (∀ f h' tk', s.toks ≤ tk' → Keep C s.heap h' → OutIs C o f h' → Q f { s with heap := h', toks := tk' }) → wpAny (model PR C.w) C.A (exec st C.env) Q (fun _ _ => False) s
def EXs (C : FC) (μ : Vars) (sts : List Stmt) (o : Out) : Prop :=
  C.Good → ∀ (s : Shared) (Q : Flow → Shared → Prop), Sees C μ s.heap → C.lo ≤ s.toks → (∀ f h' tk', s.toks ≤ tk' → Keep C s.heap h' → OutIs C o f h' → Q f { s with heap := h', toks := tk' }) → wpAny (model PR C.w) C.A (execs sts C.env) Q (fun _ _ => False) s
/-- an operation upon values -/
def OP (C : FC) (t : List Value → Sem Value) (rs : List PV) (r : PV) : Prop :=
  C.Good → ∀ (s : Shared) (vs : List Value) (Q : Value → Shared → Prop) (E : Value → Shared → Prop), Ext C.h₀ s.heap → (∀ a, s.heap.get? a = none → C.ok a) → C.lo ≤ s.toks → IsL C.w C.ok s.heap rs vs →
    (∀ v h' tk', Ext s.heap h' → s.toks ≤ tk' → Is C.w C.ok h' r v → Q v { s with heap := h', toks := tk' }) → wpAny (model PR C.w) C.A (t vs) Q E s
abbrev BIN (C : FC) (op : Operator) (a b c : PV) : Prop := OP C (fun vs => match vs with | [x, y] => binaryOp op x y | _ => pure .none) [a, b] c
abbrev CMP (C : FC) (op : CmpOp) (a b c : PV) : Prop := OP C (fun vs => match vs with | [x, y] => compareOp op x y | _ => pure .none) [a, b] c
abbrev CALL (C : FC) (f : Value) (rs : List PV) (r : PV) : Prop := OP C (fun vs => call f vs) rs r

section
variable {C : FC} {μ : Vars}
theorem EV.var {x : Str} {pos : Pos} {r : PV} (hx : μ.lookup x = some r) (hk : (C.env.kindOf x == some .local || C.env.kindOf x == some .cell || C.env.kindOf x == some .free) = true) (hd : ((x == ("__debug__" : Str)) || (x == ("__classdict__" : Str))) = false) : EV C μ (.Name x pos) r := fun G s Q E S lo k => by
  simp only [Bool.or_eq_false_iff] at hd
  refine wpAny_Name ?_ hd.1
  simp only [Bool.or_eq_true, beq_iff_eq] at hk
  rcases hk with (hk | hk) | hk
  · obtain ⟨m, hn, hv⟩ := S.ns
    obtain ⟨v, e1, e2⟩ := hv x r hx hk
    exact wpAny_loadName_local G.fn hk hn e1 (k v _ _ (Ext.refl _) (Nat.le_refl _) e2)
  · obtain ⟨c, v, e1, e2, e3⟩ := S.cells x r hx (.inl hk)
    exact wpAny_loadName_cell G.fn hk e1 e2 (k v _ _ (Ext.refl _) (Nat.le_refl _) e3)
  · obtain ⟨c, v, e1, e2, e3⟩ := S.cells x r hx (.inr hk)
    exact wpAny_loadName_free G.fn hk e1 e2 (k v _ _ (Ext.refl _) (Nat.le_refl _) e3) hd.2
theorem EV.glob {x : Str} {pos : Pos} {v : Value} (hx : C.env.kindOf x = some .globalImplicit) (e : nsIn (C.K C.w.params) mainGlobals x = some (some v)) (hd : (x == ("__debug__" : Str)) = false) : EV C μ (.Name x pos) (.fix v) := fun G s Q E S lo k => by
  obtain ⟨mg, mb, T⟩ := G.T
  exact Name_function_global G.fn hx (loadGlobal_global (mg := mg) (G.gl ▸ T.g.keeps S.keep) (mg_of G.X T.g e) (k v _ _ (Ext.refl _) (Nat.le_refl _) (.fix v))) hd
theorem EV.blt {x : Str} {pos : Pos} {v : Value} (hx : C.env.kindOf x = some .globalImplicit) (e : nsIn (C.K C.w.params) mainGlobals x = some none) (hv : bootBuiltins x = some v) (hd : (x == ("__debug__" : Str)) = false) (hn : x ≠ "__name__") : EV C μ (.Name x pos) (.fix v) := fun G s Q E S lo k => by
  obtain ⟨mg, mb, T⟩ := G.T
  exact Name_function_global G.fn hx (loadGlobal_builtin (mg := mg) (mb := mb) (G.gl ▸ T.g.keeps S.keep) (mg_none_of G.X T.g e) (G.bl ▸ T.b.keeps S.keep) ((T.builtins x hn).trans hv) (k v _ _ (Ext.refl _) (Nat.le_refl _) (.fix v))) hd
theorem EV.asI {e : PySem.Expr} {i : Int} {t : Tok} (h : EV C μ e (.fix (.int i t))) : EV C μ e (.int i) := fun G s Q E S lo k =>
  h G s Q E S lo fun v h' tk' e1 e2 e3 => k v h' tk' e1 e2 (by cases e3; exact .int i t)
theorem EV.int {i : Int} {kd : Nat} {pos : Pos} : EV C μ (.Constant (.int i) kd pos) (.int i) := fun _ s _ _ _ _ k => wpAny_Constant_int (k _ _ _ (Ext.refl _) (Nat.le_succ _) (.int i _))
theorem EV.str {x : Str} {kd : Nat} {pos : Pos} : EV C μ (.Constant (.str x) kd pos) (.str x) := fun _ s _ _ _ _ k => wpAny_Constant_str (k _ _ _ (Ext.refl _) (Nat.le_succ _) (.str x _))
theorem EV.bool {b : Bool} {kd : Nat} {pos : Pos} : EV C μ (.Constant (.bool b) kd pos) (.bool b) := fun _ s _ _ _ _ k => wpAny_Constant_bool (k _ _ _ (Ext.refl _) (Nat.le_refl _) (.bool b))
theorem EV.bin {l r : PySem.Expr} {op : Operator} {pos : Pos} {a b c : PV} (hl : EV C μ l a) (hr : EV C μ r b) (ho : BIN C op a b c) : EV C μ (.BinOp l op r pos) c := fun G s Q E S lo k =>
  wpAny_BinOp (hl G s _ _ S lo fun va h1 t1 e1 l1 i1 => hr G _ _ _ (S.ext e1) (Nat.le_trans lo l1) fun vb h2 t2 e2 l2 i2 =>
    ho G _ [va, vb] _ _ (fun b o q => e2 b o (e1 b o (S.keep b o q))) ((S.ext e1).ext e2).fresh (Nat.le_trans lo (Nat.le_trans l1 l2)) (.cons (i1.ext e2) (.cons i2 .nil)) fun v h3 t3 e3 l3 i3 => k v h3 t3 (e1.trans (e2.trans e3)) (Nat.le_trans l1 (Nat.le_trans l2 l3)) i3)
theorem EV.cmp {l r : PySem.Expr} {op : CmpOp} {pos : Pos} {a b c : PV} (hl : EV C μ l a) (hr : EV C μ r b) (ho : CMP C op a b c) (hm : behindInMarks op r = false) : EV C μ (.Compare l [op] [r] pos) c := fun G s Q E S lo k =>
  wpAny_Compare1 (hl G s _ _ S lo fun va h1 t1 e1 l1 i1 => hr G _ _ _ (S.ext e1) (Nat.le_trans lo l1) fun vb h2 t2 e2 l2 i2 =>
    ho G _ [va, vb] _ _ (fun b o q => e2 b o (e1 b o (S.keep b o q))) ((S.ext e1).ext e2).fresh (Nat.le_trans lo (Nat.le_trans l1 l2)) (.cons (i1.ext e2) (.cons i2 .nil)) fun v h3 t3 e3 l3 i3 => k v h3 t3 (e1.trans (e2.trans e3)) (Nat.le_trans l1 (Nat.le_trans l2 l3)) i3) hm
theorem EVs.nil : EVs C μ [] [] := fun _ _ _ _ _ _ _ k => args_nil (k _ _ _ (Ext.refl _) (Nat.le_refl _) .nil)
theorem EVs.cons {e : PySem.Expr} {es : List PySem.Expr} {r : PV} {rs : List PV} (h1 : EV C μ e r) (h2 : EVs C μ es rs) (he : starEach (e :: es) C.env = (false, eval e C.env) :: starEach es C.env) : EVs C μ (e :: es) (r :: rs) := fun G pos s Q E S lo k =>
  args_cons (h1 G s _ _ S lo fun v h1 t1 e1 l1 i1 => h2 G pos _ _ _ (S.ext e1) (Nat.le_trans lo l1) fun vs h2 t2 e2 l2 i2 => k _ _ _ (e1.trans e2) (Nat.le_trans l1 l2) (.cons (i1.ext e2) i2)) he
theorem EV.callF {f : PySem.Expr} {fv : Value} {e : PySem.Expr} {es : List PySem.Expr} {rs : List PV} {r : PV} {pos : Pos} (hf : EV C μ f (.fix fv)) (ha : EVs C μ (e :: es) rs) (hc : CALL C fv rs r) (hk : keepIn (C.K C.w.params) fv = true)
    (h1 : eval (.Call f (e :: es) [] pos) C.env = (do callWith pos (← eval f C.env) [] (backTo pos (starEach (e :: es) C.env)) (backToKw pos (keywordEach [] C.env)))) (he : starEach (e :: es) C.env = (false, eval e C.env) :: starEach es C.env)
    (hp : (backTo pos (starEach es C.env)).any (·.1) = false) : EV C μ (.Call f (e :: es) [] pos) r := fun G s Q E S lo k =>
  Call_ (hf G s _ _ S lo fun v h1 t1 e1 l1 i1 => by
    cases i1
    exact callWith_K G.X hk (ha G pos _ _ _ (S.ext e1) (Nat.le_trans lo l1) fun vs h2 t2 e2 l2 i2 => ⟨G.X.keeps ((S.ext e1).ext e2).keep,
      hc G _ vs _ _ ((S.ext e1).ext e2).keep ((S.ext e1).ext e2).fresh (Nat.le_trans lo (Nat.le_trans l1 l2)) i2 fun v h3 t3 e3 l3 i3 => k v h3 t3 (e1.trans (e2.trans e3)) (Nat.le_trans l1 (Nat.le_trans l2 l3)) i3⟩) he hp) h1
theorem EV.callB {f : PySem.Expr} {id : String} {e : PySem.Expr} {es : List PySem.Expr} {rs : List PV} {r : PV} {pos : Pos} (hf : EV C μ f (.fix (.builtin id))) (ha : EVs C μ (e :: es) rs) (hc : CALL C (.builtin id) rs r)
    (h1 : eval (.Call f (e :: es) [] pos) C.env = (do callWith pos (← eval f C.env) [] (backTo pos (starEach (e :: es) C.env)) (backToKw pos (keywordEach [] C.env)))) (he : starEach (e :: es) C.env = (false, eval e C.env) :: starEach es C.env)
    (hp : (backTo pos (starEach es C.env)).any (·.1) = false) : EV C μ (.Call f (e :: es) [] pos) r := fun G s Q E S lo k =>
  Call_ (hf G s _ _ S lo fun v h1 t1 e1 l1 i1 => by
    cases i1
    exact PyProof.Rows.callWith_method1 (first := []) (ha G pos _ _ _ (S.ext e1) (Nat.le_trans lo l1) fun vs h2 t2 e2 l2 i2 =>
      hc G _ vs _ _ ((S.ext e1).ext e2).keep ((S.ext e1).ext e2).fresh (Nat.le_trans lo (Nat.le_trans l1 l2)) i2 fun v h3 t3 e3 l3 i3 => k v h3 t3 (e1.trans (e2.trans e3)) (Nat.le_trans l1 (Nat.le_trans l2 l3)) i3) he hp) h1
theorem EV.callT {f : PySem.Expr} {T : String} {e : PySem.Expr} {es : List PySem.Expr} {rs : List PV} {r : PV} {pos : Pos} (hf : EV C μ f (.fix (.type T))) (ha : EVs C μ (e :: es) rs) (hc : CALL C (.type T) rs r)
    (h1 : eval (.Call f (e :: es) [] pos) C.env = (do callWith pos (← eval f C.env) [] (backTo pos (starEach (e :: es) C.env)) (backToKw pos (keywordEach [] C.env)))) (he : starEach (e :: es) C.env = (false, eval e C.env) :: starEach es C.env)
    (hp : (backTo pos (starEach es C.env)).any (·.1) = false) : EV C μ (.Call f (e :: es) [] pos) r := fun G s Q E S lo k =>
  Call_ (hf G s _ _ S lo fun v h1 t1 e1 l1 i1 => by
    cases i1
    exact PyProof.Rows.callWith_type1 (ha G pos _ _ _ (S.ext e1) (Nat.le_trans lo l1) fun vs h2 t2 e2 l2 i2 =>
      hc G _ vs _ _ ((S.ext e1).ext e2).keep ((S.ext e1).ext e2).fresh (Nat.le_trans lo (Nat.le_trans l1 l2)) i2 fun v h3 t3 e3 l3 i3 => k v h3 t3 (e1.trans (e2.trans e3)) (Nat.le_trans l1 (Nat.le_trans l2 l3)) i3) he hp) h1
end
end
section
section
variable {C : FC} {μ μ' : Vars}
theorem ns_unique {h : Heap} {a : Addr} {m m' : Str → Option Value} (x : h.Ns a m) (y : h.Ns a m') (z : Str) : m z = m' z := by
  obtain ⟨o, es, ep, ho, hd, hk, hm⟩ := x
  obtain ⟨o', es', ep', ho', hd', hk', hm'⟩ := y
  rw [ho] at ho'
  cases ho'
  rw [hd] at hd'
  cases hd'
  rw [← hm z, ← hm' z]
theorem store (G : C.Good) {s : Shared} {x : Str} {r : PV} {v : Value} {Q : Unit → Shared → Prop} {E : Value → Shared → Prop} (S : Sees C μ s.heap) (i : Is C.w C.ok s.heap r v) (hk : (C.env.kindOf x == some .local || C.env.kindOf x == some .cell) = true)
    (hm : (x == C.mx || x == ("@" : Str)) = false) (k : ∀ h' tk', s.toks ≤ tk' → (C.env.kindOf x = some .local → s.toks < tk' ∧ ∀ b o, b ≠ C.env.locals → s.heap.get? b = some o → h'.get? b = some o) → Keep C s.heap h' → Sees C ((x, r) :: μ) h' → Q () { s with heap := h', toks := tk' }) : wpAny (model PR C.w) C.A (storeName C.env x v) Q E s := by
  have look : ∀ y r', ((x, r) :: μ).lookup y = some r' → (y = x ∧ r' = r) ∨ (y ≠ x ∧ μ.lookup y = some r') := fun y r' e => by
    rw [List.lookup_cons] at e
    by_cases hy : (y == x) = true
    · rw [hy] at e; cases e; exact .inl ⟨by simpa using hy, rfl⟩
    · simp only [Bool.not_eq_true] at hy
      rw [hy] at e; exact .inr ⟨by simpa using hy, e⟩
  -- a store at b (a place that no value bears) leaves the rest
  have rest : ∀ {h' : Heap} {b : Addr}, Heap.SameBut b s.heap h' → ¬ C.ok b → C.h₀.get? b = none → (∃ o, h'.get? b = some o) →
      (∀ {r' : PV} {v' : Value}, Is C.w C.ok s.heap r' v' → Is C.w C.ok h' r' v') ∧ Ext C.h₀ h' ∧ (∀ a, h'.get? a = none → C.ok a) := fun {h' b} hs nb hb hl => by
    refine ⟨fun x => x.mono fun a o q e => ⟨q, (hs.2 a fun z => nb (z ▸ q)).trans e⟩, fun a o e => (hs.2 a fun z => by rw [z, hb] at e; cases e).trans (S.keep a o e), fun a e => ?_⟩
    have : a ≠ b := fun z => by obtain ⟨o, ho⟩ := hl; rw [← z, e] at ho; cases ho
    exact S.fresh a ((hs.2 a this).symm.trans e)
  simp only [Bool.or_eq_true, beq_iff_eq] at hk
  simp only [Bool.or_eq_false_iff, beq_eq_false_iff_ne, ne_eq] at hm
  have hmu : ∀ r', ((x, r) :: μ).lookup ("@" : Str) = some r' → μ.lookup ("@" : Str) = some r' := fun r' e => (look ("@" : Str) r' e).elim (fun z => absurd z.1.symm hm.2) (·.2)
  rcases hk with hk | hk
  · obtain ⟨m, hn, hv⟩ := S.ns
    refine wpAny_storeName_local hk hn (fun h' hn' hs => ?_) (by rw [G.fn]; rfl)
    have hl : ∃ o, h'.get? C.env.locals = some o := let ⟨o, _, _, ho, _⟩ := hn'; ⟨o, ho⟩
    obtain ⟨r1, r2, r3⟩ := rest hs G.notL G.newL hl
    refine k h' _ (Nat.le_succ _) (fun _ => ⟨Nat.lt_succ_self _, fun b o n1 e => (hs.2 b n1).trans e⟩) (fun b o n1 _ _ e => (hs.2 b n1).trans e) ⟨r2, r3, ⟨_, hn', fun y r' hy hk' => ?_⟩, fun y r' hy hk' => ?_, fun y hy => ?_, fun y c hc => let ⟨o, ho⟩ := S.live y c hc; ⟨o, (hs.2 c (G.notC y c hc).2.2).trans ho⟩, let ⟨o, ho⟩ := S.mlive; (if z : C.ma = C.env.locals then z ▸ hl else ⟨o, (hs.2 _ z).trans ho⟩), fun r' hr => ?_⟩
    · rcases look y r' hy with ⟨rfl, rfl⟩ | ⟨hne, hy⟩
      · exact ⟨v, if_pos rfl, r1 i⟩
      · obtain ⟨v', e1, e2⟩ := hv y r' hy hk'
        exact ⟨v', (if_neg hne).trans e1, r1 e2⟩
    · rcases look y r' hy with ⟨rfl, rfl⟩ | ⟨hne, hy⟩
      · rw [hk] at hk'; rcases hk' with h | h <;> cases h
      · obtain ⟨c, v', e1, e2, e3⟩ := S.cells y r' hy hk'
        exact ⟨c, v', e1, e2.sameBut hs (G.notC y c e1).2.2, r1 e3⟩
    · obtain ⟨c, ov, e1, e2⟩ := S.own y hy
      exact ⟨c, ov, e1, e2.sameBut hs (G.notC y c e1).2.2⟩
    · obtain ⟨a, b, m₁, hn₁, hm₁⟩ := S.mu r' (hmu r' hr)
      have hmm : m C.mx = some (.ref C.ma) := (ns_unique hn hn₁ C.mx).trans hm₁
      exact ⟨a.mono (fun a o q e => ⟨q, (hs.2 a fun z => G.notL (z ▸ q)).trans e⟩) fun o e => (hs.2 _ b.2.2.2.1).trans e, b, _, hn', (if_neg (Ne.symm hm.1)).trans hmm⟩
  · obtain ⟨c, ov, hc, hov⟩ := S.own x hk
    refine wpAny_storeName_cell G.fn hk hc hov fun h' hc' hs => ?_
    obtain ⟨n1, n2, n3⟩ := G.notC x c hc
    have hl : ∃ o, h'.get? c = some o := let ⟨o, ho, _⟩ := hc'; ⟨o, ho⟩
    obtain ⟨r1, r2, r3⟩ := rest hs n1 n2 hl
    obtain ⟨m, hn, hv⟩ := S.ns
    refine k h' _ (Nat.le_refl _) (fun z => by rw [hk] at z; cases z) (fun b o _ _ n2 e => (hs.2 b fun z => n2 x (z ▸ hc)).trans e) ⟨r2, r3, ⟨m, hn.sameBut hs (Ne.symm n3), fun y r' hy hk' => ?_⟩, fun y r' hy hk' => ?_, fun y hy => ?_, fun y d hd => let ⟨o, ho⟩ := S.live y d hd; (if z : d = c then z ▸ hl else ⟨o, (hs.2 d z).trans ho⟩), let ⟨o, ho⟩ := S.mlive; (if z : C.ma = c then z ▸ hl else ⟨o, (hs.2 _ z).trans ho⟩), fun r' hr => ?_⟩
    · rcases look y r' hy with ⟨rfl, rfl⟩ | ⟨hne, hy⟩
      · rw [hk] at hk'; cases hk'
      · obtain ⟨v', e1, e2⟩ := hv y r' hy hk'
        exact ⟨v', e1, r1 e2⟩
    · rcases look y r' hy with ⟨rfl, rfl⟩ | ⟨hne, hy⟩
      · exact ⟨c, v, hc, hc', r1 i⟩
      · obtain ⟨c', v', e1, e2, e3⟩ := S.cells y r' hy hk'
        exact ⟨c', v', e1, e2.sameBut hs fun z => hne (G.apart y x c (z ▸ e1) hc), r1 e3⟩
    · by_cases hne : y = x
      · subst hne; exact ⟨c, some v, hc, hc'⟩
      · obtain ⟨c', ov', e1, e2⟩ := S.own y hy
        exact ⟨c', ov', e1, e2.sameBut hs fun z => hne (G.apart y x c (z ▸ e1) hc)⟩
    · obtain ⟨a, b, m₁, hn₁, hm₁⟩ := S.mu r' (hmu r' hr)
      exact ⟨a.mono (fun a o q e => ⟨q, (hs.2 a fun z => n1 (z ▸ q)).trans e⟩) fun o e => (hs.2 _ fun (z : C.ma = c) => b.2.2.2.2.1 x (z ▸ hc)).trans e, b, m₁, hn₁.sameBut hs (Ne.symm n3), hm₁⟩
theorem EX.assign {x : Str} {px pos : Pos} {e : PySem.Expr} {r : PV} (he : EV C μ e r) (hk : (C.env.kindOf x == some .local || C.env.kindOf x == some .cell) = true) (hs : swapsWith e (some (.Name x px)) pos.line C.env = pure false) (hm : (x == C.mx || x == ("@" : Str)) = false) :
    EX C μ (.Assign [.Name x px] e pos) (.next ((x, r) :: μ)) := fun G s Q S lo k =>
  wpAny_Assign_Name (he G s _ _ S lo fun v h1 t1 e1 l1 i1 => store G (S.ext e1) i1 hk hm fun h' tk' l2 _ K2 S' => k .next h' tk' (Nat.le_trans l1 l2) ((Keep.of e1).trans K2) ⟨rfl, S'⟩) hs
theorem EX.ret {e : PySem.Expr} {pos : Pos} {r : PV} (he : EV C μ e r) : EX C μ (.Return (some e) pos) (.ret r) := fun G s Q S lo k =>
  wpAny_Return_some (he G s _ _ S lo fun v h1 t1 e1 l1 i1 => k (.ret v) h1 t1 l1 (.of e1) ⟨v, rfl, (S.ext e1).keep, i1.mono fun a o q e => ⟨G.okr a q, e⟩⟩)
theorem EXs.nil : EXs C μ [] (.next μ) := fun G s Q S lo k => wpAny_execs_nil (k .next s.heap s.toks (Nat.le_refl _) (.of (Ext.refl _)) ⟨rfl, S⟩)
theorem EXs.cons {st : Stmt} {rest : List Stmt} {o : Out} (h1 : EX C μ st (.next μ')) (h2 : EXs C μ' rest o) : EXs C μ (st :: rest) o := fun G s Q S lo k =>
  wpAny_execs_cons (h1 G s _ S lo fun f h' tk' l1 k1 oi => by obtain ⟨rfl, S'⟩ := oi; exact h2 G _ _ S' (Nat.le_trans lo l1) fun f h2 t2 l2 k2 oi => k f h2 t2 (Nat.le_trans l1 l2) (k1.trans k2) oi)
theorem EXs.consR {st : Stmt} {rest : List Stmt} {r : PV} (h1 : EX C μ st (.ret r)) : EXs C μ (st :: rest) (.ret r) := fun G s Q S lo k =>
  wpAny_execs_cons (h1 G s _ S lo fun f h' tk' l1 k1 oi => by obtain ⟨v, rfl, i⟩ := oi; exact k (.ret v) h' tk' l1 k1 ⟨v, rfl, i⟩)
theorem EXs.sub {sts : List Stmt} {μ₁ : Vars} (h1 : EXs C μ sts (.next μ₁)) (hs : Sub μ' μ₁) : EXs C μ sts (.next μ') := fun G s Q S lo k =>
  h1 G s _ S lo fun f h' tk' l1 k1 oi => k f h' tk' l1 k1 ⟨oi.1, oi.2.sub (sub_of hs)⟩
/-- a test -/
def TV (C : FC) (μ : Vars) (e : PySem.Expr) (b : Bool) : Prop :=
  C.Good → ∀ (s : Shared) (Q : Bool → Shared → Prop) (E : Value → Shared → Prop), Sees C μ s.heap → C.lo ≤ s.toks → (∀ h' tk', Ext s.heap h' → s.toks ≤ tk' → Q b { s with heap := h', toks := tk' }) → wpAny (model PR C.w) C.A (isTrue e C.env (eval e C.env)) Q E s
theorem TV.bool {e : PySem.Expr} {b : Bool} (h : EV C μ e (.bool b)) (he : isTrue e C.env (eval e C.env) = (do let v ← eval e C.env; standAt e.pos; holding [v] (truthy v))) : TV C μ e b := fun G s Q E S lo k =>
  isTrue_plain (h G s _ _ S lo fun v h1 t1 e1 l1 i1 => by cases i1; exact wpAny_truthy_bool (k h1 t1 e1 l1)) he
theorem TV.int {e : PySem.Expr} {i : Int} (h : EV C μ e (.int i)) (he : isTrue e C.env (eval e C.env) = (do let v ← eval e C.env; standAt e.pos; holding [v] (truthy v))) : TV C μ e (i != 0) := fun G s Q E S lo k =>
  isTrue_plain (h G s _ _ S lo fun v h1 t1 e1 l1 i1 => by cases i1; exact PyProof.Rows.truthy_int (k h1 t1 e1 l1)) he
theorem TV.str {e : PySem.Expr} {x : Str} (h : EV C μ e (.str x)) (hx : x.length ≤ 4096) (he : isTrue e C.env (eval e C.env) = (do let v ← eval e C.env; standAt e.pos; holding [v] (truthy v))) : TV C μ e ((x.length : Int) != 0) := fun G s Q E S lo k =>
  isTrue_plain (h G s _ _ S lo fun v h1 t1 e1 l1 i1 => by cases i1; exact P.truthy_str (by omega) (k h1 (t1 + 1 + 1) e1 (Nat.le_succ_of_le (Nat.le_succ_of_le l1)))) he
theorem TV.cmp {l r : PySem.Expr} {op : CmpOp} {pos : Pos} {a b : PV} {c : Bool} (hl : EV C μ l a) (hr : EV C μ r b) (ho : CMP C op a b (.bool c)) (hm : behindInMarks op r = false) : TV C μ (.Compare l [op] [r] pos) c := fun G s Q E S lo k =>
  wpAny_isTrue_Compare1 (hl G s _ _ S lo fun va h1 t1 e1 l1 i1 => hr G _ _ _ (S.ext e1) (Nat.le_trans lo l1) fun vb h2 t2 e2 l2 i2 =>
    ho G _ [va, vb] _ _ (fun b o q => e2 b o (e1 b o (S.keep b o q))) ((S.ext e1).ext e2).fresh (Nat.le_trans lo (Nat.le_trans l1 l2)) (.cons (i1.ext e2) (.cons i2 .nil)) fun v h3 t3 e3 l3 i3 => by
      cases i3; exact wpAny_truthy_bool (k h3 t3 (e1.trans (e2.trans e3)) (Nat.le_trans l1 (Nat.le_trans l2 l3)))) hm
theorem TV.not {x : PySem.Expr} {pos : Pos} {b : Bool} (h : TV C μ x b) : TV C μ (.UnaryOp .Not x pos) (!b) := fun G s Q E S lo k => isTrue_not (h G s _ E S lo k)
theorem EV.not {x : PySem.Expr} {pos : Pos} {b : Bool} (h : EV C μ x (.bool b)) : EV C μ (.UnaryOp .Not x pos) (.bool (!b)) := fun G s Q E S lo k =>
  UnaryOp_ (h G s _ _ S lo fun v h1 t1 e1 l1 i1 => by cases i1; exact not_of (wpAny_truthy_bool (k _ h1 t1 e1 l1 (.bool _))))
theorem EV.ite {t a b : PySem.Expr} {pos : Pos} {c : Bool} {r : PV} (ht : TV C μ t c) (ha : c = true → EV C μ a r) (hb : c = false → EV C μ b r) : EV C μ (.IfExp t a b pos) r := fun G s Q E S lo k =>
  IfExp_ (ht G s _ _ S lo fun h1 t1 e1 l1 => by
    cases c with
    | true => exact ha rfl G _ _ _ (S.ext e1) (Nat.le_trans lo l1) fun v h2 t2 e2 l2 i2 => k v h2 t2 (e1.trans e2) (Nat.le_trans l1 l2) i2
    | false => exact hb rfl G _ _ _ (S.ext e1) (Nat.le_trans lo l1) fun v h2 t2 e2 l2 i2 => k v h2 t2 (e1.trans e2) (Nat.le_trans l1 l2) i2)
theorem EX.ite {t : PySem.Expr} {a b : List Stmt} {pos : Pos} {c : Bool} {o : Out} (ht : TV C μ t c) (ha : c = true → EXs C μ a o) (hb : c = false → EXs C μ b o) : EX C μ (.If t a b pos) o := fun G s Q S lo k =>
  wpAny_If (ht G s _ _ S lo fun h1 t1 e1 l1 => by
    cases c with
    | true => exact ha rfl G _ _ (S.ext e1) (Nat.le_trans lo l1) fun f h2 t2 l2 k2 i2 => k f h2 t2 (Nat.le_trans l1 l2) ((Keep.of e1).trans k2) i2
    | false => exact hb rfl G _ _ (S.ext e1) (Nat.le_trans lo l1) fun f h2 t2 l2 k2 i2 => k f h2 t2 (Nat.le_trans l1 l2) ((Keep.of e1).trans k2) i2)
/-- a while -/
theorem EX.while {t : PySem.Expr} {body : List Stmt} {pos : Pos} (I : Nat → Vars → Prop) (turn : ∀ n μ, I n μ → (TV C μ t true ∧ ∃ m μ₁, m < n ∧ EXs C μ body (.next μ₁) ∧ I m μ₁) ∨ (TV C μ t false ∧ μ = μ')) {n : Nat} (hi : I n μ) :
    EX C μ (.While t body [] pos) (.next μ') := fun G s Q S lo k => by
  refine wpAny_While (while_any (fun n s' => ∃ h' tk' μ, s' = { s with heap := h', toks := tk' } ∧ s.toks ≤ tk' ∧ Keep C s.heap h' ∧ Sees C μ h' ∧ I n μ) ?_ n ⟨s.heap, s.toks, μ, rfl, Nat.le_refl _, .of (Ext.refl _), S, hi⟩)
  rintro n s' ⟨h', tk', μ, rfl, l0, k0, S, hi⟩
  rcases turn n μ hi with ⟨ht, m, μ₁, hm, hb, hi'⟩ | ⟨ht, rfl⟩
  · refine ht G _ _ _ S (Nat.le_trans lo l0) fun h1 t1 e1 l1 => ?_
    simp only [if_true]
    refine hb G _ _ (S.ext e1) (Nat.le_trans lo (Nat.le_trans l0 l1)) fun f h2 t2 l2 k2 oi => ?_
    obtain ⟨rfl, S'⟩ := oi
    exact LPost.next hm ⟨h2, t2, μ₁, rfl, Nat.le_trans l0 (Nat.le_trans l1 l2), k0.trans ((Keep.of e1).trans k2), S', hi'⟩
  · refine ht G _ _ _ S (Nat.le_trans lo l0) fun h1 t1 e1 l1 => ?_
    simp only [Bool.false_eq_true, if_false]
    exact wpAny_execs_nil (k .next h1 t1 (Nat.le_trans l0 l1) (k0.trans (.of e1)) ⟨rfl, S.ext e1⟩)
/-- a name set: a number at least is drawn -/
theorem EXs.assignUp {x : Str} {px pos : Pos} {e : PySem.Expr} {r : PV} {rest : List Stmt} {o : Out} (he : EV C μ e r) (hk : (C.env.kindOf x == some .local) = true) (hs : swapsWith e (some (.Name x px)) pos.line C.env = pure false) (hm : (x == C.mx || x == ("@" : Str)) = false)
    (h : EXs ⟨C.K, C.w, C.A, C.env, C.h₀, C.ok, C.n, C.okr, C.ma, C.mx, C.lo + 1⟩ ((x, r) :: μ) rest o) : EXs C μ (.Assign [.Name x px] e pos :: rest) o := fun G s Q S lo k =>
  wpAny_execs_cons (wpAny_Assign_Name (he G s _ _ S lo fun v h1 t1 e1 l1 i1 => store G (S.ext e1) i1 (by rw [eq_of_beq hk]; rfl) hm fun h' tk' l2 kl K2 S' =>
    h ⟨G.amb, G.X, G.T, G.fn, G.gl, G.bl, G.notL, G.newL, G.notC, G.apart, G.okr, G.notM, G.hat⟩ ⟨h', s.gens, s.drawn, tk', s.os⟩ Q ⟨S'.keep, S'.fresh, S'.ns, S'.cells, S'.own, S'.live, S'.mlive, S'.mu⟩ (Nat.lt_of_le_of_lt (Nat.le_trans lo l1) (kl (eq_of_beq hk)).1) fun f h2 t2 l3 k2 oi => k f h2 t2 (Nat.le_trans l1 (Nat.le_trans l2 l3)) ((Keep.of e1).trans (K2.trans k2)) (by
      cases o with
      | next μ => exact ⟨oi.1, let S := oi.2; ⟨S.keep, S.fresh, S.ns, S.cells, S.own, S.live, S.mlive, S.mu⟩⟩
      | ret r => exact oi)) hs)
end
/-- what a def gives back, called when T numbers are drawn -/
def FnT (K : Params → Frag) (T : Nat) (w : World) (n : Nat) (f : Addr) (rs : List PV) (r : PV) : Prop :=
  ∀ (A : Around) (s : Shared) (ok : Addr → Prop) (mg mb : Str → Option Value) (vs : List Value) (Q : Value → Shared → Prop) (E : Value → Shared → Prop), Amb n A → (K w.params).In s.heap → TR mg mb s.heap →
    (∀ a, s.heap.get? a = none → ok a) → T ≤ s.toks → IsL w ok s.heap rs vs → (∀ v h' tk', Ext s.heap h' → s.toks ≤ tk' → Is w ok h' r v → Q v { s with heap := h', toks := tk' }) → wpAny (model PR w) A (call (.ref f) vs) Q E s
abbrev Fn (K : Params → Frag) (w : World) (n : Nat) (f : Addr) (rs : List PV) (r : PV) : Prop := FnT K 1 w n f rs r
theorem FnT.call {C : FC} {T n : Nat} {f : Addr} {rs : List PV} {r : PV} (F : FnT C.K T C.w n f rs r) (hn : n ≤ C.n) (hT : T ≤ C.lo) : CALL C (.ref f) rs r := fun G s vs Q E hk hf lo hi k => by
  obtain ⟨mg, mb, T⟩ := G.T
  exact F C.A s C.ok mg mb vs Q E (G.amb.le hn) (G.X.keeps hk) (T.keeps hk) hf (Nat.le_trans hT lo) hi k
theorem Fn.call {C : FC} {n : Nat} {f : Addr} {rs : List PV} {r : PV} (F : Fn C.K C.w n f rs r) (hn : n ≤ C.n) (h1 : 1 ≤ C.lo := by first | exact Nat.le_refl 1 | exact Nat.le_add_left 1 _) : CALL C (.ref f) rs r := FnT.call F hn h1
/-- a def as it stands -/
def FnAt (K : Params → Frag) (w : World) (f : Addr) (name qual : Str) (params : Arguments) (body : List Stmt) (scope : Scope) : Prop :=
  ∃ oc od osl doc pm an cdv ct, (K w.params).lookup f = some ⟨oc, od, .func (fnOf name qual params body scope .none .none doc pm an cdv ct), osl⟩ ∧ codeIn (K w.params) cdv qual = true
theorem bindL_off {kd : Str → Option NameKind} {x : Str} : ∀ (b : List (Str × Value)) (m : Str → Option Value), x ∉ b.map (·.1) → bindL kd b m x = m x ∧ bindC kd b m x = m x
  | [], _, _ => ⟨rfl, rfl⟩
  | (n, v) :: r, m, h => by
    simp only [List.map_cons, List.mem_cons, not_or] at h
    unfold bindL bindC
    have e : ∀ c : Prop, ∀ _ : Decidable c, (if c then (fun y => if y = n then some v else m y) else m) x = m x := fun c _ => by split <;> simp [h.1]
    have e' : ∀ c : Prop, ∀ _ : Decidable c, (if c then m else (fun y => if y = n then some v else m y)) x = m x := fun c _ => by split <;> simp [h.1]
    exact ⟨(bindL_off r _ h.2).1.trans (e _ _), (bindL_off r _ h.2).2.trans (e' _ _)⟩
theorem bind_at {kd : Str → Option NameKind} {x : Str} {v : Value} : ∀ (b : List (Str × Value)) (m : Str → Option Value), (b.map (·.1)).Nodup → (x, v) ∈ b → (kd x = some .local → bindL kd b m x = some v) ∧ (kd x = some .cell → bindC kd b m x = some v)
  | (n, u) :: r, m, hd, h => by
    rw [List.map_cons, List.nodup_cons] at hd
    unfold bindL bindC
    rcases List.mem_cons.mp h with e | h
    · cases e
      refine ⟨fun hk => ?_, fun hk => ?_⟩
      · rw [if_pos hk, (bindL_off r _ hd.1).1, if_pos rfl]
      · rw [if_neg (by rw [hk]; decide), (bindL_off r _ hd.1).2, if_pos rfl]
    · exact ⟨(bind_at r _ hd.2 h).1, (bind_at r _ hd.2 h).2⟩
theorem zip_get {w : World} {ok : Addr → Prop} {h : Heap} : ∀ {ns : List Str} {rs : List PV} {vs : List Value}, IsL w ok h rs vs → ∀ x r, (ns.zip rs).lookup x = some r → ∃ v, (x, v) ∈ ns.zip vs ∧ Is w ok h r v
  | n :: ns, r' :: rs, v :: vs, .cons h1 h2, x, r, e => by
    rw [List.zip_cons_cons, List.lookup_cons] at e
    by_cases hx : (x == n) = true
    · rw [hx] at e; cases e
      exact ⟨v, by rw [List.zip_cons_cons, eq_of_beq hx]; exact List.mem_cons_self, h1⟩
    · simp only [Bool.not_eq_true] at hx
      rw [hx] at e
      obtain ⟨v', hv, hi⟩ := zip_get h2 x r e
      exact ⟨v', List.mem_cons_of_mem _ hv, hi⟩
section
variable {K : Params → Frag} {T : Nat} {w : World} {n : Nat} {f : Addr} {rs : List PV} {r : PV} {name qual : Str} {params : Arguments} {body : List Stmt} {scope : Scope}
theorem FnT.enter (ns : List Str) (H : FnAt K w f name qual params body scope) (hl : rs.length = ns.length)
    (hbind : ∀ doc pm an cdv ct s vs, vs.length = ns.length → BindsTo s (fnOf name qual params body scope .none .none doc pm an cdv ct) ⟨vs, []⟩ (ns.zip vs))
    (hkind : (ns.all fun y => scope.names.lookup y == some .local || scope.names.lookup y == some .cell) = true) (hnn : ns.Nodup) (hat : ("@" : Str) ∉ ns) (hat2 : scope.names.lookup ("@" : Str) = none)
    (hnd : ((cellsFrom 0 scope.names []).map (·.1)).Nodup)
    (hco : scope.isCoroutine = false) (hgen : scope.isGenerator = false) (hk : scope.kind = .function)
    (h : ∀ (A : Around) (h₀ : Heap) (ok okr : Addr → Prop) (L : Addr) (cdv : Value), EXs ⟨K, w, A, envOfC qual scope L f cdv, h₀, ok, n, okr, L, "", T⟩ (ns.zip rs) body (.ret r)) : FnT K T w (n + 1) f rs r := by
  obtain ⟨oc, od, osl, doc, pm, an, cdv, ct, ho, hcd⟩ := H
  replace hbind := hbind doc pm an cdv ct
  intro A s ok mg mb vs Q E hA X TR hf hlo hi k
  have hvl : vs.length = ns.length := hi.length.symm.trans hl
  have hmap : (ns.zip vs).map (·.1) = ns := by rw [List.map_fst_zip]; exact Nat.le_of_eq hvl.symm
  have hkb : ((ns.zip vs).all fun y => scope.names.lookup y.1 == some .local || scope.names.lookup y.1 == some .cell) = true := by
    rw [List.all_eq_true] at hkind ⊢
    intro y hy
    exact hkind y.1 (hmap ▸ List.mem_map_of_mem hy)
  refine wpAny_call (codeAny_call_function (by have := hA.depth; omega) (X _ _ ho) rfl hco hgen rfl (codeRec_of X hcd) (hbind s vs hvl _ _ _ _ ?_))
  refine wpAny_with_toks (Nat.le_refl _) (wpAny_newFunctionEnv_cells hk (kindsX hkb _) fun env' he s' x => ?_)
  subst he
  intro htk
  refine ⟨TR.nolimit.keeps x.toInCall.keep, codeAny_func ?_⟩
  obtain ⟨h₁, tk, rfl, _⟩ := x.done
  have hk₁ : Ext s.heap h₁ := x.toInCall.keep
  let C : FC := ⟨K, w, A.deeper (envOfC qual scope s.heap.objs.size f cdv), envOfC qual scope s.heap.objs.size f cdv, s.heap, fun a => ok a ∧ a ≠ s.heap.objs.size ∧ ∀ y, (envOfC qual scope s.heap.objs.size f cdv).cells.lookup y ≠ some a, n, ok, s.heap.objs.size, "", T⟩
  have nL : s.heap.get? s.heap.objs.size = none := Heap.get?_none_of_le (Nat.le_refl _)
  have nC : ∀ y c, C.env.cells.lookup y = some c → s.heap.objs.size < c := fun y c hc => x.above y c (mem_of_lookup hc)
  have G : C.Good := by
    refine ⟨hA.deeper _, X, ⟨mg, mb, TR⟩, hk, rfl, rfl, fun z => z.2.1 rfl, nL, fun y c hc => ⟨fun z => z.2.2 y hc, Heap.get?_none_of_le (Nat.le_of_lt (nC y c hc)), Nat.ne_of_gt (nC y c hc)⟩, fun y z c hy hz => name_of_addr x.apart (mem_of_lookup hy) (mem_of_lookup hz), fun a q => q.1, fun z => z.2.1 rfl, hat2⟩
  have old : ∀ {r' : PV} {v' : Value}, Is w ok s.heap r' v' → Is w C.ok h₁ r' v' := fun z => z.mono fun a o q e =>
    ⟨⟨q, Nat.ne_of_lt (Heap.lt_size e), fun y hy => Nat.lt_irrefl _ (Nat.lt_trans (nC y a hy) (Heap.lt_size e))⟩, hk₁ a o e⟩
  have S : Sees C (ns.zip rs) h₁ := by
    refine ⟨hk₁, fun a e => ⟨hf a ?_, ?_, ?_⟩, ⟨_, x.toInCall.ns, fun y r' hy hky => ?_⟩, fun y r' hy hky => ?_, fun y hy => ?_, fun y c hc => let ⟨o, ho, _⟩ := x.cell y c hc; ⟨o, ho⟩, let ⟨o, _, _, ho, _⟩ := x.toInCall.ns; ⟨o, ho⟩, fun r' hr => ?_⟩
    · cases q : s.heap.get? a with
      | none => rfl
      | some o => rw [hk₁ a o q] at e; cases e
    · rintro rfl
      obtain ⟨o, _, _, ho, _⟩ := x.toInCall.ns
      have ho : h₁.get? s.heap.objs.size = some o := ho
      rw [e] at ho; cases ho
    · intro y hy
      obtain ⟨o, ho, _⟩ := x.cell y a hy
      have ho : h₁.get? a = some o := ho
      rw [e] at ho; cases ho
    · obtain ⟨v, hv, hiv⟩ := zip_get hi y r' hy
      exact ⟨v, (bind_at _ _ (by rw [hmap]; exact hnn) hv).1 hky, old hiv⟩
    · obtain ⟨v, hv, hiv⟩ := zip_get hi y r' hy
      rcases hky with hky | hky
      · have hs : (C.env.cells.lookup y).isSome = true := cellsFrom_some _ _ _ (.inl hky)
        obtain ⟨c, hc⟩ := Option.isSome_iff_exists.mp hs
        have this : h₁.IsCell c (bindC C.env.kindOf (ns.zip vs) (fun _ => none) y) := x.cell y c hc
        rw [(bind_at _ _ (by rw [hmap]; exact hnn) hv).2 hky] at this
        exact ⟨c, v, hc, this, old hiv⟩
      · exfalso
        have := List.all_eq_true.mp hkb _ hv
        have hky' : scope.names.lookup y = some .free := hky
        simp only [hky', Bool.or_eq_true, beq_iff_eq] at this
        rcases this with z | z <;> cases z
    · have hs : (C.env.cells.lookup y).isSome = true := cellsFrom_some _ _ _ (.inl hy)
      obtain ⟨c, hc⟩ := Option.isSome_iff_exists.mp hs
      exact ⟨c, _, hc, x.cell y c hc⟩
    · obtain ⟨v, hv, _⟩ := zip_get hi _ r' hr
      rw [← hmap] at hat
      exact absurd (List.mem_map_of_mem hv) hat
  refine wpAny_mono (h (A.deeper (envOfC qual scope s.heap.objs.size f cdv)) s.heap C.ok ok s.heap.objs.size cdv G _ (fun fl s' => ∃ v h' tk', fl = .ret v ∧ s' = { s with heap := h', toks := tk' } ∧ Ext s.heap h' ∧ s.toks ≤ tk' ∧ Is w ok h' r v) S (Nat.le_trans hlo htk) fun fl h' tk' l _ oi => ?_) (fun fl s' d => ?_) (fun _ _ z => z.elim)
  · obtain ⟨v, rfl, e, i⟩ := oi
    exact ⟨v, h', tk', rfl, rfl, e, Nat.le_trans htk l, i⟩
  · obtain ⟨v, h', tk', rfl, rfl, e, l, i⟩ := d
    exact k v h' tk' e l i
end
end
section
section
variable {w : World} {ok : Addr → Prop} {h : Heap}
theorem Is.bE {b : Bool} {v : Value} (x : Is w ok h (.bool b) v) : v = .bool b := by cases x; rfl
theorem Is.iE {i : Int} {v : Value} (x : Is w ok h (.int i) v) : ∃ t, v = .int i t := by cases x; exact ⟨_, rfl⟩
theorem Is.sE {y : Str} {v : Value} (x : Is w ok h (.str y) v) : ∃ t, v = .str y t := by cases x; exact ⟨_, rfl⟩
theorem Is.fE {y v : Value} (x : Is w ok h (.fix y) v) : v = y := by cases x; rfl
theorem Is.lE {xs : List PV} {v : Value} (x : Is w ok h (.list xs) v) : ∃ a vs n, v = .ref a ∧ ok a ∧ h.get? a = some { cls := .type "list", data := .seq (List.toArray vs) n } ∧ IsL w ok h xs vs := by
  cases x with | list a b c => exact ⟨_, _, _, rfl, a, b, c⟩
theorem Is.tE {xs : List PV} {v : Value} (x : Is w ok h (.tup xs) v) : ∃ a vs n, v = .ref a ∧ ok a ∧ h.get? a = some { cls := .type "tuple", data := .seq (List.toArray vs) n } ∧ IsL w ok h xs vs := by
  cases x with | tup a b c => exact ⟨_, _, _, rfl, a, b, c⟩
theorem IsL.e0 {vs : List Value} (x : IsL w ok h [] vs) : vs = [] := by cases x; rfl
theorem IsL.eC {a : PV} {r : List PV} {vs : List Value} (x : IsL w ok h (a :: r) vs) : ∃ v us, vs = v :: us ∧ Is w ok h a v ∧ IsL w ok h r us := by cases x with | cons p q => exact ⟨_, _, rfl, p, q⟩
theorem IsL.e1 {a : PV} {vs : List Value} (x : IsL w ok h [a] vs) : ∃ v, vs = [v] ∧ Is w ok h a v := let ⟨v, us, e, p, q⟩ := x.eC; ⟨v, by rw [e, q.e0], p⟩
theorem IsL.e2 {a b : PV} {vs : List Value} (x : IsL w ok h [a, b] vs) : ∃ v u, vs = [v, u] ∧ Is w ok h a v ∧ Is w ok h b u := let ⟨v, us, e, p, q⟩ := x.eC; let ⟨u, e', q'⟩ := q.e1; ⟨v, u, by rw [e, e'], p, q'⟩
theorem isList {a : Addr} {vs : List Value} {n : Nat} (e : h.get? a = some { cls := .type "list", data := .seq vs.toArray n }) : h.IsList a vs.toArray := ⟨_, e, rfl, _, rfl⟩
theorem isTup {a : Addr} {vs : List Value} {n : Nat} (e : h.get? a = some { cls := .type "tuple", data := .seq vs.toArray n }) : IsTup h a vs.toArray := ⟨_, e, rfl, _, rfl⟩
end
section
variable {C : FC} {μ : Vars}
theorem ii {t : Value → Value → Sem Value} {a b : Int} {c : PV} (h : ∀ {E : Value → Shared → Prop} {s : Shared} {u v : Tok} {Q : Value → Shared → Prop}, (∀ x tk', s.toks ≤ tk' → (∀ h, Is C.w C.ok h c x) → Q x { s with toks := tk' }) → wpAny (model PR C.w) C.A (t (.int a u) (.int b v)) Q E s) :
    OP C (fun vs => match vs with | [x, y] => t x y | _ => pure .none) [.int a, .int b] c := fun G s vs Q E _ _ lo i k => by
  obtain ⟨_, _, rfl, i1, i2⟩ := i.e2
  obtain ⟨u, rfl⟩ := i1.iE
  obtain ⟨v, rfl⟩ := i2.iE
  exact h fun x tk' l1 i => k x s.heap tk' (Ext.refl _) l1 (i _)
theorem bb {t : Value → Value → Sem Value} {a b : Bool} {c : PV} (h : ∀ {E : Value → Shared → Prop} {s : Shared} {Q : Value → Shared → Prop}, (∀ x, (∀ h, Is C.w C.ok h c x) → Q x s) → wpAny (model PR C.w) C.A (t (.bool a) (.bool b)) Q E s) :
    OP C (fun vs => match vs with | [x, y] => t x y | _ => pure .none) [.bool a, .bool b] c := fun G s vs Q E _ _ lo i k => by
  obtain ⟨_, _, rfl, i1, i2⟩ := i.e2
  cases i1.bE
  cases i2.bE
  exact h fun x i => k x s.heap s.toks (Ext.refl _) (Nat.le_refl _) (i _)
theorem ss {t : Value → Value → Sem Value} {a b : Str} {c : PV} (h : ∀ {E : Value → Shared → Prop} {s : Shared} {u v : Tok} {Q : Value → Shared → Prop}, (∀ x tk', s.toks ≤ tk' → (∀ h, Is C.w C.ok h c x) → Q x { s with toks := tk' }) → wpAny (model PR C.w) C.A (t (.str a u) (.str b v)) Q E s) :
    OP C (fun vs => match vs with | [x, y] => t x y | _ => pure .none) [.str a, .str b] c := fun G s vs Q E _ _ lo i k => by
  obtain ⟨_, _, rfl, i1, i2⟩ := i.e2
  obtain ⟨u, rfl⟩ := i1.sE
  obtain ⟨v, rfl⟩ := i2.sE
  exact h fun x tk' l1 i => k x s.heap tk' (Ext.refl _) l1 (i _)
theorem BIN.add {a b : Int} : BIN C .Add (.int a) (.int b) (.int (a + b)) := ii fun k => add_int (k _ _ (Nat.le_succ _) fun _ => .int _ _)
theorem BIN.sub {a b : Int} : BIN C .Sub (.int a) (.int b) (.int (a - b)) := ii fun k => sub_int' (k _ _ (Nat.le_succ _) fun _ => .int _ _)
theorem BIN.mul {a b : Int} (hm : IntMulOk a b) : BIN C .Mult (.int a) (.int b) (.int (a * b)) := ii fun k => mul_int (k _ _ (Nat.le_succ _) fun _ => .int _ _) hm
theorem BIN.div {a b : Int} (hb : b ≠ 0) (hs : Builtin.divisionGoesByPylong a b = false) : BIN C .FloorDiv (.int a) (.int b) (.int (a.fdiv b)) := ii fun k => floordiv_int hb (k _ _ (Nat.le_succ _) fun _ => .int _ _) (.inl hs)
theorem BIN.mod {a b : Int} (hb : b ≠ 0) : BIN C .Mod (.int a) (.int b) (.int (a.fmod b)) := ii fun k => mod_int' hb (k _ _ (Nat.le_succ _) fun _ => .int _ _)
theorem BIN.pow {a n : Int} (hn : 0 ≤ n) (hs : (Builtin.Int.intBits a : Int) * n ≤ 2 ^ 27) : BIN C .Pow (.int a) (.int n) (.int (a ^ n.toNat)) := ii fun k => pow_int hn hs (k _ _ (Nat.le_succ _) fun _ => .int _ _)
theorem BIN.andI {a b : Int} : BIN C .BitAnd (.int a) (.int b) (.int (Builtin.bitAnd a b)) := ii fun k => and_int (k _ _ (Nat.le_succ _) fun _ => .int _ _)
theorem BIN.orI {a b : Int} : BIN C .BitOr (.int a) (.int b) (.int (Builtin.bitOr a b)) := ii fun k => or_int (k _ _ (Nat.le_succ _) fun _ => .int _ _)
theorem BIN.andB {a b : Bool} : BIN C .BitAnd (.bool a) (.bool b) (.bool (a && b)) := bb fun k => and_bool (k _ fun _ => .bool _)
theorem BIN.orB {a b : Bool} : BIN C .BitOr (.bool a) (.bool b) (.bool (a || b)) := bb fun k => or_bool (k _ fun _ => .bool _)
theorem BIN.xorB {a b : Bool} : BIN C .BitXor (.bool a) (.bool b) (.bool (a != b)) := bb fun k => xor_bool (k _ fun _ => .bool _)
theorem BIN.addS {a b : Str} (hs : a.length + b.length ≤ sizeLine) : BIN C .Add (.str a) (.str b) (.str (a ++ b)) := ss fun {E s u v Q} k => wpAny_with_toks (Nat.le_refl _) (add_str (fun t' tk l => k _ _ l fun _ => .str _ _) hs)
theorem CMP.eq {a b : Int} : CMP C .Eq (.int a) (.int b) (.bool (a == b)) := ii fun {E s u v Q} k => eq_int (k _ s.toks (Nat.le_refl _) fun _ => .bool _)
theorem CMP.ge {a b : Int} : CMP C .GtE (.int a) (.int b) (.bool (decide (b ≤ a))) := ii fun {E s u v Q} k => ge_int (k _ s.toks (Nat.le_refl _) fun _ => .bool _)
theorem CMP.lt {a b : Int} : CMP C .Lt (.int a) (.int b) (.bool (decide (a < b))) := ii fun {E s u v Q} k => lt_int (k _ s.toks (Nat.le_refl _) fun _ => .bool _)
theorem CMP.gt {a b : Int} : CMP C .Gt (.int a) (.int b) (.bool (decide (b < a))) := ii fun {E s u v Q} k => gt_int (k _ s.toks (Nat.le_refl _) fun _ => .bool _)
theorem CMP.eqS {a b : Str} : CMP C .Eq (.str a) (.str b) (.bool (a == b)) := ss fun {E s u v Q} k => eq_str (k _ s.toks (Nat.le_refl _) fun _ => .bool _)
theorem BIN.mulS {a : Str} {n : Int} (hm : MulOk a n) : BIN C .Mult (.str a) (.int n) (.str (Txt.mul a n)) := fun G s vs Q E _ _ lo i k => by
  obtain ⟨_, _, rfl, i1, i2⟩ := i.e2
  obtain ⟨u, rfl⟩ := i1.sE
  obtain ⟨v, rfl⟩ := i2.iE
  exact wpAny_with_toks (Nat.le_refl _) (SB.mul hm fun t' tk l => k _ s.heap tk (Ext.refl _) l (.str _ _))
theorem ext_push {h : Heap} {o : Obj} : Ext h (h.push o) := fun _ _ e => Heap.get?_push_of_some _ e
theorem BIN.addL {xs ys : List PV} (hs : xs.length + ys.length ≤ sizeLine) : BIN C .Add (.list xs) (.list ys) (.list (xs ++ ys)) := fun G s vs Q E _ hf lo i k => by
  obtain ⟨_, _, rfl, i1, i2⟩ := i.e2
  obtain ⟨a, va, n, rfl, o1, g1, l1⟩ := i1.lE
  obtain ⟨b, vb, m, rfl, o2, g2, l2⟩ := i2.lE
  refine P.add_list g1 g2 (k _ _ s.toks ext_push (Nat.le_refl _) ?_) (by rw [List.size_toArray, List.size_toArray, ← l1.length, ← l2.length]; exact hs)
  refine .list (hf _ (Heap.get?_none_of_le (Nat.le_refl _))) (n := 0) (vs := va ++ vb) ?_ ((l1.append l2).ext ext_push)
  rw [← List.append_toArray]
  exact Heap.get?_push_size _ rfl
/-- an item of a thing -/
def ITEM (C : FC) (a i r : PV) : Prop := C.Good → ∀ (s : Shared) (o v : Value) (Q : Value → Shared → Prop) (E : Value → Shared → Prop), Ext C.h₀ s.heap → (∀ a, s.heap.get? a = none → C.ok a) → C.lo ≤ s.toks → Is C.w C.ok s.heap a o → Is C.w C.ok s.heap i v →
  (∀ x h' tk', Ext s.heap h' → s.toks ≤ tk' → Is C.w C.ok h' r x → Q x { s with heap := h', toks := tk' }) → ItemOn (model PR C.w) C.A E o v Q s
theorem tail_of {A : Around} {E : Value → Shared → Prop} {s : Shared} {value slice : PySem.Expr} {o i : Value} {ops : List Value} {Q : Value → Shared → Prop} (h : ItemOn (model PR C.w) A E o i Q s)
    (hs : subscripted slice false o i = operate ops (getItem o i)) : wpAny (model PR C.w) A (subscriptTail value slice o i) Q E s := by
  obtain ⟨T, id, hl, hT, hg⟩ := h
  unfold subscriptTail
  refine wpAny_bind ?_
  rw [getitemInPython_of_ne hT.not_modules]
  refine wpAny_bind (wpAny_specialOf hT hl ?_)
  have fin : wpAny (model PR C.w) A (subscripted slice false o i) (fun r s₃ => wpAny (model PR C.w) A (letTemporaryGo value o r >>= fun _ => pure r) Q E s₃) E s := by
    rw [hs]
    exact wpAny_operating (wpAny_mono hg (fun r s₃ h₃ => wpAny_bind (wpAny_letTemporaryGo (wpAny_pure h₃))) fun _ _ x => x)
  first
    | exact wpAny_pure (wpAny_bind fin)
    | exact wpAny_bind (wpAny_pure (wpAny_bind fin))
    | exact wpAny_bind fin
theorem EV.item {value slice : PySem.Expr} {pos : Pos} {a i r : PV} (hv : EV C μ value a) (hi : EV C μ slice i) (ho : ITEM C a i r) (hs : ∀ o i, subscripted slice false o i = operate [o, i] (getItem o i)) : EV C μ (.Subscript value slice pos) r := fun G s Q E S lo k =>
  Subscript_ (hv G s _ _ S lo fun va h1 t1 e1 l1 i1 => hi G _ _ _ (S.ext e1) (Nat.le_trans lo l1) fun vb h2 t2 e2 l2 i2 =>
    tail_of (C := C) (ho G _ va vb _ _ ((S.ext e1).ext e2).keep ((S.ext e1).ext e2).fresh (Nat.le_trans lo (Nat.le_trans l1 l2)) (i1.ext e2) i2 fun v h3 t3 e3 l3 i3 => k v h3 t3 (e1.trans (e2.trans e3)) (Nat.le_trans l1 (Nat.le_trans l2 l3)) i3) (hs va vb))
theorem ITEM.str {x : Str} {i : Int} (h1 : 0 ≤ i) (h2 : i < x.length) (h3 : x.length ≤ 4096) : ITEM C (.str x) (.int i) (.str (Txt.item x i)) := fun G s o v Q E _ _ lo io iv k => by
  obtain ⟨u, rfl⟩ := io.sE
  obtain ⟨t, rfl⟩ := iv.iE
  exact SB.item (by unfold fitsSsize; simp; omega) (charAt_isSome (by omega) h2) (k _ s.heap _ (Ext.refl _) (Nat.le_succ _) (.str _ _))
theorem ITEM.list {xs : List PV} {i : Int} {r : PV} (h1 : 0 ≤ i) (hx : xs[i.toNat]? = some r) (h2 : i < 2 ^ 63) : ITEM C (.list xs) (.int i) r := fun G s o v Q E _ _ lo io iv k => by
  obtain ⟨a, vs, n, rfl, o1, g1, l1⟩ := io.lE
  obtain ⟨t, rfl⟩ := iv.iE
  obtain ⟨v, hv, iv⟩ := l1.get _ hx
  exact ⟨"list", _, slot_list_getitem.lookup, (isList g1).typeIs, wpAny_getItem_list (isList g1) h1 h2 (by simpa using hv) (k v s.heap s.toks (Ext.refl _) (Nat.le_refl _) iv)⟩
theorem ITEM.tup {xs : List PV} {i : Int} {r : PV} (h1 : 0 ≤ i) (hx : xs[i.toNat]? = some r) (h2 : i < 2 ^ 63) : ITEM C (.tup xs) (.int i) r := fun G s o v Q E _ _ lo io iv k => by
  obtain ⟨a, vs, n, rfl, o1, g1, l1⟩ := io.tE
  obtain ⟨t, rfl⟩ := iv.iE
  obtain ⟨v, hv, iv⟩ := l1.get _ hx
  have hlt : i.toNat < vs.length := (List.getElem?_eq_some_iff.mp hv).1
  have hj : seqIndex? i (List.toArray vs).size = some i.toNat := by
    unfold seqIndex?
    have hn : ¬ i < 0 := by omega
    simp only [hn, if_false]
    rw [if_pos (by simp only [Bool.and_eq_true, decide_eq_true_eq, List.size_toArray]; omega)]
  exact ⟨"tuple", _, slot_tuple_getitem.lookup, (isTup g1).typeIs, getItem_tuple (isTup g1) (by omega) h2 hj (by simpa using hv) (k v s.heap s.toks (Ext.refl _) (Nat.le_refl _) iv)⟩
/-- a bound of a slice -/
def EVo (C : FC) (μ : Vars) (e : Option PySem.Expr) (i : Option Int) : Prop :=
  C.Good → ∀ (s : Shared) (Q : Value → Shared → Prop) (E : Value → Shared → Prop), Sees C μ s.heap → C.lo ≤ s.toks → (∀ v h' tk', Ext s.heap h' → s.toks ≤ tk' → IsPart v i → Q v { s with heap := h', toks := tk' }) → wpAny (model PR C.w) C.A (evalPart e C.env) Q E s
theorem EVo.none : EVo C μ none none := fun G s Q E S lo k => wpAny_pure (k _ s.heap s.toks (Ext.refl _) (Nat.le_refl _) .none)
theorem EVo.some {e : PySem.Expr} {i : Int} (h : EV C μ e (.int i)) : EVo C μ (some e) (some i) := fun G s Q E S lo k => h G s _ _ S lo fun v h1 t1 e1 l1 i1 => by
  obtain ⟨t, rfl⟩ := i1.iE
  exact k _ h1 t1 e1 l1 (.int _ _)
/-- a slice's object is at hand -/
def SLICE (C : FC) (a : PV) (lo hi : Option Int) (r : PV) : Prop := C.Good → ∀ (s : Shared) (o vl vu : Value) (Q : Value → Shared → Prop) (E : Value → Shared → Prop), Ext C.h₀ s.heap → (∀ a, s.heap.get? a = none → C.ok a) → C.lo ≤ s.toks → Is C.w C.ok s.heap a o → IsPart vl lo → IsPart vu hi →
  (∀ x h' tk', Ext s.heap h' → s.toks ≤ tk' → Is C.w C.ok h' r x → Q x { s with heap := h', toks := tk' }) → ItemOn (model PR C.w) C.A E o (.ref s.heap.objs.size) Q { s with heap := s.heap.push { cls := .type "slice", data := .fields #[vl, vu, .none] } }
theorem EV.slice {value : PySem.Expr} {lo hi : Option PySem.Expr} {p pos : Pos} {a r : PV} {il iu : Option Int} (hv : EV C μ value a) (hl : EVo C μ lo il) (hu : EVo C μ hi iu) (ho : SLICE C a il iu r) : EV C μ (.Subscript value (.Slice lo hi none p) pos) r := fun G s Q E S lo k =>
  Subscript_ (hv G s _ _ S lo fun va h1 t1 e1 l1 i1 => wpAny_Slice (hl G _ _ _ (S.ext e1) (Nat.le_trans lo l1) fun vl h2 t2 e2 l2 i2 => hu G _ _ _ ((S.ext e1).ext e2) (Nat.le_trans lo (Nat.le_trans l1 l2)) fun vu h3 t3 e3 l3 i3 => wpAny_pure
    (tail_of (C := C) (ho G ⟨h3, s.gens, s.drawn, t3, s.os⟩ va vl vu _ _ (((S.ext e1).ext e2).ext e3).keep (((S.ext e1).ext e2).ext e3).fresh (Nat.le_trans lo (Nat.le_trans l1 (Nat.le_trans l2 l3))) ((i1.ext e2).ext e3) i2 i3 fun v h4 t4 e4 l4 i4 =>
      k v h4 t4 (e1.trans (e2.trans (e3.trans e4))) (Nat.le_trans l1 (Nat.le_trans l2 (Nat.le_trans l3 l4))) i4) rfl)))
theorem keptExt {h : Heap} : KeptH fun h' => Ext h h' := fun h' o e b q x => Heap.get?_push_of_some _ (e b q x)
theorem SLICE.strTo {x : Str} {j : Int} (hx : x.length ≤ sizeLine) : SLICE C (.str x) none (some j) (.str (Txt.slice x none (some j))) := fun G s o vl vu Q E _ _ lo io il iu k => by
  obtain ⟨u, rfl⟩ := io.sE
  cases il
  cases iu
  refine ⟨"str", _, PySem.F.slot_str_getitem.lookup, typeIs_str _ _ _, wpAny_with_toks (n := s.toks) (Nat.le_refl _) ?_⟩
  obtain ⟨T, id, _, _, hg⟩ := SBH.sliceItem_ns (prog := PR) (w := C.w) (A := C.A) (E := fun e s' => s.toks ≤ s'.toks → E e s') (s := s) (x := x) (t := u) (uj := ‹_›) (j := j) (Q := fun a s' => s.toks ≤ s'.toks → Q a s') (keptExt (h := s.heap)) (Ext.refl _) (fun h' t' tk e l => k _ h' tk e l (.str _ _)) hx
  exact hg
theorem SLICE.strFrom {x : Str} {j : Int} (hx : x.length ≤ sizeLine) : SLICE C (.str x) (some j) none (.str (Txt.slice x (some j) none)) := fun G s o vl vu Q E _ _ lo io il iu k => by
  obtain ⟨u, rfl⟩ := io.sE
  cases il
  cases iu
  refine ⟨"str", _, PySem.F.slot_str_getitem.lookup, typeIs_str _ _ _, wpAny_with_toks (n := s.toks) (Nat.le_refl _) ?_⟩
  obtain ⟨T, id, _, _, hg⟩ := SBH.sliceItem_sn (prog := PR) (w := C.w) (A := C.A) (E := fun e s' => s.toks ≤ s'.toks → E e s') (s := s) (x := x) (t := u) (ui := ‹_›) (i := j) (Q := fun a s' => s.toks ≤ s'.toks → Q a s') (keptExt (h := s.heap)) (Ext.refl _) (fun h' t' tk e l => k _ h' tk e l (.str _ _)) hx
  exact hg
/-- the run of a list that a slice picks -/
def pick {α : Type} (xs : List α) (lo hi : Option Int) : List α := (sliceRange (sliceBounds lo hi none xs.length).1 (sliceBounds lo hi none xs.length).2.1 (sliceBounds lo hi none xs.length).2.2).filterMap (xs[·]?)
theorem IsL.places {w : World} {ok : Addr → Prop} {h : Heap} {xs : List PV} {vs : List Value} (x : IsL w ok h xs vs) : ∀ js : List Nat, IsL w ok h (js.filterMap (xs[·]?)) (js.filterMap (vs[·]?))
  | [] => .nil
  | j :: js => by
    have ih := x.places js
    cases hn : xs[j]? with
    | some r =>
      obtain ⟨v, hv, iv⟩ := x.get j hn
      simp only [List.filterMap_cons, hn, hv]
      exact .cons iv ih
    | none =>
      have hv : vs[j]? = none := by
        rw [List.getElem?_eq_none_iff] at hn ⊢
        rw [← x.length]; exact hn
      simp only [List.filterMap_cons, hn, hv]
      exact ih
theorem SLICE.list {xs : List PV} {lo hi : Option Int} (hx : xs.length ≤ sizeLine) : SLICE C (.list xs) lo hi (.list (pick xs lo hi)) := fun G s o vl vu Q E _ hf _ io il iu k => by
  obtain ⟨a, vs, n, rfl, o1, g1, l1⟩ := io.lE
  have e : slicePick vs.toArray lo hi none = (pick vs lo hi).toArray := by unfold slicePick pick; simp
  refine ⟨"list", _, list_getitem_lookup, Heap.IsList.typeIs (s := { s with heap := s.heap.push { cls := .type "slice", data := .fields #[vl, vu, .none] } }) ((isList g1).push _),
    wpAny_getItem_list_slice ((isList g1).push _) (Heap.IsSliceOf.new ..) il iu .none (by simp) ?_ (by rw [List.size_toArray, ← l1.length]; exact hx)⟩
  refine k _ ((s.heap.push _).push _) s.toks (ext_push.trans ext_push) (Nat.le_refl _) ?_
  rw [e]
  refine .list (hf _ (Heap.get?_none_of_le ?_)) (Heap.get?_push_size _ rfl) ?_
  · show s.heap.objs.size ≤ (s.heap.push _).objs.size
    rw [Heap.size_push]; exact Nat.le_succ _
  · unfold pick
    rw [← l1.length]
    exact (l1.places _).ext (ext_push.trans ext_push)
theorem EV.list {es : List PySem.Expr} {pos : Pos} {rs : List PV} (h : EVs C μ es rs) (hs : rs.length ≤ sizeLine) : EV C μ (.List es pos) (.list rs) := fun G s Q E S lo k =>
  List_ (h G pos s _ _ S lo fun vs h1 t1 e1 l1 i1 => wpAny_newList (k _ _ t1 (e1.trans ext_push) l1 (.list ((S.ext e1).fresh _ (Heap.get?_none_of_le (Nat.le_refl _))) (Heap.get?_push_size _ rfl) (i1.ext ext_push))) (by rw [← i1.length]; exact hs))
theorem EV.tuple {es : List PySem.Expr} {n : Nat} {pos : Pos} {rs : List PV} (h : EVs C μ es rs) (hs : rs.length ≤ sizeLine) : EV C μ (.Tuple es n pos) (.tup rs) := fun G s Q E S lo k =>
  Tuple_ (h G pos s _ _ S lo fun vs h1 t1 e1 l1 i1 => wpAny_newTuple (k _ _ t1 (e1.trans ext_push) l1 (.tup ((S.ext e1).fresh _ (Heap.get?_none_of_le (Nat.le_refl _))) (Heap.get?_push_size _ rfl) (i1.ext ext_push))) (by rw [← i1.length]; exact hs))
theorem CALL.lenS {x : Str} (hx : x.length ≤ sizeLine) : CALL C (.builtin "len") [.str x] (.int x.length) := fun G s vs Q E _ _ lo i k => by
  obtain ⟨_, rfl, i1⟩ := i.e1
  obtain ⟨u, rfl⟩ := i1.sE
  unfold sizeLine at hx
  exact len_str (by omega) (k _ s.heap _ (Ext.refl _) (Nat.le_succ_of_le (Nat.le_succ _)) (.int _ _))
theorem CALL.lenL {xs : List PV} (hx : xs.length ≤ sizeLine) : CALL C (.builtin "len") [.list xs] (.int xs.length) := fun G s vs Q E _ _ lo i k => by
  obtain ⟨_, rfl, i1⟩ := i.e1
  obtain ⟨a, vs, n, rfl, o1, g1, l1⟩ := i1.lE
  unfold sizeLine at hx
  refine len_list (isList g1) (by rw [List.size_toArray, ← l1.length]; omega) (k _ s.heap _ (Ext.refl _) (Nat.le_succ_of_le (Nat.le_succ _)) ?_)
  rw [List.size_toArray, ← l1.length]
  exact .int _ _
theorem CALL.max2 {a b : Int} : CALL C (.builtin "max") [.int a, .int b] (.int (if b > a then b else a)) := fun G s vs Q E _ _ lo i k => by
  obtain ⟨_, _, rfl, i1, i2⟩ := i.e2
  obtain ⟨u, rfl⟩ := i1.iE
  obtain ⟨v, rfl⟩ := i2.iE
  exact wpAny_with_toks (Nat.le_refl _) (max_two_ints G.amb.handled fun h' tk e l => k _ h' tk e l (by split <;> exact .int _ _))
theorem CALL.min2 {a b : Int} : CALL C (.builtin "min") [.int a, .int b] (.int (if b < a then b else a)) := fun G s vs Q E _ _ lo i k => by
  obtain ⟨_, _, rfl, i1, i2⟩ := i.e2
  obtain ⟨u, rfl⟩ := i1.iE
  obtain ⟨v, rfl⟩ := i2.iE
  exact wpAny_with_toks (Nat.le_refl _) (min_two_ints G.amb.handled fun h' tk e l => k _ h' tk e l (by split <;> exact .int _ _))
theorem ints_of {w : World} {ok : Addr → Prop} {h : Heap} : ∀ {ns : List Int} {vs : List Value}, IsL w ok h (ns.map .int) vs → ∃ xs : Array (Int × Tok), vs.toArray = intItems xs ∧ xs.toList.map (·.1) = ns
  | [], _, .nil => ⟨#[], by simp [intItems], rfl⟩
  | n :: ns, _, .cons h1 h2 => by
    obtain ⟨t, rfl⟩ := h1.iE
    obtain ⟨xs, e1, e2⟩ := ints_of h2
    refine ⟨((n, t) :: xs.toList).toArray, ?_, by simp [e2]⟩
    have : intItems xs = (xs.toList.map fun p => Value.int p.1 p.2).toArray := by unfold intItems; rw [← Array.toList_map]
    rw [this] at e1
    have e1 := congrArg Array.toList e1
    simp only at e1
    rw [e1]
    simp [intItems]
theorem CALL.maxL {ns : List Int} {m : Int} (hm : m ∈ ns) (ha : ∀ a ∈ ns, a ≤ m) : CALL C (.builtin "max") [.list (ns.map .int)] (.int m) := fun G s vs Q E _ _ lo i k => by
  obtain ⟨_, rfl, i1⟩ := i.e1
  obtain ⟨a, vs, n, rfl, o1, g1, l1⟩ := i1.lE
  obtain ⟨xs, e1, e2⟩ := ints_of l1
  have hl := isList g1
  rw [e1] at hl
  have hlen : xs.size = ns.length := by rw [← e2]; simp
  have hpos : 0 < ns.length := List.length_pos_of_mem hm
  refine wpAny_with_toks (Nat.le_refl _) (max_intList G.amb.handled hl (by omega) fun v h' tk hv e l => k _ h' tk e l ?_)
  obtain ⟨t, rfl⟩ := intItems_at hv
  obtain ⟨h1, h2⟩ := argBest_gt (numAt xs) (xs.size - 1)
  have e3 : numAt xs (argBest (fun i j => decide (numAt xs i > numAt xs j)) (xs.size - 1)) = m := by
    refine Int.le_antisymm (ha _ ?_) ?_
    · rw [numAt_eq, e2]; exact getD_mem (by omega)
    · obtain ⟨j, hj, rfl⟩ := mem_getD hm
      have := h2 j (by omega)
      rwa [numAt_eq xs j, e2] at this
  rw [e3]
  exact .int _ _
end
end
section
/-- what an iterator hands out: a value, or a pair in a tuple of its own -/
inductive Shp where
  | one (r : PV)
  | two (a b : PV)
def SIs (w : World) (ok : Addr → Prop) (h : Heap) : Shp → Value → Prop
  | .one r, v => Is w ok h r v
  | .two a b, v => ∃ T x y, v = .ref T ∧ h.IsTuple T #[x, y] ∧ Is w ok h a x ∧ Is w ok h b y
theorem SIs.mono {w : World} {ok ok' : Addr → Prop} {h : Heap} {sh : Shp} {v : Value} (x : SIs w ok h sh v) (g : ∀ a, ok a → ok' a) : SIs w ok' h sh v := by
  cases sh with
  | one r => exact Is.mono (fun a o q e => ⟨g a q, e⟩) x
  | two a b => exact let ⟨T, p, q, e, hT, i, j⟩ := x; ⟨T, p, q, e, hT, i.mono fun a o q e => ⟨g a q, e⟩, j.mono fun a o q e => ⟨g a q, e⟩⟩
abbrev FC.less (C : FC) (wr : List Addr) : FC := ⟨C.K, C.w, C.A, C.env, C.h₀, fun a => C.ok a ∧ a ∉ wr, C.n, C.okr, C.ma, C.mx, C.lo⟩
/-- an iterator at work -/
structure Feed {α : Type} (w : World) (A : Around) (ok : Addr → Prop) (lo : Nat) (I : Addr) (fp wr : List Addr) (tgt : PySem.Expr) (as : List α) (sh : α → Shp) (St : Nat → Heap → Prop) : Prop where
  frame : ∀ i h h', St i h → (∀ b o, (b ∈ fp ∨ ok b) → h.get? b = some o → h'.get? b = some o) → St i h'
  live : ∀ i h, St i h → ∀ b ∈ wr, ∃ o, h.get? b = some o
  next : ∀ (i : Nat) (a : α) (s : Shared) (K : Value → Shared → Prop) (X : Shared → Prop) (E : Value → Shared → Prop), as[i]? = some a → St i s.heap → lo ≤ s.toks →
    (∀ v h' tk', (∀ b o, b ∉ wr → s.heap.get? b = some o → h'.get? b = some o) → St (i + 1) h' → SIs w ok h' (sh a) v → K v { s with heap := h', toks := tk' }) →
    wpAny (model PR w) A (pyNext (.ref I)) (fun r s₁ => match r with
      | none => X s₁
      | some v => wpAny (model PR w) A (letOwnedTupleGo tgt (.ref I) v) (fun _ s₂ => K v s₂) E s₁) E s
  done : ∀ (s : Shared) (K : Shared → Prop) (X : Value → Shared → Prop) (E : Value → Shared → Prop), St as.length s.heap → (∀ h' tk', (∀ b o, b ∉ wr → s.heap.get? b = some o → h'.get? b = some o) → K { s with heap := h', toks := tk' }) →
    wpAny (model PR w) A (pyNext (.ref I)) (fun r s₁ => match r with
      | none => K s₁
      | some v => X v s₁) E s
  self : ∀ i (s : Shared) (Q : Value → Shared → Prop) (E : Value → Shared → Prop), St i s.heap → Q (.ref I) s → wpAny (model PR w) A (pyIter (.ref I)) Q E s
/-- an expression that is iterated over -/
def FD {α : Type} (C : FC) (μ : Vars) (iter tgt : PySem.Expr) (as : List α) (sh : α → Shp) : Prop :=
  C.Good → ∀ (s : Shared) (Q : Value → Shared → Prop) (E : Value → Shared → Prop), Sees C μ s.heap → C.lo ≤ s.toks →
    (∀ I fp wr St h' tk', Ext s.heap h' → s.toks ≤ tk' → (∀ b ∈ wr, s.heap.get? b = none) → (∀ b ∈ fp, b ∈ wr ∨ (C.ok b ∧ ∃ o, h'.get? b = some o)) → St 0 h' → Feed C.w C.A (fun a => C.ok a ∧ a ∉ wr ∧ ∃ o, h'.get? a = some o) C.lo I fp wr tgt as sh St → Q (.ref I) { s with heap := h', toks := tk' }) →
    wpAny (model PR C.w) C.A (eval iter C.env) (fun x s₁ => wpAny (model PR C.w) C.A (pyIter x) Q E s₁) E s
/-- a target -/
def ASG (C : FC) (tgt : PySem.Expr) (sh : Shp) (bd : Vars → Vars) : Prop :=
  C.Good → ∀ (μ : Vars) (s : Shared) (v : Value) (Q : Unit → Shared → Prop) (E : Value → Shared → Prop), Sees C μ s.heap → C.lo ≤ s.toks → SIs C.w C.ok s.heap sh v →
    (∀ h' tk', s.toks ≤ tk' → (∀ b o, b ≠ C.env.locals → s.heap.get? b = some o → h'.get? b = some o) → Sees C (bd μ) h' → Q () { s with heap := h', toks := tk' }) → wpAny (model PR C.w) C.A (assign tgt C.env v) Q E s
theorem Is.kept {C : FC} (G : C.Good) {h h' : Heap} {r : PV} {v : Value} (x : Is C.w C.ok h r v) (k : Keep C h h') : Is C.w C.ok h' r v :=
  x.mono fun a o q e => ⟨q, k a o (fun z => G.notL (z ▸ q)) (fun z => G.notM (z ▸ q)) (fun y z => (G.notC y a z).1 q) e⟩
section
variable {C : FC} {μ : Vars}
theorem ASG.name {x : Str} {px : Pos} {r : PV} (hk : (C.env.kindOf x == some .local) = true) (hm : (x == C.mx || x == ("@" : Str)) = false) : ASG C (.Name x px) (.one r) ((x, r) :: ·) := fun G μ s v Q E S lo i k =>
  wpAny_assign_Name (store G S i (by rw [hk]; rfl) hm fun h' tk' l kl _ S' => k h' tk' l (kl (eq_of_beq hk)).2 S')
theorem ASG.pair {t₀ t₁ : PySem.Expr} {n : Nat} {p : Pos} {a b : PV} {b₀ b₁ : Vars → Vars} (h0 : ASG C t₀ (.one a) b₀) (h1 : ASG C t₁ (.one b) b₁) (he : assignEach [t₀, t₁] C.env = [(false, assign t₀ C.env), (false, assign t₁ C.env)]) :
    ASG C (.Tuple [t₀, t₁] n p) (.two a b) (fun μ => b₁ (b₀ μ)) := fun G μ s v Q E S lo i k => by
  obtain ⟨T, x, y, rfl, hT, i0, i1⟩ := i
  refine wpAny_assign_Tuple G.amb.handled hT (by rw [he]; rfl) (by rw [he]; rfl) fun h₁ e₁ => ?_
  replace e₁ : Ext s.heap h₁ := fun b o q => e₁ b o (Nat.ne_of_lt (Heap.lt_size q)) q
  rw [he]
  show wpAny _ _ (do holding [y] (assign t₀ C.env x); do holding [] (assign t₁ C.env y); pure ()) _ _ _
  refine wpAny_bind (wpAny_holding (h0 G μ _ x _ _ (S.ext e₁) lo (i0.ext e₁) fun h₂ t₂ l₂ k₂ S₂ => ?_))
  refine wpAny_bind (wpAny_holding (h1 G _ _ y _ _ S₂ (Nat.le_trans lo l₂) (Is.kept G (i1.ext e₁) fun b o n _ _ q => k₂ b o n q) fun h₃ t₃ l₃ k₃ S₃ => wpAny_pure (k h₃ t₃ (Nat.le_trans l₂ l₃) (fun b o n q => k₃ b o n (k₂ b o n (e₁ b o q))) S₃)))
theorem ASG.tup {tgt : PySem.Expr} {a b : PV} {bd : Vars → Vars} (h : ASG C tgt (.two a b) bd) : ASG C tgt (.one (.tup [a, b])) bd := fun G μ s v Q E S lo i k => by
  obtain ⟨T, vs, n, rfl, o1, g1, l1⟩ := Is.tE i
  obtain ⟨x, y, rfl, i0, i1⟩ := l1.e2
  exact h G μ s _ Q E S lo ⟨T, x, y, rfl, ⟨_, g1, rfl, _, rfl⟩, i0, i1⟩ k
/-- places that no value reaches -/
structure Off (C : FC) (wr : List Addr) : Prop where
  ok : ∀ b ∈ wr, ¬ C.ok b
  lo : ∀ b ∈ wr, b ≠ C.env.locals
  ma : ∀ b ∈ wr, b ≠ C.ma
  ce : ∀ b ∈ wr, ∀ x, C.env.cells.lookup x ≠ some b
  ba : ∀ b ∈ wr, C.h₀.get? b = none
theorem Sees.off {wr : List Addr} {h h' : Heap} (S : Sees C μ h) (G : C.Good) (W : Off C wr) (hl : ∀ b ∈ wr, ∃ o, h'.get? b = some o) (hk : ∀ b o, b ∉ wr → h.get? b = some o → h'.get? b = some o) : Sees C μ h' where
  keep := fun b o e => hk b o (fun z => by rw [W.ba b z] at e; cases e) (S.keep b o e)
  fresh := fun a e => S.fresh a (by
    cases q : h.get? a with
    | none => rfl
    | some o =>
      by_cases z : a ∈ wr
      · obtain ⟨o', ho⟩ := hl a z; rw [e] at ho; cases ho
      · rw [hk a o z q] at e; cases e)
  ns := let ⟨m, hn, hv⟩ := S.ns; ⟨m, hn.at' fun o e => hk _ o (fun z => W.lo _ z rfl) e, fun x r hx hy => let ⟨v, e1, e2⟩ := hv x r hx hy; ⟨v, e1, e2.mono fun a o q e => ⟨q, hk a o (fun z => W.ok a z q) e⟩⟩⟩
  cells := fun x r hx hy => let ⟨c, v, e1, ⟨o, ho, r1⟩, e3⟩ := S.cells x r hx hy; ⟨c, v, e1, ⟨o, hk c o (fun z => W.ce c z x e1) ho, r1⟩, e3.mono fun a o q e => ⟨q, hk a o (fun z => W.ok a z q) e⟩⟩
  own := fun x hx => let ⟨c, ov, e1, ⟨o, ho, r1⟩⟩ := S.own x hx; ⟨c, ov, e1, ⟨o, hk c o (fun z => W.ce c z x e1) ho, r1⟩⟩
  live := fun x c hc => let ⟨o, ho⟩ := S.live x c hc; ⟨o, hk c o (fun z => W.ce c z x hc) ho⟩
  mlive := let ⟨o, ho⟩ := S.mlive; ⟨o, hk _ o (fun z => W.ma _ z rfl) ho⟩
  mu := fun r hr => let ⟨a, b, m, hn, hm⟩ := S.mu r hr; ⟨a.mono (fun a o q e => ⟨q, hk a o (fun z => W.ok a z q) e⟩) fun o e => hk _ o (fun z => W.ma _ z rfl) e, b, m, hn.at' fun o e => hk _ o (fun z => W.lo _ z rfl) e, hm⟩
theorem FC.Good.less (G : C.Good) (wr : List Addr) : (C.less wr).Good :=
  ⟨G.amb, G.X, G.T, G.fn, G.gl, G.bl, fun z => G.notL z.1, G.newL, fun x c hc => ⟨fun z => (G.notC x c hc).1 z.1, (G.notC x c hc).2⟩, G.apart, fun a z => G.okr a z.1, fun z => G.notM z.1, G.hat⟩
theorem Sees.less {wr : List Addr} {h h' : Heap} (S : Sees C μ h) (e : Ext h h') (hw : ∀ b ∈ wr, h.get? b = none) (hl : ∀ b ∈ wr, ∃ o, h'.get? b = some o) : Sees (C.less wr) μ h' := by
  have g : ∀ {r : PV} {v : Value}, Is C.w C.ok h r v → Is C.w (C.less wr).ok h' r v := fun x => x.mono fun a o q c => ⟨⟨q, fun z => by rw [hw a z] at c; cases c⟩, e a o c⟩
  have S' := S.ext e
  exact ⟨S'.keep, fun a q => ⟨S'.fresh a q, fun z => by obtain ⟨o, ho⟩ := hl a z; rw [q] at ho; cases ho⟩,
    let ⟨m, hn, hv⟩ := S.ns; ⟨m, hn.keeps e, fun x r hx hk => let ⟨v, e1, e2⟩ := hv x r hx hk; ⟨v, e1, g e2⟩⟩,
    fun x r hx hk => let ⟨c, v, e1, e2, e3⟩ := S.cells x r hx hk; ⟨c, v, e1, e2.keeps e, g e3⟩, S'.own, S'.live, S'.mlive,
    fun r hr => let ⟨a, b, m, hn, hm⟩ := S.mu r hr; ⟨a.mono (fun a o q c => ⟨⟨q, fun z => by rw [hw a z] at c; cases c⟩, e a o c⟩) fun o => e _ o, ⟨fun z => b.1 z.1, b.2⟩, m, hn.keeps e, hm⟩⟩
theorem Off.less {wr : List Addr} {h : Heap} (S : Sees C μ h) (hw : ∀ b ∈ wr, h.get? b = none) : Off (C.less wr) wr where
  ok := fun b hb z => z.2 hb
  lo := fun b hb z => by obtain ⟨m, ⟨o, _, _, ho, _⟩, _⟩ := S.ns; rw [← z, hw b hb] at ho; cases ho
  ma := fun b hb z => by
    obtain ⟨o, ho⟩ := S.mlive
    have z : b = C.ma := z
    rw [← z, hw b hb] at ho; cases ho
  ce := fun b hb x z => by obtain ⟨o, ho⟩ := S.live x b z; rw [hw b hb] at ho; cases ho
  ba := fun b hb => by
    cases q : C.h₀.get? b with
    | none => rfl
    | some o => have := S.keep b o q; rw [hw b hb] at this; cases this
/-- back from the loop -/
theorem Sees.more {wr : List Addr} {h h' : Heap} (S : Sees (C.less wr) μ h) (G : C.Good) (W : Off (C.less wr) wr) (hw : ∀ b ∈ wr, C.ok b) (hk : ∀ b o, b ∉ wr → h.get? b = some o → h'.get? b = some o) : Sees C μ h' := by
  have g : ∀ {r : PV} {v : Value}, Is C.w (C.less wr).ok h r v → Is C.w C.ok h' r v := fun x => x.mono fun a o q c => ⟨q.1, hk a o q.2 c⟩
  have hL : C.env.locals ∉ wr := fun z => W.lo _ z rfl
  refine ⟨fun b o e => hk b o (fun z => by have := W.ba b z; rw [show C.h₀.get? b = some o from e] at this; cases this) (S.keep b o e), fun a e => ?_,
    let ⟨m, hn, hv⟩ := S.ns; ⟨m, hn.at' fun o e => hk _ o hL e, fun x r hx hk => let ⟨v, e1, e2⟩ := hv x r hx hk; ⟨v, e1, g e2⟩⟩,
    fun x r hx hy => let ⟨c, v, e1, ⟨o, ho, r1⟩, e3⟩ := S.cells x r hx hy; ⟨c, v, e1, ⟨o, hk c o (fun z => W.ce c z x e1) ho, r1⟩, g e3⟩,
    fun x hx => let ⟨c, ov, e1, ⟨o, ho, r1⟩⟩ := S.own x hx; ⟨c, ov, e1, ⟨o, hk c o (fun z => W.ce c z x e1) ho, r1⟩⟩,
    fun x c hc => let ⟨o, ho⟩ := S.live x c hc; ⟨o, hk c o (fun z => W.ce c z x hc) ho⟩,
    let ⟨o, ho⟩ := S.mlive; ⟨o, hk _ o (fun z => W.ma _ z rfl) ho⟩,
    fun r hr => let ⟨a, b, m, hn, hm⟩ := S.mu r hr; ⟨a.mono (fun a o q e => ⟨q.1, hk a o q.2 e⟩) fun o e => hk _ o (fun z => W.ma _ z rfl) e, ⟨G.notM, b.2⟩, m, hn.at' fun o e => hk _ o hL e, hm⟩⟩
  by_cases z : a ∈ wr
  · exact hw a z
  · refine (S.fresh a ?_).1
    cases q : h.get? a with
    | none => rfl
    | some o => rw [hk a o z q] at e; cases e
/-- a for: m whole turns, and then its end or a return -/
theorem for_feed {α : Type} {tgt : PySem.Expr} {body orelse : List Stmt} {as : List α} {sh : α → Shp} {o : Out} (bd : α → Vars → Vars) (J : Nat → Vars) (h0 : Sub (J 0) μ) (m : Nat) (hm : m ≤ as.length) {s : Shared} {h₁ : Heap} {t₁ : Nat} {I : Addr} {fp wr : List Addr} {St : Nat → Heap → Prop} {R : Result → Shared → Prop}
    (hb : ∀ a ∈ as, ∀ wr, ASG (C.less wr) tgt (sh a) (bd a)) (turn : ∀ i a wr, i < m → as[i]? = some a → EXs (C.less wr) (bd a (J i)) body (.next (J (i + 1))))
    (stop : (m = as.length ∧ o = .next (J m) ∧ orelse = []) ∨ ∃ a r, as[m]? = some a ∧ o = .ret r ∧ ∀ wr, EXs (C.less wr) (bd a (J m)) body (.ret r))
    (G : C.Good) (S : Sees C μ s.heap) (lo : C.lo ≤ s.toks) (e₁ : Ext s.heap h₁) (l₁ : s.toks ≤ t₁) (hw : ∀ b ∈ wr, s.heap.get? b = none) (hfp : ∀ b ∈ fp, b ∈ wr ∨ (C.ok b ∧ ∃ o, h₁.get? b = some o)) (st : St 0 h₁) (W : Feed C.w C.A (fun a => C.ok a ∧ a ∉ wr ∧ ∃ o, h₁.get? a = some o) C.lo I fp wr tgt as sh St)
    (k : ∀ f h' tk', s.toks ≤ tk' → Keep C s.heap h' → OutIs C o f h' → R (.ok f) { s with heap := h', toks := tk' }) :
    codeAny (model PR C.w) C.A (.forLoop tgt (.ref I) body orelse C.env) R { s with heap := h₁, toks := t₁ } := by
  have S₁ := (S.sub (sub_of h0)).less (wr := wr) e₁ hw (W.live _ _ st)
  have G₁ := G.less wr
  have O := Off.less (C := C) S hw
  have kw : ∀ {h h' : Heap}, Keep C s.heap h → (∀ b o, b ∉ wr → h.get? b = some o → h'.get? b = some o) → Keep C s.heap h' := fun x y b o n1 n2 n3 e => y b o (fun z => by rw [hw b z] at e; cases e) (x b o n1 n2 n3 e)
  refine for_any (fun n s' => ∃ i h' tk', s' = { s with heap := h', toks := tk' } ∧ i + n = m + 1 ∧ i ≤ m ∧ s.toks ≤ tk' ∧ Keep C s.heap h' ∧ Sees (C.less wr) (J i) h' ∧ St i h') ?_ (m + 1)
    ⟨0, h₁, t₁, rfl, Nat.zero_add _, Nat.zero_le _, l₁, .of e₁, S₁, st⟩
  rintro n s' ⟨i, h', tk', rfl, hin, hi, l', k', S', st'⟩
  refine wpAny_with_toks (n := s.toks) l' ?_
  by_cases hx : ∃ a, as[i]? = some a ∧ (i < m ∨ ∃ r, o = .ret r ∧ ∀ wr, EXs (C.less wr) (bd a (J i)) body (.ret r))
  · obtain ⟨a, ha, hx⟩ := hx
    refine wpAny_mono (W.next i a _ (fun v s₂ => s.toks ≤ s₂.toks → wpAny (model PR C.w) C.A (assign tgt C.env v) (fun _ s₃ => wpAny (model PR C.w) C.A (execs body C.env) (LPost n (fun n s' => ∃ i h' tk', s' = { s with heap := h', toks := tk' } ∧ i + n = m + 1 ∧ i ≤ m ∧ s.toks ≤ tk' ∧ Keep C s.heap h' ∧ Sees (C.less wr) (J i) h' ∧ St i h') R) (fun _ _ => False) s₃) (fun _ _ => False) s₂) (fun _ => False) (fun _ _ => False) ha st' (Nat.le_trans lo l') fun v h₂ t₂ hk₂ st₂ iv l₂ => ?_) (fun r s₁ h₁ l₁ => ?_) (fun _ _ x => x.elim)
    · refine hb a (List.mem_of_getElem? ha) wr G₁ (J i) _ v _ _ (S'.off G₁ O (W.live _ _ st₂) hk₂) (Nat.le_trans lo l₂) (iv.mono fun a q => ⟨q.1, q.2.1⟩) fun h₃ t₃ l₃ k₃ S₃ => ?_
      have lo₃ := Nat.le_trans lo (Nat.le_trans l₂ l₃)
      rcases hx with hlt | ⟨r, rfl, hr⟩
      · refine turn i a wr hlt ha G₁ _ _ S₃ lo₃ fun f h₄ t₄ l₄ k₄ oi => ?_
        obtain ⟨rfl, S₄⟩ := oi
        have kk : Keep C h₂ h₄ := Keep.trans (fun b o n _ _ q => k₃ b o n q) k₄
        refine LPost.next (m := n - 1) (by omega) ⟨i + 1, h₄, t₄, rfl, by omega, hlt, Nat.le_trans l₂ (Nat.le_trans l₃ l₄), (kw k' hk₂).trans kk, S₄, W.frame _ _ _ st₂ fun b o hb e => ?_⟩
        have hx : b ∈ wr ∨ C.ok b := hb.elim (fun z => (hfp b z).imp id (·.1)) fun z => .inr z.1
        rcases hx with hx | hx
        · exact kk b o (O.lo b hx) (O.ma b hx) (O.ce b hx) e
        · exact kk b o (fun z => G.notL (z ▸ hx)) (fun z => G.notM (z ▸ hx)) (fun y z => (G.notC y b z).1 hx) e
      · refine hr wr G₁ _ _ S₃ lo₃ fun f h₄ t₄ l₄ k₄ oi => ?_
        obtain ⟨v', rfl, e4, i4⟩ := oi
        exact k (.ret v') h₄ t₄ (Nat.le_trans l₂ (Nat.le_trans l₃ l₄)) ((kw k' hk₂).trans (Keep.trans (fun b o n _ _ q => k₃ b o n q) k₄)) ⟨v', rfl, e4, i4⟩
    · cases r with
      | none => exact h₁.elim
      | some v => exact wpAny_mono (wpAny_toks_of l₁ h₁) (fun _ s₂ h₂ => h₂.2 h₂.1) (fun _ _ x => x.2.elim)
  · rcases Nat.lt_or_ge i m with hlt | hge
    · exact absurd ⟨_, List.getElem?_eq_getElem (Nat.lt_of_lt_of_le hlt hm), .inl hlt⟩ hx
    obtain rfl : i = m := Nat.le_antisymm hi hge
    rcases stop with ⟨rfl, rfl, rfl⟩ | ⟨a, r, h1, h2, h3⟩
    · refine wpAny_mono (W.done _ (fun s₁ => s.toks ≤ s₁.toks → wpAny (model PR C.w) C.A (execs [] C.env) (fun f s₃ => R (.ok f) s₃) (fun _ _ => False) s₁) (fun _ _ => False) (fun _ _ => False) st' fun h₂ t₂ hk₂ l₂ => ?_) (fun r s₁ h₁ l₁ => ?_) (fun _ _ x => x.elim)
      · exact wpAny_execs_nil (k .next h₂ t₂ l₂ (kw k' hk₂) ⟨rfl, S'.more G O (fun b hb => S.fresh b (hw b hb)) hk₂⟩)
      · cases r with
        | none => exact h₁ l₁
        | some v => exact h₁.elim
    · exact absurd ⟨a, h1, .inr ⟨r, h2, h3⟩⟩ hx
theorem EX.for {α : Type} {iter tgt : PySem.Expr} {body : List Stmt} {pos : Pos} {as : List α} {sh : α → Shp} (hF : FD C μ iter tgt as sh) (bd : α → Vars → Vars) (J : Nat → Vars) (h0 : Sub (J 0) μ)
    (hb : ∀ a ∈ as, ∀ wr, ASG (C.less wr) tgt (sh a) (bd a)) (turn : ∀ i a wr, as[i]? = some a → EXs (C.less wr) (bd a (J i)) body (.next (J (i + 1)))) (hfo : ∀ x, foldedSetIterable iter C.env x = pure x) :
    EX C μ (.For tgt iter body [] pos) (.next (J as.length)) := fun G s Q S lo k =>
  wpAny_For (hF G s _ _ S lo fun I fp wr St h₁ t₁ e₁ l₁ hw hfp st W => for_feed bd J h0 as.length (Nat.le_refl _) hb (fun i a wr _ => turn i a wr) (.inl ⟨rfl, rfl, rfl⟩) G S lo e₁ l₁ hw hfp st W k) hfo
/-- a for that returns in its turn m -/
theorem EX.forR {α : Type} {iter tgt : PySem.Expr} {body orelse : List Stmt} {pos : Pos} {as : List α} {sh : α → Shp} {r : PV} (hF : FD C μ iter tgt as sh) (bd : α → Vars → Vars) (J : Nat → Vars) (m : Nat) (a : α) (ha : as[m]? = some a) (h0 : Sub (J 0) μ)
    (hb : ∀ a ∈ as, ∀ wr, ASG (C.less wr) tgt (sh a) (bd a)) (turn : ∀ i a wr, i < m → as[i]? = some a → EXs (C.less wr) (bd a (J i)) body (.next (J (i + 1)))) (last : ∀ wr, EXs (C.less wr) (bd a (J m)) body (.ret r)) (hfo : ∀ x, foldedSetIterable iter C.env x = pure x) :
    EX C μ (.For tgt iter body orelse pos) (.ret r) := fun G s Q S lo k =>
  wpAny_For (hF G s _ _ S lo fun I fp wr St h₁ t₁ e₁ l₁ hw hfp st W => for_feed bd J h0 m (Nat.le_of_lt (List.getElem?_eq_some_iff.mp ha).1) hb turn (.inr ⟨a, r, ha, rfl, last⟩) G S lo e₁ l₁ hw hfp st W k) hfo
end
end
section
def owned (n : String) : Bool := ["enumerate", "zip", "dict_itemiterator", "dict_reverseitemiterator", "odict_iterator", "itertools.zip_longest", "itertools.pairwise"].contains n
theorem go_none {A : Around} {E : Value → Shared → Prop} {w : World} {tgt : PySem.Expr} {I : Addr} {v : Value} {s : Shared} {o : Obj} {n : String} {Q : Unit → Shared → Prop} (ho : s.heap.get? I = some o) (hc : o.cls = .type n) (hn : owned n = false) (hQ : Q () s) :
    wpAny (model PR w) A (letOwnedTupleGo tgt (.ref I) v) Q E s := by
  have main : ∀ a : Addr, wpAny (model PR w) A (do
      let o ← load I
      match o.cls, o.data with
      | .type n, .fields vs =>
        if (["enumerate", "zip", "dict_itemiterator", "dict_reverseitemiterator", "odict_iterator", "itertools.zip_longest", "itertools.pairwise"].contains n && vs[0]? == some (rawInt a)) = true then do
          rule "for.unpacks-the-owned-tuple"
          updateField I 0 .none
        else pure PUnit.unit
      | _, _ => pure PUnit.unit : Sem PUnit) Q E s := fun a => by
    refine wpAny_bind (wpAny_load ho ?_)
    rw [hc]
    have hn' : ["enumerate", "zip", "dict_itemiterator", "dict_reverseitemiterator", "odict_iterator", "itertools.zip_longest", "itertools.pairwise"].contains n = false := hn
    cases o.data <;> first | exact wpAny_pure hQ | (dsimp only; rw [hn']; exact wpAny_pure hQ)
  unfold letOwnedTupleGo
  cases tgt <;> first | exact wpAny_pure hQ | (cases v <;> first | exact wpAny_pure hQ | exact main _)
section
variable {α : Type} {w : World} {A : Around} {ok : Addr → Prop} {lo : Nat} {I : Addr} {fp wr : List Addr} {tgt : PySem.Expr} {as : List α}
theorem Feed.ofW {P : Nat → Value → Prop} {St : Nat → Heap → Prop} {val : α → PV} {hb : Heap} (W : Walks PR w A I fp [I] as.length P St) (hI : ∀ i h, St i h → ∃ o n, h.get? I = some o ∧ o.cls = .type n ∧ owned n = false)
    (hP : ∀ i a v, as[i]? = some a → P i v → Is w ok hb (val a) v) (hok : ¬ ok I) : Feed w A ok lo I fp [I] tgt as (fun a => .one (val a)) (fun i h => St i h ∧ ∀ b o, ok b → hb.get? b = some o → h.get? b = some o) where
  frame := fun i h h' st hk => ⟨W.frame i h h' st.1 fun b hb o e => hk b o (.inl hb) e, fun b o q e => hk b o (.inr q) (st.2 b o q e)⟩
  live := fun i h st b hb => by rw [List.mem_singleton.mp hb]; obtain ⟨o, _, ho, _⟩ := hI i h st.1; exact ⟨o, ho⟩
  next := fun i a s K X E ha st _ k => W.item i s _ _ (List.getElem?_eq_some_iff.mp ha).1 st.1 fun v h' tk' hp st' hk => by
    obtain ⟨o, n, ho, hc, hn⟩ := hI _ _ st'
    have kp : ∀ b o, ok b → hb.get? b = some o → h'.get? b = some o := fun b o q e => hk b o (fun z => hok (List.mem_singleton.mp z ▸ q)) (st.2 b o q e)
    exact go_none ho hc hn (k v h' tk' hk ⟨st', kp⟩ ((hP i a v ha hp).mono fun b o q e => ⟨q, kp b o q e⟩))
  done := fun s K X E st k => W.done s _ _ st.1 k
  self := fun i s Q E st q => W.self i s Q E st.1 q
theorem Feed.ofU {wr₀ : List Addr} {Pt : Nat → Array Value → Prop} {St : Nat → Heap → Prop} {Md : Nat → Addr → Heap → Prop} {va vb : α → PV} {hb : Heap} {es : List PySem.Expr} {x1 : Nat} {p : Pos} {n : Nat} (W : WalksU PR w A I fp wr₀ n Pt St Md) (hn : n = as.length) (hw : ∀ b ∈ wr₀, b ∈ wr)
    (hl : ∀ i h, St i h → ∀ b ∈ wr, ∃ o, h.get? b = some o) (hP : ∀ i a vs, as[i]? = some a → Pt i vs → ∃ x y, vs = #[x, y] ∧ (∀ h, (∀ b o, ok b → hb.get? b = some o → h.get? b = some o) → Is w ok h (va a) x ∧ Is w ok h (vb a) y)) (hok : ∀ b ∈ wr, ¬ ok b) :
    Feed w A ok lo I fp wr (.Tuple es x1 p) as (fun a => .two (va a) (vb a)) (fun i h => St i h ∧ ∀ b o, ok b → hb.get? b = some o → h.get? b = some o) where
  frame := fun i h h' st hk => ⟨W.frame i h h' st.1 fun b hb o e => hk b o (.inl hb) e, fun b o q e => hk b o (.inr q) (st.2 b o q e)⟩
  live := fun i h st => hl i h st.1
  next := fun i a s K X E ha st _ k => W.item i s _ _ (hn ▸ (List.getElem?_eq_some_iff.mp ha).1) st.1 fun T vs h' tk' hp hT hm hk => W.go _ _ _ i T _ _ _ hm fun h'' st'' hk'' => by
    have kk : ∀ b o, b ∉ wr → s.heap.get? b = some o → h''.get? b = some o := fun b o z e => hk'' b o (fun q => z (hw b q)) (hk b o (fun q => z (hw b q)) e)
    have kp : ∀ b o, ok b → hb.get? b = some o → h''.get? b = some o := fun b o q e => kk b o (fun z => hok b z q) (st.2 b o q e)
    obtain ⟨x, y, rfl, hi⟩ := hP i a vs ha hp
    obtain ⟨i1, i2⟩ := hi h'' kp
    exact k _ h'' tk' kk ⟨st'', kp⟩ ⟨T, x, y, rfl, hT.at fun o e => hk'' T o (W.apart i T h' hm) e, i1, i2⟩
  done := fun s K X E st k => W.done s _ _ (hn ▸ st.1) fun h' tk' hk => k h' tk' fun b o z e => hk b o (fun q => z (hw b q)) e
  self := fun i s Q E st q => W.self i s Q E st.1 q
end
section
variable {α : Type} {C : FC} {μ : Vars} {tgt : PySem.Expr} {as : List α}
theorem nd {h : Heap} {k : Nat} : h.get? (h.objs.size + k) = none := Heap.get?_none_of_le (Nat.le_add_right _ _)
theorem Is.noI {h h' : Heap} {r : PV} {v : Value} {wr : List Addr} (x : Is C.w C.ok h r v) (hw : ∀ b ∈ wr, h.get? b = none) (e : Ext h h') : Is C.w (fun a => C.ok a ∧ a ∉ wr ∧ ∃ o, h'.get? a = some o) h r v := x.mono fun a o q c => ⟨⟨q, (fun z => by rw [hw a z] at c; cases c), o, e a o c⟩, c⟩
theorem FD.list {e : PySem.Expr} {val : α → PV} {rs : List PV} (he : EV C μ e (.list rs)) (hr : rs = as.map val) : FD C μ e tgt as (fun a => .one (val a)) := fun G s Q E S lo k => (hr ▸ he) G s _ _ S lo fun v h1 t1 e1 l1 i1 => by
  obtain ⟨a, vs, n, rfl, o1, g1, il⟩ := i1.lE
  have hlt := Heap.lt_size g1
  have hw : ∀ b ∈ [h1.objs.size], h1.get? b = none := fun b hb => by rw [List.mem_singleton.mp hb]; exact Heap.get?_none_of_le (Nat.le_refl _)
  have W := Walks.list (prog := PR) (w := C.w) G.amb.handled h1.objs.size a (Nat.ne_of_lt hlt) vs.toArray
  have hlen : vs.toArray.size = as.length := by rw [List.size_toArray, ← il.length, List.length_map]
  rw [hlen] at W
  refine wpAny_pyIter_list (isList g1) (k _ [h1.objs.size, a] [h1.objs.size] _ _ t1 (e1.trans ext_push) l1 (fun b hb => ?_) (fun b hb => ?_) ⟨⟨⟨_, Heap.get?_push_size _ rfl, rfl, rfl⟩, (isList g1).push _⟩, fun b o _ e => ext_push b o e⟩
    (Feed.ofW (hb := h1) W (fun i h st => let ⟨⟨o, ho, hc, _⟩, _⟩ := st; ⟨o, _, ho, hc, rfl⟩) (fun i b v hb hv => ?_) fun z => z.2.1 (List.mem_singleton.mpr rfl)))
  · cases q : s.heap.get? b with
    | none => rfl
    | some o => have := e1 b o q; rw [hw b hb] at this; cases this
  · rcases List.mem_cons.mp hb with rfl | hb
    · exact .inl (List.mem_singleton.mpr rfl)
    · rw [List.mem_singleton.mp hb]; exact .inr ⟨o1, _, ext_push _ _ g1⟩
  · obtain ⟨v', hv', iv⟩ := il.get i (show (as.map val)[i]? = some (val b) by rw [List.getElem?_map, hb]; rfl)
    have hv : vs[i]? = some v := by simpa using hv
    rw [hv] at hv'
    cases hv'
    exact iv.noI hw ext_push
theorem FD.tup {e : PySem.Expr} {val : α → PV} {rs : List PV} (he : EV C μ e (.tup rs)) (hr : rs = as.map val) : FD C μ e tgt as (fun a => .one (val a)) := fun G s Q E S lo k => (hr ▸ he) G s _ _ S lo fun v h1 t1 e1 l1 i1 => by
  obtain ⟨a, vs, n, rfl, o1, g1, il⟩ := i1.tE
  have hlt := Heap.lt_size g1
  have ht : h1.IsTuple a vs.toArray := ⟨_, g1, rfl, _, rfl⟩
  have hw : ∀ b ∈ [h1.objs.size], h1.get? b = none := fun b hb => by rw [List.mem_singleton.mp hb]; exact Heap.get?_none_of_le (Nat.le_refl _)
  have W := Walks.tuple (prog := PR) (w := C.w) G.amb.handled h1.objs.size a (Nat.ne_of_lt hlt) vs.toArray
  have hlen : vs.toArray.size = as.length := by rw [List.size_toArray, ← il.length, List.length_map]
  rw [hlen] at W
  refine wpAny_pyIter_tuple ht (k _ [h1.objs.size, a] [h1.objs.size] _ _ t1 (e1.trans ext_push) l1 (fun b hb => ?_) (fun b hb => ?_) ⟨⟨⟨_, Heap.get?_push_size _ rfl, rfl, rfl⟩, ht.at fun o e => ext_push _ o e⟩, fun b o _ e => ext_push b o e⟩
    (Feed.ofW (hb := h1) W (fun i h st => let ⟨⟨o, ho, hc, _⟩, _⟩ := st; ⟨o, _, ho, hc, rfl⟩) (fun i b v hb hv => ?_) fun z => z.2.1 (List.mem_singleton.mpr rfl)))
  · cases q : s.heap.get? b with
    | none => rfl
    | some o => have := e1 b o q; rw [hw b hb] at this; cases this
  · rcases List.mem_cons.mp hb with rfl | hb
    · exact .inl (List.mem_singleton.mpr rfl)
    · rw [List.mem_singleton.mp hb]; exact .inr ⟨o1, _, ext_push _ _ g1⟩
  · obtain ⟨v', hv', iv⟩ := il.get i (show (as.map val)[i]? = some (val b) by rw [List.getElem?_map, hb]; rfl)
    have hv : vs[i]? = some v := by simpa using hv
    rw [hv] at hv'
    cases hv'
    exact iv.noI hw ext_push
theorem FD.str {e : PySem.Expr} {x : Str} (he : EV C μ e (.str x)) : FD C μ e tgt x.cps.toList (fun c => .one (.str ⟨#[c]⟩)) := fun G s Q E S lo k => he G s _ _ S lo fun v h1 t1 e1 l1 i1 => by
  obtain ⟨t, rfl⟩ := i1.sE
  have hw : ∀ b ∈ [h1.objs.size], h1.get? b = none := fun b hb => by rw [List.mem_singleton.mp hb]; exact Heap.get?_none_of_le (Nat.le_refl _)
  have hws : ∀ b ∈ [h1.objs.size], s.heap.get? b = none := fun b hb => by
    cases q : s.heap.get? b with
    | none => rfl
    | some o => have := e1 b o q; rw [hw b hb] at this; cases this
  have hP : ∀ (i : Nat) (c : Nat) (v : Value), x.cps.toList[i]? = some c → SignAt x i v → ∀ ok', Is C.w ok' h1 (.str ⟨#[c]⟩) v := fun i c v hc hv ok' => by
    obtain ⟨c', u, hc', rfl⟩ := hv
    rw [Array.getElem?_toList, hc'] at hc
    cases hc
    exact .str _ _
  have hlen : x.cps.size = x.cps.toList.length := by simp
  cases ha : x.cps.all (· < 128)
  · have W := Walks.strWide (prog := PR) (w := C.w) G.amb.handled h1.objs.size x t
    rw [hlen] at W
    refine wpAny_pyIter_wide ha (k _ [h1.objs.size] [h1.objs.size] _ _ t1 (e1.trans ext_push) l1 hws (fun b hb => .inl hb) ⟨⟨_, Heap.get?_push_size _ rfl, rfl, rfl⟩, fun b o _ e => ext_push b o e⟩
      (Feed.ofW (hb := h1) W (fun i h st => let ⟨o, ho, hc, _⟩ := st; ⟨o, _, ho, hc, rfl⟩) (fun i c v a b => hP i c v a b _) fun z => z.2.1 (List.mem_singleton.mpr rfl)))
  · have W := Walks.strAscii (prog := PR) (w := C.w) G.amb.handled h1.objs.size x t
    rw [hlen] at W
    refine wpAny_pyIter_ascii ha (k _ [h1.objs.size] [h1.objs.size] _ _ t1 (e1.trans ext_push) l1 hws (fun b hb => .inl hb) ⟨⟨_, Heap.get?_push_size _ rfl, rfl, rfl⟩, fun b o _ e => ext_push b o e⟩
      (Feed.ofW (hb := h1) W (fun i h st => let ⟨o, ho, hc, _⟩ := st; ⟨o, _, ho, hc, rfl⟩) (fun i c v a b => hP i c v a b _) fun z => z.2.1 (List.mem_singleton.mpr rfl)))
/-- a call that makes an iterator -/
def CALLF (C : FC) (T : String) (rs : List PV) (tgt : PySem.Expr) (as : List α) (sh : α → Shp) : Prop :=
  C.Good → ∀ (s : Shared) (vs : List Value) (Q : Value → Shared → Prop) (E : Value → Shared → Prop), (∀ a, s.heap.get? a = none → C.ok a) → C.lo ≤ s.toks → IsL C.w C.ok s.heap rs vs →
    (∀ I fp wr St h' tk', Ext s.heap h' → (∀ b ∈ wr, s.heap.get? b = none) → (∀ b ∈ fp, b ∈ wr ∨ (C.ok b ∧ ∃ o, h'.get? b = some o)) → St 0 h' → Feed C.w C.A (fun a => C.ok a ∧ a ∉ wr ∧ ∃ o, h'.get? a = some o) C.lo I fp wr tgt as sh St → Q (.ref I) { s with heap := h', toks := tk' }) →
    wpAny (model PR C.w) C.A (call (.type T) vs) (fun x s₁ => wpAny (model PR C.w) C.A (pyIter x) Q E s₁) E s
theorem FD.call {sh : α → Shp} {f : PySem.Expr} {T : String} {e : PySem.Expr} {es : List PySem.Expr} {rs : List PV} {pos : Pos} (hf : EV C μ f (.fix (.type T))) (ha : EVs C μ (e :: es) rs) (hc : CALLF C T rs tgt as sh)
    (h1 : eval (.Call f (e :: es) [] pos) C.env = (do callWith pos (← eval f C.env) [] (backTo pos (starEach (e :: es) C.env)) (backToKw pos (keywordEach [] C.env)))) (he : starEach (e :: es) C.env = (false, eval e C.env) :: starEach es C.env)
    (hp : (backTo pos (starEach es C.env)).any (·.1) = false) : FD C μ (.Call f (e :: es) [] pos) tgt as sh := fun G s Q E S lo k =>
  Call_ (hf G s _ _ S lo fun v h1 t1 e1 l1 i1 => by
    cases i1
    refine PyProof.Rows.callWith_type1 (ha G pos _ _ _ (S.ext e1) (Nat.le_trans lo l1) fun vs h2 t2 e2 l2 i2 => ?_) he hp
    have e12 := Ext.trans e1 e2
    have hws : ∀ b, h2.get? b = none → s.heap.get? b = none := fun b z => by
      cases q : s.heap.get? b with
      | none => rfl
      | some o => have := e12 b o q; rw [z] at this; cases this
    exact wpAny_with_toks (n := s.toks) (Nat.le_trans l1 l2) (wpAny_mono (hc G ⟨h2, s.gens, s.drawn, t2, s.os⟩ vs (fun v s' => s.toks ≤ s'.toks → Q v s') E ((S.ext e1).ext e2).fresh (Nat.le_trans lo (Nat.le_trans l1 l2)) i2 fun I fp wr St h3 t3 e3 hw hfp st W l3 => k I fp wr St h3 t3 (e12.trans e3) l3 (fun b hb => hws b (hw b hb)) hfp st W)
      (fun x s₁ q l => wpAny_mono (wpAny_toks_of l q) (fun v s₂ z => z.2 z.1) fun _ _ z => z.2) (fun _ _ q _ => q))) h1
theorem CALLF.range {n : Nat} (hn : n ≤ sizeLine) : CALLF C "range" [.int n] tgt (List.range n) (fun i => .one (.int (i : Int))) := fun G s vs Q E hf lo i k => by
  obtain ⟨_, rfl, i1⟩ := i.e1
  obtain ⟨t, rfl⟩ := i1.iE
  unfold sizeLine at hn
  refine call_range_1 ?_
  have hr : Builtin.Range.rangeSize 0 (n : Int) 1 = (n : Int) := by
    unfold Builtin.Range.rangeSize
    simp
    omega
  refine wpAny_pyIter_range (a := 0) (b := n) (c := 1) (Heap.get?_push_size _ rfl) ?_ ?_
  · unfold Builtin.Range.small
    simp only [hr]
    unfold Builtin.Range.rangeFitsLong
    simp
    omega
  have hs : (s.heap.push { cls := .type "range", data := .fields #[.int 0 s.toks, .int n t, .int 1 (s.toks + 1)] }).objs.size = s.heap.objs.size + 1 := Heap.size_push ..
  dsimp only
  have W := Walks.range (prog := PR) (w := C.w) G.amb.handled (s.heap.objs.size + 1) 0 1 n
  rw [hs, hr]
  have hst : IsRangeIter ((s.heap.push { cls := .type "range", data := .fields #[.int 0 s.toks, .int n t, .int 1 (s.toks + 1)] }).push { cls := .type "range_iterator", data := .fields #[rawInt 0, rawInt (n : Int), rawInt 1] }) (s.heap.objs.size + 1) (0 + ((0 : Nat) : Int) * 1) ((n : Int) - ((0 : Nat) : Int)) 1 := by
    have e := Heap.get?_push_size (s.heap.push { cls := .type "range", data := .fields #[.int 0 s.toks, .int n t, .int 1 (s.toks + 1)] }) (o := { cls := .type "range_iterator", data := .fields #[rawInt 0, rawInt (n : Int), rawInt 1] }) rfl
    rw [hs] at e
    show _ = some _
    rw [e]
    simp
  refine k _ [s.heap.objs.size + 1] [s.heap.objs.size + 1] _ ((s.heap.push _).push _) _ (ext_push.trans ext_push) (fun b hb => by rw [List.mem_singleton.mp hb]; exact nd) (fun b hb => .inl hb) ⟨hst, fun b o _ e => (ext_push.trans ext_push) b o e⟩
    (Feed.ofW (St := fun i h => IsRangeIter h (s.heap.objs.size + 1) (0 + (i : Nat) * 1) ((n : Int) - (i : Nat)) 1) (hb := s.heap) (val := fun i : Nat => .int (i : Int)) (by rw [List.length_range]; exact W) (fun i h st => ⟨_, _, st, rfl, rfl⟩) (fun i b v hb hv => ?_) fun z => z.2.1 (List.mem_singleton.mpr rfl))
  · obtain ⟨u, rfl⟩ := hv
    have : b = i := by
      obtain ⟨hi, e⟩ := List.getElem?_eq_some_iff.mp hb
      rw [List.getElem_range] at e; exact e.symm
    subst this
    simpa using Is.int (b : Int) u
end
end
section
section
variable {α : Type} {C : FC} {μ : Vars} {tgt : PySem.Expr} {as : List α} {es : List PySem.Expr} {x1 : Nat} {p : Pos}
theorem nm2 {wr : List Addr} {a b : Addr} (h : ∀ d ∈ [a, b], d ∈ wr) : a ∈ wr ∧ b ∈ wr := ⟨h a (by simp), h b (by simp)⟩
theorem CALLF.enumL {val : α → PV} : CALLF C "enumerate" [.list (as.map val)] (.Tuple es x1 p) as.zipIdx (fun q => .two (.int (q.2 : Int)) (val q.1)) := fun G s vs Q E hf lo i k => by
  obtain ⟨_, rfl, i1⟩ := i.e1
  obtain ⟨a, vs, n, rfl, o1, g1, il⟩ := i1.lE
  have hlt := Heap.lt_size g1
  refine call_enumerate_list (isList g1) fun h' he hit hsz hk => wpAny_pyIter_enum he ?_
  have hw : ∀ b ∈ [s.heap.objs.size + 1, s.heap.objs.size], s.heap.get? b = none := fun b hb => by
    rcases List.mem_cons.mp hb with rfl | hb
    · exact nd
    · rw [List.mem_singleton.mp hb]; exact nd (k := 0)
  have W := (WalksT.enumerate (prog := PR) (w := C.w) G.amb.handled (s.heap.objs.size + 1) s.heap.objs.size a (Nat.succ_ne_self _) (Nat.ne_of_lt (Nat.lt_succ_of_lt hlt)) (Nat.ne_of_lt hlt) vs.toArray).toU
  have hlen : vs.toArray.size = as.zipIdx.length := by rw [List.size_toArray, ← il.length, List.length_map, List.length_zipIdx]
  refine k _ [s.heap.objs.size + 1, s.heap.objs.size, a] [s.heap.objs.size + 1, s.heap.objs.size] _ h' s.toks hk hw (fun b hb => ?_) ⟨⟨⟨_, he⟩, hit, (isList g1).at fun o e => hk _ o e⟩, fun b o _ e => hk b o e⟩
    (Feed.ofU (hb := s.heap) W hlen (fun b hb => hb) (fun i h st b hb => ?_) (fun i q us hq hu => ?_) fun b hb z => z.2.1 hb)
  · rcases List.mem_cons.mp hb with rfl | hb
    · exact .inl (by simp)
    · rcases List.mem_cons.mp hb with rfl | hb
      · exact .inl (by simp)
      · rw [List.mem_singleton.mp hb]; exact .inr ⟨o1, _, hk _ _ g1⟩
  · obtain ⟨⟨_, he⟩, ⟨o, ho, _⟩, _⟩ := st
    rcases List.mem_cons.mp hb with rfl | hb
    · exact ⟨_, he⟩
    · rw [List.mem_singleton.mp hb]; exact ⟨o, ho⟩
  · obtain ⟨t, x, hx, rfl⟩ := hu
    rw [List.getElem?_zipIdx] at hq
    obtain ⟨c, hc, rfl⟩ := Option.map_eq_some_iff.mp hq
    obtain ⟨v', hv', iv⟩ := il.get i (show (as.map val)[i]? = some (val c) by rw [List.getElem?_map, hc]; rfl)
    have hx : vs[i]? = some x := by simpa using hx
    rw [hx] at hv'
    cases hv'
    exact ⟨_, _, rfl, fun h hh => ⟨by simpa using Is.int (i : Int) t, (iv.noI hw hk).mono fun b o q e => ⟨q, hh b o q e⟩⟩⟩
theorem CALLF.enumS {x : Str} : CALLF C "enumerate" [.str x] (.Tuple es x1 p) x.cps.toList.zipIdx (fun q => .two (.int (q.2 : Int)) (.str ⟨#[q.1]⟩)) := fun G s vs Q E hf lo i k => by
  obtain ⟨_, rfl, i1⟩ := i.e1
  obtain ⟨t, rfl⟩ := i1.sE
  refine call_enumerate_str fun h' he hit hsz hk => wpAny_pyIter_enum he ?_
  have hw : ∀ b ∈ [s.heap.objs.size + 1, s.heap.objs.size], s.heap.get? b = none := fun b hb => by
    rcases List.mem_cons.mp hb with rfl | hb
    · exact nd
    · rw [List.mem_singleton.mp hb]; exact nd (k := 0)
  have hlen : x.cps.size = x.cps.toList.zipIdx.length := by simp
  have hfp : ∀ b ∈ [s.heap.objs.size + 1, s.heap.objs.size], b ∈ [s.heap.objs.size + 1, s.heap.objs.size] ∨ (C.ok b ∧ ∃ o, h'.get? b = some o) := fun b hb => .inl hb
  have hP : ∀ (i : Nat) (q : Nat × Nat) (us : Array Value), x.cps.toList.zipIdx[i]? = some q → (∃ t y, (∃ c u, x.cps[i]? = some c ∧ y = Value.str ⟨#[c]⟩ u) ∧ us = #[.int i t, y]) → ∀ ok' : Addr → Prop, ∃ v y, us = #[v, y] ∧ (∀ h, (∀ b o, ok' b → s.heap.get? b = some o → h.get? b = some o) →
      Is C.w ok' h (.int (q.2 : Int)) v ∧ Is C.w ok' h (.str ⟨#[q.1]⟩) y) := fun i q us hq hu ok' => by
    obtain ⟨t, y, ⟨c, u, hc, rfl⟩, rfl⟩ := hu
    rw [List.getElem?_zipIdx, Array.getElem?_toList, hc] at hq
    cases hq
    exact ⟨_, _, rfl, fun h _ => ⟨by simpa using Is.int (i : Int) t, .str _ _⟩⟩
  cases ha : x.cps.all (· < 128)
  · have hit' : h'.IsStrIter s.heap.objs.size "str_iterator" x t 0 := by simpa [strIterType, ha] using hit
    have W := (WalksT.enumerateD (Draws.strWide (prog := PR) (w := C.w) (A := C.A.in1) G.amb.handled s.heap.objs.size x t) (s.heap.objs.size + 1) (Nat.succ_ne_self _) (by simp) (by simp)).toU
    refine k _ [s.heap.objs.size + 1, s.heap.objs.size] _ _ h' s.toks hk hw hfp ⟨⟨⟨_, he⟩, hit'⟩, fun b o _ e => hk b o e⟩ (Feed.ofU (hb := s.heap) W hlen (fun b hb => hb) (fun i h st b hb => ?_) (fun i q us a b => hP i q us a b _) fun b hb z => z.2.1 hb)
    obtain ⟨⟨_, he⟩, ⟨o, ho, _⟩⟩ := st
    rcases List.mem_cons.mp hb with rfl | hb
    · exact ⟨_, he⟩
    · rw [List.mem_singleton.mp hb]; exact ⟨o, ho⟩
  · have hit' : h'.IsStrIter s.heap.objs.size "str_ascii_iterator" x t 0 := by simpa [strIterType, ha] using hit
    have W := (WalksT.enumerateD (Draws.strAscii (prog := PR) (w := C.w) (A := C.A.in1) G.amb.handled s.heap.objs.size x t) (s.heap.objs.size + 1) (Nat.succ_ne_self _) (by simp) (by simp)).toU
    refine k _ [s.heap.objs.size + 1, s.heap.objs.size] _ _ h' s.toks hk hw hfp ⟨⟨⟨_, he⟩, hit'⟩, fun b o _ e => hk b o e⟩ (Feed.ofU (hb := s.heap) W hlen (fun b hb => hb) (fun i h st b hb => ?_) (fun i q us a b => hP i q us a b _) fun b hb z => z.2.1 hb)
    obtain ⟨⟨_, he⟩, ⟨o, ho, _⟩⟩ := st
    rcases List.mem_cons.mp hb with rfl | hb
    · exact ⟨_, he⟩
    · rw [List.mem_singleton.mp hb]; exact ⟨o, ho⟩
theorem CALLF.zip {β : Type} {bs : List β} {va : α → PV} {vb : β → PV} : CALLF C "zip" [.list (as.map va), .list (bs.map vb)] (.Tuple es x1 p) (as.zip bs) (fun q => .two (va q.1) (vb q.2)) := fun G s vs Q E hf lo i k => by
  obtain ⟨_, _, rfl, i1, i2⟩ := i.e2
  obtain ⟨a, us, n, rfl, o1, g1, l1⟩ := i1.lE
  obtain ⟨b, ws, m, rfl, o2, g2, l2⟩ := i2.lE
  have hlt := Heap.lt_size g1
  have hlt2 := Heap.lt_size g2
  refine call_zip_2 (isList g1) (isList g2) fun h' hz hTI hTO hit1 hit2 hsz hk => wpAny_pyIter_zip hz ?_
  have hw : ∀ c ∈ [s.heap.objs.size + 4, s.heap.objs.size + 2, s.heap.objs.size + 3, s.heap.objs.size, s.heap.objs.size + 1], s.heap.get? c = none := fun c hc => by
    simp only [List.mem_cons, List.not_mem_nil, or_false] at hc
    rcases hc with rfl | rfl | rfl | rfl | rfl <;> first | exact nd | exact nd (k := 0)
  have W := (WalksT.zip2 (prog := PR) (w := C.w) (A := C.A) G.amb.handled _ _ _ _ _ a b (zipApart_new hlt hlt2) us.toArray ws.toArray).toU
  have hlen : min us.toArray.size ws.toArray.size = (as.zip bs).length := by rw [List.size_toArray, List.size_toArray, ← l1.length, ← l2.length, List.length_zip, List.length_map, List.length_map]
  refine k _ _ [s.heap.objs.size + 4, s.heap.objs.size + 2, s.heap.objs.size + 3, s.heap.objs.size, s.heap.objs.size + 1] _ h' s.toks hk hw (fun c hc => ?_) ⟨⟨hz, hTI, ⟨_, _, hTO⟩, hit1, hit2, (isList g1).at fun o e => hk _ o e, (isList g2).at fun o e => hk _ o e⟩, fun b o _ e => hk b o e⟩
    (Feed.ofU (hb := s.heap) W hlen (fun c hc => ?_) (fun i h st c hc => ?_) (fun i q us hq hu => ?_) fun b hb z => z.2.1 hb)
  · simp only [List.mem_cons, List.not_mem_nil, or_false] at hc ⊢
    rcases hc with rfl | rfl | rfl | rfl | rfl | rfl | rfl <;> first | exact .inr ⟨o1, _, hk _ _ g1⟩ | exact .inr ⟨o2, _, hk _ _ g2⟩ | exact .inl (by simp)
  · simp only [List.mem_cons, List.not_mem_nil, or_false] at hc ⊢
    rcases hc with rfl | rfl | rfl | rfl <;> simp
  · obtain ⟨q1, q2, ⟨_, _, q3⟩, ⟨o4, q4, _⟩, ⟨o5, q5, _⟩, _⟩ := st
    simp only [List.mem_cons, List.not_mem_nil, or_false] at hc
    rcases hc with rfl | rfl | rfl | rfl | rfl
    · exact ⟨_, q1⟩
    · exact ⟨_, q2⟩
    · exact ⟨_, q3⟩
    · exact ⟨_, q4⟩
    · exact ⟨_, q5⟩
  · obtain ⟨x, y, hx, hy, rfl⟩ := hu
    rw [List.getElem?_zip_eq_some] at hq
    obtain ⟨ha, hb⟩ := hq
    obtain ⟨v', hv', iv⟩ := l1.get i (show (as.map va)[i]? = some (va q.1) by rw [List.getElem?_map, ha]; rfl)
    obtain ⟨w', hw', iw⟩ := l2.get i (show (bs.map vb)[i]? = some (vb q.2) by rw [List.getElem?_map, hb]; rfl)
    simp only [List.getElem?_toArray] at hx hy
    rw [hx] at hv'
    rw [hy] at hw'
    cases hv'
    cases hw'
    exact ⟨_, _, rfl, fun h hh => ⟨(iv.noI hw hk).mono fun b o q e => ⟨q, hh b o q e⟩, (iw.noI hw hk).mono fun b o q e => ⟨q, hh b o q e⟩⟩⟩
end
section
variable {w : World} {A : Around} {E : Value → Shared → Prop} {s : Shared}
/-- enumerate over a text: the sign that is handed out bears the next token -/
theorem en_item {e it : Addr} {x : Str} {t : Tok} {i c : Nat} {old : Value} {Q : Value → Shared → Prop}
    (he : IsEnum s.heap e it i old) (hst : s.heap.IsStrIter it "str_ascii_iterator" x t i) (hx : x.cps[i]? = some c) (hne : e ≠ it)
    (hQ : ∀ h', IsEnumOut h' e it ((i : Int) + 1) (.str ⟨#[c]⟩ s.toks) s.heap.objs.size → h'.IsStrIter it "str_ascii_iterator" x t (i + 1) →
      h'.get? s.heap.objs.size = some { cls := .type "tuple", data := .seq #[.int i (s.toks + 1), .str ⟨#[c]⟩ s.toks] } →
      (∀ b o, b ≠ e → b ≠ it → s.heap.get? b = some o → h'.get? b = some o) → Q (.ref s.heap.objs.size) { s with heap := h', toks := s.toks + 2 }) :
    wpAny (model PR w) A (Builtin.«enumerate.__next__» ⟨[.ref e], []⟩) (fun fin s' => ∃ v, fin = .done (.ret v) ∧ Q v s') E s := by
  obtain ⟨hp, g, d, tk, os⟩ := s
  have hel : e < hp.objs.size := Heap.lt_size he
  show wpAny _ _ (field (.ref e) 2 >>= _) _ _ _
  refine wpAny_bind (wpAny_field he rfl (x := .ref it) rfl (wpAny_bind (wpAny_nextOf_ascii_item hst hx fun k₁ q₁ b₁ => ?_)))
  have b₁ : Heap.SameBut it hp k₁ := b₁
  have e₁ : IsEnum k₁ e it i old := (b₁.2 e hne).trans he
  show wpAny _ _ (field (.ref e) 3 >>= _) _ _ ⟨k₁, g, d, tk + 1, os⟩
  refine wpAny_bind (wpAny_field e₁ rfl (x := rawInt i) rfl ?_)
  show wpAny _ _ (field (.ref e) 4 >>= _) _ _ ⟨k₁, g, d, tk + 1, os⟩
  refine wpAny_bind (wpAny_field e₁ rfl (x := .none) rfl ?_)
  show wpAny _ _ (mkInt i >>= _) _ _ ⟨k₁, g, d, tk + 1, os⟩
  refine wpAny_bind (wpAny_mkInt ?_)
  show wpAny _ _ (setField (.ref e) 3 (rawInt ((i : Int) + 1)) >>= _) _ _ ⟨k₁, g, d, tk + 2, os⟩
  refine wpAny_bind (wpAny_setField_rec e₁ (by simp) fun k₂ e₂ b₂ => ?_)
  have b₂ : Heap.SameBut e k₁ k₂ := b₂
  have e₂ : IsEnum k₂ e it ((i : Int) + 1) old := e₂
  show wpAny _ _ (setField (.ref e) 4 .none >>= _) _ _ ⟨k₂, g, d, tk + 2, os⟩
  refine wpAny_bind (wpAny_setField_rec e₂ (by simp) fun k₃ e₃ b₃ => ?_)
  have b₃ : Heap.SameBut e k₂ k₃ := b₃
  have e₃ : IsEnum k₃ e it ((i : Int) + 1) old := e₃
  show wpAny _ _ (newTuple [.int i (tk + 1), .str ⟨#[c]⟩ tk] >>= _) _ _ ⟨k₃, g, d, tk + 2, os⟩
  refine wpAny_bind (wpAny_newTuple ?_)
  have hs : k₃.objs.size = hp.objs.size := b₃.1.trans (b₂.1.trans b₁.1)
  have up : ∀ b o, b ≠ e → b ≠ it → hp.get? b = some o → k₃.get? b = some o := fun b o n1 n2 q => b₃.extBut b o n1 (b₂.extBut b o n1 (b₁.extBut b o n2 q))
  have q₃ : k₃.IsStrIter it "str_ascii_iterator" x t (i + 1) := let ⟨o, ho, r⟩ := q₁; ⟨o, b₃.extBut _ _ (Ne.symm hne) (b₂.extBut _ _ (Ne.symm hne) ho), r⟩
  have t₄ : (k₃.push { cls := .type "tuple", data := .seq #[.int i (tk + 1), .str ⟨#[c]⟩ tk] }).get? k₃.objs.size = some { cls := .type "tuple", data := .seq #[.int i (tk + 1), .str ⟨#[c]⟩ tk] } := Heap.get?_push_size _ rfl
  have e₄ : IsEnum (k₃.push { cls := .type "tuple", data := .seq #[.int i (tk + 1), .str ⟨#[c]⟩ tk] }) e it ((i : Int) + 1) old := Heap.get?_push_of_some _ e₃
  have q₄ : (k₃.push { cls := .type "tuple", data := .seq #[.int i (tk + 1), .str ⟨#[c]⟩ tk] }).IsStrIter it "str_ascii_iterator" x t (i + 1) := let ⟨o, ho, r⟩ := q₃; ⟨o, Heap.get?_push_of_some _ ho, r⟩
  have up₄ : ∀ b o, b ≠ e → b ≠ it → hp.get? b = some o → (k₃.push { cls := .type "tuple", data := .seq #[.int i (tk + 1), .str ⟨#[c]⟩ tk] }).get? b = some o := fun b o n1 n2 q => Heap.get?_push_of_some _ (up b o n1 n2 q)
  rw [hs] at t₄
  show wpAny _ _ (Builtin.SmallTypes.ownedTupleIsFree (.ref e) >>= _) _ _ ⟨k₃.push { cls := .type "tuple", data := .seq #[.int i (tk + 1), .str ⟨#[c]⟩ tk] }, g, d, tk + 2, os⟩
  generalize k₃.push { cls := .type "tuple", data := .seq #[.int i (tk + 1), .str ⟨#[c]⟩ tk] } = k₄ at t₄ e₄ q₄ up₄
  rw [hs]
  clear up q₃ e₃ b₃ e₂ b₂ e₁ b₁ q₁
  refine wpAny_bind ?_
  unfold Builtin.SmallTypes.ownedTupleIsFree
  refine wpAny_bind (wpAny_field e₄ rfl (x := .none) rfl (wpAny_pure ?_))
  simp only [if_true]
  refine wpAny_bind (wpAny_rule ?_)
  refine wpAny_bind (wpAny_field e₄ rfl (x := old) rfl ?_)
  refine wpAny_bind (wpAny_setField_rec e₄ (by simp) fun k₅ e₅ b₅ => ?_)
  have b₅ : Heap.SameBut e k₄ k₅ := b₅
  have e₅ : IsEnum k₅ e it ((i : Int) + 1) (.str ⟨#[c]⟩ tk) := e₅
  show wpAny _ _ (Builtin.SmallTypes.ownedTupleHandOut (.ref e) (.ref hp.objs.size) >>= _) _ _ ⟨k₅, g, d, tk + 2, os⟩
  refine wpAny_bind ?_
  unfold Builtin.SmallTypes.ownedTupleHandOut
  refine wpAny_bind (wpAny_setField_rec e₅ (by simp) fun k₆ e₆ b₆ => ?_)
  have b₆ : Heap.SameBut e k₅ k₆ := b₆
  have e₆ : IsEnumOut k₆ e it ((i : Int) + 1) (.str ⟨#[c]⟩ tk) hp.objs.size := e₆
  refine wpAny_setField_rec e₆ (by simp) fun k₇ e₇ b₇ => ?_
  have b₇ : Heap.SameBut e k₆ k₇ := b₇
  have up₇ : ∀ b o, b ≠ e → k₄.get? b = some o → k₇.get? b = some o := fun b o n q => b₇.extBut b o n (b₆.extBut b o n (b₅.extBut b o n q))
  exact wpAny_bind (wpAny_letGo (wpAny_pure ⟨_, rfl, hQ k₇ e₇ (let ⟨o, ho, r⟩ := q₄; ⟨o, up₇ _ _ (Ne.symm hne) ho, r⟩) (up₇ _ _ (Nat.ne_of_gt hel) t₄) fun b o n1 n2 q => up₇ b o n1 (up₄ b o n1 n2 q)⟩))

end
section
variable {C : FC} {es : List PySem.Expr} {x1 : Nat} {p : Pos}
/-- the signs of an ascii text, each with a number not yet drawn when the loop began -/
theorem CALLF.enumT {x : Str} (hx : x.cps.all (· < 128) = true) : CALLF C "enumerate" [.str x] (.Tuple es x1 p) x.cps.toList.zipIdx (fun q => .two (.int (q.2 : Int)) (.tok ⟨#[q.1]⟩ C.lo)) := fun G s vs Q E hf lo i k => by
  obtain ⟨_, rfl, i1⟩ := i.e1
  obtain ⟨t, rfl⟩ := i1.sE
  refine call_enumerate_str fun h' he hit hsz hk => wpAny_pyIter_enum he ?_
  have hit' : h'.IsStrIter s.heap.objs.size "str_ascii_iterator" x t 0 := by simpa [strIterType, hx] using hit
  have hw : ∀ b ∈ [s.heap.objs.size + 1, s.heap.objs.size], s.heap.get? b = none := fun b hb => by
    rcases List.mem_cons.mp hb with rfl | hb
    · exact nd
    · rw [List.mem_singleton.mp hb]; exact nd (k := 0)
  have W := (WalksT.enumerateD (Draws.strAscii (prog := PR) (w := C.w) (A := C.A.in1) G.amb.handled s.heap.objs.size x t) (s.heap.objs.size + 1) (Nat.succ_ne_self _) (by simp) (by simp)).toU
  have hlen : x.cps.size = x.cps.toList.zipIdx.length := by simp
  refine k _ [s.heap.objs.size + 1, s.heap.objs.size] [s.heap.objs.size + 1, s.heap.objs.size] _ h' s.toks hk hw (fun b hb => .inl hb) (⟨⟨_, he⟩, hit'⟩ : (∃ old, IsEnum h' (s.heap.objs.size + 1) s.heap.objs.size ((0 : Nat) : Int) old) ∧ _)
    { frame := fun i h h' st hk => W.frame i h h' st fun b hb o e => hk b o (.inl hb) e
      live := fun i h st b hb => ?_
      done := fun s K X E st k => W.done s _ _ (hlen ▸ st) fun h' tk' hk => k h' tk' hk
      self := fun i s Q E st q => W.self i s Q E st q
      next := fun i q s' K X E hq st lo' k => ?_ }
  · obtain ⟨⟨_, he⟩, ⟨o, ho, _⟩⟩ := st
    rcases List.mem_cons.mp hb with rfl | hb
    · exact ⟨_, he⟩
    · rw [List.mem_singleton.mp hb]; exact ⟨o, ho⟩
  · obtain ⟨⟨old, he⟩, hit⟩ := st
    rw [List.getElem?_zipIdx, Array.getElem?_toList] at hq
    obtain ⟨c, hc, rfl⟩ := Option.map_eq_some_iff.mp hq
    have hT : s'.TypeIs (.ref (s.heap.objs.size + 1)) "enumerate" := ⟨_, he, rfl⟩
    have hes : s'.heap.objs.size ≠ s.heap.objs.size + 1 := Nat.ne_of_gt (Heap.lt_size he)
    unfold pyNext
    refine wpAny_bind (wpAny_attempt (wpAny_callSpecial?_slot (name := Str.ofString "__next__") hT PySem.F.slot_enumerate_next
      (wpAny_call_entry PySem.F.slot_enumerate_next hT PySem.F.entry_enumerate_next
        (en_item he hit hc (Nat.succ_ne_self _) fun h₁ e₁ q₁ t₁ up₁ => wpAny_pure ?_) (PySem.F.args_enumerate_next_1 _))))
    refine wpAny_letOwnedTupleGo_enum e₁ fun h₂ e₂ b₂ => ?_
    have b₂ : Heap.SameBut (s.heap.objs.size + 1) h₁ h₂ := b₂
    have up : ∀ b o, b ∉ [s.heap.objs.size + 1, s.heap.objs.size] → s'.heap.get? b = some o → h₂.get? b = some o := fun b o n q =>
      b₂.extBut b o (fun z => n (z ▸ List.mem_cons_self)) (up₁ b o (fun z => n (z ▸ List.mem_cons_self)) (fun z => n (z ▸ List.mem_cons_of_mem _ (List.mem_singleton.mpr rfl))) q)
    refine k _ h₂ _ up ⟨⟨_, e₂⟩, let ⟨o, ho, r⟩ := q₁; ⟨o, b₂.extBut _ _ (Nat.ne_of_lt (Nat.lt_succ_self _)) ho, r⟩⟩ ⟨_, _, _, rfl, ⟨_, (b₂.2 _ hes).trans t₁, rfl, _, rfl⟩, ?_, .tok _ _ _ lo'⟩
    simpa using Is.int (i : Int) _
end
end
section
abbrev tests (M : Model) (ifs : List PySem.Expr) (env : Env) : Sem Bool := forIn ifs true fun c r => if r = true then do let ok ← isTrue c env (eval c env); pure (ForInStep.yield ok) else pure (ForInStep.yield r)
theorem comp_any {w : World} {A : Around} {R : Result → Shared → Prop} {elt target : PySem.Expr} {ifs : List PySem.Expr} {gens : List Comprehension} {d : Nat} {scope : Scope} {pos ipos : Pos} {it acc : Value} {env : Env} {s : Shared} {emit : Sem Unit}
    (tE : compTurn (.ListComp elt gens scope pos) d it acc env = (do
      standAt ipos
      match ← pyNext it with
      | none => pure (.done .next)
      | some v =>
        letOwnedTupleGo target it v
        assign target env v
        let mut ok := true
        for c in ifs do
          if ok then ok ← isTrue c env (eval c env)
        if ok then
          emit
        again (.compLoop (.ListComp elt gens scope pos) d it acc env)))
    (F : Value → Shared → Prop) (hF : F = notedBy (model PR w) A env fun e s' => R (.error e) s') (I : Nat → Shared → Prop)
    (turn : ∀ n s, I n s → wpAny (model PR w) A (pyNext it) (fun r s₁ => match r with
      | none => R (.ok .next) s₁
      | some v => wpAny (model PR w) A (letOwnedTupleGo target it v) (fun _ s₂ => wpAny (model PR w) A (assign target env v) (fun _ s₃ =>
          wpAny (model PR w) A (tests (model PR w) ifs env) (fun ok s₄ => if ok = true then wpAny (model PR w) A emit (fun _ s₆ => ∃ m, m < n ∧ I m s₆) F s₄
            else ∃ m, m < n ∧ I m s₄) F s₃) F s₂) F s₁) F s)
    (n : Nat) (h : I n s) : codeAny (model PR w) A (.compLoop (.ListComp elt gens scope pos) d it acc env) R s := by
  subst hF
  refine codeAny_loop rfl I (fun n s hI => ?_) n h
  show wpAny _ A ((compTurn (.ListComp elt gens scope pos) d it acc env).onRaise (fun x => do noteFrame x env; theTreesLotGoes x)) _ _ s
  refine wpAny_noted ?_
  rw [tE]
  refine wpAny_bind (wpAny_standAt (wpAny_bind (wpAny_mono (turn n s hI) (fun r s₁ h₁ => ?_) fun _ _ e => e)))
  match r, h₁ with
  | none, h₁ => exact wpAny_pure h₁
  | some v, h₁ =>
    refine wpAny_bind (wpAny_mono h₁ (fun _ s₂ h₂ => wpAny_bind (wpAny_mono h₂ (fun _ s₃ h₃ => wpAny_bind (wpAny_mono h₃ (fun ok s₄ h₄ => ?_) fun _ _ e => e)) fun _ _ e => e)) fun _ _ e => e)
    match ok, h₄ with
    | false, h₄ => exact wpAny_pure ⟨rfl, h₄⟩
    | true, h₄ => exact wpAny_bind (wpAny_mono h₄ (fun _ s₆ h₆ => wpAny_pure ⟨rfl, h₆⟩) fun _ _ e => e)
abbrev FC.comp (C : FC) (scope : Scope) (cl : List (Str × Addr)) (wr : List Addr) (K D : Addr) : FC := ⟨C.K, C.w, C.A, compEnvC scope cl K C.env, C.h₀, fun a => (C.ok a ∧ a ∉ wr) ∧ a ≠ K ∧ a ≠ D, C.n, fun _ => True, K, "", C.lo⟩
def TVs (C : FC) (μ : Vars) (ifs : List PySem.Expr) (b : Bool) : Prop :=
  C.Good → ∀ (s : Shared) (Q : Bool → Shared → Prop) (E : Value → Shared → Prop), Sees C μ s.heap → C.lo ≤ s.toks → (∀ h' tk', Ext s.heap h' → s.toks ≤ tk' → Q b { s with heap := h', toks := tk' }) → wpAny (model PR C.w) C.A (tests (model PR C.w) ifs C.env) Q E s
theorem TVs.nil {C : FC} {μ : Vars} : TVs C μ [] true := fun G s Q E S lo k => wpAny_tests_nil (k s.heap s.toks (Ext.refl _) (Nat.le_refl _))
theorem TVs.one {C : FC} {μ : Vars} {c : PySem.Expr} {b : Bool} (h : TV C μ c b) : TVs C μ [c] b := fun G s Q E S lo k => wpAny_tests_one (h G s Q E S lo k)
/-- what a comprehension sees of its def -/
structure CompOk (C : FC) (scope : Scope) (cl : List (Str × Addr)) (μ μc : Vars) : Prop where
  clos : closureFor scope C.env = pure cl
  kind : scope.kind = .function
  names : ∀ x ∈ scope.names, x.2 = .local → scope.names.lookup x.1 = some .local
  nocell : ∀ x ∈ scope.names, x.2 ≠ .cell
  clsub : cl.map (fun p => C.env.cells.lookup p.1) = cl.map (fun p => some p.2)
  clall : ((relabel scope C.env).names.all fun p => p.2 != .cell || ((cl.lookup p.1).isSome && C.env.kindOf p.1 == some .cell)) = true
  sub : Sub μc μ
  hat : (relabel scope C.env).names.lookup ("@" : Str) = none
  look : μc.map (fun p => cl.lookup p.1) = μc.map (fun p => C.env.cells.lookup p.1)
  kinds : (μc.all fun p => (C.env.kindOf p.1 == some .cell || C.env.kindOf p.1 == some .free) && ((relabel scope C.env).names.lookup p.1 == some .cell || (relabel scope C.env).names.lookup p.1 == some .free) && p.1 != ("@" : Str)) = true
/-- the list that a comprehension makes -/
abbrev AccIs (h : Heap) (D : Addr) (ys : List Value) : Prop := h.get? D = some { cls := .type "list", data := .seq (List.toArray ys) ys.length }
/-- what no name and not D bears stands -/
def CKeep (C : FC) (D : Addr) (h h' : Heap) : Prop := ∀ b o, b ≠ C.env.locals → b ≠ D → h.get? b = some o → h'.get? b = some o
/-- a step that sets values behind the list at D -/
def EMIT (C : FC) (μ μ₀ : Vars) (D : Addr) (emit : Sem Unit) (rs : List PV) : Prop :=
  C.Good → ∀ (s : Shared) (Q : Unit → Shared → Prop) (F : Value → Shared → Prop) (ys : List Value), Sees C μ s.heap → C.lo ≤ s.toks → AccIs s.heap D ys → ys.length + rs.length ≤ sizeLine →
    (∀ h' tk' vs, s.toks ≤ tk' → CKeep C D s.heap h' → Sees C μ₀ h' → AccIs h' D (ys ++ vs) → IsL C.w C.ok h' rs vs → Q () { s with heap := h', toks := tk' }) → wpAny (model PR C.w) C.A emit Q F s
theorem comp_loop {α : Type} {C : FC} {μ : Vars} {elt tgt : PySem.Expr} {ifs : List PySem.Expr} {gens : List Comprehension} {d : Nat} {scope : Scope} {pos ipos : Pos} {as : List α} {sh : α → Shp} {I D : Addr} {fp wr : List Addr} {okW : Addr → Prop} {St : Nat → Heap → Prop} {R : Result → Shared → Prop} {emit : Sem Unit} {s : Shared}
    (tE : compTurn (.ListComp elt gens scope pos) d (.ref I) (.ref D) C.env = (do
      standAt ipos
      match ← pyNext (.ref I) with
      | none => pure (.done .next)
      | some v =>
        letOwnedTupleGo tgt (.ref I) v
        assign tgt C.env v
        let mut ok := true
        for c in ifs do
          if ok then ok ← isTrue c C.env (eval c C.env)
        if ok then
          emit
        again (.compLoop (.ListComp elt gens scope pos) d (.ref I) (.ref D) C.env)))
    (bd : α → Vars → Vars) (p : α → Bool) (f : α → List PV) (hb : ∀ a ∈ as, ASG C tgt (sh a) (bd a)) (hs : ∀ a ∈ as, Sub μ (bd a μ)) (ht : ∀ a ∈ as, TVs C (bd a μ) ifs (p a)) (he : ∀ a ∈ as, p a = true → EMIT C (bd a μ) μ D emit (f a))
    (G : C.Good) (S : Sees C μ s.heap) (lo : C.lo ≤ s.toks) (O : Off C wr) (OD : Off C [D]) (hDw : D ∉ wr) (hfp : ∀ b ∈ fp, b ≠ C.env.locals ∧ b ≠ D) (hok : ∀ a, okW a → C.ok a) (W : Feed C.w C.A okW C.lo I fp wr tgt as sh St) (st : St 0 s.heap)
    (y0 : List Value) (gD : AccIs s.heap D y0) (hsz : y0.length + ((as.filter p).flatMap f).length ≤ sizeLine)
    (k : ∀ h' tk' vs, s.toks ≤ tk' → (∀ b o, b ∉ wr → b ≠ C.env.locals → b ≠ D → s.heap.get? b = some o → h'.get? b = some o) → (∃ hm, Sees C μ hm ∧ ∀ b o, b ∉ wr → hm.get? b = some o → h'.get? b = some o) → AccIs h' D (y0 ++ vs) → IsL C.w C.ok h' ((as.filter p).flatMap f) vs → R (.ok .next) { s with heap := h', toks := tk' }) :
    codeAny (model PR C.w) C.A (.compLoop (.ListComp elt gens scope pos) d (.ref I) (.ref D) C.env) R s := by
  have hm := List.mem_singleton.mpr (rfl : D = D)
  have dL : D ≠ C.env.locals := OD.lo D hm
  have up : ∀ {h h' : Heap} {rs : List PV} {vs : List Value}, IsL C.w C.ok h rs vs → (∀ b o, b ∉ wr → b ≠ C.env.locals → b ≠ D → h.get? b = some o → h'.get? b = some o) → IsL C.w C.ok h' rs vs := fun x y => x.mono fun a o q e =>
    ⟨q, y a o (fun z => O.ok a z q) (fun z => G.notL (z ▸ q)) (fun z => OD.ok a (List.mem_singleton.mpr z) q) e⟩
  refine comp_any tE _ rfl (fun n s' => ∃ i h' tk' vs, s' = { s with heap := h', toks := tk' } ∧ i + n = as.length + 1 ∧ i ≤ as.length ∧ s.toks ≤ tk' ∧ (∀ b o, b ∉ wr → b ≠ C.env.locals → b ≠ D → s.heap.get? b = some o → h'.get? b = some o) ∧ Sees C μ h' ∧ St i h' ∧ AccIs h' D (y0 ++ vs) ∧ IsL C.w C.ok h' (((as.take i).filter p).flatMap f) vs) ?_ (as.length + 1)
    ⟨0, s.heap, s.toks, [], rfl, Nat.zero_add _, Nat.zero_le _, Nat.le_refl _, fun _ _ _ _ _ e => e, S, st, by rw [List.append_nil]; exact gD, .nil⟩
  rintro n s' ⟨i, h', tk', vs, rfl, hin, hi, l', k', S', st', gD', iv⟩
  refine wpAny_with_toks (n := s.toks) l' ?_
  by_cases hlt : i < as.length
  · obtain ⟨a, ha⟩ : ∃ a, as[i]? = some a := ⟨_, List.getElem?_eq_getElem hlt⟩
    have hmem := List.mem_of_getElem? ha
    generalize hFF : notedBy (model PR C.w) C.A C.env (fun e s' => R (.error e) s') = FF
    have hi1 : ∀ b : Bool, p a = b → ((as.take (i + 1)).filter p).flatMap f = ((as.take i).filter p).flatMap f ++ (if b then f a else []) := fun b hb => by
      rw [List.take_add_one, ha, List.filter_append, List.flatMap_append]
      cases b <;> simp [hb]
    have hle : (((as.take (i + 1)).filter p).flatMap f).length ≤ ((as.filter p).flatMap f).length := by
      conv => rhs; rw [← List.take_append_drop (i + 1) as]
      rw [List.filter_append, List.flatMap_append, List.length_append]
      exact Nat.le_add_right _ _
    refine wpAny_mono (W.next i a _ (fun v s₂ => s.toks ≤ s₂.toks → wpAny (model PR C.w) C.A (assign tgt C.env v) (fun _ s₃ => wpAny (model PR C.w) C.A (tests (model PR C.w) ifs C.env) (fun ok s₄ => if ok = true then wpAny (model PR C.w) C.A emit (fun _ s₆ => ∃ m, m < n ∧ ∃ i h' tk' vs, s₆ = { s with heap := h', toks := tk' } ∧ i + m = as.length + 1 ∧ i ≤ as.length ∧ s.toks ≤ tk' ∧ (∀ b o, b ∉ wr → b ≠ C.env.locals → b ≠ D → s.heap.get? b = some o → h'.get? b = some o) ∧ Sees C μ h' ∧ St i h' ∧ AccIs h' D (y0 ++ vs) ∧ IsL C.w C.ok h' (((as.take i).filter p).flatMap f) vs) FF s₄
          else ∃ m, m < n ∧ ∃ i h' tk' vs, s₄ = { s with heap := h', toks := tk' } ∧ i + m = as.length + 1 ∧ i ≤ as.length ∧ s.toks ≤ tk' ∧ (∀ b o, b ∉ wr → b ≠ C.env.locals → b ≠ D → s.heap.get? b = some o → h'.get? b = some o) ∧ Sees C μ h' ∧ St i h' ∧ AccIs h' D (y0 ++ vs) ∧ IsL C.w C.ok h' (((as.take i).filter p).flatMap f) vs) FF s₃) FF s₂) (fun _ => False) (fun _ _ => False) ha st' (Nat.le_trans lo l') fun v h₃ t₃ hk₃ st₃ iv₃ l₃ => ?_) (fun r s₁ h₁ l₁ => ?_) (fun _ _ x => x.elim)
    · have S₃ := S'.off G O (W.live _ _ st₃) hk₃
      refine hb a hmem G μ _ v _ _ S₃ (Nat.le_trans lo l₃) (iv₃.mono hok) fun h₄ t₄ l₄ k₄ S₄ => ?_
      have l4 : s.toks ≤ t₄ := Nat.le_trans l₃ l₄
      have i3 := up iv fun b o n _ _ e => hk₃ b o n e
      have g4 : AccIs h₄ D (y0 ++ vs) := k₄ D _ dL (hk₃ D _ hDw gD')
      refine ht a hmem G _ _ _ S₄ (Nat.le_trans lo l4) fun h₅ t₅ e₅ l₅ => ?_
      have k5 : ∀ b o, b ≠ C.env.locals → h₃.get? b = some o → h₅.get? b = some o := fun b o n q => e₅ b o (k₄ b o n q)
      have fin : ∀ h₇ t₇ vs', s.toks ≤ t₇ → CKeep C D h₃ h₇ → Sees C μ h₇ → AccIs h₇ D (y0 ++ vs') → IsL C.w C.ok h₇ (((as.take (i + 1)).filter p).flatMap f) vs' → ∃ m, m < n ∧ ∃ i h' tk' vs, (⟨h₇, s.gens, s.drawn, t₇, s.os⟩ : Shared) = { s with heap := h', toks := tk' } ∧ i + m = as.length + 1 ∧ i ≤ as.length ∧ s.toks ≤ tk' ∧ (∀ b o, b ∉ wr → b ≠ C.env.locals → b ≠ D → s.heap.get? b = some o → h'.get? b = some o) ∧ Sees C μ h' ∧ St i h' ∧ AccIs h' D (y0 ++ vs) ∧ IsL C.w C.ok h' (((as.take i).filter p).flatMap f) vs := fun h₇ t₇ vs' l₇ kk S₇ g₇ i₇ =>
        ⟨n - 1, by omega, i + 1, h₇, t₇, vs', rfl, by omega, hlt, l₇, fun b o n1 n2 n3 e => kk b o n2 n3 (hk₃ b o n1 (k' b o n1 n2 n3 e)), S₇, W.frame _ _ _ st₃ (fun b o hb e => by
          rcases hb with hb | hb
          · exact kk b o (hfp b hb).1 (hfp b hb).2 e
          · have q := hok b hb
            exact kk b o (fun z => G.notL (z ▸ q)) (fun z => OD.ok b (List.mem_singleton.mpr z) q) e), g₇, i₇⟩
      have S₅ := S₄.ext e₅
      cases hp : p a with
      | false =>
        simp only [Bool.false_eq_true, if_false]
        refine fin h₅ t₅ vs (Nat.le_trans l4 l₅) (fun b o n1 _ q => k5 b o n1 q) (S₅.sub (sub_of (hs a hmem))) (e₅ D _ g4) ?_
        rw [hi1 false hp]
        simpa using up i3 fun b o _ n1 _ q => k5 b o n1 q
      | true =>
        simp only [if_true]
        have h1 := hi1 true hp
        simp only [if_true] at h1
        refine he a hmem hp G _ _ _ (y0 ++ vs) S₅ (Nat.le_trans lo (Nat.le_trans l4 l₅)) (e₅ D _ g4) ?_ fun h₇ t₇ us l₇ k₇ S₇ g₇ i₇ => ?_
        · rw [h1, List.length_append] at hle
          rw [List.length_append, ← iv.length]
          omega
        · refine fin h₇ t₇ (vs ++ us) (Nat.le_trans l4 (Nat.le_trans l₅ l₇)) (fun b o n1 n2 q => k₇ b o n1 n2 (k5 b o n1 q)) S₇ (by rw [← List.append_assoc]; exact g₇) ?_
          rw [h1]
          exact (up i3 fun b o _ n1 n2 q => k₇ b o n1 n2 (k5 b o n1 q)).append i₇
    · cases r with
      | none => exact h₁.elim
      | some v => exact wpAny_mono (wpAny_toks_of l₁ h₁) (fun _ s₂ h₂ => h₂.2 h₂.1) (fun _ _ x => x.2.elim)
  · obtain rfl : i = as.length := by omega
    refine wpAny_mono (W.done _ (fun s₁ => s.toks ≤ s₁.toks → R (.ok .next) s₁) (fun _ _ => False) (fun _ _ => False) st' fun h₃ t₃ hk₃ l₃ => ?_) (fun r s₁ h₁ l₁ => ?_) (fun _ _ x => x.elim)
    · rw [List.take_length] at iv
      exact k h₃ t₃ vs l₃ (fun b o n1 n2 n3 q => hk₃ b o n1 (k' b o n1 n2 n3 q)) ⟨h', S', hk₃⟩ (hk₃ D _ hDw gD') (up iv fun b o n1 _ _ q => hk₃ b o n1 q)
    · cases r with
      | none => exact h₁ l₁
      | some v => exact h₁.elim
section
variable {α : Type} {C : FC} {μ μc : Vars} {scope : Scope} {cl : List (Str × Addr)}
theorem CompOk.cell (O : CompOk C scope cl μ μc) {x : Str} {c : Addr} (h : cl.lookup x = some c) : C.env.cells.lookup x = some c := List.map_inj_left.mp O.clsub (x, c) (mem_of_lookup h)
theorem CompOk.good (O : CompOk C scope cl μ μc) (G : C.Good) {wr : List Addr} {K D : Addr} (hK : C.h₀.get? K = none) (hl : ∀ x c, C.env.cells.lookup x = some c → c ≠ K) : (C.comp scope cl wr K D).Good :=
  ⟨G.amb, G.X, G.T, O.kind, G.gl, G.bl, fun z => z.2.1 rfl, hK, fun x c hc => ⟨fun z => (G.notC x c (O.cell hc)).1 z.1.1, (G.notC x c (O.cell hc)).2.1, hl x c (O.cell hc)⟩, fun x y c hx hy => G.apart x y c (O.cell hx) (O.cell hy), fun _ _ => trivial, fun z => z.2.1 rfl, O.hat⟩
theorem CompOk.sees (O : CompOk C scope cl μ μc) {wr : List Addr} {K D : Addr} {h h' : Heap} (S : Sees C μ h) (e : Ext h h') (hw : ∀ b ∈ wr, h.get? b = none) (hK : h.get? K = none) (hD : h.get? D = none) (hlw : ∀ b ∈ wr, ∃ o, h'.get? b = some o) (hlD : ∃ o, h'.get? D = some o) (hn : h'.Ns K fun _ => none) : Sees (C.comp scope cl wr K D) μc h' := by
  have hlK : ∃ o, h'.get? K = some o := let ⟨o, _, _, ho, _⟩ := hn; ⟨o, ho⟩
  have g : ∀ {r : PV} {v : Value}, Is C.w C.ok h r v → Is C.w (C.comp scope cl wr K D).ok h' r v := fun x => x.mono fun a o q c =>
    ⟨⟨⟨q, fun z => by rw [hw a z] at c; cases c⟩, (fun z => by rw [z, hK] at c; cases c), (fun z => by rw [z, hD] at c; cases c)⟩, e a o c⟩
  have S' := S.ext e
  have kd : ∀ x r, μc.lookup x = some r → ((C.env.kindOf x = some .cell ∨ C.env.kindOf x = some .free) ∧ ((relabel scope C.env).names.lookup x = some .cell ∨ (relabel scope C.env).names.lookup x = some .free)) ∧ x ≠ "@" := fun x r hx => by
    have := List.all_eq_true.mp O.kinds _ (mem_of_lookup hx)
    simpa using this
  refine ⟨S'.keep, fun a q => ⟨⟨S'.fresh a q, fun z => by obtain ⟨o, ho⟩ := hlw a z; rw [q] at ho; cases ho⟩, (fun z => by obtain ⟨o, ho⟩ := hlK; rw [← z, q] at ho; cases ho), (fun z => by obtain ⟨o, ho⟩ := hlD; rw [← z, q] at ho; cases ho)⟩,
    ⟨_, hn, fun x r hx hk => ?_⟩, fun x r hx hk => ?_, fun x hk => ?_, fun x c hc => S'.live x c (O.cell hc), hlK, fun r hr => absurd rfl (kd _ r hr).2⟩
  · have hk : (relabel scope C.env).names.lookup x = some .local := hk
    rcases (kd x r hx).1.2 with z | z <;> rw [z] at hk <;> cases hk
  · obtain ⟨c, v, e1, e2, e3⟩ := S.cells x r (sub_of O.sub x r hx) (kd x r hx).1.1
    have : cl.lookup x = C.env.cells.lookup x := List.map_inj_left.mp O.look (x, r) (mem_of_lookup hx)
    exact ⟨c, v, this.trans e1, e2.keeps e, g e3⟩
  · have hk : (relabel scope C.env).names.lookup x = some .cell := hk
    have := List.all_eq_true.mp O.clall _ (mem_of_lookup hk)
    simp only [bne_self_eq_false, Bool.false_or, Bool.and_eq_true, beq_iff_eq] at this
    obtain ⟨c, hc⟩ := Option.isSome_iff_exists.mp this.1
    obtain ⟨c', ov, e1, e2⟩ := S'.own x this.2
    rw [O.cell hc] at e1
    cases e1
    exact ⟨c, ov, hc, e2⟩
/-- a comprehension: its outer loop -/
theorem comp_core {elt iter tgt : PySem.Expr} {ifs : List PySem.Expr} {rest : List Comprehension} {pos : Pos} {as : List α} {sh : α → Shp} {RR : Value → Addr → Result → Shared → Prop} {E : Value → Shared → Prop} {s : Shared} {emit : Addr → Env → Sem Unit} (O : CompOk C scope cl μ μc) (hF : FD C μ iter tgt as sh)
    (tE : ∀ (I D : Addr) (env : Env), compTurn (.ListComp elt (⟨tgt, iter, ifs, 0⟩ :: rest) scope pos) 0 (.ref I) (.ref D) env = (do
      standAt iter.pos
      match ← pyNext (.ref I) with
      | none => pure (.done .next)
      | some v =>
        letOwnedTupleGo tgt (.ref I) v
        assign tgt env v
        let mut ok := true
        for c in ifs do
          if ok then ok ← isTrue c env (eval c env)
        if ok then
          emit D env
        again (.compLoop (.ListComp elt (⟨tgt, iter, ifs, 0⟩ :: rest) scope pos) 0 (.ref I) (.ref D) env)))
    (bd : α → Vars → Vars) (p : α → Bool) (f : α → List PV) (hsz : ((as.filter p).flatMap f).length ≤ sizeLine)
    (hb : ∀ a ∈ as, ∀ wr K D, ASG (C.comp scope cl wr K D) tgt (sh a) (bd a)) (hs : ∀ a ∈ as, Sub μc (bd a μc)) (ht : ∀ a ∈ as, ∀ wr K D, TVs (C.comp scope cl wr K D) (bd a μc) ifs (p a)) (he : ∀ a ∈ as, p a = true → ∀ wr K D, Off (C.comp scope cl wr K D) [D] → EMIT (C.comp scope cl wr K D) (bd a μc) μc D (emit D (compEnvC scope cl K C.env)) (f a))
    (G : C.Good) (S : Sees C μ s.heap) (lo : C.lo ≤ s.toks)
    (k : ∀ D K h' tk' m, s.toks ≤ tk' → Ext s.heap h' → s.heap.get? K = none → h'.Ns K m → Is C.w (fun a => C.ok a ∧ a ∉ [K]) h' (.list ((as.filter p).flatMap f)) (.ref D) → RR (.ref D) K (.ok .next) { s with heap := h', toks := tk' }) :
    wpAny (model PR C.w) C.A (eval iter C.env) (fun x s₁ => wpAny (model PR C.w) C.A (pyIter x) (fun it s₂ => wpAny (model PR C.w) C.A (newList []) (fun acc s₃ => wpAny (model PR C.w) C.A (newFunctionEnv scope C.env.globals cl [] C.env.qual none .none (some C.env)) (fun cenv s₄ =>
      codeAny (model PR C.w) C.A (.compStart (.ListComp elt (⟨tgt, iter, ifs, 0⟩ :: rest) scope pos) 0 it acc { cenv with scope := relabel scope C.env }) (RR acc cenv.locals) s₄) E s₃) E s₂) E s₁) E s := by
  refine hF G s _ _ S lo fun I fp wr St h₁ t₁ e₁ l₁ hw hfp st W => ?_
  refine wpAny_newObj_type (wpAny_newFunctionEnv O.nocell (by intro y hy; simp at hy) (fun h₂ hn₂ hs₂ => ?_) O.kind)
  dsimp only at hn₂ hs₂ ⊢
  generalize hH : h₁.push { cls := .type "list", dict := none, data := .seq ([] : List Value).toArray } = H at hn₂ hs₂ ⊢
  have hHs : H.objs.size = h₁.objs.size + 1 := by rw [← hH]; exact Heap.size_push ..
  generalize hD : h₁.objs.size = D at hHs ⊢
  generalize hK : H.objs.size = K at hHs hn₂ hs₂ ⊢
  have up : Ext h₁ h₂ := fun b o q => hs₂.extBut b o (fun z => by have := Heap.lt_size q; rw [hD] at this; rw [z, hHs] at this; exact Nat.lt_irrefl _ (Nat.lt_of_succ_lt this)) (Heap.get?_push_of_some _ (hH ▸ Heap.get?_push_of_some _ q))
  have gD : h₂.get? D = some { cls := .type "list", data := .seq (List.toArray []) 0 } := by
    refine hs₂.extBut _ _ (by rw [hHs]; exact Nat.ne_of_lt (Nat.lt_succ_self _)) (Heap.get?_push_of_some _ ?_)
    rw [← hH, ← hD]
    exact Heap.get?_push_size _ rfl
  have D₁ : h₁.get? D = none := by rw [← hD]; exact nd (k := 0)
  have K₁ : h₁.get? K = none := by rw [hHs, ← hD]; exact nd
  have down : ∀ b, h₁.get? b = none → s.heap.get? b = none := fun b q => by
    cases z : s.heap.get? b with
    | none => rfl
    | some o => have := e₁ b o z; rw [q] at this; cases this
  have hDK : D ≠ K := by rw [hHs]; exact Nat.ne_of_lt (Nat.lt_succ_self _)
  have hKw : K ∉ wr := fun z => by obtain ⟨o, ho⟩ := W.live _ _ st K z; rw [K₁] at ho; cases ho
  have hDw : D ∉ wr := fun z => by obtain ⟨o, ho⟩ := W.live _ _ st D z; rw [D₁] at ho; cases ho
  have okD : C.ok D := S.fresh D (down D D₁)
  have G' : (C.comp scope cl wr K D).Good := O.good G (by
    cases z : C.h₀.get? K with
    | none => rfl
    | some o => have := e₁ K o (S.keep K o z); rw [K₁] at this; cases this) fun x c hc z => by obtain ⟨o, ho⟩ := S.live x c hc; have := e₁ c o ho; rw [z, K₁] at this; cases this
  have S₂ : Sees (C.comp scope cl wr K D) μc h₂ := O.sees S (e₁.trans up) hw (down K K₁) (down D D₁) (fun b hb => let ⟨o, ho⟩ := W.live _ _ st b hb; ⟨o, up b o ho⟩) ⟨_, gD⟩ hn₂
  have off : ∀ b, (∃ o, h₁.get? b = some o) → b ≠ K ∧ b ≠ D := fun b ⟨o, ho⟩ => ⟨(fun z => by rw [z, K₁] at ho; cases ho), (fun z => by rw [z, D₁] at ho; cases ho)⟩
  have hfo : ∀ b ∈ fp, b ≠ K ∧ b ≠ D := fun b hb => off b ((hfp b hb).elim (W.live _ _ st b) (·.2))
  have O' : Off (C.comp scope cl wr K D) wr := by
    refine ⟨fun b hb z => z.1.2 hb, fun b hb z => ?_, fun b hb z => ?_, fun b hb x z => ?_, fun b hb => ?_⟩
    · have z : b = K := z
      exact hKw (z ▸ hb)
    · have z : b = K := z
      exact hKw (z ▸ hb)
    · obtain ⟨o, ho⟩ := S.live x b (O.cell z)
      rw [hw b hb] at ho; cases ho
    · cases q : C.h₀.get? b with
      | none => rfl
      | some o => have := S.keep b o q; rw [hw b hb] at this; cases this
  have st₂ : St 0 h₂ := W.frame _ _ _ st fun b o _ e => up b o e
  have e₂ : Ext s.heap h₂ := e₁.trans up
  have OD : Off (C.comp scope cl wr K D) [D] := by
    refine ⟨fun b hb z => z.2.2 (List.mem_singleton.mp hb), fun b hb z => ?_, fun b hb z => ?_, fun b hb x z => ?_, fun b hb => ?_⟩
    · have z : b = K := z
      rw [List.mem_singleton.mp hb] at z; exact hDK z
    · have z : b = K := z
      rw [List.mem_singleton.mp hb] at z; exact hDK z
    · rw [List.mem_singleton.mp hb] at z
      obtain ⟨o, ho⟩ := S.live x D (O.cell z); rw [down D D₁] at ho; cases ho
    · rw [List.mem_singleton.mp hb]
      cases q : C.h₀.get? D with
      | none => rfl
      | some o => have := S.keep D o q; rw [down D D₁] at this; cases this
  have loop : codeAny (model PR C.w) C.A (.compLoop (.ListComp elt (⟨tgt, iter, ifs, 0⟩ :: rest) scope pos) 0 (.ref I) (.ref D) (compEnvC scope cl K C.env)) (RR (.ref D) K) { s with heap := h₂, toks := t₁ + ([] : List (Str × Value)).length } := by
    refine comp_loop (C := C.comp scope cl wr K D) (μ := μc) (y0 := []) (s := ⟨h₂, s.gens, s.drawn, t₁, s.os⟩) (tE I D _) bd p f (fun a ha => hb a ha wr K D) hs (fun a ha => ht a ha wr K D) (fun a ha hp => he a ha hp wr K D OD) G' S₂ (Nat.le_trans lo l₁) O' OD hDw hfo (fun a q => ⟨⟨q.1, q.2.1⟩, off a q.2.2⟩) W st₂ gD (by rw [List.length_nil, Nat.zero_add]; exact hsz) fun h₃ t₃ vs l₃ kk hM g₃ i₃ => ?_
    obtain ⟨hm, Sm, km⟩ := hM
    obtain ⟨m, hn, _⟩ := Sm.ns
    refine k D K h₃ t₃ m (Nat.le_trans l₁ l₃) (fun b o e => ?_) (down K K₁) (hn.at' fun o q => km K o hKw q) (.list ⟨okD, ?_⟩ g₃ ?_)
    · exact kk b o (fun z => by rw [hw b z] at e; cases e) (fun z => by have z : b = K := z; rw [z, down K K₁] at e; cases e) (fun z => by rw [z, down D D₁] at e; cases e) (e₂ b o e)
    · simpa using hDK
    · exact i₃.mono fun a o q e => ⟨⟨q.1.1, by simpa using q.2.1⟩, e⟩
  exact codeAny_compStart_list loop (W.self 0 _ _ _ st₂ loop)
/-- the value of an expression set behind the list -/
theorem EMIT.one {C : FC} {μ μ₀ : Vars} {D : Addr} {elt : PySem.Expr} {r : PV} (OD : Off C [D]) (h : EV C μ elt r) (hs : Sub μ₀ μ) : EMIT C μ μ₀ D (do let _ ← call (.builtin "list.append") [.ref D, ← eval elt C.env]) [r] := fun G s Q F ys S lo gD hsz k =>
  wpAny_bind (wpAny_mono (h G s (fun x s' => wpAny (model PR C.w) C.A (call (.builtin "list.append") [.ref D, x]) (fun _ s => Q () s) F s') F S lo fun v h1 t1 e1 l1 i1 => append_at (hsz := by rw [List.size_toArray]; simp only [List.length_singleton] at hsz; omega) (e1 D _ gD) fun h2 hs2 hD2 => by
    have S2 := (S.ext e1).off G OD (h' := h2) (fun b hb => by rw [List.mem_singleton.mp hb]; exact ⟨_, hD2⟩) (fun b o n q => hs2.extBut b o (fun z => n (List.mem_singleton.mpr z)) q)
    refine k h2 t1 [v] l1 (fun b o _ n q => hs2.extBut b o n (e1 b o q)) (S2.sub (sub_of hs)) ?_ (.cons (i1.mono fun a o q e => ⟨q, hs2.extBut a o (fun z => OD.ok a (List.mem_singleton.mpr z) q) e⟩) .nil)
    rw [AccIs, hD2, List.push_toArray, List.length_append]; rfl) (fun x s' hx => wpAny_bind (wpAny_mono hx (fun _ _ q => wpAny_pure q) fun _ _ e => e)) fun _ _ e => e)
theorem flat1 {β : Type} (l : List α) (f : α → β) : (l.flatMap fun a => [f a]) = l.map f := by
  induction l with
  | nil => rfl
  | cons a l ih => rw [List.flatMap_cons, ih]; rfl
theorem comp_one {elt iter tgt : PySem.Expr} {ifs : List PySem.Expr} {pos : Pos} {as : List α} {sh : α → Shp} {RR : Value → Addr → Result → Shared → Prop} {E : Value → Shared → Prop} {s : Shared} (O : CompOk C scope cl μ μc) (hF : FD C μ iter tgt as sh) (hsz : as.length ≤ sizeLine) (bd : α → Vars → Vars) (p : α → Bool) (f : α → PV)
    (hb : ∀ a ∈ as, ∀ wr K D, ASG (C.comp scope cl wr K D) tgt (sh a) (bd a)) (hs : ∀ a ∈ as, Sub μc (bd a μc)) (ht : ∀ a ∈ as, ∀ wr K D, TVs (C.comp scope cl wr K D) (bd a μc) ifs (p a)) (he : ∀ a ∈ as, p a = true → ∀ wr K D, EV (C.comp scope cl wr K D) (bd a μc) elt (f a))
    (G : C.Good) (S : Sees C μ s.heap) (lo : C.lo ≤ s.toks)
    (k : ∀ D K h' tk' m, s.toks ≤ tk' → Ext s.heap h' → s.heap.get? K = none → h'.Ns K m → Is C.w (fun a => C.ok a ∧ a ∉ [K]) h' (.list ((as.filter p).map f)) (.ref D) → RR (.ref D) K (.ok .next) { s with heap := h', toks := tk' }) :
    wpAny (model PR C.w) C.A (eval iter C.env) (fun x s₁ => wpAny (model PR C.w) C.A (pyIter x) (fun it s₂ => wpAny (model PR C.w) C.A (newList []) (fun acc s₃ => wpAny (model PR C.w) C.A (newFunctionEnv scope C.env.globals cl [] C.env.qual none .none (some C.env)) (fun cenv s₄ =>
      codeAny (model PR C.w) C.A (.compStart (.ListComp elt [⟨tgt, iter, ifs, 0⟩] scope pos) 0 it acc { cenv with scope := relabel scope C.env }) (RR acc cenv.locals) s₄) E s₃) E s₂) E s₁) E s :=
  comp_core (emit := fun D env => do let _ ← call (.builtin "list.append") [.ref D, ← eval elt env]) O hF (fun _ _ _ => rfl) bd p (fun a => [f a]) (by rw [flat1, List.length_map]; exact Nat.le_trans (List.length_filter_le _ _) hsz) hb hs ht (fun a ha hp wr K D OD => EMIT.one OD (he a ha hp wr K D) (hs a ha)) G S lo
    (by simpa only [flat1] using k)
theorem EV.comp {elt iter tgt : PySem.Expr} {ifs : List PySem.Expr} {pos : Pos} {as : List α} {sh : α → Shp} (O : CompOk C scope cl μ μc) (hF : FD C μ iter tgt as sh) (hsz : as.length ≤ sizeLine) (bd : α → Vars → Vars) (p : α → Bool) (f : α → PV)
    (hb : ∀ a ∈ as, ∀ wr K D, ASG (C.comp scope cl wr K D) tgt (sh a) (bd a)) (hs : ∀ a ∈ as, Sub μc (bd a μc)) (ht : ∀ a ∈ as, ∀ wr K D, TVs (C.comp scope cl wr K D) (bd a μc) ifs (p a)) (he : ∀ a ∈ as, p a = true → ∀ wr K D, EV (C.comp scope cl wr K D) (bd a μc) elt (f a))
    (hfo : ∀ x, foldedSetIterable iter C.env x = pure x) : EV C μ (.ListComp elt [⟨tgt, iter, ifs, 0⟩] scope pos) (.list ((as.filter p).map f)) := fun G s Q E S lo k => by
  rw [eval_ListComp]
  refine wpAny_comprehension_free (use := none) rfl hfo O.clos O.kind O.names (comp_one (RR := fun acc K => compPost (model PR C.w) C.A E none Q acc K) O hF hsz bd p f hb hs ht he G S lo fun D K h' tk' m l e hK hn i => ⟨m, hn, fun h'' hs'' => ?_⟩)
  exact k _ h'' tk' (fun b o q => hs''.extBut b o (fun z => by rw [z, hK] at q; cases q) (e b o q)) l (i.mono fun a o q c => ⟨q.1, hs''.extBut a o (by simpa using q.2) c⟩)
/-- a name set to a comprehension: the list is stored ere the comprehension's names go -/
theorem EX.assignComp {elt iter tgt : PySem.Expr} {ifs : List PySem.Expr} {y : Str} {py pos spos : Pos} {as : List α} {sh : α → Shp} (O : CompOk C scope cl μ μc) (hF : FD C μ iter tgt as sh) (hsz : as.length ≤ sizeLine) (bd : α → Vars → Vars) (p : α → Bool) (f : α → PV)
    (hb : ∀ a ∈ as, ∀ wr K D, ASG (C.comp scope cl wr K D) tgt (sh a) (bd a)) (hs : ∀ a ∈ as, Sub μc (bd a μc)) (ht : ∀ a ∈ as, ∀ wr K D, TVs (C.comp scope cl wr K D) (bd a μc) ifs (p a)) (he : ∀ a ∈ as, p a = true → ∀ wr K D, EV (C.comp scope cl wr K D) (bd a μc) elt (f a))
    (hfo : ∀ x, foldedSetIterable iter C.env x = pure x) (hsw : swapsWith (.ListComp elt [⟨tgt, iter, ifs, 0⟩] scope pos) (some (.Name y py)) spos.line C.env = pure true) (hk : (C.env.kindOf y == some .local || C.env.kindOf y == some .cell) = true) (hm : (y == C.mx || y == ("@" : Str)) = false) :
    EX C μ (.Assign [.Name y py] (.ListComp elt [⟨tgt, iter, ifs, 0⟩] scope pos) spos) (.next ((y, .list ((as.filter p).map f)) :: μ)) := fun G s Q S lo k => by
  rw [exec_Assign_Name_used _ _ _ _ hsw]
  refine wpAny_bind (wpAny_standAt (wpAny_bind ?_))
  show wpAny _ C.A (do let _ ← comprehension (.ListComp elt [⟨tgt, iter, ifs, 0⟩] scope pos) scope C.env _ (newList []) false (eval iter C.env) (some (PySem.assign (.Name y py) C.env))) _ _ s
  refine wpAny_bind (wpAny_mono (wpAny_comprehension_free (use := some (PySem.assign (.Name y py) C.env)) (Q := fun _ s' => Q .next s') rfl hfo O.clos O.kind O.names
    (comp_one (RR := fun acc K => compPost (model PR C.w) C.A (fun _ _ => False) (some (PySem.assign (.Name y py) C.env)) (fun _ s' => Q .next s') acc K) O hF hsz bd p f hb hs ht he G S lo fun D K h' tk' m l e hK hn i => ?_)) (fun _ s' hq => wpAny_pure (wpAny_pure hq)) fun _ _ e => e)
  have hw : ∀ b ∈ [K], s.heap.get? b = none := fun b hb => by rw [List.mem_singleton.mp hb]; exact hK
  have hlK : ∃ o, h'.get? K = some o := let ⟨o, _, _, ho, _⟩ := hn; ⟨o, ho⟩
  have W := Off.less (C := C) S hw
  show wpAny _ C.A (PySem.assign (.Name y py) C.env (.ref D)) _ _ _
  refine wpAny_assign_Name (store (C := C.less [K]) (G.less [K]) (S.less e hw fun b hb => by rw [List.mem_singleton.mp hb]; exact hlK) i hk hm fun h₁ t₁ l₁ _ k₁ S₁ => ⟨m, ?_, fun h₂ hs₂ => ?_⟩)
  · exact hn.at' fun o q => k₁ K o (W.lo K (List.mem_singleton.mpr rfl)) (W.ma K (List.mem_singleton.mpr rfl)) (W.ce K (List.mem_singleton.mpr rfl)) q
  · refine k .next h₂ t₁ (Nat.le_trans l l₁) (fun b o n1 n2 n3 q => hs₂.extBut b o (fun z => by rw [z, hK] at q; cases q) (k₁ b o n1 n2 n3 (e b o q))) ⟨rfl, S₁.more G W (fun b hb => S.fresh b (hw b hb)) fun b o n q => hs₂.extBut b o (fun z => n (List.mem_singleton.mpr z)) q⟩
end
end
section
section
variable {C : FC} {μ : Vars}
/-- names set one behind the other -/
theorem assignNames (G : C.Good) : ∀ (ns : List Str) (ts : List (Value → Sem Unit)) (rs : List PV) (vs : List Value) (μ : Vars) (s : Shared) (Q : Unit → Shared → Prop) (E : Value → Shared → Prop),
    (∀ t n, (t, n) ∈ ts.zip ns → ∀ (s : Shared) (v : Value) (Q : Unit → Shared → Prop) (E : Value → Shared → Prop), wpAny (model PR C.w) C.A (storeName C.env n v) Q E s → wpAny (model PR C.w) C.A (t v) Q E s) → ts.length = ns.length → rs.length = ns.length →
    (ns.all fun x => (C.env.kindOf x == some .local || C.env.kindOf x == some .cell) && !(x == C.mx || x == ("@" : Str))) = true → Sees C μ s.heap → IsL C.w C.ok s.heap rs vs →
    (∀ h' tk', s.toks ≤ tk' → Keep C s.heap h' → Sees C ((ns.zip rs).reverse ++ μ) h' → Q () { s with heap := h', toks := tk' }) → wpAny (model PR C.w) C.A (assignInOrder ts vs) Q E s
  | [], ts, rs, vs, μ, s, Q, E, _, ht, hr, _, S, i, k => by
    have : ts = [] := List.length_eq_zero_iff.mp ht
    subst this
    have : rs = [] := List.length_eq_zero_iff.mp hr
    subst this
    cases i.e0
    exact wpAny_pure (k s.heap s.toks (Nat.le_refl _) (.of (Ext.refl _)) S)
  | n :: ns, [], rs, vs, μ, s, Q, E, _, ht, _, _, _, _, _ => by simp at ht
  | n :: ns, t :: ts, [], vs, μ, s, Q, E, _, _, hr, _, _, _, _ => by simp at hr
  | n :: ns, t :: ts, r :: rs, vs, μ, s, Q, E, hs, ht, hr, ha, S, i, k => by
    obtain ⟨v, us, rfl, i1, i2⟩ := i.eC
    rw [List.all_cons, Bool.and_eq_true, Bool.and_eq_true, Bool.not_eq_true'] at ha
    show wpAny _ _ (do holding us (t v); assignInOrder ts us) Q E s
    refine wpAny_bind (wpAny_holding (hs t n (by simp) _ v _ _ (store G S i1 ha.1.1 ha.1.2 fun h₁ t₁ l₁ _ k₁ S₁ => ?_)))
    refine assignNames G ns ts rs us ((n, r) :: μ) _ Q E (fun t' n' hm => hs t' n' (by rw [List.zip_cons_cons]; exact List.mem_cons_of_mem _ hm)) (by simpa using ht) (by simpa using hr) ha.2 S₁ (i2.mono fun a o q e => ⟨q, k₁ a o (fun z => G.notL (z ▸ q)) (fun z => G.notM (z ▸ q)) (fun y z => (G.notC y a z).1 q) e⟩) fun h' tk' l k' S' => ?_
    refine k h' tk' (Nat.le_trans l₁ l) (k₁.trans k') ?_
    rw [List.zip_cons_cons, List.reverse_cons, List.append_assoc]
    exact S'
theorem assignEach_names {env : Env} : ∀ nps : List (Str × Pos), assignEach (nps.map fun q => .Name q.1 q.2) env = nps.map fun q => (false, assign (.Name q.1 q.2) env)
  | [] => rfl
  | q :: r => by rw [List.map_cons, List.map_cons, ← assignEach_names r]; rfl
/-- a, b, .. = a tuple -/
theorem EX.unpack {elts : List PySem.Expr} {k₀ : Nat} {tpos pos : Pos} {value : PySem.Expr} {rs : List PV} (nps : List (Str × Pos)) (hn : nps.map (fun q => PySem.Expr.Name q.1 q.2) = elts) (hv : EV C μ value (.tup rs)) (hl : rs.length = nps.length)
    (ha : ((nps.map (·.1)).all fun x => (C.env.kindOf x == some .local || C.env.kindOf x == some .cell) && !(x == C.mx || x == ("@" : Str))) = true)
    (hs : swapsWithSole [.Tuple elts k₀ tpos] value pos.line C.env = pure false) (hw : swappedStores [.Tuple elts k₀ tpos] value C.env = pure none) :
    EX C μ (.Assign [.Tuple elts k₀ tpos] value pos) (.next (((nps.map (·.1)).zip rs).reverse ++ μ)) := fun G s Q S lo k => by
  subst hn
  refine Assign_Tuple (hv G s _ _ S lo fun v h1 t1 e1 l1 i1 => ?_) hs hw
  obtain ⟨a, vs, n, rfl, o1, g1, il⟩ := i1.tE
  have hlen := il.length
  refine wpAny_assign_Tuple (items := vs.toArray) G.amb.handled ⟨_, g1, rfl, _, rfl⟩ (by rw [assignEach_names]; simp; omega) (by rw [assignEach_names, List.findIdx?_eq_none_iff]; intro x hx; obtain ⟨q, _, rfl⟩ := List.mem_map.mp hx; rfl) fun h2 e2 => ?_
  have e2' : Ext h1 h2 := fun b o q => e2 b o (Nat.ne_of_lt (Heap.lt_size q)) q
  refine assignNames G (nps.map (·.1)) _ rs vs μ _ _ _ (fun t x hm s v Q E h => ?_) (by rw [assignEach_names]; simp) (by simpa using hl) ha ((S.ext e1).ext e2') (il.ext e2') fun h' tk' l k' S' => k .next h' tk' (Nat.le_trans l1 l) ((Keep.of (e1.trans e2')).trans k') ⟨rfl, S'⟩
  rw [assignEach_names, List.map_map, List.zip_map'] at hm
  obtain ⟨q, _, e⟩ := List.mem_map.mp hm
  cases e
  exact wpAny_assign_Name h
/-- two or three names set from a display: the last first -/
theorem EX.unpackSw {elts : List PySem.Expr} {k₀ : Nat} {tpos pos : Pos} {value : PySem.Expr} {rs : List PV} (ns : List Str) (hv : EV C μ value (.tup rs)) (hl : rs.length = ns.length)
    (ha : (ns.reverse.all fun x => (C.env.kindOf x == some .local || C.env.kindOf x == some .cell) && !(x == C.mx || x == ("@" : Str))) = true)
    (hs : swapsWithSole [.Tuple elts k₀ tpos] value pos.line C.env = pure false) (hw : swappedStores [.Tuple elts k₀ tpos] value C.env = pure (some ns)) :
    EX C μ (.Assign [.Tuple elts k₀ tpos] value pos) (.next (ns.zip rs ++ μ)) := fun G s Q S lo k => by
  refine Assign_Tuple_swapped (hv G s _ _ S lo fun v h1 t1 e1 l1 i1 => ?_) hs hw
  obtain ⟨a, vs, n, rfl, o1, g1, il⟩ := i1.tE
  have hlen := il.length
  have hsz : vs.toArray.size = ns.length := by simp; omega
  rw [← hsz]
  refine wpAny_unpackItems_tuple (items := vs.toArray) G.amb.handled ⟨_, g1, rfl, _, rfl⟩ fun h2 e2 => ?_
  have e2' : Ext h1 h2 := fun b o q => e2 b o (Nat.ne_of_lt (Heap.lt_size q)) q
  have rev : ∀ {rs : List PV} {vs : List Value}, IsL C.w C.ok h2 rs vs → IsL C.w C.ok h2 rs.reverse vs.reverse := fun {rs} => by
    induction rs with
    | nil => intro vs i; cases i.e0; exact .nil
    | cons r rs ih => intro vs i; obtain ⟨v, us, rfl, i1, i2⟩ := i.eC; rw [List.reverse_cons, List.reverse_cons]; exact (ih i2).append (.cons i1 .nil)
  refine assignNames G ns.reverse _ rs.reverse vs.reverse μ _ _ _ (fun t x hm s v Q E h => ?_) (by simp) (by simpa using hl) ha ((S.ext e1).ext e2') (rev (il.ext e2')) fun h' tk' l k' S' => k .next h' tk' (Nat.le_trans l1 l) ((Keep.of (e1.trans e2')).trans k') ⟨rfl, ?_⟩
  · have hm : (t, x) ∈ (ns.reverse.map fun n => bindName C.env n).zip ns.reverse := hm
    have : (ns.reverse.map fun n => bindName C.env n).zip ns.reverse = ns.reverse.map fun n => (bindName C.env n, n) := by
      conv => lhs; rhs; rw [← List.map_id ns.reverse]
      rw [List.zip_map']; rfl
    rw [this] at hm
    obtain ⟨q, _, e⟩ := List.mem_map.mp hm
    cases e
    exact wpAny_bindName h
  · have : ∀ (a : List Str) (b : List PV), a.length = b.length → a.reverse.zip b.reverse = (a.zip b).reverse := fun a => by
      induction a with
      | nil => intro b _; simp
      | cons x a ih =>
        intro b hb
        cases b with
        | nil => simp at hb
        | cons y b =>
          rw [List.reverse_cons, List.reverse_cons, List.zip_append (by simpa using hb), ih b (by simpa using hb)]
          simp
    rwa [this ns rs hl.symm, List.reverse_reverse] at S'
end
end
section
abbrev FC.own (C : FC) (a : Addr) (x : Str) : FC := ⟨C.K, C.w, C.A, C.env, C.h₀, fun b => C.ok b ∧ b ∉ [a], C.n, C.okr, a, x, C.lo⟩
abbrev FC.free (C : FC) : FC := ⟨C.K, C.w, C.A, C.env, C.h₀, fun b => C.ok b ∨ b = C.ma, C.n, C.okr, C.env.locals, "", C.lo⟩
section
variable {C : FC} {μ μ' : Vars}
theorem FC.Good.own (G : C.Good) (a : Addr) (x : Str) : (C.own a x).Good :=
  ⟨G.amb, G.X, G.T, G.fn, G.gl, G.bl, fun z => G.notL z.1, G.newL, fun y c hc => ⟨fun z => (G.notC y c hc).1 z.1, (G.notC y c hc).2⟩, G.apart, fun b z => G.okr b z.1, fun z => z.2 (List.mem_singleton.mpr rfl), G.hat⟩
/-- a new thing that a name bears begins to grow -/
theorem Sees.toOwn {a : Addr} {x : Str} {r₀ : PV} {h : Heap} (S : Sees (C.less [a]) μ' h) (G : C.Good) (hx : μ'.lookup x = some (.fix (.ref a))) (hs : Sub μ μ') (hk : C.env.kindOf x = some .local) (hA : At C.w (C.own a x).ok h a r₀) (hokr : C.okr a) (W : Off (C.less [a]) [a]) (hl : ∃ o, h.get? a = some o) :
    Sees (C.own a x) (("@", r₀) :: μ) h := by
  have lk : ∀ y r, ((("@" : Str), r₀) :: μ).lookup y = some r → C.env.kindOf y ≠ none → μ.lookup y = some r := fun y r e hn => by
    rw [List.lookup_cons] at e
    by_cases hy : (y == ("@" : Str)) = true
    · exact absurd (by rw [eq_of_beq hy]; exact G.hat) hn
    · simp only [Bool.not_eq_true] at hy
      rw [hy] at e; exact e
  refine ⟨S.keep, S.fresh, ?_, fun y r hy hky => S.cells y r (sub_of hs y r (lk y r hy (by rcases hky with z | z <;> rw [z] <;> exact nofun))) hky, S.own, S.live, hl, fun r hr => ?_⟩
  · obtain ⟨m, hn, hv⟩ := S.ns
    exact ⟨m, hn, fun y r hy hky => hv y r (sub_of hs y r (lk y r hy (by rw [hky]; exact nofun))) hky⟩
  · have : r = r₀ := by
      rw [List.lookup_cons, beq_self_eq_true] at hr
      exact (Option.some.inj hr).symm
    subst this
    obtain ⟨m, hn, hv⟩ := S.ns
    obtain ⟨v, e1, e2⟩ := hv x _ hx hk
    cases e2.fE
    have hm := List.mem_singleton.mpr (rfl : a = a)
    exact ⟨hA, ⟨fun z => z.2 hm, hokr, W.ba a hm, W.lo a hm, fun y => W.ce a hm y, hk⟩, m, hn, e1⟩
theorem EXs.mutL {x : Str} {px p pos : Pos} {rest : List Stmt} {r : PV} (hC : C.ma = C.env.locals) (hk : (C.env.kindOf x == some .local) = true) (hm : (x == C.mx || x == ("@" : Str)) = false) (hs : swapsWith (.List [] p) (some (.Name x px)) pos.line C.env = pure false) (hμ : ∀ v, Sub μ ((x, v) :: μ))
    (h : ∀ a, EXs (C.own a x) (("@", .list []) :: μ) rest (.ret r)) : EXs C μ (.Assign [.Name x px] (.List [] p) pos :: rest) (.ret r) := fun G s Q S lo k => by
  refine wpAny_execs_cons (wpAny_Assign_Name (List_ (args_nil (wpAny_newList ?_))) hs)
  have ha : s.heap.get? s.heap.objs.size = none := nd (k := 0)
  have hw : ∀ b ∈ [s.heap.objs.size], s.heap.get? b = none := fun b hb => by rw [List.mem_singleton.mp hb]; exact ha
  have g1 : (s.heap.push { cls := .type "list", data := .seq (List.toArray ([] : List Value)) 0 }).get? s.heap.objs.size = some { cls := .type "list", data := .seq (List.toArray []) 0 } := Heap.get?_push_size _ rfl
  have S₁ := S.less (wr := [s.heap.objs.size]) (h' := s.heap.push { cls := .type "list", data := .seq (List.toArray ([] : List Value)) 0 }) ext_push hw (fun b hb => by rw [List.mem_singleton.mp hb]; exact ⟨_, g1⟩)
  have W := Off.less (C := C) S hw
  refine store (C := C.less [s.heap.objs.size]) (G.less _) S₁ (r := .fix (.ref s.heap.objs.size)) (.fix _) (by rw [show C.env.kindOf x = some .local from eq_of_beq hk]; rfl) hm fun h₂ t₂ l₂ kl k₂ S₂ => ?_
  have hne : s.heap.objs.size ≠ C.env.locals := W.lo _ (List.mem_singleton.mpr rfl)
  have g2 := (kl (eq_of_beq hk)).2 s.heap.objs.size _ hne g1
  have okr : C.okr s.heap.objs.size := G.okr _ (S.fresh _ ha)
  have S₃ := Sees.toOwn (C := C) (a := s.heap.objs.size) (x := x) (r₀ := .list []) S₂ G (by rw [List.lookup_cons, beq_self_eq_true]) (hμ _) (eq_of_beq hk) ⟨[], 0, g2, .nil⟩ okr W ⟨_, g2⟩
  refine h s.heap.objs.size (G.own _ _) ⟨h₂, s.gens, s.drawn, t₂, s.os⟩ Q S₃ (Nat.le_trans lo l₂) fun f h' tk' l K oi => k f h' tk' (Nat.le_trans l₂ l) (fun b o n1 n2 n3 q => K b o n1 (fun z => ?_) n3 (k₂ b o n1 n2 n3 (ext_push b o q))) oi
  have z : b = s.heap.objs.size := z
  rw [z, ha] at q; cases q
/-- what grew is a value as others are -/
theorem EXs.freeze {r₀ r : PV} {μ₁ : Vars} {rest : List Stmt} (hr : μ.lookup ("@" : Str) = some r₀) (hs : Sub μ₁ μ) (ha : (μ₁.all fun q => q.1 != ("@" : Str)) = true) (h : EXs C.free ((C.mx, r₀) :: μ₁) rest (.ret r)) : EXs C μ rest (.ret r) := fun G s Q S lo k => by
  obtain ⟨hA, ⟨b1, b2, b3, b4, b5, b6⟩, m₁, hn₁, hm₁⟩ := S.mu r₀ hr
  have G' : C.free.Good := ⟨G.amb, G.X, G.T, G.fn, G.gl, G.bl, fun z => z.elim G.notL fun z => b4 z.symm, G.newL, fun y c hc => ⟨fun z => z.elim (G.notC y c hc).1 fun z => b5 y (z ▸ hc), (G.notC y c hc).2⟩, G.apart, fun b z => z.elim (G.okr b) fun z => z ▸ b2, fun z => z.elim G.notL fun z => b4 z.symm, G.hat⟩
  have g : ∀ {r : PV} {v : Value}, Is C.w C.ok s.heap r v → Is C.w C.free.ok s.heap r v := fun x => x.mono fun a o q e => ⟨.inl q, e⟩
  have lk : ∀ y r', ((C.mx, r₀) :: μ₁).lookup y = some r' → (y = C.mx ∧ r' = r₀) ∨ (y ≠ C.mx ∧ μ₁.lookup y = some r') := fun y r' e => by
    rw [List.lookup_cons] at e
    by_cases hy : (y == C.mx) = true
    · rw [hy] at e; cases e; exact .inl ⟨eq_of_beq hy, rfl⟩
    · simp only [Bool.not_eq_true] at hy
      rw [hy] at e; exact .inr ⟨by simpa using hy, e⟩
  have i0 : Is C.w C.free.ok s.heap r₀ (.ref C.ma) := by
    cases r₀ <;> first | exact hA.elim | exact (let ⟨vs, n, e, i⟩ := hA; .list (.inr rfl) e (i.mono fun a o q e => ⟨.inl q, e⟩)) | exact (let ⟨o, es, e, d, i⟩ := hA; .dct (.inr rfl) e d i)
  refine h G' s Q ⟨S.keep, fun a e => .inl (S.fresh a e), ⟨m₁, hn₁, fun y r' hy hky => ?_⟩, fun y r' hy hky => ?_, S.own, S.live, let ⟨o, _, _, ho, _⟩ := hn₁; ⟨o, ho⟩, fun r' hr' => ?_⟩ lo (fun f h' tk' l K oi => k f h' tk' l (fun b o n1 n2 n3 q => K b o n1 n1 n3 q) oi)
  · rcases lk y r' hy with ⟨rfl, rfl⟩ | ⟨_, hy⟩
    · exact ⟨_, hm₁, i0⟩
    · obtain ⟨m, hn, hv⟩ := S.ns
      obtain ⟨v, e1, e2⟩ := hv y r' (sub_of hs y r' hy) hky
      exact ⟨v, (ns_unique hn₁ hn y).trans e1, g e2⟩
  · rcases lk y r' hy with ⟨rfl, rfl⟩ | ⟨_, hy⟩
    · rcases hky with z | z <;> (have z : C.env.kindOf C.mx = _ := z; rw [b6] at z; cases z)
    · obtain ⟨c, v, e1, e2, e3⟩ := S.cells y r' (sub_of hs y r' hy) hky
      exact ⟨c, v, e1, e2, g e3⟩
  · rcases lk _ r' hr' with ⟨e, _⟩ | ⟨_, hy⟩
    · rw [← e, G.hat] at b6; cases b6
    · have := List.all_eq_true.mp ha _ (mem_of_lookup hy)
      simp at this
/-- an expression that may change what grows -/
def EVm (C : FC) (μ : Vars) (e : PySem.Expr) (r : PV) (μ' : Vars) : Prop :=
  C.Good → ∀ (s : Shared) (Q : Value → Shared → Prop) (E : Value → Shared → Prop), Sees C μ s.heap → C.lo ≤ s.toks → (∀ v h' tk', s.toks ≤ tk' → Keep C s.heap h' → Sees C μ' h' → Is C.w C.ok h' r v → Q v { s with heap := h', toks := tk' }) → wpAny (model PR C.w) C.A (eval e C.env) Q E s
theorem EVm.pure {e : PySem.Expr} {r : PV} (h : EV C μ e r) : EVm C μ e r μ := fun G s Q E S lo k => h G s Q E S lo fun v h' tk' e l i => k v h' tk' l (.of e) (S.ext e) i
/-- the growing thing's new state -/
theorem Sees.set {h h' : Heap} {r₀ r₁ : PV} (S : Sees C μ h) (G : C.Good) (hr : μ.lookup ("@" : Str) = some r₀) (hs : Heap.SameBut C.ma h h') (hA : At C.w C.ok h' C.ma r₁) (hl : ∃ o, h'.get? C.ma = some o) : Sees C (("@", r₁) :: μ) h' ∧ Keep C h h' := by
  obtain ⟨_, ⟨b1, b2, b3, b4, b5, b6⟩, m₁, hn₁, hm₁⟩ := S.mu r₀ hr
  have up : ∀ b o, b ≠ C.ma → h.get? b = some o → h'.get? b = some o := fun b o n e => (hs.2 b n).trans e
  have g : ∀ {r : PV} {v : Value}, Is C.w C.ok h r v → Is C.w C.ok h' r v := fun x => x.mono fun a o q e => ⟨q, up a o (fun z => b1 (z ▸ q)) e⟩
  have lk : ∀ y r, ((("@" : Str), r₁) :: μ).lookup y = some r → C.env.kindOf y ≠ none → μ.lookup y = some r := fun y r e hn => by
    rw [List.lookup_cons] at e
    by_cases hy : (y == ("@" : Str)) = true
    · exact absurd (by rw [eq_of_beq hy]; exact G.hat) hn
    · simp only [Bool.not_eq_true] at hy
      rw [hy] at e; exact e
  refine ⟨⟨fun b o e => up b o (fun z => by rw [z, b3] at e; cases e) (S.keep b o e), fun a e => ?_, ?_, fun y r hy hky => ?_, fun y hy => ?_, fun y c hc => let ⟨o, ho⟩ := S.live y c hc; ⟨o, up c o (fun z => b5 y (z ▸ hc)) ho⟩, hl, fun r hr' => ?_⟩, fun b o _ n2 _ e => up b o n2 e⟩
  · have : a ≠ C.ma := fun z => by obtain ⟨o, ho⟩ := hl; rw [← z, e] at ho; cases ho
    exact S.fresh a ((hs.2 a this).symm.trans e)
  · obtain ⟨m, hn, hv⟩ := S.ns
    exact ⟨m, hn.at' fun o e => up _ o (Ne.symm b4) e, fun y r hy hky => let ⟨v, e1, e2⟩ := hv y r (lk y r hy (by rw [hky]; exact nofun)) hky; ⟨v, e1, g e2⟩⟩
  · obtain ⟨c, v, e1, ⟨o, ho, r1⟩, e3⟩ := S.cells y r (lk y r hy (by rcases hky with z | z <;> rw [z] <;> exact nofun)) hky
    exact ⟨c, v, e1, ⟨o, up c o (fun z => b5 y (z ▸ e1)) ho, r1⟩, g e3⟩
  · obtain ⟨c, ov, e1, ⟨o, ho, r1⟩⟩ := S.own y hy
    exact ⟨c, ov, e1, o, up c o (fun z => b5 y (z ▸ e1)) ho, r1⟩
  · have : r = r₁ := by
      rw [List.lookup_cons, beq_self_eq_true] at hr'
      exact (Option.some.inj hr').symm
    subst this
    exact ⟨hA, ⟨b1, b2, b3, b4, b5, b6⟩, m₁, hn₁.at' fun o e => up _ o (Ne.symm b4) e, hm₁⟩
theorem name_mx (G : C.Good) {s : Shared} {r₀ : PV} {p : Pos} {Q : Value → Shared → Prop} {E : Value → Shared → Prop} (S : Sees C μ s.heap) (hr : μ.lookup ("@" : Str) = some r₀) (hd : (C.mx == ("__debug__" : Str)) = false) (h : Q (.ref C.ma) s) : wpAny (model PR C.w) C.A (eval (.Name C.mx p) C.env) Q E s := by
  obtain ⟨_, ⟨_, _, _, _, _, b6⟩, m₁, hn₁, hm₁⟩ := S.mu r₀ hr
  exact wpAny_Name (wpAny_loadName_local G.fn b6 hn₁ hm₁ h) hd
/-- x.append(e) -/
theorem EX.append {x : Str} {e : PySem.Expr} {p1 p2 p3 p4 : Pos} {xs : List PV} {r : PV} (hx : x = C.mx) (hr : μ.lookup ("@" : Str) = some (.list xs)) (he : EVm C μ e r μ') (hr' : ∃ ys, μ'.lookup ("@" : Str) = some (.list ys) ∧ ys.length ≤ 4096 ∧ ys ++ [r] = zs) (hd : (C.mx == ("__debug__" : Str)) = false)
    (h1 : starEach [e] C.env = (false, eval e C.env) :: starEach [] C.env) (h2 : interactive C.env = false) (h3 : swapsWith (.Call (.Attribute (.Name x p1) "append" p2) [e] [] p3) none p4.line C.env = pure false)
    (pl : Sem Bool) (h5 : eval (.Call (.Attribute (.Name x p1) "append" p2) [e] [] p3) C.env = (do
      let ov ← eval (.Name x p1) C.env
      standAt p2.atName
      let (f, first) ← holding [ov] (getMethod ov "append" pl)
      callWith p3 f first (backTo p3 (starEach [e] C.env)) [])) :
    EX C μ (.Expr (.Call (.Attribute (.Name x p1) "append" p2) [e] [] p3) p4) (.next (("@", .list zs) :: μ')) := fun G s Q S lo k => by
  subst hx
  obtain ⟨ys, hr', hsz, rfl⟩ := hr'
  obtain ⟨⟨vs, n, ho, _⟩, _⟩ := S.mu _ hr
  refine wpAny_Expr_any (MethodCall_ (pl := pl) (name_mx G S hr hd (PySem.Calls.getMethod_list_append ho rfl rfl (callWith_method1 (first := [.ref C.ma]) (args_cons (he G s _ _ S lo fun v h₁ t₁ l₁ k₁ S₁ i₁ => args_nil ?_) h1) h1 rfl))) h5) h2 h3
  obtain ⟨⟨us, n', ho', iu⟩, _⟩ := S₁.mu _ hr'
  refine append_at (hsz := by rw [List.size_toArray, ← iu.length]; unfold sizeLine; omega) ho' fun h₂ hs₂ hD₂ => ?_
  have b1 := (S₁.mu _ hr').2.1.1
  have up : ∀ a o, C.ok a → h₁.get? a = some o → C.ok a ∧ h₂.get? a = some o := fun a o q e => ⟨q, (hs₂.2 a fun z => b1 (z ▸ q)).trans e⟩
  obtain ⟨S₂, k₂⟩ := S₁.set (r₁ := .list (ys ++ [r])) G hr' hs₂ ⟨us ++ [v], n' + 1, by rw [hD₂, List.push_toArray], (iu.mono up).append (.cons (i₁.mono up) .nil)⟩ ⟨_, hD₂⟩
  exact k .next h₂ t₁ l₁ (k₁.trans k₂) ⟨rfl, S₂⟩
/-- x.pop() -/
theorem EVm.pop {x : Str} {p1 p2 p3 : Pos} {xs : List PV} {r : PV} (hx : x = C.mx) (hr : μ.lookup ("@" : Str) = some (.list (xs ++ [r]))) (hsz : xs.length ≤ 4096) (hd : (C.mx == ("__debug__" : Str)) = false) (pl : Sem Bool) (h5 : eval (.Call (.Attribute (.Name x p1) "pop" p2) [] [] p3) C.env = (do
      let ov ← eval (.Name x p1) C.env
      standAt p2.atName
      let (f, first) ← holding [ov] (getMethod ov "pop" pl)
      callWith p3 f first (backTo p3 (starEach [] C.env)) [])) : EVm C μ (.Call (.Attribute (.Name x p1) "pop" p2) [] [] p3) r (("@", .list xs) :: μ) := fun G s Q E S lo k => by
  subst hx
  obtain ⟨⟨vs, n, ho, iv⟩, b, _⟩ := S.mu _ hr
  have hlen := iv.length
  rw [List.length_append, List.length_singleton] at hlen
  obtain ⟨us, v, rfl, iu, i1⟩ : ∃ us v, vs = us ++ [v] ∧ IsL C.w C.ok s.heap xs us ∧ Is C.w C.ok s.heap r v := by
    have sp : ∀ {xs : List PV} {vs : List Value}, IsL C.w C.ok s.heap (xs ++ [r]) vs → ∃ us v, vs = us ++ [v] ∧ IsL C.w C.ok s.heap xs us ∧ Is C.w C.ok s.heap r v := fun {xs} => by
      induction xs with
      | nil => intro vs i; obtain ⟨v, rfl, i1⟩ := IsL.e1 i; exact ⟨[], v, rfl, .nil, i1⟩
      | cons y xs ih => intro vs i; obtain ⟨v, us, rfl, i1, i2⟩ := IsL.eC (show IsL C.w C.ok s.heap (y :: (xs ++ [r])) vs from i); obtain ⟨us', v', rfl, j1, j2⟩ := ih i2; exact ⟨v :: us', v', rfl, .cons i1 j1, j2⟩
    exact sp iv
  refine MethodCall_ (pl := pl) (name_mx G S hr hd (PyProof.Rows.Copied.getMethod_pop_at ho rfl rfl (callWith_method0 (PyProof.Rows.Copied.pop_at (y := v) ho (by simp) (fun h₂ hs₂ hD₂ => ?_) (by rw [List.size_toArray]; unfold sizeLine; omega))))) h5
  have up : ∀ a o, C.ok a → s.heap.get? a = some o → C.ok a ∧ h₂.get? a = some o := fun a o q e => ⟨q, (hs₂.2 a fun z => b.1 (z ▸ q)).trans e⟩
  obtain ⟨S₂, k₂⟩ := S.set (r₁ := .list xs) G hr hs₂ ⟨us, n + 1, by rw [hD₂]; simp, iu.mono up⟩ ⟨_, hD₂⟩
  exact k v h₂ s.toks (Nat.le_refl _) k₂ S₂ (i1.mono up)
theorem EVm.call1 {f : PySem.Expr} {fv : Value} {e : PySem.Expr} {a r : PV} {pos : Pos} (hf : EV C μ f (.fix fv)) (ha : EVm C μ e a μ') (hc : CALL C fv [a] r) (hk : keepIn (C.K C.w.params) fv = true)
    (h1 : eval (.Call f [e] [] pos) C.env = (do callWith pos (← eval f C.env) [] (backTo pos (starEach [e] C.env)) (backToKw pos (keywordEach [] C.env)))) (he : starEach [e] C.env = (false, eval e C.env) :: starEach [] C.env) : EVm C μ (.Call f [e] [] pos) r μ' := fun G s Q E S lo k =>
  Call_ (hf G s _ _ S lo fun v h1 t1 e1 l1 i1 => by
    cases i1
    exact callWith_K G.X hk (args_cons (ha G _ _ _ (S.ext e1) (Nat.le_trans lo l1) fun v h2 t2 l2 k2 S2 i2 => args_nil ⟨G.X.keeps S2.keep,
      hc G _ [v] _ _ S2.keep S2.fresh (Nat.le_trans lo (Nat.le_trans l1 l2)) (.cons i2 .nil) fun v h3 t3 e3 l3 i3 => k v h3 t3 (Nat.le_trans l1 (Nat.le_trans l2 l3)) ((Keep.of e1).trans (k2.trans (.of e3))) (S2.ext e3) i3⟩) he) he rfl) h1
theorem EVm.call2 {f : PySem.Expr} {fv : Value} {e e' : PySem.Expr} {a b r : PV} {pos : Pos} (hf : EV C μ f (.fix fv)) (ha : EVm C μ e a μ') (hb : EV C μ' e' b) (hc : CALL C fv [a, b] r) (hk : keepIn (C.K C.w.params) fv = true)
    (h1 : eval (.Call f [e, e'] [] pos) C.env = (do callWith pos (← eval f C.env) [] (backTo pos (starEach [e, e'] C.env)) (backToKw pos (keywordEach [] C.env)))) (he : starEach [e, e'] C.env = (false, eval e C.env) :: starEach [e'] C.env) (he' : starEach [e'] C.env = (false, eval e' C.env) :: starEach [] C.env) (hp : (backTo pos (starEach [e'] C.env)).any (·.1) = false) : EVm C μ (.Call f [e, e'] [] pos) r μ' := fun G s Q E S lo k =>
  Call_ (hf G s _ _ S lo fun v h1 t1 e1 l1 i1 => by
    cases i1
    exact callWith_K G.X hk (args_cons (ha G _ _ _ (S.ext e1) (Nat.le_trans lo l1) fun v h2 t2 l2 k2 S2 i2 => args_cons (hb G _ _ _ S2 (Nat.le_trans lo (Nat.le_trans l1 l2)) fun u h3 t3 e3 l3 i3 => args_nil ⟨G.X.keeps (S2.ext e3).keep,
      hc G _ [v, u] _ _ (S2.ext e3).keep (S2.ext e3).fresh (Nat.le_trans lo (Nat.le_trans l1 (Nat.le_trans l2 l3))) (.cons (i2.ext e3) (.cons i3 .nil)) fun v h4 t4 e4 l4 i4 => k v h4 t4 (Nat.le_trans l1 (Nat.le_trans l2 (Nat.le_trans l3 l4))) ((Keep.of e1).trans (k2.trans ((Keep.of e3).trans (.of e4)))) ((S2.ext e3).ext e4) i4⟩) he') he) he hp) h1
theorem EX.assignM {x : Str} {px pos : Pos} {e : PySem.Expr} {r : PV} (he : EVm C μ e r μ') (hk : (C.env.kindOf x == some .local || C.env.kindOf x == some .cell) = true) (hs : swapsWith e (some (.Name x px)) pos.line C.env = pure false) (hm : (x == C.mx || x == ("@" : Str)) = false) :
    EX C μ (.Assign [.Name x px] e pos) (.next ((x, r) :: μ')) := fun G s Q S lo k =>
  wpAny_Assign_Name (he G s _ _ S lo fun v h1 t1 l1 k1 S1 i1 => store G S1 i1 hk hm fun h' tk' l2 _ K2 S' => k .next h' tk' (Nat.le_trans l1 l2) (k1.trans K2) ⟨rfl, S'⟩) hs
end
end
section
section
variable {C : FC} {μ : Vars}
theorem ints_are {w : World} {ok : Addr → Prop} {h : Heap} : ∀ {ns : List Int} {vs : List Value}, IsL w ok h (ns.map .int) vs → IntsAre vs ns
  | [], _, i => by cases i.e0; exact .nil
  | n :: ns, _, i => by
    obtain ⟨v, us, rfl, i1, i2⟩ := i.eC
    obtain ⟨t, rfl⟩ := i1.iE
    exact .cons n t (ints_are i2)
theorem strs_are {w : World} {ok : Addr → Prop} {h : Heap} : ∀ {ns : List Str} {vs : List Value}, IsL w ok h (ns.map .str) vs → StrsAre vs ns
  | [], _, i => by cases i.e0; exact .nil
  | n :: ns, _, i => by
    obtain ⟨v, us, rfl, i1, i2⟩ := i.eC
    obtain ⟨t, rfl⟩ := i1.sE
    exact .cons n t (strs_are i2)
theorem CALL.join {x : Str} {ys : List Str} (hx : x.length ≤ 16) (hw : (ys.map (·.length)).sum + ys.length ≤ 1048576) : CALL C (.builtin "str.join") [.str x, .list (ys.map .str)] (.str (Txt.join x ys)) := fun G s vs Q E _ _ lo i k => by
  obtain ⟨_, _, rfl, i1, i2⟩ := i.e2
  obtain ⟨t, rfl⟩ := i1.sE
  obtain ⟨a, vs, n, rfl, o1, g1, il⟩ := i2.lE
  exact wpAny_with_toks (Nat.le_refl _) (join_listW (isList g1) (strs_are il) hx hw fun t' tk l => k _ s.heap tk (Ext.refl _) l (.str _ _))
theorem CALL.index {ns : List Int} {j : Int} (hl : PyData.layable0 (.list (ns.map .int)) = true) (hj : j ∈ ns) : CALL C (.builtin "list.index") [.list (ns.map .int), .int j] (.int (ns.idxOf j : Nat)) := fun G s vs Q E _ _ lo i k => by
  obtain ⟨_, _, rfl, i1, i2⟩ := i.e2
  obtain ⟨t, rfl⟩ := i2.iE
  obtain ⟨a, vs, n, rfl, o1, g1, il⟩ := i1.lE
  exact index_list_ints (isList g1) (ints_are il) hl hj (k _ s.heap _ (Ext.refl _) (Nat.le_succ _) (.int _ _))
theorem CALL.isStr {x : Str} : CALL C (.builtin "isinstance") [.str x, .fix (.type "str")] (.bool true) := fun G s vs Q E _ _ lo i k => by
  obtain ⟨_, _, rfl, i1, i2⟩ := i.e2
  obtain ⟨t, rfl⟩ := i1.sE
  cases i2.fE
  exact call_isinstance_yes (typeIs_str _ _ _) (by rfl) (by rw [isSubtype_type]; kernel_rfl) (k _ s.heap _ (Ext.refl _) (Nat.le_refl _) (.bool _))
theorem CALL.isBool {b : Bool} : CALL C (.builtin "isinstance") [.bool b, .fix (.type "bool")] (.bool true) := fun G s vs Q E _ _ lo i k => by
  obtain ⟨_, _, rfl, i1, i2⟩ := i.e2
  cases i1.bE
  cases i2.fE
  exact call_isinstance_yes (Tx := "bool") rfl (by rfl) (by rw [isSubtype_type]; kernel_rfl) (k _ s.heap _ (Ext.refl _) (Nat.le_refl _) (.bool _))
theorem CALL.notStr {j : Int} : CALL C (.builtin "isinstance") [.int j, .fix (.type "str")] (.bool false) := fun G s vs Q E _ _ lo i k => by
  obtain ⟨_, _, rfl, i1, i2⟩ := i.e2
  obtain ⟨t, rfl⟩ := i1.iE
  cases i2.fE
  refine PySem.call_isinstance (isinstance_false_int (T := "str") (by decide) (by rfl) PySem.sub_int_str) ?_
  exact k _ s.heap _ (Ext.refl _) (Nat.le_succ _) (.bool _)
theorem CALL.int {i : Int} : CALL C (.type "int") [.int i] (.int i) := fun G s vs Q E _ _ lo ii k => by
  obtain ⟨_, rfl, i1⟩ := ii.e1
  obtain ⟨t, rfl⟩ := i1.iE
  exact call_int_int (k _ s.heap _ (Ext.refl _) (Nat.le_refl _) (.int _ _))
/-- a method of a thing -/
def METH (C : FC) (name : Str) (a : PV) (id : String) : Prop := C.Good → ∀ (s : Shared) (v : Value) (pl : Sem Bool) (Q : Value × List Value → Shared → Prop) (E : Value → Shared → Prop), Is C.w C.ok s.heap a v → Q (.builtin id, [v]) s → wpAny (model PR C.w) C.A (getMethod v name pl) Q E s
theorem METH.join {x : Str} : METH C "join" (.str x) "str.join" := fun G s v pl Q E i h => by
  obtain ⟨t, rfl⟩ := i.sE
  exact GM.join h
theorem METH.index {xs : List PV} : METH C "index" (.list xs) "list.index" := fun G s v pl Q E i h => by
  obtain ⟨a, vs, n, rfl, o1, g1, il⟩ := i.lE
  exact getMethod_list_of PySem.F.slot_list_index PySem.F.type_list_index (isList g1) ⟨_, g1, rfl⟩ h
theorem EV.meth1 {o e : PySem.Expr} {name : Str} {p2 p3 : Pos} {a b r : PV} {id : String} (ho : EV C μ o a) (hm : METH C name a id) (he : EV C μ e b) (hc : CALL C (.builtin id) [a, b] r) (h1 : starEach [e] C.env = (false, eval e C.env) :: starEach [] C.env) (pl : Sem Bool)
    (h5 : eval (.Call (.Attribute o name p2) [e] [] p3) C.env = (do
      let ov ← eval o C.env
      standAt p2.atName
      let (f, first) ← holding [ov] (getMethod ov name pl)
      callWith p3 f first (backTo p3 (starEach [e] C.env)) [])) : EV C μ (.Call (.Attribute o name p2) [e] [] p3) r := fun G s Q E S lo k =>
  MethodCall_ (pl := pl) (ho G s _ _ S lo fun v h1' t1 e1 l1 i1 => hm G _ v _ _ _ i1 (callWith_method1 (first := [v]) (args_cons (he G _ _ _ (S.ext e1) (Nat.le_trans lo l1) fun u h2 t2 e2 l2 i2 => args_nil
    (hc G _ [v, u] _ _ ((S.ext e1).ext e2).keep ((S.ext e1).ext e2).fresh (Nat.le_trans lo (Nat.le_trans l1 l2)) (.cons (i1.ext e2) (.cons i2 .nil)) fun w h3 t3 e3 l3 i3 => k w h3 t3 (e1.trans (e2.trans e3)) (Nat.le_trans l1 (Nat.le_trans l2 l3)) i3)) h1) h1 rfl)) h5
end
end
section
theorem DK.find : ∀ {kvs : List (Str × Int)} {es : List (Str × Value)}, DK kvs es → ∀ {x : Str} {i : Int}, kvs.lookup x = some i → ∃ u, valueAt es x = some (.int i u)
  | [], [], _, x, i, e => by cases e
  | (k, j) :: r, (k', v) :: es, h, x, i, e => by
    obtain ⟨⟨rfl, u, rfl⟩, h2⟩ := h
    rw [List.lookup_cons] at e
    unfold valueAt
    by_cases hx : k' = x
    · subst hx
      rw [beq_self_eq_true] at e
      cases e
      exact ⟨u, by simp⟩
    · rw [show (x == k') = false from by simpa using Ne.symm hx] at e
      obtain ⟨u', h'⟩ := DK.find h2 e
      exact ⟨u', by rw [List.find?_cons, show decide (k' = x) = false from by simpa using hx]; exact h'⟩
/-- a number put at a word that stands -/
def put (kvs : List (Str × Int)) (x : Str) (i : Int) : List (Str × Int) := kvs.map fun p => if p.1 = x then (p.1, i) else p
theorem DK.put : ∀ {kvs : List (Str × Int)} {es : List (Str × Value)}, DK kvs es → ∀ {x : Str} {i : Int} {u : Tok}, DK (Mine.put kvs x i) (es.map fun kv => if kv.1 = x then (kv.1, .int i u) else kv)
  | [], [], _, _, _, _ => trivial
  | (k, j) :: r, (k', v) :: es, h, x, i, u => by
    obtain ⟨⟨rfl, t, rfl⟩, h2⟩ := h
    show DK (_ :: Mine.put r x i) (_ :: es.map _)
    by_cases hx : k' = x
    · simp only [hx, if_true]; exact ⟨⟨rfl, u, rfl⟩, DK.put h2⟩
    · simp only [hx, if_false]; exact ⟨⟨rfl, t, rfl⟩, DK.put h2⟩
theorem DK.any : ∀ {kvs : List (Str × Int)} {es : List (Str × Value)}, DK kvs es → ∀ {x : Str} {i : Int}, kvs.lookup x = some i → (es.any fun kv => kv.1 = x) = true
  | [], [], _, x, i, e => by cases e
  | (k, j) :: r, (k', v) :: es, h, x, i, e => by
    obtain ⟨⟨rfl, u, rfl⟩, h2⟩ := h
    rw [List.lookup_cons] at e
    rw [List.any_cons]
    by_cases hx : k' = x
    · simp [hx]
    · rw [show (x == k') = false from by simpa using Ne.symm hx] at e
      rw [DK.any h2 e, Bool.or_true]
theorem DK.length : ∀ {kvs : List (Str × Int)} {es : List (Str × Value)}, DK kvs es → es.length = kvs.length
  | [], [], _ => rfl
  | _ :: _, _ :: _, h => by rw [List.length_cons, List.length_cons, DK.length h.2]
section
variable {C : FC} {μ : Vars}
theorem ITEM.dct {kvs : List (Str × Int)} {x : Str} {i : Int} (hx : kvs.lookup x = some i) : ITEM C (.dct kvs) (.str x) (.int i) := fun G s o v Q E _ _ lo io iv k => by
  obtain ⟨t, rfl⟩ := iv.sE
  cases io with
  | dct hok ho hd hi =>
    obtain ⟨u, hu⟩ := hi.find hx
    have hD := Heap.dictOf_iff.mpr ⟨_, ho, hd⟩
    exact ⟨"dict", _, slot_dict_getitem.lookup, hD.typeIs, wpAny_getItem_of (strKind_is PR C.w x t) hD.mapOf hu (k _ s.heap _ (Ext.refl _) (Nat.le_succ _) (.int _ _))⟩
/-- an item of the dict that grows -/
theorem EV.itemM {x : Str} {p pos : Pos} {slice : PySem.Expr} {kvs : List (Str × Int)} {y : Str} {i : Int} (hx : x = C.mx) (hr : μ.lookup ("@" : Str) = some (.dct kvs)) (hd : (C.mx == ("__debug__" : Str)) = false) (hs : EV C μ slice (.str y)) (hy : kvs.lookup y = some i)
    (ht : ∀ o i, subscripted slice false o i = operate [o, i] (getItem o i)) : EV C μ (.Subscript (.Name x p) slice pos) (.int i) := fun G s Q E S lo k => by
  subst hx
  refine Subscript_ (name_mx G S hr hd (hs G s _ _ S lo fun v h1 t1 e1 l1 i1 => ?_))
  obtain ⟨t, rfl⟩ := i1.sE
  obtain ⟨⟨o, es, ho, hO, hk⟩, _⟩ := (S.ext e1).mu _ hr
  obtain ⟨u, hu⟩ := hk.find hy
  have hD := Heap.dictOf_iff.mpr ⟨_, ho, hO⟩
  exact tail_of (C := C) ⟨"dict", _, slot_dict_getitem.lookup, hD.typeIs, wpAny_getItem_of (strKind_is PR C.w y t) hD.mapOf hu (k _ h1 _ e1 (Nat.le_succ_of_le l1) (.int _ _))⟩ (ht _ _)
/-- d[e] = v -/
theorem EX.setM {x : Str} {p p' pos : Pos} {slice value : PySem.Expr} {kvs : List (Str × Int)} {y : Str} {i j : Int} (hx : x = C.mx) (hr : μ.lookup ("@" : Str) = some (.dct kvs)) (hd : (C.mx == ("__debug__" : Str)) = false) (hv : EV C μ value (.int i)) (hs : EV C μ slice (.str y)) (hy : kvs.lookup y = some j) (hsz : kvs.length ≤ 4096)
    (hsw : swapsWith value (some (.Subscript (.Name x p) slice p')) pos.line C.env = pure false) : EX C μ (.Assign [.Subscript (.Name x p) slice p'] value pos) (.next (("@", .dct (put kvs y i)) :: μ)) := fun G s Q S lo k => by
  subst hx
  refine wpAny_Assign_Subscript (hv G s _ _ S lo fun v h1 t1 e1 l1 i1 => name_mx G (S.ext e1) hr hd (hs G _ _ _ (S.ext e1) (Nat.le_trans lo l1) fun w h2 t2 e2 l2 i2 => ?_)) hsw
  obtain ⟨t, rfl⟩ := i2.sE
  obtain ⟨u, rfl⟩ := i1.iE
  have S₂ := (S.ext e1).ext e2
  obtain ⟨⟨o, es, ho, hO, hk⟩, _⟩ := S₂.mu _ hr
  refine wpAny_setItem_pairs (hsz := by rw [hk.length]; unfold sizeLine; omega) (strKind_is PR C.w y t) (Heap.dictOf_iff.mpr ⟨_, ho, hO⟩) fun h3 hD hs3 => ?_
  obtain ⟨o', ho', hO'⟩ := Heap.dictOf_iff.mp hD
  unfold stored at hO'
  rw [hk.any hy, if_pos rfl] at hO'
  obtain ⟨S₃, k₃⟩ := S₂.set (r₁ := .dct (put kvs y i)) G hr hs3 ⟨o', _, ho', hO', hk.put⟩ ⟨_, ho'⟩
  exact k .next h3 _ (Nat.le_succ_of_le (Nat.le_trans l1 l2)) ((Keep.of (e1.trans e2)).trans k₃) ⟨rfl, S₃⟩
end
end
section
section
variable {C : FC} {μ : Vars}
theorem merged2 {k0 k1 : Str} {v0 v1 : Value} (h : k0 ≠ k1) : merged [] [(k0, v0), (k1, v1)] = [(k0, v0), (k1, v1)] := by
  unfold merged
  simp [stored, h]
/-- a, b, .. = a dict of two words, .. : the dict begins to grow -/
theorem EXs.mutD {elts es : List PySem.Expr} {x : Str} {px tp pos pd pt : Pos} {k₀ n : Nat} {e0 e1 v0 v1 : PySem.Expr} {rest : List Stmt} {rs : List PV} {r : PV} {a b : Str} {i j : Int} (nps : List (Str × Pos)) (hn : ((x, px) :: nps).map (fun q => PySem.Expr.Name q.1 q.2) = elts)
    (hC : C.ma = C.env.locals) (hk : (C.env.kindOf x == some .local) = true) (hl : rs.length = nps.length) (hsz : rs.length ≤ 16)
    (ha : ((x :: nps.map (·.1)).all fun x => (C.env.kindOf x == some .local || C.env.kindOf x == some .cell) && !(x == C.mx || x == ("@" : Str))) = true)
    (h0 : EV C μ e0 (.str a)) (h1 : EV C μ v0 (.int i)) (h2 : EV C μ e1 (.str b)) (h3 : EV C μ v1 (.int j)) (hab : a ≠ b) (hes : ∀ d, EVs (C.less [d]) μ es rs)
    (hst : starEach (.Dict [some e0, some e1] [v0, v1] pd :: es) C.env = (false, eval (.Dict [some e0, some e1] [v0, v1] pd) C.env) :: starEach es C.env)
    (hs : swapsWithSole [.Tuple elts k₀ tp] (.Tuple (.Dict [some e0, some e1] [v0, v1] pd :: es) n pt) pos.line C.env = pure false) (hw : swappedStores [.Tuple elts k₀ tp] (.Tuple (.Dict [some e0, some e1] [v0, v1] pd :: es) n pt) C.env = pure none)
    {μ' : Vars} (hμ : ∀ v, Sub μ' (((nps.map (·.1)).zip rs).reverse ++ (x, v) :: μ)) (hx : ∀ v, (((nps.map (·.1)).zip rs).reverse ++ (x, v) :: μ).lookup x = some v)
    (h : ∀ d, EXs (C.own d x) (("@", .dct [(a, i), (b, j)]) :: μ') rest (.ret r)) :
    EXs C μ (.Assign [.Tuple elts k₀ tp] (.Tuple (.Dict [some e0, some e1] [v0, v1] pd :: es) n pt) pos :: rest) (.ret r) := fun G s Q S lo k => by
  subst hn
  have hd : s.heap.get? s.heap.objs.size = none := nd (k := 0)
  have hwr : ∀ b ∈ [s.heap.objs.size], s.heap.get? b = none := fun b hb => by rw [List.mem_singleton.mp hb]; exact hd
  refine wpAny_execs_cons (Assign_Tuple (Tuple_ (args_cons (wpAny_Dict_walk (knd := PySem.strKind PR C.w) rfl rfl nofun (by show 2 ≤ 15; decide) ?_) hst)) hs hw)
  have S₀ : Sees C μ (s.heap.push { cls := .type "dict", data := .dict #[] }) := S.ext ext_push
  refine pairTrees_cons_walk (h0 G _ _ _ S₀ lo fun ka g1 t1 x1 l1 y1 => h1 G _ _ _ (S₀.ext x1) (Nat.le_trans lo l1) fun va g2 t2 x2 l2 y2 => pairTrees_cons_walk (h2 G _ _ _ ((S₀.ext x1).ext x2) (Nat.le_trans lo (Nat.le_trans l1 l2)) fun kb g3 t3 x3 l3 y3 => h3 G _ _ _ (((S₀.ext x1).ext x2).ext x3) (Nat.le_trans lo (Nat.le_trans l1 (Nat.le_trans l2 l3))) fun vb g4 t4 x4 l4 y4 => pairTrees_nil_walk ?_))
  obtain ⟨ua, rfl⟩ := y1.sE
  obtain ⟨ub, rfl⟩ := y3.sE
  have E4 := x1.trans (x2.trans (x3.trans x4))
  refine ⟨[(a, va), (b, vb)], ⟨strKind_is PR C.w a ua, rfl, strKind_is PR C.w b ub, rfl, trivial⟩, ?_, fun h' hD hsb => ?_⟩
  · exact let ⟨o, q1, q2⟩ := Heap.dictOf_iff.mp (Heap.DictOf.new (knd := PySem.strKind PR C.w) s.heap); Heap.dictOf_iff.mpr ⟨o, E4 _ _ q1, q2⟩
  rw [merged2 hab] at hD
  obtain ⟨o, ho, hO⟩ := Heap.dictOf_iff.mp hD
  have E' : Ext s.heap h' := fun b o q => (hsb.2 b (Nat.ne_of_lt (Heap.lt_size q))).trans (E4 _ _ (ext_push b o q))
  have S₁ := S.less (wr := [s.heap.objs.size]) E' hwr (fun b hb => by rw [List.mem_singleton.mp hb]; exact ⟨_, ho⟩)
  have W := Off.less (C := C) S hwr
  refine hes s.heap.objs.size (G.less _) _ _ _ _ S₁ (Nat.le_trans lo (Nat.le_trans l1 (Nat.le_trans l2 (Nat.le_trans l3 (Nat.le_trans l4 (Nat.le_add_right _ _)))))) fun vs g5 t5 x5 l5 y5 => wpAny_newTuple (hsz := by rw [List.length_cons, ← y5.length]; unfold sizeLine; omega) ?_
  have hlen := y5.length
  refine wpAny_assign_Tuple (items := List.toArray (Value.ref s.heap.objs.size :: vs)) G.amb.handled ⟨_, Heap.get?_push_size _ rfl, rfl, _, rfl⟩ (by rw [assignEach_names]; simp; omega) (by rw [assignEach_names, List.findIdx?_eq_none_iff]; intro x hx; obtain ⟨q, _, rfl⟩ := List.mem_map.mp hx; rfl) fun g6 x6 => ?_
  have E6 : Ext g5 g6 := fun b o q => x6 b o (Nat.ne_of_lt (Heap.lt_size (ext_push b o q))) (ext_push b o q)
  refine assignNames (G.less _) (x :: nps.map (·.1)) _ (.fix (.ref s.heap.objs.size) :: rs) (.ref s.heap.objs.size :: vs) μ _ _ _ (fun t y hm s v Q E h => ?_) (by rw [assignEach_names]; simp) (by simpa using hl) ha ((S₁.ext x5).ext E6) (.cons (.fix _) (y5.ext E6)) fun h₂ t₂ l₂ k₂ S₂ => ?_
  · rw [assignEach_names, List.map_map, show x :: nps.map (·.1) = ((x, px) :: nps).map (·.1) from rfl, List.zip_map'] at hm
    obtain ⟨q, _, e⟩ := List.mem_map.mp hm
    cases e
    exact wpAny_assign_Name h
  rw [show ((x :: nps.map (·.1)).zip (PV.fix (.ref s.heap.objs.size) :: rs)).reverse ++ μ = ((nps.map (·.1)).zip rs).reverse ++ (x, PV.fix (.ref s.heap.objs.size)) :: μ by rw [List.zip_cons_cons, List.reverse_cons, List.append_assoc]; rfl] at S₂
  have hm1 := List.mem_singleton.mpr (rfl : s.heap.objs.size = s.heap.objs.size)
  have g := k₂ _ o (W.lo _ hm1) (W.ma _ hm1) (fun y => W.ce _ hm1 y) (E6 _ _ (x5 _ _ ho))
  have okr : C.okr s.heap.objs.size := G.okr _ (S.fresh _ hd)
  have S₃ := Sees.toOwn (C := C) (a := s.heap.objs.size) (x := x) (r₀ := .dct [(a, i), (b, j)]) S₂ G (hx _) (hμ _) (eq_of_beq hk) ⟨o, _, g, hO, ⟨⟨rfl, y2.iE.imp fun _ e => e⟩, ⟨rfl, y4.iE.imp fun _ e => e⟩, trivial⟩⟩ okr W ⟨_, g⟩
  refine h s.heap.objs.size (G.own _ _) ⟨h₂, s.gens, s.drawn, t₂, s.os⟩ Q S₃ (Nat.le_trans lo (Nat.le_trans (Nat.le_trans l1 (Nat.le_trans l2 (Nat.le_trans l3 (Nat.le_trans l4 (Nat.le_trans (Nat.le_add_right _ _) l5))))) l₂)) fun f h' tk' l K oi => k f h' tk' ?_ (fun b o n1 n2 n3 q => K b o n1 (fun z => ?_) n3 (k₂ b o n1 n2 n3 (E6 _ _ (x5 _ _ (E' b o q))))) oi
  · show s.toks ≤ tk'
    exact Nat.le_trans (Nat.le_trans l1 (Nat.le_trans l2 (Nat.le_trans l3 (Nat.le_trans l4 (Nat.le_trans (Nat.le_add_right _ _) l5))))) (Nat.le_trans l₂ l)
  · have z : b = s.heap.objs.size := z
    rw [z, hd] at q; cases q
end
end
section
def bodyAt (i : Nat) : List Stmt := match PR.main.body[i]? with | some (.FunctionDef _ _ b ..) => b | _ => []
def parsAt (i : Nat) : Arguments := match PR.main.body[i]? with | some (.FunctionDef _ a ..) => a | _ => ⟨[], [], none, [], [], none, []⟩
def scopeAt (i : Nat) : Scope := match PR.main.body[i]? with | some (.FunctionDef _ _ _ _ _ _ sc ..) => sc | _ => { kind := .function, names := [], isGenerator := false, isCoroutine := false }
/-- the program's table of operators: word, its token, number, its token -/
def EXE : List (Str × Nat × Int × Nat) := [(Str.ofString "!", 388, 54, 384), (Str.ofString "!=", 390, 28, 332), (Str.ofString "%", 392, 24, 324), (Str.ofString "%=", 394, 40, 356), (Str.ofString "&", 396, 19, 314), (Str.ofString "&=", 398, 41, 358), (Str.ofString "(", 400, 7, 290), (Str.ofString ")", 402, 8, 292), (Str.ofString "*", 404, 16, 308), (Str.ofString "**", 406, 35, 346), (Str.ofString "**=", 408, 46, 368), (Str.ofString "*=", 410, 38, 352), (Str.ofString "+", 412, 14, 304), (Str.ofString "+=", 414, 36, 348), (Str.ofString ",", 416, 12, 300), (Str.ofString "-", 418, 15, 306), (Str.ofString "-=", 420, 37, 350), (Str.ofString "->", 422, 51, 378), (Str.ofString ".", 424, 23, 322), (Str.ofString "...", 426, 52, 380), (Str.ofString "/", 428, 17, 310), (Str.ofString "//", 430, 47, 370), (Str.ofString "//=", 432, 48, 372), (Str.ofString "/=", 434, 39, 354), (Str.ofString ":", 436, 11, 298), (Str.ofString ":=", 438, 53, 382), (Str.ofString ";", 440, 13, 302), (Str.ofString "<", 442, 20, 316), (Str.ofString "<<", 444, 33, 342), (Str.ofString "<<=", 446, 44, 364), (Str.ofString "<=", 448, 29, 334), (Str.ofString "=", 450, 22, 320), (Str.ofString "==", 452, 27, 330), (Str.ofString ">", 454, 21, 318), (Str.ofString ">=", 456, 30, 336), (Str.ofString ">>", 457, 34, 344), (Str.ofString ">>=", 458, 45, 366), (Str.ofString "@", 459, 49, 374), (Str.ofString "@=", 460, 50, 376), (Str.ofString "[", 461, 9, 294), (Str.ofString "]", 462, 10, 296), (Str.ofString "^", 463, 32, 340), (Str.ofString "^=", 464, 43, 362), (Str.ofString "{", 465, 25, 326), (Str.ofString "|", 466, 18, 312), (Str.ofString "|=", 467, 42, 360), (Str.ofString "}", 468, 26, 328), (Str.ofString "~", 469, 31, 338)]
def exE (P : Params) : List DictEntry := EXE.map fun e => ⟨PyData.keyHash P e.1, .str e.1 e.2.1, .int e.2.2.1 e.2.2.2⟩
theorem FnAt.mk {K : Params → Frag} {w : World} {f : Addr} {name qual : Str} {params : Arguments} {body : List Stmt} {scope : Scope} {oc doc pm cdv ct : Value} {od an : Option Addr} {osl : Array (Option Value)}
    (ho : (K w.params).lookup f = some ⟨oc, od, .func (fnOf name qual params body scope .none .none doc pm an cdv ct), osl⟩) (hcd : codeIn (K w.params) cdv qual = true) : FnAt K w f name qual params body scope := ⟨_, _, _, _, _, _, _, _, ho, hcd⟩
/-- the names that the defs ask for -/
def GT : List (Str × Option Value) := [(Str.ofString "_ellipsis_match", some (.ref 21)), (Str.ofString "not_", some (.ref 28)), (Str.ofString "add", some (.ref 35)), (Str.ofString "and_", some (.ref 42)), (Str.ofString "mul", some (.ref 49)), (Str.ofString "or_", some (.ref 56)), (Str.ofString "sub", some (.ref 63)), (Str.ofString "xor", some (.ref 70)), (Str.ofString "contains", some (.ref 77)), (Str.ofString "getitem", some (.ref 84)), (Str.ofString "indexOf", some (.ref 91)), (Str.ofString "ISNONTERMINAL", some (.ref 101)), (Str.ofString "ISEOF", some (.ref 108)), (Str.ofString "_law_symbols", some (.ref 113)), (Str.ofString "_law_deeds", some (.ref 120)), (Str.ofString "_law_says", some (.ref 127)), (Str.ofString "_law_atom", some (.ref 132)), (Str.ofString "_law_page", some (.ref 139)), (Str.ofString "_law_masks", some (.ref 146)), (Str.ofString "_law_told", some (.ref 151)), (Str.ofString "_law_words", some (.ref 156)), (Str.ofString "law", some (.ref 161)), (Str.ofString "EXACT_TOKEN_TYPES", some (.ref 92)), (Str.ofString "ELLIPSIS_MARKER", some (.str (Str.ofString "...") 189)), (Str.ofString "ENDMARKER", some (.int 0 288)), (Str.ofString "NT_OFFSET", some (.int 256 386)), (Str.ofString "len", none), (Str.ofString "max", none), (Str.ofString "min", none), (Str.ofString "range", none), (Str.ofString "enumerate", none), (Str.ofString "zip", none), (Str.ofString "isinstance", none), (Str.ofString "int", none), (Str.ofString "str", none), (Str.ofString "bool", none), (Str.ofString "sum", none)]
/-- what the defs ask of the text's heap -/
structure Knows (K : Params → Frag) : Prop where
  g : ∀ P x v, GT.lookup x = some v → nsIn (K P) mainGlobals x = some v
  t92 : ∀ P, (K P).lookup 92 = some ⟨.type "dict", none, .dict (exE P).toArray 48, #[]⟩
  o2 : ∀ P, (K P).lookup 2 = some ⟨.none, none, .dict #[] 0, #[]⟩
  k21 : ∀ P, keepIn (K P) (.ref 21) = true
  k28 : ∀ P, keepIn (K P) (.ref 28) = true
  k35 : ∀ P, keepIn (K P) (.ref 35) = true
  k42 : ∀ P, keepIn (K P) (.ref 42) = true
  k49 : ∀ P, keepIn (K P) (.ref 49) = true
  k56 : ∀ P, keepIn (K P) (.ref 56) = true
  k63 : ∀ P, keepIn (K P) (.ref 63) = true
  k70 : ∀ P, keepIn (K P) (.ref 70) = true
  k77 : ∀ P, keepIn (K P) (.ref 77) = true
  k84 : ∀ P, keepIn (K P) (.ref 84) = true
  k91 : ∀ P, keepIn (K P) (.ref 91) = true
  k101 : ∀ P, keepIn (K P) (.ref 101) = true
  k108 : ∀ P, keepIn (K P) (.ref 108) = true
  k113 : ∀ P, keepIn (K P) (.ref 113) = true
  k120 : ∀ P, keepIn (K P) (.ref 120) = true
  k127 : ∀ P, keepIn (K P) (.ref 127) = true
  k132 : ∀ P, keepIn (K P) (.ref 132) = true
  k139 : ∀ P, keepIn (K P) (.ref 139) = true
  k146 : ∀ P, keepIn (K P) (.ref 146) = true
  k151 : ∀ P, keepIn (K P) (.ref 151) = true
  k156 : ∀ P, keepIn (K P) (.ref 156) = true
  k161 : ∀ P, keepIn (K P) (.ref 161) = true
  f21 : ∀ w, FnAt K w 21 (Str.ofString "_ellipsis_match") (Str.ofString "_ellipsis_match") (parsAt 2) (bodyAt 2) (scopeAt 2)
  f28 : ∀ w, FnAt K w 28 (Str.ofString "not_") (Str.ofString "not_") (parsAt 4) (bodyAt 4) (scopeAt 4)
  f35 : ∀ w, FnAt K w 35 (Str.ofString "add") (Str.ofString "add") (parsAt 5) (bodyAt 5) (scopeAt 5)
  f42 : ∀ w, FnAt K w 42 (Str.ofString "and_") (Str.ofString "and_") (parsAt 6) (bodyAt 6) (scopeAt 6)
  f49 : ∀ w, FnAt K w 49 (Str.ofString "mul") (Str.ofString "mul") (parsAt 7) (bodyAt 7) (scopeAt 7)
  f56 : ∀ w, FnAt K w 56 (Str.ofString "or_") (Str.ofString "or_") (parsAt 8) (bodyAt 8) (scopeAt 8)
  f63 : ∀ w, FnAt K w 63 (Str.ofString "sub") (Str.ofString "sub") (parsAt 9) (bodyAt 9) (scopeAt 9)
  f70 : ∀ w, FnAt K w 70 (Str.ofString "xor") (Str.ofString "xor") (parsAt 10) (bodyAt 10) (scopeAt 10)
  f77 : ∀ w, FnAt K w 77 (Str.ofString "contains") (Str.ofString "contains") (parsAt 11) (bodyAt 11) (scopeAt 11)
  f84 : ∀ w, FnAt K w 84 (Str.ofString "getitem") (Str.ofString "getitem") (parsAt 12) (bodyAt 12) (scopeAt 12)
  f91 : ∀ w, FnAt K w 91 (Str.ofString "indexOf") (Str.ofString "indexOf") (parsAt 13) (bodyAt 13) (scopeAt 13)
  f101 : ∀ w, FnAt K w 101 (Str.ofString "ISNONTERMINAL") (Str.ofString "ISNONTERMINAL") (parsAt 66) (bodyAt 66) (scopeAt 66)
  f108 : ∀ w, FnAt K w 108 (Str.ofString "ISEOF") (Str.ofString "ISEOF") (parsAt 67) (bodyAt 67) (scopeAt 67)
  f113 : ∀ w, FnAt K w 113 (Str.ofString "_law_symbols") (Str.ofString "_law_symbols") (parsAt 69) (bodyAt 69) (scopeAt 69)
  f120 : ∀ w, FnAt K w 120 (Str.ofString "_law_deeds") (Str.ofString "_law_deeds") (parsAt 70) (bodyAt 70) (scopeAt 70)
  f127 : ∀ w, FnAt K w 127 (Str.ofString "_law_says") (Str.ofString "_law_says") (parsAt 71) (bodyAt 71) (scopeAt 71)
  f132 : ∀ w, FnAt K w 132 (Str.ofString "_law_atom") (Str.ofString "_law_atom") (parsAt 72) (bodyAt 72) (scopeAt 72)
  f139 : ∀ w, FnAt K w 139 (Str.ofString "_law_page") (Str.ofString "_law_page") (parsAt 73) (bodyAt 73) (scopeAt 73)
  f146 : ∀ w, FnAt K w 146 (Str.ofString "_law_masks") (Str.ofString "_law_masks") (parsAt 74) (bodyAt 74) (scopeAt 74)
  f151 : ∀ w, FnAt K w 151 (Str.ofString "_law_told") (Str.ofString "_law_told") (parsAt 75) (bodyAt 75) (scopeAt 75)
  f156 : ∀ w, FnAt K w 156 (Str.ofString "_law_words") (Str.ofString "_law_words") (parsAt 76) (bodyAt 76) (scopeAt 76)
  f161 : ∀ w, FnAt K w 161 (Str.ofString "law") (Str.ofString "law") (parsAt 77) (bodyAt 77) (scopeAt 77)
end
section
/-- the defs' places -/
def FK : List Addr := [21, 28, 35, 42, 49, 56, 63, 70, 77, 84, 91, 101, 108, 113, 120, 127, 132, 139, 146, 151, 156, 161]
theorem Knows.kp {K : Params → Frag} (h : Knows K) (P : Params) (f : Addr) (hf : FK.contains f = true) : keepIn (K P) (.ref f) = true := by
  have hm := List.contains_iff_mem.mp hf
  unfold FK at hm
  simp only [List.mem_cons, List.not_mem_nil, or_false] at hm
  rcases hm with rfl | rfl | rfl | rfl | rfl | rfl | rfl | rfl | rfl | rfl | rfl | rfl | rfl | rfl | rfl | rfl | rfl | rfl | rfl | rfl | rfl | rfl
  · exact h.k21 P
  · exact h.k28 P
  · exact h.k35 P
  · exact h.k42 P
  · exact h.k49 P
  · exact h.k56 P
  · exact h.k63 P
  · exact h.k70 P
  · exact h.k77 P
  · exact h.k84 P
  · exact h.k91 P
  · exact h.k101 P
  · exact h.k108 P
  · exact h.k113 P
  · exact h.k120 P
  · exact h.k127 P
  · exact h.k132 P
  · exact h.k139 P
  · exact h.k146 P
  · exact h.k151 P
  · exact h.k156 P
  · exact h.k161 P
theorem exC {α : Type} {n : Nat} : ∀ {vs : List α}, vs.length = n + 1 → ∃ a t, vs = a :: t ∧ t.length = n
  | a :: t, h => ⟨a, t, rfl, Nat.succ.inj h⟩
theorem vs1 {P : List Value → Prop} (h : ∀ a, P [a]) (vs : List Value) (e : vs.length = 1) : P vs := by
  obtain ⟨a, t, rfl, e2⟩ := exC e
  cases List.length_eq_zero_iff.mp e2
  exact h a
theorem vs2 {P : List Value → Prop} (h : ∀ a b, P [a, b]) (vs : List Value) (e : vs.length = 2) : P vs := by
  obtain ⟨a, t, rfl, e2⟩ := exC e
  exact vs1 (P := fun t => P (a :: t)) (h a) t e2
theorem vs3 {P : List Value → Prop} (h : ∀ a b c, P [a, b, c]) (vs : List Value) (e : vs.length = 3) : P vs := by
  obtain ⟨a, t, rfl, e2⟩ := exC e
  exact vs2 (P := fun t => P (a :: t)) (h a) t e2
theorem vs4 {P : List Value → Prop} (h : ∀ a b c d, P [a, b, c, d]) (vs : List Value) (e : vs.length = 4) : P vs := by
  obtain ⟨a, t, rfl, e2⟩ := exC e
  exact vs3 (P := fun t => P (a :: t)) (h a) t e2
theorem Fn.to {K : Params → Frag} {w : World} {n : Nat} {f : Addr} {rs : List PV} {r r' : PV} (h : Fn K w n f rs r) (e : r = r') : Fn K w n f rs r' := e ▸ h
theorem fm {a b : Int} (hb : 0 < b) : a.fmod b = a % b := Int.fmod_eq_emod_of_nonneg a (Int.le_of_lt hb)
theorem fm2 {a : Int} : a.fmod 2 = a % 2 := fm (by decide)
theorem fm3 {a : Int} : a.fmod 3 = a % 3 := fm (by decide)
theorem item1 {x : Str} {i : Int} : (Txt.item x i).length = 1 := len_item x i
theorem slen {x y : Str} : (x ++ y).length = x.length + y.length := strLen_append x y
theorem slz {x : Str} {n : Nat} {a b : Option Int} (h : x.length ≤ n) : (Txt.slice x a b).length ≤ n := Nat.le_trans (PyProof.Txt.length_slice_le x a b) h
theorem get_d {α : Type} {l : List α} {i : Nat} {d : α} (h : i < l.length) : l[i]? = some (l[i]?.getD d) := by rw [List.getElem?_eq_getElem h]; rfl
theorem mul2ok {a : Int} : IntMulOk a 2 := by
  have h : ¬ (Builtin.Int.intBits 2 > shortFactorBits) := by decide
  unfold IntMulOk
  simp [h]
theorem powne {n : Nat} : (2 : Int) ^ n ≠ 0 := by
  have := Int.pow_pos (n := 2) (m := n) (by decide)
  omega
theorem powpl {a : Int} {n : Nat} (h : n < 30) : Builtin.divisionGoesByPylong a (2 ^ n) = false := PyProof.noPylong_small (by
  rw [Int.natAbs_pow]
  exact Nat.lt_of_lt_of_le (Nat.pow_lt_pow_right (by decide) h) (by decide))
theorem powbits {q : Int} (h : q < 1000) : ((Builtin.Int.intBits 2 : Nat) : Int) * q ≤ 2 ^ 27 := by
  rw [show Builtin.Int.intBits 2 = 2 from by decide]
  omega
theorem bounds_from {a n : Nat} (h : a ≤ n) : sliceBounds (some (a : Int)) none none n = ((a : Int), (n : Int), 1) := by
  simp only [sliceBounds, Option.getD_none]
  have h1 : ¬ ((a : Int) < 0) := by omega
  simp only [h1, if_false, show (1 : Int) > 0 by decide, if_true]
  congr 1
  omega
theorem pick_from {α : Type} (l : List α) (a : Nat) (ha : a ≤ l.length) : pick l (some (a : Int)) none = l.drop a := by
  unfold pick
  rw [bounds_from ha]
  simp only [sliceRange_one]
  have := pick_run l.toArray a (l.length - a)
  simp only [List.getElem?_toArray] at this
  rw [this, List.take_of_length_le (by rw [List.length_drop]; exact Nat.le_refl _)]
theorem SLICE.listE {C : FC} {xs ys : List PV} {lo hi : Option Int} (hr : pick xs lo hi = ys) (hx : xs.length ≤ sizeLine) : SLICE C (.list xs) lo hi (.list ys) := hr ▸ SLICE.list hx
theorem EV.conv {C : FC} {μ : Vars} {e : PySem.Expr} {r r' : PV} (h : EV C μ e r) (x : r = r') : EV C μ e r' := x ▸ h
theorem EX.conv {C : FC} {μ : Vars} {st : Stmt} {o o' : Out} (h : EX C μ st o) (x : o = o') : EX C μ st o' := x ▸ h
theorem all_kept {α : Type} (l : List α) : (l.filter fun _ => true) = l := List.filter_eq_self.mpr fun _ _ => rfl
theorem pick_map {α β : Type} (f : α → β) (l : List α) (lo hi : Option Int) : pick (l.map f) lo hi = (pick l lo hi).map f := by
  unfold pick
  rw [List.length_map, List.map_filterMap]
  exact congrArg (fun g => List.filterMap g _) (funext fun i => List.getElem?_map)
theorem EX.pre {C : FC} {μ μ₀ : Vars} {st : Stmt} {o : Out} (h : EX C μ₀ st o) (hs : Sub μ₀ μ) : EX C μ st o := fun G s Q S k => h G s Q (S.sub (sub_of hs)) k
theorem intok {x : Int} {n : Nat} (h : n ≤ 60) : IntMulOk x (2 ^ n) := IntMulOk.of_right (intBits_le_iff.mpr (by
  rw [Int.natAbs_pow]
  exact Nat.pow_lt_pow_right (by decide) (by omega)))
theorem zipIdx_at {α : Type} {l : List α} {q : α × Nat} (h : q ∈ l.zipIdx) : q.1 ∈ l ∧ q.2 < l.length := by
  obtain ⟨i, hi⟩ := List.getElem?_of_mem h
  rw [List.getElem?_zipIdx] at hi
  obtain ⟨x, hx, rfl⟩ := Option.map_eq_some_iff.mp hi
  rw [Nat.zero_add]
  exact ⟨List.mem_of_getElem? hx, (List.getElem?_eq_some_iff.mp hx).1⟩
end
section
abbrev FC.lift (C : FC) (T : Nat) : FC := ⟨C.K, C.w, C.A, C.env, C.h₀, C.ok, C.n, C.okr, C.ma, C.mx, T⟩
section
variable {C : FC} {μ : Vars}
theorem FC.Good.lift (G : C.Good) {T : Nat} : (C.lift T).Good := ⟨G.amb, G.X, G.T, G.fn, G.gl, G.bl, G.notL, G.newL, G.notC, G.apart, G.okr, G.notM, G.hat⟩
theorem Sees.lift {T : Nat} {h : Heap} (S : Sees C μ h) : Sees (C.lift T) μ h := ⟨S.keep, S.fresh, S.ns, S.cells, S.own, S.live, S.mlive, S.mu⟩
theorem Sees.unlift {T : Nat} {h : Heap} (S : Sees (C.lift T) μ h) : Sees C μ h := ⟨S.keep, S.fresh, S.ns, S.cells, S.own, S.live, S.mlive, S.mu⟩
theorem OutIs.unlift {T : Nat} {o : Out} {f : Flow} {h : Heap} (x : OutIs (C.lift T) o f h) : OutIs C o f h := by
  cases o with
  | next μ => exact ⟨x.1, x.2.unlift⟩
  | ret r => exact x
theorem slice_new {w : World} {A : Around} {E : Value → Shared → Prop} {s : Shared} {x : Str} {t uj : Tok} {j : Int} {Q : Value → Shared → Prop} (hx : x.length ≤ sizeLine) (hn : Txt.slice x none (some j) ≠ x)
    (h : ∀ h', Ext s.heap h' → Q (.str (Txt.slice x none (some j)) s.toks) { s with heap := h', toks := s.toks + 1 }) :
    ItemOn (model PR w) A E (.str x t) (.ref s.heap.objs.size) Q { s with heap := s.heap.push { cls := .type "slice", data := .fields #[.none, .int j uj, .none] } } :=
  ⟨"str", _, PySem.F.slot_str_getitem.lookup, typeIs_str _ _ _, wpAny_getItem_str_slice (l := none) (u := some (j, uj)) (st := none) ⟨_, Heap.get?_push_size _ rfl, rfl, rfl⟩ rfl (by
    unfold sliceMade
    by_cases hc : ((((none : Option (Int × Tok)).map (·.1)).getD 1 == 1 && (slicePicked x none (some (j, uj)) none).length == x.length) = true)
    · exact absurd (if_pos hc) hn
    · have e : Txt.slice x none (some j) = ⟨((slicePicked x none (some (j, uj)) none).filterMap (x.cps[·]?)).toArray⟩ := if_neg hc
      rw [if_neg hc]
      rw [e] at h
      exact ⟨by rw [← e]; exact Nat.le_trans (Txt.slice_le x _ _) hx, h _ ext_push⟩)⟩
/-- head = page[:size], a part of the page: a new text; its number is known below -/
theorem EXs.head (hlo : 1 ≤ C.lo) {x y : Str} {px py p p' pos : Pos} {hi : PySem.Expr} {z : Str} {j : Int} {rest : List Stmt} {o : Out} (hy : EV C μ (.Name y py) (.str z)) (hh : EV C μ hi (.int j)) (hz : z.length ≤ sizeLine) (hn : Txt.slice z none (some j) ≠ z)
    (hk : (C.env.kindOf x == some .local || C.env.kindOf x == some .cell) = true) (hs : swapsWith (.Subscript (.Name y py) (.Slice none (some hi) none p) p') (some (.Name x px)) pos.line C.env = pure false) (hm : (x == C.mx || x == ("@" : Str)) = false)
    (h : ∀ t, 1 ≤ t → EXs (C.lift (t + 1)) ((x, .fix (.str (Txt.slice z none (some j)) t)) :: μ) rest o) : EXs C μ (.Assign [.Name x px] (.Subscript (.Name y py) (.Slice none (some hi) none p) p') pos :: rest) o := fun G s Q S lo k => by
  refine wpAny_execs_cons (wpAny_Assign_Name (Subscript_ (hy G s _ _ S lo fun va h1 t1 e1 l1 i1 => wpAny_Slice (wpAny_pure (hh G _ _ _ (S.ext e1) (Nat.le_trans lo l1) fun vu h3 t3 e3 l3 i3 => wpAny_pure ?_)))) hs)
  obtain ⟨ta, rfl⟩ := i1.sE
  obtain ⟨tu, rfl⟩ := i3.iE
  have lt : 1 ≤ t3 := Nat.le_trans hlo (Nat.le_trans lo (Nat.le_trans l1 l3))
  refine tail_of (C := C) (slice_new (s := ⟨h3, s.gens, s.drawn, t3, s.os⟩) hz hn fun h4 e4 => ?_) rfl
  have S4 := ((S.ext e1).ext e3).ext e4
  refine store G (r := .fix (.str (Txt.slice z none (some j)) t3)) (s := ⟨h4, s.gens, s.drawn, t3 + 1, s.os⟩) S4 (.fix _) hk hm fun h5 t5 l5 _ k5 S5 => ?_
  refine h t3 lt G.lift ⟨h5, s.gens, s.drawn, t5, s.os⟩ _ S5.lift l5 fun f h6 t6 l6 k6 oi => k f h6 t6 (Nat.le_trans l1 (Nat.le_trans l3 (Nat.le_trans (Nat.le_succ _) (Nat.le_trans l5 l6)))) ?_ oi.unlift
  exact (Keep.of (e1.trans (e3.trans e4))).trans (k5.trans k6)
theorem EV.asS {e : PySem.Expr} {x : Str} {t : Tok} (h : EV C μ e (.fix (.str x t))) : EV C μ e (.str x) := fun G s Q E S lo k =>
  h G s Q E S lo fun v h' tk' e1 e2 e3 => k v h' tk' e1 e2 (by cases e3; exact .str x t)
theorem is_strs {w : World} {A : Around} {E : Value → Shared → Prop} {s : Shared} {p q : Str} {t u : Tok} {Q : Value → Shared → Prop} (h2 : s.heap.get? 2 = some ⟨.none, none, .dict #[] 0, #[]⟩) (h0 : (t == 0 || u == 0) = false) (hne : (t == u) = false)
    (h1 : p = q → ∀ b, Q (.bool b) s) (h2 : p ≠ q → Q (.bool false) s) : wpAny (model PR w) A (compareOp .Is (.str p t) (.str q u)) Q E s := by
  show wpAny _ A (do return .bool (← isSame (.str p t) (.str q u))) Q E s
  refine wpAny_bind ?_
  by_cases h : p = q
  · refine wpAny_isSame_str h0 ?_ fun b => wpAny_pure (h1 h b)
    exact ⟨_, ⟨_, _, _, ‹_›, rfl, (fun e he => by simp at he), fun _ => rfl⟩, rfl⟩
  · rw [isSame_str_other p q t u h0 hne (by simpa using h)]
    exact wpAny_pure (wpAny_pure (h2 h))
/-- j is b or j == b, j a new sign -/
theorem TV.isOr {j b j' b' : PySem.Expr} {p1 p2 pos : Pos} {c x : Str} {t n : Nat} (hK : Knows C.K) (hj : EV C μ j (.tok c n)) (hb : EV C μ b (.fix (.str x t))) (hj' : EV C μ j' (.tok c n)) (hb' : EV C μ b' (.fix (.str x t))) (h1 : 1 ≤ t) (hn : t < n) (hm : behindInMarks .Is b = false) (hm' : behindInMarks .Eq b' = false) :
    TV C μ (.BoolOp .Or [.Compare j [.Is] [b] p1, .Compare j' [.Eq] [b'] p2] pos) (c == x) := fun G s Q E S lo k => by
  refine isTrue_or (wpAny_isTrue_Compare1 (hj G s _ _ S lo fun va h1' t1 e1 l1 i1 => hb G _ _ _ (S.ext e1) (Nat.le_trans lo l1) fun vb h2 t2 e2 l2 i2 => ?_) hm)
  cases i2.fE
  obtain ⟨u, hu, rfl⟩ : ∃ u, n ≤ u ∧ va = .str c u := by cases i1 with | tok _ _ t e => exact ⟨t, e, rfl⟩
  have e12 := e1.trans e2
  have g2 : h2.get? 2 = some ⟨.none, none, .dict #[] 0, #[]⟩ := (G.X.keeps ((S.ext e1).ext e2).keep) 2 _ (hK.o2 _)
  have z : (u == 0 || t == 0) = false := by
    rw [Bool.or_eq_false_iff, beq_eq_false_iff_ne, beq_eq_false_iff_ne]
    exact ⟨fun q => by rw [q] at hu; exact absurd (Nat.lt_of_lt_of_le hn hu) (Nat.not_lt_zero _), fun q => by rw [q] at h1; exact absurd h1 (by decide)⟩
  have ne : (u == t) = false := by
    rw [beq_eq_false_iff_ne]
    exact fun q => by rw [q] at hu; exact absurd (Nat.lt_of_lt_of_le hn hu) (Nat.lt_irrefl _)
  have second : ∀ h2 t2, Ext s.heap h2 → s.toks ≤ t2 → wpAny (model PR C.w) C.A (isTrue (.BoolOp .Or [.Compare j' [.Eq] [b'] p2] pos) C.env (eval (.BoolOp .Or [.Compare j [.Is] [b] p1, .Compare j' [.Eq] [b'] p2] pos) C.env)) Q E { s with heap := h2, toks := t2 } := fun h2 t2 e l => by
    refine isTrue_or (wpAny_isTrue_Compare1 (hj' G _ _ _ (S.ext e) (Nat.le_trans lo l) fun va h3 t3 e3 l3 i3 => hb' G _ _ _ ((S.ext e).ext e3) (Nat.le_trans lo (Nat.le_trans l l3)) fun vb h4 t4 e4 l4 i4 => ?_) hm')
    cases i4.fE
    obtain ⟨u, rfl⟩ : ∃ u, va = .str c u := by cases i3 with | tok _ _ t e => exact ⟨t, rfl⟩
    refine eq_str (wpAny_truthy_bool ?_)
    have fin := k h4 t4 (e.trans (e3.trans e4)) (Nat.le_trans l (Nat.le_trans l3 l4))
    cases hc : (c == x) with
    | true => rw [hc] at fin; exact fin
    | false => rw [hc] at fin; exact isTrue_or_nil fin
  refine is_strs g2 z ne (fun e b => wpAny_truthy_bool ?_) fun _ => wpAny_truthy_bool (second h2 t2 e12 (Nat.le_trans l1 l2))
  cases b with
  | true =>
    have fin := k h2 t2 e12 (Nat.le_trans l1 l2)
    rw [e, beq_self_eq_true] at fin
    exact fin
  | false => exact second h2 t2 e12 (Nat.le_trans l1 l2)
end
end
section
section
variable {C : FC} {μ μ' : Vars}
/-- a name is given a new thing, which begins to grow -/
theorem EXs.mutN {x : Str} {px pos : Pos} {e : PySem.Expr} {rest : List Stmt} {r r₀ : PV} (hC : C.ma = C.env.locals) (hk : (C.env.kindOf x == some .local) = true) (hm : (x == C.mx || x == ("@" : Str)) = false) (hs : swapsWith e (some (.Name x px)) pos.line C.env = pure false) (hμ : ∀ v, Sub μ ((x, v) :: μ))
    (he : C.Good → ∀ (s : Shared) (Q : Value → Shared → Prop) (E : Value → Shared → Prop), Sees C μ s.heap → C.lo ≤ s.toks → (∀ d h' tk', Ext s.heap h' → s.toks ≤ tk' → s.heap.get? d = none → (∃ o, h'.get? d = some o) → At C.w (fun b => C.ok b ∧ b ∉ [d]) h' d r₀ → Q (.ref d) { s with heap := h', toks := tk' }) → wpAny (model PR C.w) C.A (eval e C.env) Q E s)
    (h : ∀ a, EXs (C.own a x) (("@", r₀) :: μ) rest (.ret r)) : EXs C μ (.Assign [.Name x px] e pos :: rest) (.ret r) := fun G s Q S lo k => by
  refine wpAny_execs_cons (wpAny_Assign_Name (he G s _ _ S lo fun d h₁ t₁ e₁ l₁ hd hl hA => ?_) hs)
  have hw : ∀ b ∈ [d], s.heap.get? b = none := fun b hb => by rw [List.mem_singleton.mp hb]; exact hd
  have S₁ := S.less (wr := [d]) e₁ hw (fun b hb => by rw [List.mem_singleton.mp hb]; exact hl)
  have W := Off.less (C := C) S hw
  refine store (C := C.less [d]) (s := ⟨h₁, s.gens, s.drawn, t₁, s.os⟩) (G.less _) S₁ (r := .fix (.ref d)) (.fix _) (by rw [show C.env.kindOf x = some .local from eq_of_beq hk]; rfl) hm fun h₂ t₂ l₂ kl k₂ S₂ => ?_
  have hne : d ≠ C.env.locals := W.lo _ (List.mem_singleton.mpr rfl)
  have keep : ∀ b o, b ≠ C.env.locals → h₁.get? b = some o → h₂.get? b = some o := (kl (eq_of_beq hk)).2
  have okr : C.okr d := G.okr _ (S.fresh _ hd)
  have hA₂ : At C.w (C.own d x).ok h₂ d r₀ := hA.mono (fun a o q e => ⟨q, keep a o (fun z => G.notL (z ▸ q.1)) e⟩) fun o e => keep d o hne e
  have S₃ := Sees.toOwn (C := C) (a := d) (x := x) (r₀ := r₀) S₂ G (by rw [List.lookup_cons, beq_self_eq_true]) (hμ _) (eq_of_beq hk) hA₂ okr W (let ⟨o, ho⟩ := hl; ⟨o, keep d o hne ho⟩)
  refine h d (G.own _ _) ⟨h₂, s.gens, s.drawn, t₂, s.os⟩ Q S₃ (Nat.le_trans lo (Nat.le_trans l₁ l₂)) fun f h' tk' l K oi => k f h' tk' (Nat.le_trans l₁ (Nat.le_trans l₂ l)) (fun b o n1 n2 n3 q => K b o n1 (fun z => ?_) n3 (k₂ b o n1 n2 n3 (e₁ b o q))) oi
  have z : b = d := z
  rw [z, hd] at q; cases q
theorem split_new {w : World} {A : Around} {E : Value → Shared → Prop} {s : Shared} {x y : Str} {t u : Tok} {Q : Value → Shared → Prop} (h1 : (decide (x.length < y.length) || decide (Builtin.Str.strKind x < Builtin.Str.strKind y)) = false) (hy : (y.length == 0) = false) (hf : (Builtin.Str.occurrences x y 0 x.length (x.length + 1)).isEmpty = false) (hsz : x.length ≤ sizeLine)
    (hsz2 : (Builtin.Str.partsBetween x (Builtin.Str.occurrences x y 0 x.length (x.length + 1)) y.length).length ≤ sizeLine)
    (hq : ∀ l tk', l.map (·.1) = Txt.split x y → s.toks ≤ tk' → Q (.ref s.heap.objs.size) { s with toks := tk', heap := s.heap.push { cls := .type "list", data := .seq (PySem.strValues l).toArray } }) :
    wpAny (model PR w) A (call (.builtin "str.split") [.str x t, .str y u]) Q E s := by
  refine call_meets PySem.F.slot_str_split (typeIs_str _ _ _) PySem.F.entry_str_split (PySem.F.args_str_split_2 _ _) (meets_str_split_sep x y t u h1 hy hf hsz hsz2) ?_
  show wants Q E _ { s with toks := _, heap := s.heap.push { cls := .type "list", data := .seq (strsFrom s.toks (Builtin.Str.partsBetween x (Builtin.Str.occurrences x y 0 x.length (x.length + 1)) y.length)).toArray } }
  rw [strsFrom_eq]
  exact hq _ _ ((numbered_texts _ _).trans ((if_neg (ne_true_of_eq_false h1)).trans (if_neg (ne_true_of_eq_false hf))).symm) (Nat.le_add_right _ _)
theorem is_strs_of {w : World} {ok : Addr → Prop} {h : Heap} : ∀ l : List (Str × Tok), IsL w ok h ((l.map (·.1)).map .str) (PySem.strValues l)
  | [] => .nil
  | (x, t) :: r => .cons (.str x t) (is_strs_of r)
end
theorem gives_find4 (x y : Str) (i j : Int) (t u v z : Tok) : PySem.Gives (Builtin.«str.find» ⟨[.str x t, .str y u, .int i v, .int j z], []⟩)
    (.int (match Builtin.Str.occurrences x y (fromIndex x.length i) (min (fromIndex x.length j) x.length) 1 with | k :: _ => (k : Int) | [] => -1)) := by
  show PySem.Gives (match Builtin.Str.occurrences x y (fromIndex x.length i) (min (fromIndex x.length j) x.length) 1 with | k :: _ => retInt k | [] => (do rule "str.find.not-found"; retInt (-1))) _
  cases Builtin.Str.occurrences x y (fromIndex x.length i) (min (fromIndex x.length j) x.length) 1 with
  | nil => exact .rule (.of_eq rfl)
  | cons k _ => exact .of_eq rfl
/-- x.find(y, i, j) -/
def find4 (x y : Str) (i j : Int) : Int := match Builtin.Str.occurrences x y (fromIndex x.length i) (min (fromIndex x.length j) x.length) 1 with | k :: _ => (k : Int) | [] => -1
theorem call_find4 {prog : Program} {w : World} {A : Around} {E : Value → Shared → Prop} {s : Shared} {x y : Str} {t u v z : Tok} {i j : Int} {Q : Value → Shared → Prop} (hq : Q (.int (find4 x y i j) s.toks) { s with toks := s.toks + 1 }) :
    wpAny (model prog w) A (call (.builtin "str.find") [.str x t, .str y u, .int i v, .int j z]) Q E s :=
  call_gives PySem.F.slot_str_find (typeIs_str _ _ _) PySem.F.entry_str_find (PySem.F.args_str_find_4 _ _ _ _) (gives_find4 x y i j t u v z) hq
/-- the pieces one behind the other -/
def takesAll (y : Str) (e : Int) : List Str → Int → Bool
  | [], _ => true
  | w :: r, a => if find4 y w a e < 0 then false else takesAll y e r (find4 y w a e + w.length)
/-- what _ellipsis_match says of a text cut at its dots -/
def emD (p0 : Str) (mid : List Str) (pn : Str) (y : Str) : Bool :=
  (p0.length == 0 || Txt.startswith y p0) && (pn.length == 0 || Txt.endswith y pn) && decide ((p0.length : Int) ≤ (y.length : Int) - pn.length) &&
    takesAll y ((y.length : Int) - pn.length) ((if p0.length = 0 then [p0] else []) ++ (mid ++ (if pn.length = 0 then [pn] else []))) p0.length
theorem seqIndex_last {n : Nat} : seqIndex? (-1) (n + 1) = some n := by
  rw [seqIndex_neg (by decide) (by omega)]
  exact congrArg some (by omega)
theorem seqIndex_first {n : Nat} : seqIndex? 0 (n + 1) = some 0 := by
  unfold seqIndex?
  simp only [Int.lt_irrefl, if_false]
  rw [if_pos (by simp only [Bool.and_eq_true, decide_eq_true_eq]; omega)]
  rfl
section
variable {C : FC} {μ μ' : Vars}
theorem METH.split {x : Str} : METH C "split" (.str x) "str.split" := fun G s v pl Q E i h => by
  obtain ⟨t, rfl⟩ := i.sE
  exact GM.split h
theorem METH.starts {x : Str} : METH C "startswith" (.str x) "str.startswith" := fun G s v pl Q E i h => by
  obtain ⟨t, rfl⟩ := i.sE
  exact GM.startswith h
theorem METH.ends {x : Str} : METH C "endswith" (.str x) "str.endswith" := fun G s v pl Q E i h => by
  obtain ⟨t, rfl⟩ := i.sE
  exact GM.endswith h
theorem METH.find {x : Str} : METH C "find" (.str x) "str.find" := fun G s v pl Q E i h => by
  obtain ⟨t, rfl⟩ := i.sE
  exact GM.find h
theorem CALL.starts {x y : Str} : CALL C (.builtin "str.startswith") [.str x, .str y] (.bool (Txt.startswith x y)) := fun G s vs Q E _ _ lo i k => by
  obtain ⟨_, _, rfl, i1, i2⟩ := i.e2
  obtain ⟨t, rfl⟩ := i1.sE
  obtain ⟨u, rfl⟩ := i2.sE
  exact SC.startswith (k _ s.heap _ (Ext.refl _) (Nat.le_refl _) (.bool _))
theorem CALL.ends {x y : Str} : CALL C (.builtin "str.endswith") [.str x, .str y] (.bool (Txt.endswith x y)) := fun G s vs Q E _ _ lo i k => by
  obtain ⟨_, _, rfl, i1, i2⟩ := i.e2
  obtain ⟨t, rfl⟩ := i1.sE
  obtain ⟨u, rfl⟩ := i2.sE
  exact SC.endswith (k _ s.heap _ (Ext.refl _) (Nat.le_refl _) (.bool _))
theorem CALL.find4 {x y : Str} {i j : Int} : CALL C (.builtin "str.find") [.str x, .str y, .int i, .int j] (.int (Mine.find4 x y i j)) := fun G s vs Q E _ _ lo i k => by
  obtain ⟨_, _, rfl, i1, i⟩ := i.eC
  obtain ⟨_, _, rfl, i2, i⟩ := i.eC
  obtain ⟨_, _, rfl, i3, i4⟩ := i.e2
  obtain ⟨t, rfl⟩ := i1.sE
  obtain ⟨u, rfl⟩ := i2.sE
  obtain ⟨v, rfl⟩ := i3.iE
  obtain ⟨z, rfl⟩ := i4.iE
  exact call_find4 (k _ s.heap _ (Ext.refl _) (Nat.le_succ _) (.int _ _))
theorem CMP.notIn {a b : Str} : CMP C .NotIn (.str a) (.str b) (.bool (Builtin.Str.occurrences b a 0 b.length 1).isEmpty) := ss fun {E s u v Q} k => P.notIn_str (by rw [Bool.not_not]; exact k _ s.toks (Nat.le_refl _) fun _ => .bool _)
theorem EV.meth {o e : PySem.Expr} {es : List PySem.Expr} {name : Str} {p2 p3 : Pos} {a r : PV} {rs : List PV} {id : String} (ho : EV C μ o a) (hm : METH C name a id) (he : EVs C μ (e :: es) rs) (hc : CALL C (.builtin id) (a :: rs) r) (h1 : starEach (e :: es) C.env = (false, eval e C.env) :: starEach es C.env)
    (hp : (backTo p3 (starEach es C.env)).any (·.1) = false) (pl : Sem Bool)
    (h5 : eval (.Call (.Attribute o name p2) (e :: es) [] p3) C.env = (do
      let ov ← eval o C.env
      standAt p2.atName
      let (f, first) ← holding [ov] (getMethod ov name pl)
      callWith p3 f first (backTo p3 (starEach (e :: es) C.env)) [])) : EV C μ (.Call (.Attribute o name p2) (e :: es) [] p3) r := fun G s Q E S lo k =>
  MethodCall_ (pl := pl) (ho G s _ _ S lo fun v h1' t1 e1 l1 i1 => hm G _ v _ _ _ i1 (callWith_method1 (first := [v]) (he G p3 _ _ _ (S.ext e1) (Nat.le_trans lo l1) fun us h2 t2 e2 l2 i2 =>
    hc G _ (v :: us) _ _ ((S.ext e1).ext e2).keep ((S.ext e1).ext e2).fresh (Nat.le_trans lo (Nat.le_trans l1 l2)) (.cons (i1.ext e2) i2) fun w h3 t3 e3 l3 i3 => k w h3 t3 (e1.trans (e2.trans e3)) (Nat.le_trans l1 (Nat.le_trans l2 l3)) i3) h1 hp)) h5
/-- x = a text cut at another: the list begins to grow -/
theorem EXs.mutSplit {x : Str} {px p2 p3 pos : Pos} {o e : PySem.Expr} {rest : List Stmt} {r : PV} {z y : Str} {ps : List Str} (hC : C.ma = C.env.locals) (hk : (C.env.kindOf x == some .local) = true) (hm : (x == C.mx || x == ("@" : Str)) = false) (hs : swapsWith (.Call (.Attribute o "split" p2) [e] [] p3) (some (.Name x px)) pos.line C.env = pure false)
    (hμ : ∀ v, Sub μ ((x, v) :: μ)) (ho : EV C μ o (.str z)) (he : EV C μ e (.str y)) (hh1 : (decide (z.length < y.length) || decide (Builtin.Str.strKind z < Builtin.Str.strKind y)) = false) (hy : (y.length == 0) = false) (hf : (Builtin.Str.occurrences z y 0 z.length (z.length + 1)).isEmpty = false) (hsz : z.length ≤ sizeLine)
    (hsz2 : (Builtin.Str.partsBetween z (Builtin.Str.occurrences z y 0 z.length (z.length + 1)) y.length).length ≤ sizeLine) (hp : Txt.split z y = ps) (h1 : starEach [e] C.env = (false, eval e C.env) :: starEach [] C.env) (pl : Sem Bool)
    (h5 : eval (.Call (.Attribute o "split" p2) [e] [] p3) C.env = (do
      let ov ← eval o C.env
      standAt p2.atName
      let (f, first) ← holding [ov] (getMethod ov "split" pl)
      callWith p3 f first (backTo p3 (starEach [e] C.env)) []))
    (h : ∀ a, EXs (C.own a x) (("@", .list (ps.map .str)) :: μ) rest (.ret r)) : EXs C μ (.Assign [.Name x px] (.Call (.Attribute o "split" p2) [e] [] p3) pos :: rest) (.ret r) :=
  EXs.mutN hC hk hm hs hμ (fun G s Q E S lo k => MethodCall_ (pl := pl) (ho G s _ _ S lo fun v g1 t1 e1 l1 i1 => METH.split G _ v _ _ _ i1 (callWith_method1 (first := [v]) (args_cons (he G _ _ _ (S.ext e1) (Nat.le_trans lo l1) fun u g2 t2 e2 l2 i2 => args_nil (by
    obtain ⟨tv, rfl⟩ := i1.sE
    obtain ⟨tu, rfl⟩ := i2.sE
    refine split_new hh1 hy hf hsz hsz2 fun l tk hl hle => k g2.objs.size _ tk ((e1.trans e2).trans ext_push) (Nat.le_trans l1 (Nat.le_trans l2 hle)) ?_ ⟨_, Heap.get?_push_size _ rfl⟩ ⟨_, 0, Heap.get?_push_size _ rfl, ?_⟩
    · cases q : s.heap.get? g2.objs.size with
      | none => rfl
      | some o => exact absurd (Heap.lt_size (e2 _ _ (e1 _ _ q))) (Nat.lt_irrefl _)
    · rw [← hp, ← hl]
      exact is_strs_of l)) h1) h1 rfl)) h5) h
/-- an item of the list that grows -/
theorem EV.itemL {x : Str} {p pos : Pos} {slice : PySem.Expr} {xs : List PV} {i : Int} {r : PV} (hx : x = C.mx) (hr : μ.lookup ("@" : Str) = some (.list xs)) (hd : (C.mx == ("__debug__" : Str)) = false) (hs : EV C μ slice (.int i)) (hi : (0 ≤ i ∧ xs[i.toNat]? = some r) ∨ (i = -1 ∧ xs[xs.length - 1]? = some r)) (hb : i < 2 ^ 63)
    (ht : ∀ o i, subscripted slice false o i = operate [o, i] (getItem o i)) : EV C μ (.Subscript (.Name x p) slice pos) r := fun G s Q E S lo k => by
  subst hx
  refine Subscript_ (name_mx G S hr hd (hs G s _ _ S lo fun v h1 t1 e1 l1 i1 => ?_))
  obtain ⟨t, rfl⟩ := i1.iE
  obtain ⟨⟨vs, n, ho, il⟩, _⟩ := (S.ext e1).mu _ hr
  refine tail_of (C := C) ?_ (ht _ _)
  rcases hi with ⟨h0, hi⟩ | ⟨rfl, hi⟩
  · obtain ⟨v, hv, iv⟩ := il.get _ hi
    exact ⟨"list", _, slot_list_getitem.lookup, (isList ho).typeIs, wpAny_getItem_list (isList ho) h0 hb (by simpa using hv) (k v h1 _ e1 l1 iv)⟩
  · obtain ⟨v, hv, iv⟩ := il.get _ hi
    have hlt := (List.getElem?_eq_some_iff.mp hi).1
    have hl := il.length
    refine ⟨"list", _, slot_list_getitem.lookup, (isList ho).typeIs, wpAny_getItem_list_neg (isList ho) (by decide) (by rw [List.size_toArray]; omega) (by decide) ?_ (k v h1 _ e1 l1 iv)⟩
    rw [show ((-1 : Int) + ((vs.toArray.size : Nat) : Int)).toNat = xs.length - 1 by rw [List.size_toArray]; omega]
    simpa using hv
theorem IsL.erase {w : World} {ok : Addr → Prop} {h : Heap} : ∀ {xs : List PV} {vs : List Value}, IsL w ok h xs vs → ∀ k, IsL w ok h (xs.eraseIdx k) (vs.eraseIdx k)
  | _, _, .nil, _ => .nil
  | _, _, .cons _ h2, 0 => h2
  | _, _, .cons h1 h2, k + 1 => .cons h1 (h2.erase k)
/-- del x[i] -/
theorem EX.delM {x : Str} {p p' pos : Pos} {slice : PySem.Expr} {xs : List PV} {i : Int} {k : Nat} (hx : x = C.mx) (hr : μ.lookup ("@" : Str) = some (.list xs)) (hd : (C.mx == ("__debug__" : Str)) = false) (hs : EV C μ slice (.int i)) (hf : Builtin.List.listFitsIndex i = true) (hk : seqIndex? i xs.length = some k) (hsz : xs.length ≤ 4096) :
    EX C μ (.Delete [.Subscript (.Name x p) slice p'] pos) (.next (("@", .list (xs.eraseIdx k)) :: μ)) := fun G s Q S lo kk => by
  subst hx
  refine wpAny_Delete (wpAny_deleteEach_cons (wpAny_delete_Subscript (name_mx G S hr hd (hs G s _ _ S lo fun v h1 t1 e1 l1 i1 => ?_))))
  obtain ⟨t, rfl⟩ := i1.iE
  obtain ⟨⟨vs, n, ho, il⟩, b, _⟩ := (S.ext e1).mu _ hr
  refine delItem_at (hsz := by rw [List.size_toArray, ← il.length]; unfold sizeLine; omega) ho hf (by rw [List.size_toArray, ← il.length]; exact hk) fun h2 hs2 hD2 => wpAny_deleteEach_nil ?_
  have up : ∀ a o, C.ok a → h1.get? a = some o → C.ok a ∧ h2.get? a = some o := fun a o q e => ⟨q, (hs2.2 a fun z => b.1 (z ▸ q)).trans e⟩
  obtain ⟨S2, k2⟩ := (S.ext e1).set (r₁ := .list (xs.eraseIdx k)) G hr hs2 ⟨_, _, hD2, (il.erase k).mono up⟩ ⟨_, hD2⟩
  exact kk .next h2 t1 l1 ((Keep.of e1).trans k2) ⟨rfl, S2⟩
/-- len(x) of the list that grows -/
theorem EV.lenM {f : PySem.Expr} {x : Str} {p pos : Pos} {xs : List PV} (hx : x = C.mx) (hr : μ.lookup ("@" : Str) = some (.list xs)) (hd : (C.mx == ("__debug__" : Str)) = false) (hf : EV C μ f (.fix (.builtin "len"))) (hsz : xs.length ≤ 4096)
    (h1 : eval (.Call f [.Name x p] [] pos) C.env = (do callWith pos (← eval f C.env) [] (backTo pos (starEach [.Name x p] C.env)) (backToKw pos (keywordEach [] C.env)))) (he : starEach [.Name x p] C.env = (false, eval (.Name x p) C.env) :: starEach [] C.env) : EV C μ (.Call f [.Name x p] [] pos) (.int xs.length) := fun G s Q E S lo k => by
  subst hx
  refine Call_ (hf G s _ _ S lo fun v h1 t1 e1 l1 i1 => ?_) h1
  cases i1
  refine PyProof.Rows.callWith_method1 (first := []) (args_cons (name_mx G (S.ext e1) hr hd (args_nil ?_)) he) he rfl
  obtain ⟨⟨vs, n, ho, il⟩, _⟩ := (S.ext e1).mu _ hr
  refine len_list (isList ho) (by rw [List.size_toArray, ← il.length]; omega) (k _ h1 _ e1 (Nat.le_trans l1 (Nat.le_succ_of_le (Nat.le_succ _))) ?_)
  rw [List.size_toArray, ← il.length]
  exact .int _ _
theorem EX.assert {t : PySem.Expr} {m : Option PySem.Expr} {pos : Pos} (ht : TV C μ t true) : EX C μ (.Assert t m pos) (.next μ) := fun G s Q S lo k =>
  wpAny_Assert_holds (ht G s _ _ S lo fun h1 t1 e1 l1 => ⟨rfl, k .next h1 t1 l1 (.of e1) ⟨rfl, S.ext e1⟩⟩)
/-- x += .., x -= .. -/
theorem EX.aug {x : Str} {px pos : Pos} {op : Operator} {value : PySem.Expr} {i j r : Int} (hx : μ.lookup x = some (.int i)) (hk : (C.env.kindOf x == some .local) = true) (hm : (x == C.mx || x == ("@" : Str)) = false) (hv : EV C μ value (.int j))
    (ho : ∀ {s : Shared} {t u : Tok} {Q : Value → Shared → Prop}, Q (.int r s.toks) { s with toks := s.toks + 1 } → wpAny (model PR C.w) C.A (inplaceOp op (.int i t) (.int j u)) Q (fun _ _ => False) s) : EX C μ (.AugAssign (.Name x px) op value pos) (.next ((x, .int r) :: μ)) := fun G s Q S lo k => by
  have hk' := eq_of_beq hk
  obtain ⟨m, hn, hv'⟩ := S.ns
  obtain ⟨v, e1, e2⟩ := hv' x _ hx hk'
  obtain ⟨t, rfl⟩ := e2.iE
  refine wpAny_AugAssign_Name (wpAny_loadName_local G.fn hk' hn e1 (hv G s _ _ S lo fun v h1 t1 e1 l1 i1 => ?_))
  obtain ⟨u, rfl⟩ := i1.iE
  refine ho (store (s := ⟨h1, s.gens, s.drawn, t1 + 1, s.os⟩) G (S.ext e1) (.int r t1) (by rw [hk']; rfl) hm fun h' tk' l2 _ K2 S' => k .next h' tk' (Nat.le_trans l1 (Nat.le_trans (Nat.le_succ _) l2)) ((Keep.of e1).trans K2) ⟨rfl, S'⟩)
end
end
section
/-- an inner loop begins: its iterator is asked for itself once more, or not -/
theorem inner_start {w : World} {A : Around} {R : Result → Shared → Prop} {elt : PySem.Expr} {gens : List Comprehension} {g : Comprehension} {d : Nat} {scope : Scope} {pos : Pos} {it acc : Value} {env : Env} {s : Shared} (hg : gens[d]? = some g) (ha : (g.is_async != 0) = false)
    (h0 : codeAny (model PR w) A (.compLoop (.ListComp elt gens scope pos) d it acc env) R s)
    (h : wpAny (model PR w) A (pyIter it) (fun it' s' => codeAny (model PR w) A (.compLoop (.ListComp elt gens scope pos) d it' acc env) R s') (notedBy (model PR w) A env fun x s' => R (.error x) s') s) :
    codeAny (model PR w) A (.compStart (.ListComp elt gens scope pos) d it acc env) R s := by
  refine codeAny_of_tree ?_
  show wpAny _ _ ((compStart (.ListComp elt gens scope pos) d it acc env).onRaise (fun x => do noteFrame x env; standAt theWindowsPlace)) _ _ s
  refine wpAny_notedAt ?_
  have e : compStart (.ListComp elt gens scope pos) d it acc env = (do
      if (← ask).params.followText "comprehension-iter-twice" then return ← again (.compLoop (.ListComp elt gens scope pos) d it acc env)
      rule "comprehension.iter-twice"
      standAt g.iter.pos
      again (.compLoop (.ListComp elt gens scope pos) d (← pyIter it) acc env)) := by
    unfold compStart
    simp only [clausesOf, hg, Option.elim_some, ha, Bool.false_eq_true, if_false]
  rw [e]
  refine wpAny_bind (wpAny_askSetting (wpAny_ite ?_))
  split
  · exact wpAny_bind (wpAny_pure (wpAny_pure ⟨rfl, h0⟩))
  · exact wpAny_bind (wpAny_rule (wpAny_bind (wpAny_standAt (wpAny_bind (wpAny_mono h (fun it' s' h' => wpAny_pure ⟨rfl, h'⟩) fun _ _ x => x)))))
section
variable {α β : Type} {C : FC} {μ μ₀ : Vars} {scope : Scope} {cl : List (Str × Addr)} {μc : Vars}
/-- an inner loop's values set behind the list -/
theorem EMIT.nest {D : Addr} {elt iter tgt : PySem.Expr} {ifs : List PySem.Expr} {g0 : Comprehension} {pos : Pos} {as : List α} {sh : α → Shp} (OD : Off C [D]) (hF : FD C μ iter tgt as sh) (hfo : ∀ x, foldedSetIterable iter C.env x = pure x) (bd : α → Vars → Vars) (p : α → Bool) (f : α → PV)
    (hb : ∀ a ∈ as, ∀ wr, ASG (C.less wr) tgt (sh a) (bd a)) (hs : ∀ a ∈ as, Sub μ (bd a μ)) (ht : ∀ a ∈ as, ∀ wr, TVs (C.less wr) (bd a μ) ifs (p a)) (he : ∀ a ∈ as, p a = true → ∀ wr, EV (C.less wr) (bd a μ) elt (f a)) (hs0 : Sub μ₀ μ) :
    EMIT C μ μ₀ D (do
      let x ← eval iter C.env
      standAt iter.pos
      let x ← foldedSetIterable iter C.env x
      let _ ← runOwn (.compStart (.ListComp elt [g0, ⟨tgt, iter, ifs, 0⟩] scope pos) 1 (← holding [x] (pyIter x)) (.ref D) C.env) C.env) ((as.filter p).map f) := fun G s Q F ys S lo gD hsz k => by
  refine wpAny_bind (wpAny_mono (hF G s (fun it s2 => codeAny (model PR C.w) C.A (.compStart (.ListComp elt [g0, ⟨tgt, iter, ifs, 0⟩] scope pos) 1 it (.ref D) C.env) (fun r s' => match r with | .ok _ => Q () s' | .error e => cameBackBy (model PR C.w) C.A C.env F e s') s2) F S lo fun I fp wr St h₁ t₁ e₁ l₁ hw hfp st W => ?_)
    (fun x s1 hx => wpAny_bind (wpAny_standAt (wpAny_bind (wpAny_of_eq (hfo x) (wpAny_bind (wpAny_holding (wpAny_mono hx (fun it s2 h2 => wpAny_bind (wpAny_mono (wpAny_runOwn (Q := fun _ s' => Q () s') h2) (fun _ _ q => wpAny_pure q) fun _ _ e => e)) fun _ _ e => e))))))) fun _ _ e => e)
  have S₁ := S.less (wr := wr) e₁ hw (W.live _ _ st)
  have O := Off.less (C := C) S hw
  have hDw : D ∉ wr := fun z => by have q : s.heap.get? D = some _ := gD; rw [hw D z] at q; cases q
  have OD' : Off (C.less wr) [D] := ⟨fun b hb z => OD.ok b hb z.1, OD.lo, OD.ma, OD.ce, OD.ba⟩
  have hm := List.mem_singleton.mpr (rfl : D = D)
  have hfo' : ∀ b ∈ fp, b ≠ C.env.locals ∧ b ≠ D := fun b hb => by
    rcases hfp b hb with z | ⟨z, _⟩
    · exact ⟨O.lo b z, fun q => hDw (q ▸ z)⟩
    · exact ⟨fun q => G.notL (q ▸ z), fun q => OD.ok b (List.mem_singleton.mpr q) z⟩
  have loop : codeAny (model PR C.w) C.A (.compLoop (.ListComp elt [g0, ⟨tgt, iter, ifs, 0⟩] scope pos) 1 (.ref I) (.ref D) C.env) (fun r s' => match r with | .ok _ => Q () s' | .error e => cameBackBy (model PR C.w) C.A C.env F e s') { s with heap := h₁, toks := t₁ } := by
    refine comp_loop (C := C.less wr) (μ := μ) (y0 := ys) (s := ⟨h₁, s.gens, s.drawn, t₁, s.os⟩) (emit := do let _ ← call (.builtin "list.append") [.ref D, ← eval elt C.env]) (ipos := iter.pos) rfl bd p (fun a => [f a]) (fun a ha => hb a ha wr) hs (fun a ha => ht a ha wr) (fun a ha hp => EMIT.one OD' (he a ha hp wr) (hs a ha)) (G.less wr) S₁ (Nat.le_trans lo l₁) O OD' hDw hfo' (fun a q => ⟨q.1, q.2.1⟩) W st (e₁ D _ gD) (by rw [flat1]; exact hsz) fun h₃ t₃ vs l₃ kk hM g₃ i₃ => ?_
    obtain ⟨hm', Sm, km⟩ := hM
    rw [flat1] at i₃
    refine k h₃ t₃ vs (Nat.le_trans l₁ l₃) (fun b o n1 n2 e => kk b o (fun z => by rw [hw b z] at e; cases e) n1 n2 (e₁ b o e)) ((Sm.more G O (fun b hb => S.fresh b (hw b hb)) km).sub (sub_of hs0)) g₃ (i₃.mono fun a o q e => ⟨q.1, e⟩)
  exact inner_start (g := ⟨tgt, iter, ifs, 0⟩) rfl rfl loop (W.self 0 _ _ _ st loop)
/-- a comprehension of two loops -/
theorem EV.comp2 {elt iter tgt iter2 tgt2 : PySem.Expr} {ifs ifs2 : List PySem.Expr} {pos : Pos} {as : List α} {sh : α → Shp} {bs : α → List β} {sh2 : α → β → Shp} (O : CompOk C scope cl μ μc) (hF : FD C μ iter tgt as sh) (bd : α → Vars → Vars) (p : α → Bool) (bd2 : α → β → Vars → Vars) (p2 : α → β → Bool) (f : α → β → PV)
    (hsz : ((as.filter p).flatMap fun a => ((bs a).filter (p2 a)).map (f a)).length ≤ sizeLine) (hb : ∀ a ∈ as, ∀ wr K D, ASG (C.comp scope cl wr K D) tgt (sh a) (bd a)) (hs : ∀ a ∈ as, Sub μc (bd a μc)) (ht : ∀ a ∈ as, ∀ wr K D, TVs (C.comp scope cl wr K D) (bd a μc) ifs (p a))
    (hF2 : ∀ a ∈ as, ∀ wr K D, FD (C.comp scope cl wr K D) (bd a μc) iter2 tgt2 (bs a) (sh2 a)) (hb2 : ∀ a ∈ as, ∀ b ∈ bs a, ∀ wr K D wr', ASG ((C.comp scope cl wr K D).less wr') tgt2 (sh2 a b) (bd2 a b)) (hs2 : ∀ a ∈ as, ∀ b ∈ bs a, Sub (bd a μc) (bd2 a b (bd a μc)))
    (ht2 : ∀ a ∈ as, ∀ b ∈ bs a, ∀ wr K D wr', TVs ((C.comp scope cl wr K D).less wr') (bd2 a b (bd a μc)) ifs2 (p2 a b)) (he2 : ∀ a ∈ as, ∀ b ∈ bs a, p2 a b = true → ∀ wr K D wr', EV ((C.comp scope cl wr K D).less wr') (bd2 a b (bd a μc)) elt (f a b))
    (hfo : ∀ x, foldedSetIterable iter C.env x = pure x) (hfo2 : ∀ env x, foldedSetIterable iter2 env x = pure x) : EV C μ (.ListComp elt [⟨tgt, iter, ifs, 0⟩, ⟨tgt2, iter2, ifs2, 0⟩] scope pos) (.list ((as.filter p).flatMap fun a => ((bs a).filter (p2 a)).map (f a))) := fun G s Q E S lo k => by
  rw [eval_ListComp]
  refine wpAny_comprehension_free (use := none) rfl hfo O.clos O.kind O.names (comp_core (emit := fun D env => (do
      let x ← eval iter2 env
      standAt iter2.pos
      let x ← foldedSetIterable iter2 env x
      let _ ← runOwn (.compStart (.ListComp elt [⟨tgt, iter, ifs, 0⟩, ⟨tgt2, iter2, ifs2, 0⟩] scope pos) 1 (← holding [x] (pyIter x)) (.ref D) env) env)) (RR := fun acc K => compPost (model PR C.w) C.A E none Q acc K) O hF (fun _ _ _ => by simp only [bind_assoc, pure_bind]; rfl) bd p (fun a => ((bs a).filter (p2 a)).map (f a)) hsz hb hs ht
    (fun a ha _ wr K D OD => EMIT.nest OD (hF2 a ha wr K D) (hfo2 _) (bd2 a) (p2 a) (f a) (fun b hb' wr' => hb2 a ha b hb' wr K D wr') (fun b hb' => hs2 a ha b hb') (fun b hb' wr' => ht2 a ha b hb' wr K D wr') (fun b hb' hp wr' => he2 a ha b hb' hp wr K D wr') (hs a ha)) G S lo fun D K h' tk' m l e hK hn i => ⟨m, hn, fun h'' hs'' => ?_⟩)
  exact k _ h'' tk' (fun b o q => hs''.extBut b o (fun z => by rw [z, hK] at q; cases q) (e b o q)) l (i.mono fun a o q c => ⟨q.1, hs''.extBut a o (by simpa using q.2) c⟩)
end
end
section
section
variable {C : FC} {μ : Vars}
/-- a, b, .. = a list -/
theorem EX.unpackL {elts : List PySem.Expr} {k₀ : Nat} {tpos pos : Pos} {value : PySem.Expr} {rs : List PV} (nps : List (Str × Pos)) (hn : nps.map (fun q => PySem.Expr.Name q.1 q.2) = elts) (hv : EV C μ value (.list rs)) (hl : rs.length = nps.length)
    (ha : ((nps.map (·.1)).all fun x => (C.env.kindOf x == some .local || C.env.kindOf x == some .cell) && !(x == C.mx || x == ("@" : Str))) = true)
    (hs : swapsWithSole [.Tuple elts k₀ tpos] value pos.line C.env = pure false) (hw : swappedStores [.Tuple elts k₀ tpos] value C.env = pure none) :
    EX C μ (.Assign [.Tuple elts k₀ tpos] value pos) (.next (((nps.map (·.1)).zip rs).reverse ++ μ)) := fun G s Q S lo k => by
  subst hn
  refine Assign_Tuple (hv G s _ _ S lo fun v h1 t1 e1 l1 i1 => ?_) hs hw
  obtain ⟨a, vs, n, rfl, o1, g1, il⟩ := i1.lE
  have hlen := il.length
  rw [assign_Tuple]
  refine wpAny_bind (wpAny_standAt ?_)
  unfold PySem.unpack
  rw [show (assignEach (nps.map fun q => PySem.Expr.Name q.1 q.2) C.env).length = vs.toArray.size by rw [assignEach_names]; simp; omega, show (assignEach (nps.map fun q => PySem.Expr.Name q.1 q.2) C.env).findIdx? (·.1) = none by rw [assignEach_names, List.findIdx?_eq_none_iff]; intro x hx; obtain ⟨q, _, rfl⟩ := List.mem_map.mp hx; rfl]
  refine wpAny_bind (wpAny_holding (kun_itemsOf G.amb.handled (isList g1) fun h2 e2 => ?_))
  have e2' : Ext h1 h2 := fun b o q => e2 b o (Nat.ne_of_lt (Heap.lt_size q)) q
  refine assignNames G (nps.map (·.1)) _ rs vs μ _ _ _ (fun t x hm s v Q E h => ?_) (by rw [assignEach_names]; simp) (by simpa using hl) ha ((S.ext e1).ext e2') (il.ext e2') fun h' tk' l k' S' => k .next h' tk' (Nat.le_trans l1 l) ((Keep.of (e1.trans e2')).trans k') ⟨rfl, S'⟩
  rw [assignEach_names, List.map_map, List.zip_map'] at hm
  obtain ⟨q, _, e⟩ := List.mem_map.mp hm
  cases e
  exact wpAny_assign_Name h
theorem sum_le {B : Int} (hB : 0 ≤ B) : ∀ (l : List Int), (∀ n ∈ l, 0 ≤ n ∧ n ≤ B) → 0 ≤ l.sum ∧ l.sum ≤ B * l.length
  | [], _ => by simp
  | n :: r, h => by
    obtain ⟨h1, h2⟩ := sum_le hB r fun x hx => h x (List.mem_cons_of_mem _ hx)
    obtain ⟨h3, h4⟩ := h n List.mem_cons_self
    rw [List.sum_cons, List.length_cons]
    refine ⟨by omega, ?_⟩
    rw [Int.natCast_add, Int.mul_add, Int.natCast_one, Int.mul_one]
    omega
theorem CALL.sum {ns : List Int} (hb : ∀ n ∈ ns, 0 ≤ n ∧ n ≤ 1000000) (hl : ns.length ≤ 1000) : CALL C (.builtin "sum") [.list (ns.map .int)] (.int ns.sum) := fun G s vs Q E _ _ lo i k => by
  obtain ⟨_, rfl, i1⟩ := i.e1
  obtain ⟨a, vs, n, rfl, o1, g1, l1⟩ := i1.lE
  obtain ⟨xs, e1, e2⟩ := ints_of l1
  have hl' := isList g1
  rw [e1] at hl'
  have hlen : xs.size = ns.length := by rw [← e2]; simp
  have hnum : numAt xs = fun j => ns.getD j 0 := funext fun j => by rw [numAt_eq, e2]
  refine wpAny_with_toks (Nat.le_refl _) (sum_intList G.amb.handled hl' (fun j hj => ?_) fun h' tk t' e l => k _ h' tk e l ?_)
  · rw [hnum, preSum_getD]
    have h1 : ns.getD j 0 ∈ ns := getD_mem (by omega)
    have h2 := hb _ h1
    have h3 := sum_le (B := 1000000) (by decide) (ns.take (j + 1)) fun x hx => hb x (List.mem_of_mem_take hx)
    have h4 : ((ns.take (j + 1)).length : Int) ≤ 1000 := by have := List.length_take_le' (j + 1) ns; omega
    unfold InLong
    have h5 : (1000000 : Int) * ((ns.take (j + 1)).length : Int) ≤ 1000000 * 1000 := Int.mul_le_mul_of_nonneg_left h4 (by decide)
    show (-(2 ^ 63) ≤ ns.getD j 0 ∧ ns.getD j 0 < 2 ^ 63) ∧ -(2 ^ 63) ≤ (ns.take (j + 1)).sum ∧ (ns.take (j + 1)).sum < 2 ^ 63
    omega
  · rw [hnum, preSum_getD, hlen, List.take_length]
    exact .int _ _
theorem EV.and {a b : PySem.Expr} {pos : Pos} {r : PV} (ha : EV C μ a (.bool true)) (hb : EV C μ b r) : EV C μ (.BoolOp .And [a, b] pos) r := fun G s Q E S lo k =>
  BoolOp_and (ha G s _ _ S lo fun v h1 t1 e1 l1 i1 => by
    cases i1.bE
    refine wpAny_truthy_bool ?_
    simp only [if_true]
    exact BoolOp_one (hb G _ _ _ (S.ext e1) (Nat.le_trans lo l1) fun v h2 t2 e2 l2 i2 => k v h2 t2 (e1.trans e2) (Nat.le_trans l1 l2) i2))
theorem EqAt.bools {w : World} {ok : Addr → Prop} {A : Around} {s : Shared} {r : List Bool} {x y : Value} (hu : A.units < cLine) (hx : Is w ok s.heap (.list (r.map .bool)) x) (hy : Is w ok s.heap (.list (r.map .bool)) y) : SeqAt.EqAt A s x y true := by
  obtain ⟨a, us, n, rfl, _, g1, l1⟩ := hx.lE
  obtain ⟨b, vs, m, rfl, _, g2, l2⟩ := hy.lE
  by_cases hab : a = b
  · subst hab; exact SeqAt.EqAt.same _
  · refine SeqAt.EqAt.of_refs hab ?_
    have h1 := l1.length
    have h2 := l2.length
    have := SeqAt.RcAt.lists (A := A) (s := s) (e := fun _ => true) (isList g1) (isList g2) (by rw [List.size_toArray, List.size_toArray]; omega) hu fun j j1 j2 => by
      rw [List.size_toArray] at j1 j2
      obtain ⟨v, hv, iv⟩ := l1.get j (r := .bool (r[j]'(by rw [List.length_map] at h1; omega))) (by rw [List.getElem?_map, List.getElem?_eq_getElem]; rfl)
      obtain ⟨v', hv', iv'⟩ := l2.get j (r := .bool (r[j]'(by rw [List.length_map] at h1; omega))) (by rw [List.getElem?_map, List.getElem?_eq_getElem]; rfl)
      cases iv.bE
      cases iv'.bE
      have e1 : us.toArray[j] = .bool (r[j]'(by rw [List.length_map] at h1; omega)) := by
        have := (List.getElem?_eq_some_iff.mp hv).2
        simpa using this
      have e2 : vs.toArray[j] = .bool (r[j]'(by rw [List.length_map] at h1; omega)) := by
        have := (List.getElem?_eq_some_iff.mp hv').2
        simpa using this
      rw [e1, e2]
      exact SeqAt.EqAt.same _
    rwa [List.all_eq_true.mpr fun _ _ => rfl] at this
/-- == of two lists of lists that say the same -/
theorem CMP.eqLL (hn : 1 ≤ C.n) {rs : List (List Bool)} : CMP C .Eq (.list (rs.map fun r => .list (r.map .bool))) (.list (rs.map fun r => .list (r.map .bool))) (.bool true) := fun G s vs Q E _ _ lo i k => by
  obtain ⟨_, _, rfl, i1, i2⟩ := i.e2
  obtain ⟨a, us, n, rfl, _, g1, l1⟩ := i1.lE
  obtain ⟨b, vs, m, rfl, _, g2, l2⟩ := i2.lE
  have h1 := l1.length
  have h2 := l2.length
  have hu := G.amb.units
  have := SeqAt.RcAt.lists (A := C.A) (s := s) (e := fun _ => true) (isList g1) (isList g2) (by rw [List.size_toArray, List.size_toArray]; omega) (by omega) fun j j1 j2 => by
    rw [List.size_toArray] at j1 j2
    have hj : j < rs.length := by rw [List.length_map] at h1; omega
    obtain ⟨v, hv, iv⟩ := l1.get j (r := .list (rs[j].map .bool)) (by rw [List.getElem?_map, List.getElem?_eq_getElem hj]; rfl)
    obtain ⟨v', hv', iv'⟩ := l2.get j (r := .list (rs[j].map .bool)) (by rw [List.getElem?_map, List.getElem?_eq_getElem hj]; rfl)
    have e1 : us.toArray[j] = v := by simpa using (List.getElem?_eq_some_iff.mp hv).2
    have e2 : vs.toArray[j] = v' := by simpa using (List.getElem?_eq_some_iff.mp hv').2
    rw [e1, e2]
    exact EqAt.bools (A := C.A.in1) (by show C.A.units + 1 < _; omega) iv iv'
  refine this PR C.w E Q ?_
  rw [List.all_eq_true.mpr fun _ _ => rfl]
  exact k (.bool true) s.heap s.toks (Ext.refl _) (Nat.le_refl _) (.bool true)
end
end
section
local macro_rules | `(tactic| walk_at "kn") => `(tactic| first | exact Knows.g (by assumption) _ _ _ rfl | exact Knows.kp (by assumption) _ _ rfl)
local macro_rules | `(tactic| walk_at "m_bind") => `(tactic| first | exact vs1 fun _ => BindsTo.of_eq rfl | exact vs2 fun _ _ => BindsTo.of_eq rfl | exact vs3 fun _ _ _ => BindsTo.of_eq rfl | exact vs4 fun _ _ _ _ => BindsTo.of_eq rfl)
local macro_rules | `(tactic| walk_at "m_fn") => `(tactic| ((case hb => (intro _ _ _ _ _ s; walk_at "m_bind")); (case k1 => decide); (case k2 => decide); (case k3 => decide); (case k4 => rfl); (case hnd => decide); (case c1 => rfl); (case c2 => rfl); (case c3 => rfl)))
local macro_rules | `(tactic| walk_at "side") => `(tactic| first | assumption | ((try simp only [fm2, fm3, item1, slen, sizeLine, List.length_cons, List.length_nil]); omega) | (refine' slz ?_; (try simp only [fm2, fm3, item1, slen, sizeLine, List.length_cons, List.length_nil]); omega) | exact Nat.le_of_ble_eq_true rfl)
local macro_rules | `(tactic| walk_at "ev1") => `(tactic| first
  | with_reducible exact EV.int | with_reducible exact EV.str | with_reducible exact EV.bool | with_reducible exact EVs.nil | with_reducible exact EVo.none
  | ((with_reducible refine' EV.var ?h1 ?h2 ?h3); (case h1 => exact rfl); (case h2 => exact rfl); (case h3 => exact rfl))
  | ((with_reducible refine' EV.glob ?h1 ?h2 ?h3); (case h1 => exact rfl); (case h2 => walk_at "kn"); (case h3 => exact rfl))
  | ((with_reducible refine' EV.blt ?h1 ?h2 ?h3 ?h4 ?h5); (case h1 => exact rfl); (case h2 => walk_at "kn"); (case h3 => exact rfl); (case h4 => exact rfl); (case h5 => decide))
  | with_reducible exact BIN.add | with_reducible exact BIN.sub | with_reducible exact BIN.andI | with_reducible exact BIN.orI
  | ((with_reducible refine' BIN.div ?h1 ?h2); (case h1 => decide); (case h2 => exact PyProof.noPylong_small (by decide)))
  | with_reducible refine' BIN.div ?_ ?_
  | ((with_reducible refine' BIN.mod ?h1); (case h1 => decide))
  | with_reducible refine' BIN.addS ?_ | with_reducible refine' BIN.addL ?_ | with_reducible refine' BIN.mul ?_ | with_reducible refine' BIN.pow ?_ ?_ | with_reducible refine' BIN.mulS ?_
  | with_reducible exact CMP.eq | with_reducible exact CMP.lt | with_reducible exact CMP.eqS | with_reducible exact CMP.gt | with_reducible exact CMP.ge
  | with_reducible refine' ITEM.str ?_ ?_ ?_ | with_reducible refine' ITEM.list ?_ ?_ ?_ | with_reducible refine' ITEM.tup ?_ ?_ ?_
  | with_reducible refine' SLICE.strTo ?_ | with_reducible refine' SLICE.strFrom ?_ | with_reducible refine' SLICE.list ?_
  | with_reducible refine' EV.bin ?_ ?_ ?_
  | with_reducible refine' EV.slice ?_ ?_ ?_ ?_
  | ((with_reducible refine' EV.item ?_ ?_ ?_ ?h4); (case h4 => exact fun _ _ => rfl))
  | with_reducible refine' EVo.some ?_
  | with_reducible refine' EV.list ?_ ?_ | with_reducible refine' EV.tuple ?_ ?_
  | ((with_reducible refine' EVs.cons ?_ ?_ ?h3); (case h3 => exact rfl)))
local macro_rules | `(tactic| walk_at "evs") => `(tactic| repeat' (walk_at "ev1"))
theorem isnt {K : Params → Frag} (hK : Knows K) (w : World) (i : Int) : Fn K w 1 101 [.int i] (.bool (decide (256 ≤ i))) := by
  have H := hK.f101 w
  conv at H in (scopeAt _) => whnf
  conv at H in (bodyAt _) => whnf
  refine' FnT.enter (n := 0) [Str.ofString "x"] H rfl ?hb ?k1 ?k2 ?k3 ?k4 ?hnd ?c1 ?c2 ?c3 ?h
  walk_at "m_fn"
  intro A h₀ ok okr L cdv
  refine' EXs.consR (EX.ret (EV.cmp ?_ (EV.asI ?_) CMP.ge rfl)) <;> walk_at "evs"
theorem iseof {K : Params → Frag} (hK : Knows K) (w : World) (i : Int) : Fn K w 1 108 [.int i] (.bool (i == 0)) := by
  have H := hK.f108 w
  conv at H in (scopeAt _) => whnf
  conv at H in (bodyAt _) => whnf
  refine' FnT.enter (n := 0) [Str.ofString "x"] H rfl ?hb ?k1 ?k2 ?k3 ?k4 ?hnd ?c1 ?c2 ?c3 ?h
  walk_at "m_fn"
  intro A h₀ ok okr L cdv
  refine' EXs.consR (EX.ret (EV.cmp ?_ (EV.asI ?_) CMP.eq rfl)) <;> walk_at "evs"
/-- a def of two that joins them -/
theorem addI {K : Params → Frag} (hK : Knows K) (w : World) (i j : Int) : Fn K w 1 35 [.int i, .int j] (.int (i + j)) := by
  have H := hK.f35 w
  conv at H in (scopeAt _) => whnf
  conv at H in (bodyAt _) => whnf
  refine' FnT.enter (n := 0) [Str.ofString "a", Str.ofString "b"] H rfl ?hb ?k1 ?k2 ?k3 ?k4 ?hnd ?c1 ?c2 ?c3 ?h
  walk_at "m_fn"
  intro A h₀ ok okr L cdv
  exact EXs.consR (EX.ret (EV.bin (EV.var rfl rfl rfl) (EV.var rfl rfl rfl) BIN.add))
/-- a word of one or two signs -/
def wd (l : Str) (a b c : Int) : Str := Txt.slice (Txt.item l (a.fmod 2) ++ Txt.item l (b.fmod 2)) none (some (1 + c.fmod 2))
def way (l : Str) (c : Int) : PV := ([PV.str (Str.ofString ""), .str (Txt.item l 0), .str (Txt.item l 1)][(c.fmod 3).toNat]?).getD (.str (Str.ofString ""))
def wordsP (one two : Int) (l : Str) : List PV :=
  [PV.str (wd l (one.fdiv 2) (one.fdiv 4) one), .str (wd l (one.fdiv 16) (one.fdiv 32) (one.fdiv 8))] ++ (([one.fdiv 64, one.fdiv 192, two, two.fdiv 3, two.fdiv 9, two.fdiv 27].filter fun _ => true).map (way l))
theorem words {K : Params → Frag} (hK : Knows K) (w : World) (one two : Int) (l : Str) (hl : l.length = 2) : Fn K w 1 156 [.int one, .int two, .str l] (.list (wordsP one two l)) := by
  refine' Fn.to ?z ?e
  case z =>
    have H := hK.f156 w
    conv at H in (scopeAt _) => whnf
    conv at H in (bodyAt _) => whnf
    refine' FnT.enter (n := 0) [Str.ofString "one", Str.ofString "two", Str.ofString "letters"] H rfl ?hb ?k1 ?k2 ?k3 ?k4 ?hnd ?c1 ?c2 ?c3 ?h
    walk_at "m_fn"
    case h =>
      intro A h₀ ok okr L cdv
      refine' EXs.cons (EX.assign ?a rfl rfl rfl) (EXs.cons (EX.assign ?b rfl rfl rfl) (EXs.cons (EX.assignComp (as := [one.fdiv 64, one.fdiv 192, two, two.fdiv 3, two.fdiv 9, two.fdiv 27]) (sh := fun a => .one (.int a)) (μc := [(Str.ofString "letters", .str l)]) ?O (FD.tup ?F ?G) ?c1 (fun a => ((Str.ofString "cell", .int a) :: ·)) (fun _ => true) (way l) ?c2 ?c3 ?c4 ?c5 ?c6 rfl rfl rfl) (EXs.consR (EX.ret ?d))))
      case a =>
        walk_at "evs"
        all_goals walk_at "side"
      case b =>
        walk_at "evs"
        all_goals walk_at "side"
      case O => exact ⟨rfl, rfl, by decide, by decide, rfl, rfl, rfl, rfl, rfl, rfl⟩
      case F =>
        walk_at "evs"
        all_goals (first | walk_at "side" | fail)
      case G => exact rfl
      case c1 => exact (by decide : 6 ≤ sizeLine)
      case c2 => exact fun _ _ _ _ _ => ASG.name rfl rfl
      case c3 => exact fun _ _ => rfl
      case c4 => exact fun _ _ _ _ _ => TVs.nil
      case c5 =>
        intro a _ _ wr K D
        refine' EV.item ?_ ?_ (ITEM.tup (r := way l a) ?_ (get_d ?_) ?_) (fun _ _ => rfl)
        all_goals walk_at "evs"
        all_goals (first | walk_at "side" | fail)
      case c6 => exact fun _ => rfl
      walk_at "evs"
      all_goals (first | walk_at "side" | fail)
  exact rfl
/-- the number of an operator -/
def tok (x : Str) : Option Int := (EXE.find? fun e => e.1 == x).map (·.2.2.1)
theorem keysLit {P : Params} : ∀ l : List (Str × Nat × Int × Nat), KeysLit P (l.map fun e => (⟨PyData.keyHash P e.1, .str e.1 e.2.1, .int e.2.2.1 e.2.2.2⟩ : DictEntry))
  | [] => trivial
  | e :: r => ⟨⟨_, _, rfl, rfl⟩, keysLit r⟩
theorem find92 {P : Params} {x : Str} : findBy Value.isStrOf (exE P).toArray x = (EXE.find? fun e => e.1 == x).map fun e => .int e.2.2.1 e.2.2.2 := by
  unfold findBy exE
  rw [List.find?_toArray, List.find?_map, Option.map_map]
  rfl
section
variable {C : FC}
theorem map92 (hK : Knows C.K) (G : C.Good) {h : Heap} (e : Ext C.h₀ h) : h.MapOf (strKind PR C.w) 92 (fun k => findBy Value.isStrOf (exE C.w.params).toArray k) :=
  mapOf_K (prog := PR) (G.X.keeps e) (hK.t92 C.w.params) (keysLit EXE)
theorem CMP.in92 (hK : Knows C.K) {x : Str} : CMP C .In (.str x) (.fix (.ref 92)) (.bool (tok x).isSome) := fun G s vs Q E he _ _ i k => by
  obtain ⟨_, _, rfl, i1, i2⟩ := i.e2
  obtain ⟨t, rfl⟩ := i1.sE
  cases i2.fE
  refine wpAny_in_of (strKind_is PR C.w x t) (by decide) (map92 hK G he) ?_
  rw [find92]
  have : ((EXE.find? fun e => e.1 == x).map fun e => Value.int e.2.2.1 e.2.2.2).isSome = (tok x).isSome := by unfold tok; rw [Option.isSome_map, Option.isSome_map]
  rw [this]
  exact k _ s.heap _ (Ext.refl _) (Nat.le_succ _) (.bool _)
theorem ITEM.at92 (hK : Knows C.K) {x : Str} {i : Int} (hx : tok x = some i) : ITEM C (.fix (.ref 92)) (.str x) (.int i) := fun G s o v Q E he _ _ io iv k => by
  cases io.fE
  obtain ⟨t, rfl⟩ := iv.sE
  have hm := map92 hK G he
  unfold tok at hx
  obtain ⟨e, h1, rfl⟩ := Option.map_eq_some_iff.mp hx
  exact ⟨"dict", _, slot_dict_getitem.lookup, hm.typeIs, wpAny_getItem_of (strKind_is PR C.w x t) hm (v := .int e.2.2.1 e.2.2.2) (by show findBy _ _ x = _; rw [find92, h1]; rfl) (k _ s.heap _ (Ext.refl _) (Nat.le_succ _) (.int _ _))⟩
end
set_option maxHeartbeats 4000000
theorem containsX {K : Params → Frag} (hK : Knows K) (w : World) (x : Str) : Fn K w 1 77 [.fix (.ref 92), .str x] (.bool (tok x).isSome) := by
  have H := hK.f77 w
  conv at H in (scopeAt _) => whnf
  conv at H in (bodyAt _) => whnf
  refine' FnT.enter (n := 0) [Str.ofString "a", Str.ofString "b"] H rfl ?hb ?k1 ?k2 ?k3 ?k4 ?hnd ?c1 ?c2 ?c3 ?h
  walk_at "m_fn"
  intro A h₀ ok okr L cdv
  exact EXs.consR (EX.ret (EV.cmp (EV.var rfl rfl rfl) (EV.var rfl rfl rfl) (CMP.in92 hK) rfl))
theorem getitemX {K : Params → Frag} (hK : Knows K) (w : World) (x : Str) (i : Int) (hx : tok x = some i) : Fn K w 1 84 [.fix (.ref 92), .str x] (.int i) := by
  have H := hK.f84 w
  conv at H in (scopeAt _) => whnf
  conv at H in (bodyAt _) => whnf
  refine' FnT.enter (n := 0) [Str.ofString "a", Str.ofString "b"] H rfl ?hb ?k1 ?k2 ?k3 ?k4 ?hnd ?c1 ?c2 ?c3 ?h
  walk_at "m_fn"
  intro A h₀ ok okr L cdv
  exact EXs.consR (EX.ret (EV.item (EV.var rfl rfl rfl) (EV.var rfl rfl rfl) (ITEM.at92 hK hx) fun _ _ => rfl))
section
variable {C : FC}
theorem CALL.joinE {x : Str} {ys : List Str} {rs : List PV} (hr : rs = ys.map .str) (hx : x.length ≤ 16) (hw : (ys.map (·.length)).sum + ys.length ≤ 1048576) : CALL C (.builtin "str.join") [.str x, .list rs] (.str (Txt.join x ys)) := hr ▸ CALL.join hx hw
theorem CALLF.rangeE {n : Nat} {i : Int} {tgt : PySem.Expr} (hi : i = n) (hn : n ≤ sizeLine) : CALLF C "range" [.int i] tgt (List.range n) (fun i => .one (.int (i : Int))) := hi ▸ CALLF.range hn
end
/-- the signs of a pattern -/
def signsP (cell : Int) (l : Str) : Str := Txt.join (Str.ofString "") ((List.range (1 + cell.fmod 3).toNat).map fun i : Nat => Txt.item l ((cell.fdiv (48 * 2 ^ (i : Int).toNat)).fmod 2))
theorem sum_items {l : Str} {f : Nat → Int} : ∀ as : List Nat, ((as.map fun i => Txt.item l (f i)).map (·.length)).sum = as.length
  | [] => rfl
  | a :: as => by rw [List.map_cons, List.map_cons, List.sum_cons, sum_items as, item1, List.length_cons]; omega
theorem atom {K : Params → Frag} (hK : Knows K) (w : World) (cell : Int) (l : Str) (hl : l.length = 2) : Fn K w 1 132 [.int cell, .str l] (.tup [.str (signsP cell l), .int ((cell.fdiv 3).fmod 16)]) := by
  have H := hK.f132 w
  conv at H in (scopeAt _) => whnf
  conv at H in (bodyAt _) => whnf
  refine' FnT.enter (n := 0) [Str.ofString "cell", Str.ofString "letters"] H rfl ?hb ?k1 ?k2 ?k3 ?k4 ?hnd ?c1 ?c2 ?c3 ?h
  walk_at "m_fn"
  intro A h₀ ok okr L cdv
  have hn : (1 + cell.fmod 3).toNat ≤ 3 := by rw [fm3]; omega
  refine' EXs.cons (EX.assign (r := .str (signsP cell l)) (EV.meth1 (b := .list (((List.range (1 + cell.fmod 3).toNat).filter fun _ => true).map fun i : Nat => PV.str (Txt.item l ((cell.fdiv (48 * 2 ^ (i : Int).toNat)).fmod 2)))) EV.str METH.join ?a (CALL.joinE ?j (by decide) ?w) rfl _ rfl) rfl rfl rfl) (EXs.consR (EX.ret ?d))
  case a =>
    refine' EV.comp (as := List.range (1 + cell.fmod 3).toNat) (sh := fun i => .one (.int (i : Int))) (μc := [(Str.ofString "cell", .int cell), (Str.ofString "letters", .str l)]) ?O (FD.call (EV.blt rfl ?f1 rfl rfl ?f2) (EVs.cons ?f3 EVs.nil rfl) (CALLF.rangeE ?f4 ?f5) rfl rfl rfl) ?c1 (fun i => ((Str.ofString "spot", .int (i : Int)) :: ·)) (fun _ => true) _ ?c2 ?c3 ?c4 ?c5 ?c6
    case O => exact ⟨rfl, rfl, by decide, by decide, rfl, rfl, rfl, rfl, rfl, rfl⟩
    case f1 => walk_at "kn"
    case f2 => decide
    case f3 => walk_at "evs"
    case f4 => rw [fm3]; omega
    case f5 => unfold sizeLine; omega
    case c1 => rw [List.length_range]; unfold sizeLine; omega
    case c2 => exact fun _ _ _ _ _ => ASG.name rfl rfl
    case c3 => exact fun _ _ => rfl
    case c4 => exact fun _ _ _ _ _ => TVs.nil
    case c5 =>
      intro i hi _ wr K D
      have hi := List.mem_range.mp hi
      have h3 : i = 0 ∨ i = 1 ∨ i = 2 := by omega
      walk_at "evs"
      · omega
      · rcases h3 with rfl | rfl | rfl <;> decide
      · exact IntMulOk.of_left (by decide)
      · rcases h3 with rfl | rfl | rfl <;> decide
      · rcases h3 with rfl | rfl | rfl <;> exact PyProof.noPylong_small (by decide)
      all_goals walk_at "side"
    case c6 => exact fun _ => rfl
  case j => rw [all_kept, List.map_map]; rfl
  case w => rw [sum_items, List.length_map, List.length_range]; omega
  walk_at "evs"
  all_goals walk_at "side"
/-- a step of the law's own machine -/
def stepT (marks : List (Str × Int)) (loops s : Int) (c : Nat) : Int := Builtin.bitOr (Builtin.bitAnd (s * 2) ((marks.lookup ⟨#[c]⟩).getD 0)) (Builtin.bitAnd s loops)
def flagP (s turns : Int) (q : Int × Nat) : Int := ((s.fdiv (2 ^ q.1.toNat)) + turns.fdiv (2 ^ (q.2 : Int).toNat)).fmod 2
def j3 (a b : Int) : List PV := [.int (if b < a then b else a), .int (if b > a then b else a), .int ((a + b).fmod 2)]
def j3v (kind a b : Int) : Int := if kind = 0 then (if b < a then b else a) else if kind = 1 then (if b > a then b else a) else (a + b).fmod 2
def toldP (marks : List (Str × Int)) (loops s0 turns : Int) (ends joins : List Int) (text : Str) : Bool :=
  (((joins.zip ((ends.zipIdx.map (flagP (text.cps.toList.foldl (stepT marks loops) s0) turns)).drop 1)).foldl (fun a q => j3v q.1 a q.2) ((ends.zipIdx.map (flagP (text.cps.toList.foldl (stepT marks loops) s0) turns)).headD 0) + turns.fdiv 8).fmod 2) == 1
theorem told {K : Params → Frag} (hK : Knows K) (w : World) (marks : List (Str × Int)) (loops s0 turns : Int) (ends joins : List Int) (text : Str) (hm : ∀ c ∈ text.cps.toList, ∃ i, marks.lookup ⟨#[c]⟩ = some i) (he : ∀ e ∈ ends, 0 ≤ e ∧ e < 30) (hel : ends.length = 3) (hj : joins.length = 2) (hjs : ∀ j ∈ joins, 0 ≤ j ∧ j < 3) :
    Fn K w 1 151 [.tup [.dct marks, .int loops, .int s0, .list (ends.map .int)], .list (joins.map .int), .int turns, .str text] (.list [.bool (toldP marks loops s0 turns ends joins text)]) := by
  unfold toldP
  have H := hK.f151 w
  conv at H in (scopeAt _) => whnf
  conv at H in (bodyAt _) => whnf
  refine' FnT.enter (n := 0) [Str.ofString "masks", Str.ofString "joins", Str.ofString "turns", Str.ofString "text"] H rfl ?hb ?k1 ?k2 ?k3 ?k4 ?hnd ?c1 ?c2 ?c3 ?h
  walk_at "m_fn"
  intro A h₀ ok okr L cdv
  refine' EXs.cons (EX.unpack [(Str.ofString "marks", _), (Str.ofString "loops", _), (Str.ofString "state", _), (Str.ofString "ends", _)] rfl (EV.var rfl rfl rfl) rfl rfl rfl rfl) (EXs.cons (EX.for (FD.str (EV.var rfl rfl rfl)) (fun c => ((Str.ofString "sign", .str ⟨#[c]⟩) :: ·)) (fun i => [(Str.ofString "state", .int ((text.cps.toList.take i).foldl (stepT marks loops) s0)), (Str.ofString "marks", .dct marks), (Str.ofString "loops", .int loops), (Str.ofString "ends", .list (ends.map .int)), (Str.ofString "joins", .list (joins.map .int)), (Str.ofString "turns", .int turns)]) rfl ?b1 ?b2 ?b3) ?rest)
  case b1 => exact fun _ _ _ => ASG.name rfl rfl
  case b2 =>
    intro i c wr hc
    obtain ⟨k, hk⟩ := hm c (List.mem_of_getElem? hc)
    have e : (text.cps.toList.take (i + 1)).foldl (stepT marks loops) s0 = Builtin.bitOr (Builtin.bitAnd ((text.cps.toList.take i).foldl (stepT marks loops) s0 * 2) k) (Builtin.bitAnd ((text.cps.toList.take i).foldl (stepT marks loops) s0) loops) := by
      rw [List.take_add_one, hc, Option.toList_some, List.foldl_append]
      show stepT _ _ _ _ = _
      unfold stepT
      rw [hk]; rfl
    rw [e]
    generalize (text.cps.toList.take i).foldl (stepT marks loops) s0 = st
    refine' EXs.sub (EXs.cons (EX.assign (EV.bin (EV.bin ?x1 (EV.item (EV.var rfl rfl rfl) (EV.var rfl rfl rfl) (ITEM.dct hk) fun _ _ => rfl) BIN.andI) ?x2 BIN.orI) rfl rfl rfl) EXs.nil) rfl
    case x1 =>
      walk_at "evs"
      exact mul2ok
    case x2 => walk_at "evs"
  case b3 => exact fun _ => rfl
  case rest =>
    rw [List.take_length]
    generalize text.cps.toList.foldl (stepT marks loops) s0 = st
    refine' EXs.cons (EX.conv (EX.assignComp (as := ends.zipIdx) (sh := fun q => .two (.int (q.2 : Int)) (.int q.1)) (μc := [(Str.ofString "state", .int st), (Str.ofString "turns", .int turns)]) ?O (FD.call (EV.blt rfl ?f1 rfl rfl ?f2) (EVs.cons (EV.var rfl rfl rfl) EVs.nil rfl) CALLF.enumL rfl rfl rfl) ?c1 (fun q μ => (Str.ofString "end", .int q.1) :: (Str.ofString "place", .int (q.2 : Int)) :: μ) (fun _ => true) (fun q => .int (flagP st turns q)) ?c2 ?c3 ?c4 ?c5 ?c6 rfl rfl rfl) ?cv) ?r2
    case O => exact ⟨rfl, rfl, by decide, by decide, rfl, rfl, rfl, rfl, rfl, rfl⟩
    case f1 => walk_at "kn"
    case f2 => decide
    case c1 => rw [List.length_zipIdx, hel]; decide
    case c2 => exact fun _ _ _ _ _ => ASG.pair (ASG.name rfl rfl) (ASG.name rfl rfl) rfl
    case c3 => exact fun _ _ => rfl
    case c4 => exact fun _ _ _ _ _ => TVs.nil
    case c5 =>
      intro q hq _ wr K D
      obtain ⟨hq1, hq2⟩ : (0 ≤ q.1 ∧ q.1 < 30) ∧ q.2 < 30 := by
        obtain ⟨i, hi⟩ := List.getElem?_of_mem hq
        rw [List.getElem?_zipIdx] at hi
        obtain ⟨x, hx, rfl⟩ := Option.map_eq_some_iff.mp hi
        have h1 := (List.getElem?_eq_some_iff.mp hx).1
        exact ⟨he x (List.mem_of_getElem? hx), by show 0 + i < 30; omega⟩
      walk_at "evs"
      all_goals (first | exact powne | exact powpl (by omega) | exact powbits (by omega) | omega | exact BIN.mod (by decide))
    case c6 => exact fun _ => rfl
    case cv => exact congrArg (fun l => Out.next ((Str.ofString "flags", PV.list l) :: _)) (show _ = (ends.zipIdx.map (flagP st turns)).map PV.int by rw [all_kept, List.map_map]; rfl)
    have hfl : (ends.zipIdx.map (flagP st turns)).length = 3 := by rw [List.length_map, List.length_zipIdx, hel]
    generalize ends.zipIdx.map (flagP st turns) = fl at hfl
    obtain ⟨f0, f1, f2, rfl⟩ : ∃ f0 f1 f2, fl = [f0, f1, f2] := by
      match fl, hfl with
      | [a, b, c], _ => exact ⟨a, b, c, rfl⟩
    obtain ⟨k0, k1, rfl⟩ : ∃ k0 k1, joins = [k0, k1] := by
      match joins, hj with
      | [a, b], _ => exact ⟨a, b, rfl⟩
    refine' EXs.cons (EX.assign (r := .int f0) ?w0 rfl rfl rfl) (EXs.cons (EX.for (as := [k0, k1].zip [f1, f2]) (FD.call (EV.blt rfl ?g1 rfl rfl ?g2) (EVs.cons (EV.var rfl rfl rfl) (EVs.cons (r := .list ([f1, f2].map .int)) ?g3 EVs.nil rfl) rfl) CALLF.zip rfl rfl rfl) (fun q μ => (Str.ofString "flag", .int q.2) :: (Str.ofString "kind", .int q.1) :: μ) (fun i => [(Str.ofString "whole", .int ((([k0, k1].zip [f1, f2]).take i).foldl (fun a q => j3v q.1 a q.2) f0)), (Str.ofString "turns", .int turns)]) rfl ?g4 ?g5 ?g6) ?g7)
    case w0 =>
      walk_at "evs"
      · decide
      · rfl
      · decide
    case g1 => walk_at "kn"
    case g2 => decide
    case g3 =>
      walk_at "evs"
      exact SLICE.listE (pick_from _ 1 (Nat.le_of_ble_eq_true rfl)) (Nat.le_of_ble_eq_true rfl)
    case g4 => exact fun _ _ _ => ASG.pair (ASG.name rfl rfl) (ASG.name rfl rfl) rfl
    case g5 =>
      intro i q wr hq
      have hk : 0 ≤ q.1 ∧ q.1 < 3 := hjs q.1 (List.of_mem_zip (List.mem_of_getElem? hq)).1
      rw [List.take_add_one, hq, Option.toList_some, List.foldl_append]
      generalize (([k0, k1].zip [f1, f2]).take i).foldl (fun a q => j3v q.1 a q.2) f0 = a
      obtain ⟨k, f⟩ := q
      refine' EXs.sub (EXs.cons (EX.assign (r := .int (j3v k a f)) (EV.item (a := .list (j3 a f)) ?i1 (EV.var rfl rfl rfl) (ITEM.list hk.1 ?i2 (by omega)) fun _ _ => rfl) rfl rfl rfl) EXs.nil) rfl
      case i1 =>
        refine' EV.list (EVs.cons (EV.callB ?m1 (EVs.cons (EV.var rfl rfl rfl) (EVs.cons (EV.var rfl rfl rfl) EVs.nil rfl) rfl) CALL.min2 rfl rfl rfl) (EVs.cons (EV.callB ?m2 (EVs.cons (EV.var rfl rfl rfl) (EVs.cons (EV.var rfl rfl rfl) EVs.nil rfl) rfl) CALL.max2 rfl rfl rfl) (EVs.cons ?m3 EVs.nil rfl) rfl) rfl) (Nat.le_of_ble_eq_true rfl)
        all_goals walk_at "evs"
      case i2 =>
        have h3 : k = 0 ∨ k = 1 ∨ k = 2 := by have := hk.1; have := hk.2; simp only at *; omega
        rcases h3 with rfl | rfl | rfl <;> rfl
    case g6 => exact fun _ => rfl
    case g7 =>
      rw [List.take_length]
      refine' EXs.consR (EX.ret (EV.list (EVs.cons (EV.cmp ?e1 EV.int CMP.eq rfl) EVs.nil rfl) ?e2))
      case e1 =>
        walk_at "evs"
        exact BIN.mod (by decide)
      exact Nat.le_of_ble_eq_true rfl
theorem addS {K : Params → Frag} (hK : Knows K) (w : World) (i j : Str) (hl : i.length + j.length ≤ sizeLine) : Fn K w 1 35 [.str i, .str j] (.str (i ++ j)) := by
  have H := hK.f35 w
  conv at H in (scopeAt _) => whnf
  conv at H in (bodyAt _) => whnf
  refine' FnT.enter (n := 0) [Str.ofString "a", Str.ofString "b"] H rfl ?hb ?k1 ?k2 ?k3 ?k4 ?hnd ?c1 ?c2 ?c3 ?h
  walk_at "m_fn"
  intro A h₀ ok okr L cdv
  exact EXs.consR (EX.ret (EV.bin (EV.var rfl rfl rfl) (EV.var rfl rfl rfl) (BIN.addS hl)))
theorem subI {K : Params → Frag} (hK : Knows K) (w : World) (i j : Int) : Fn K w 1 63 [.int i, .int j] (.int (i - j)) := by
  have H := hK.f63 w
  conv at H in (scopeAt _) => whnf
  conv at H in (bodyAt _) => whnf
  refine' FnT.enter (n := 0) [Str.ofString "a", Str.ofString "b"] H rfl ?hb ?k1 ?k2 ?k3 ?k4 ?hnd ?c1 ?c2 ?c3 ?h
  walk_at "m_fn"
  intro A h₀ ok okr L cdv
  exact EXs.consR (EX.ret (EV.bin (EV.var rfl rfl rfl) (EV.var rfl rfl rfl) BIN.sub))
theorem mulS {K : Params → Frag} (hK : Knows K) (w : World) (i : Str) (j : Int) (hm : MulOk i j) : Fn K w 1 49 [.str i, .int j] (.str (Txt.mul i j)) := by
  have H := hK.f49 w
  conv at H in (scopeAt _) => whnf
  conv at H in (bodyAt _) => whnf
  refine' FnT.enter (n := 0) [Str.ofString "a", Str.ofString "b"] H rfl ?hb ?k1 ?k2 ?k3 ?k4 ?hnd ?c1 ?c2 ?c3 ?h
  walk_at "m_fn"
  intro A h₀ ok okr L cdv
  exact EXs.consR (EX.ret (EV.bin (EV.var rfl rfl rfl) (EV.var rfl rfl rfl) (BIN.mulS hm)))
theorem notB {K : Params → Frag} (hK : Knows K) (w : World) (b : Bool) : Fn K w 1 28 [.bool b] (.bool (!b)) := by
  have H := hK.f28 w
  conv at H in (scopeAt _) => whnf
  conv at H in (bodyAt _) => whnf
  refine' FnT.enter (n := 0) [Str.ofString "a"] H rfl ?hb ?k1 ?k2 ?k3 ?k4 ?hnd ?c1 ?c2 ?c3 ?h
  walk_at "m_fn"
  intro A h₀ ok okr L cdv
  exact EXs.consR (EX.ret (EV.not (EV.var rfl rfl rfl)))
theorem andB {K : Params → Frag} (hK : Knows K) (w : World) (a b : Bool) : Fn K w 1 42 [.bool a, .bool b] (.bool (a && b)) := by
  have H := hK.f42 w
  conv at H in (scopeAt _) => whnf
  conv at H in (bodyAt _) => whnf
  refine' FnT.enter (n := 0) [Str.ofString "a", Str.ofString "b"] H rfl ?hb ?k1 ?k2 ?k3 ?k4 ?hnd ?c1 ?c2 ?c3 ?h
  walk_at "m_fn"
  intro A h₀ ok okr L cdv
  exact EXs.consR (EX.ret (EV.bin (EV.var rfl rfl rfl) (EV.var rfl rfl rfl) BIN.andB))
theorem orB {K : Params → Frag} (hK : Knows K) (w : World) (a b : Bool) : Fn K w 1 56 [.bool a, .bool b] (.bool (a || b)) := by
  have H := hK.f56 w
  conv at H in (scopeAt _) => whnf
  conv at H in (bodyAt _) => whnf
  refine' FnT.enter (n := 0) [Str.ofString "a", Str.ofString "b"] H rfl ?hb ?k1 ?k2 ?k3 ?k4 ?hnd ?c1 ?c2 ?c3 ?h
  walk_at "m_fn"
  intro A h₀ ok okr L cdv
  exact EXs.consR (EX.ret (EV.bin (EV.var rfl rfl rfl) (EV.var rfl rfl rfl) BIN.orB))
theorem xorB {K : Params → Frag} (hK : Knows K) (w : World) (a b : Bool) : Fn K w 1 70 [.bool a, .bool b] (.bool (a != b)) := by
  have H := hK.f70 w
  conv at H in (scopeAt _) => whnf
  conv at H in (bodyAt _) => whnf
  refine' FnT.enter (n := 0) [Str.ofString "a", Str.ofString "b"] H rfl ?hb ?k1 ?k2 ?k3 ?k4 ?hnd ?c1 ?c2 ?c3 ?h
  walk_at "m_fn"
  intro A h₀ ok okr L cdv
  exact EXs.consR (EX.ret (EV.bin (EV.var rfl rfl rfl) (EV.var rfl rfl rfl) BIN.xorB))
theorem getitemS {K : Params → Frag} (hK : Knows K) (w : World) (x : Str) (i : Int) (h1 : 0 ≤ i) (h2 : i < x.length) (h3 : x.length ≤ 4096) : Fn K w 1 84 [.str x, .int i] (.str (Txt.item x i)) := by
  have H := hK.f84 w
  conv at H in (scopeAt _) => whnf
  conv at H in (bodyAt _) => whnf
  refine' FnT.enter (n := 0) [Str.ofString "a", Str.ofString "b"] H rfl ?hb ?k1 ?k2 ?k3 ?k4 ?hnd ?c1 ?c2 ?c3 ?h
  walk_at "m_fn"
  intro A h₀ ok okr L cdv
  exact EXs.consR (EX.ret (EV.item (EV.var rfl rfl rfl) (EV.var rfl rfl rfl) (ITEM.str h1 h2 h3) fun _ _ => rfl))
/-- one sign of the page read: what is done, the pattern under way -/
def dstep (l : Str) (q : List PV × Str) (s : Int) : List PV × Str :=
  if 256 ≤ s then (q.1, q.2 ++ Txt.item l (s - 256)) else if s = 52 then (q.1, q.2 ++ Str.ofString "...") else if s = 12 then (q.1 ++ [.str q.2], Str.ofString "") else (q.1 ++ [.int s], q.2)
theorem dlen {l : Str} : ∀ (done : List Int) (q : List PV × Str), (done.foldl (dstep l) q).1.length ≤ q.1.length + done.length ∧ (done.foldl (dstep l) q).2.length ≤ q.2.length + 3 * done.length
  | [], q => ⟨Nat.le_refl _, Nat.le_refl _⟩
  | s :: done, q => by
    obtain ⟨a, b⟩ := dlen (l := l) done (dstep l q s)
    have h : (dstep l q s).1.length ≤ q.1.length + 1 ∧ (dstep l q s).2.length ≤ q.2.length + 3 := by
      unfold dstep
      split
      · exact ⟨Nat.le_succ _, by show (q.2 ++ _).length ≤ _; rw [slen, item1]; omega⟩
      · split
        · exact ⟨Nat.le_succ _, by show (q.2 ++ _).length ≤ _; rw [slen, show (Str.ofString "...").length = 3 from rfl]; omega⟩
        · split
          · exact ⟨by show (q.1 ++ _).length ≤ _; simp, Nat.zero_le _⟩
          · exact ⟨by show (q.1 ++ _).length ≤ _; simp, Nat.le_add_right _ _⟩
    rw [List.foldl_cons, List.length_cons]
    omega
def dJ (l : Str) (done rest : List Int) : Vars := [(Str.ofString "symbols", .list ((rest ++ [0]).map PV.int)), (Str.ofString "deeds", .list (done.foldl (dstep l) ([], Str.ofString "")).1), (Str.ofString "want", .str (done.foldl (dstep l) ([], Str.ofString "")).2), (Str.ofString "letters", .str l)]
theorem deeds {K : Params → Frag} (hK : Knows K) (w : World) (l : Str) (syms : List Int) (hl : l.length = 2) (hs : syms.length ≤ 256) (h0 : ∀ s ∈ syms, s ≠ 0 ∧ s < 258) (iseof : ∀ i : Int, Fn K w 1 108 [.int i] (.bool (i == 0))) (isnt : ∀ i : Int, Fn K w 1 101 [.int i] (.bool (decide (256 ≤ i)))) (subI : ∀ i j : Int, Fn K w 1 63 [.int i, .int j] (.int (i - j))) (addS : ∀ i j : Str, i.length + j.length ≤ sizeLine → Fn K w 1 35 [.str i, .str j] (.str (i ++ j)))
    (getitemS : ∀ (x : Str) (i : Int), 0 ≤ i → i < x.length → x.length ≤ 4096 → Fn K w 1 84 [.str x, .int i] (.str (Txt.item x i))) :
    Fn K w 2 120 [.list ((syms ++ [0]).map .int), .str l] (.list (syms.foldl (dstep l) ([], Str.ofString "")).1) := by
  have H := hK.f120 w
  conv at H in (scopeAt _) => whnf
  conv at H in (bodyAt _) => whnf
  refine' FnT.enter (n := 1) [Str.ofString "symbols", Str.ofString "letters"] H rfl ?hb ?k1 ?k2 ?k3 ?k4 ?hnd ?c1 ?c2 ?c3 ?h
  walk_at "m_fn"
  intro A h₀ ok okr L cdv
  refine' EXs.cons (EX.unpackSw [Str.ofString "deeds", Str.ofString "want"] (EV.tuple (EVs.cons (EV.list EVs.nil ?s1) (EVs.cons EV.str EVs.nil rfl) rfl) ?s2) rfl rfl rfl rfl) (EXs.cons (EX.pre (EX.while (fun n μ => ∃ done rest, syms = done ++ rest ∧ n = rest.length ∧ μ = dJ l done rest) (μ' := dJ l syms []) ?turn (n := syms.length) ⟨[], syms, rfl, rfl, rfl⟩) rfl) ?fin)
  case s1 => exact Nat.le_of_ble_eq_true rfl
  case s2 => exact Nat.le_of_ble_eq_true rfl
  case fin => exact EXs.consR (EX.ret (EV.var rfl rfl rfl))
  case turn =>
    rintro n μ ⟨done, rest, hsy, rfl, rfl⟩
    match rest with
    | [] =>
      refine .inr ⟨?_, by rw [hsy, List.append_nil]⟩
      refine' TV.not (b := true) (TV.bool (EV.callF (EV.glob rfl ?_ rfl) (EVs.cons (EV.item (EV.var rfl rfl rfl) EV.int (ITEM.list (by decide) rfl (by decide)) fun _ _ => rfl) EVs.nil rfl) (Fn.call (iseof 0) (Nat.le_refl 1)) ?_ rfl rfl rfl) rfl)
      all_goals walk_at "kn"
    | s :: rest =>
      have hmem : s ∈ syms := by rw [hsy]; simp
      obtain ⟨h1, h2⟩ := h0 s hmem
      have hs0 : (s == 0) = false := by simpa using h1
      have hE : Fn K w 1 108 [.int s] (.bool false) := hs0 ▸ iseof s
      refine .inl ⟨?_, rest.length, dJ l (done ++ [s]) rest, by simp, ?_, done ++ [s], rest, by rw [hsy]; simp, rfl, rfl⟩
      · refine' TV.not (b := false) (TV.bool (EV.callF (EV.glob rfl ?_ rfl) (EVs.cons (EV.item (EV.var rfl rfl rfl) EV.int (ITEM.list (by decide) rfl (by decide)) fun _ _ => rfl) EVs.nil rfl) (Fn.call hE (Nat.le_refl 1)) ?_ rfl rfl rfl) rfl)
        all_goals walk_at "kn"
      · unfold dJ
        rw [List.foldl_append]
        show EXs _ _ _ (.next [(Str.ofString "symbols", .list ((rest ++ [0]).map PV.int)), (Str.ofString "deeds", .list (dstep l (done.foldl (dstep l) ([], Str.ofString "")) s).1), (Str.ofString "want", .str (dstep l (done.foldl (dstep l) ([], Str.ofString "")) s).2), (Str.ofString "letters", .str l)])
        have hdl : done.length ≤ 255 := by rw [hsy] at hs; simp at hs; omega
        have hb := dlen (l := l) done ([], Str.ofString "")
        rw [show (Str.ofString "").length = 0 from rfl] at hb
        have hb1 : (done.foldl (dstep l) ([], Str.ofString "")).1.length ≤ 256 := by have := hb.1; simp only [List.length_nil] at this; omega
        have hb2 : (done.foldl (dstep l) ([], Str.ofString "")).2.length ≤ 1024 := by have := hb.2; omega
        clear hb
        generalize done.foldl (dstep l) ([], Str.ofString "") = q at hb1 hb2
        obtain ⟨d, wt⟩ := q
        simp only at hb1 hb2
        refine' EXs.cons (μ' := [(Str.ofString "deeds", .list (dstep l (d, wt) s).1), (Str.ofString "want", .str (dstep l (d, wt) s).2), (Str.ofString "symbols", .list (List.map PV.int (List.cons s (List.append rest [(0 : Int)])))), (Str.ofString "letters", .str l)]) (EX.ite (c := decide (256 ≤ s)) (TV.bool (EV.callF (EV.glob rfl ?k1 rfl) (EVs.cons (EV.item (EV.var rfl rfl rfl) EV.int (ITEM.list (by decide) rfl (by decide)) fun _ _ => rfl) EVs.nil rfl) (Fn.call (isnt s) (Nat.le_refl 1)) ?k2 rfl rfl rfl) rfl) ?ht ?hf) (EXs.sub (EXs.cons (EX.assign (EV.slice (EV.var rfl rfl rfl) (EVo.some EV.int) EVo.none (SLICE.listE (pick_from (List.map PV.int (List.cons s (List.append rest [(0 : Int)]))) 1 ?z1) ?z2)) rfl rfl rfl) EXs.nil) rfl)
        case k1 => walk_at "kn"
        case k2 => walk_at "kn"
        case z1 => simp
        case z2 => rw [hsy] at hs; simp [sizeLine] at hs ⊢; omega
        case ht =>
          intro h
          have h := of_decide_eq_true h
          have e : dstep l (d, wt) s = (d, wt ++ Txt.item l (s - 256)) := if_pos h
          rw [e]
          refine' EXs.sub (EXs.cons (EX.assign (EV.callF (EV.glob rfl ?g1 rfl) (EVs.cons (EV.var rfl rfl rfl) (EVs.cons (EV.callF (EV.glob rfl ?g2 rfl) (EVs.cons (EV.var rfl rfl rfl) (EVs.cons (EV.callF (EV.glob rfl ?g3 rfl) (EVs.cons (EV.item (EV.var rfl rfl rfl) EV.int (ITEM.list (by decide) rfl (by decide)) fun _ _ => rfl) (EVs.cons EV.int EVs.nil rfl) rfl) (Fn.call (subI s 256) (Nat.le_refl 1)) ?g4 rfl rfl rfl) EVs.nil rfl) rfl) (Fn.call (getitemS l (s - 256) (by omega) (by omega) (by omega)) (Nat.le_refl 1)) ?g5 rfl rfl rfl) EVs.nil rfl) rfl) (Fn.call (addS wt (Txt.item l (s - 256)) (by rw [item1]; unfold sizeLine; omega)) (Nat.le_refl 1)) ?g6 rfl rfl rfl) rfl rfl rfl) EXs.nil) rfl
          all_goals walk_at "kn"
        case hf =>
          intro h
          have h := of_decide_eq_false h
          refine' EXs.sub (EXs.cons (μ' := [(Str.ofString "deeds", .list (dstep l (d, wt) s).1), (Str.ofString "want", .str (dstep l (d, wt) s).2), (Str.ofString "symbols", .list (List.map PV.int (List.cons s (List.append rest [(0 : Int)])))), (Str.ofString "letters", .str l)]) (EX.ite (c := s == 52) (TV.cmp (EV.item (EV.var rfl rfl rfl) EV.int (ITEM.list (by decide) rfl (by decide)) fun _ _ => rfl) EV.int CMP.eq rfl) ?ht2 ?hf2) EXs.nil) rfl
          case ht2 =>
            intro h5
            have e : dstep l (d, wt) s = (d, wt ++ Str.ofString "...") := by unfold dstep; rw [if_neg h, if_pos (eq_of_beq h5)]
            rw [e]
            refine' EXs.sub (EXs.cons (EX.assign (EV.callF (EV.glob rfl ?g1 rfl) (EVs.cons (EV.var rfl rfl rfl) (EVs.cons EV.str EVs.nil rfl) rfl) (Fn.call (addS wt (Str.ofString "...") (by rw [show (Str.ofString "...").length = 3 from rfl]; unfold sizeLine; omega)) (Nat.le_refl 1)) ?g6 rfl rfl rfl) rfl rfl rfl) EXs.nil) rfl
            all_goals walk_at "kn"
          case hf2 =>
            intro h5
            have h5 : ¬ s = 52 := by simpa using h5
            refine' EXs.sub (EXs.cons (μ' := [(Str.ofString "deeds", .list (dstep l (d, wt) s).1), (Str.ofString "want", .str (dstep l (d, wt) s).2), (Str.ofString "symbols", .list (List.map PV.int (List.cons s (List.append rest [(0 : Int)])))), (Str.ofString "letters", .str l)]) (EX.ite (c := s == 12) (TV.cmp (EV.item (EV.var rfl rfl rfl) EV.int (ITEM.list (by decide) rfl (by decide)) fun _ _ => rfl) EV.int CMP.eq rfl) ?ht3 ?hf3) EXs.nil) rfl
            case ht3 =>
              intro h6
              have e : dstep l (d, wt) s = (d ++ [.str wt], Str.ofString "") := by unfold dstep; rw [if_neg h, if_neg h5, if_pos (eq_of_beq h6)]
              rw [e]
              refine' EXs.sub (EXs.cons (EX.unpackSw [Str.ofString "deeds", Str.ofString "want"] (EV.tuple (EVs.cons (EV.bin (EV.var rfl rfl rfl) (EV.list (EVs.cons (EV.var rfl rfl rfl) EVs.nil rfl) (Nat.le_of_ble_eq_true rfl)) (BIN.addL (by simp [sizeLine]; omega))) (EVs.cons EV.str EVs.nil rfl) rfl) (Nat.le_of_ble_eq_true rfl)) rfl rfl rfl rfl) EXs.nil) rfl
            case hf3 =>
              intro h6
              have h6 : ¬ s = 12 := by simpa using h6
              have e : dstep l (d, wt) s = (d ++ [.int s], wt) := by unfold dstep; rw [if_neg h, if_neg h5, if_neg h6]
              rw [e]
              refine' EXs.sub (EXs.cons (EX.assign (EV.bin (EV.var rfl rfl rfl) (EV.list (EVs.cons (EV.item (EV.var rfl rfl rfl) EV.int (ITEM.list (by decide) rfl (by decide)) fun _ _ => rfl) EVs.nil rfl) (Nat.le_of_ble_eq_true rfl)) (BIN.addL (by simp [sizeLine]; omega))) rfl rfl rfl) EXs.nil) rfl
/-- the marks of one pattern's signs -/
def mk1 (q : List (Str × Int) × Nat) (c : Nat) : List (Str × Int) × Nat := (put q.1 ⟨#[c]⟩ ((q.1.lookup ⟨#[c]⟩).getD 0 + 2 ^ (q.2 + 1)), q.2 + 1)
abbrev MS := (List (Str × Int) × Nat) × Int × Int × List Int
def mkA (q : MS) (a : Str × Int) : MS :=
  (((a.1.cps.toList.foldl mk1 q.1).1, (a.1.cps.toList.foldl mk1 q.1).2 + 1), q.2.1 + a.2.fmod (2 ^ (a.1.length + 1)) * 2 ^ q.1.2, q.2.2.1 + 2 ^ q.1.2, q.2.2.2 ++ [((a.1.cps.toList.foldl mk1 q.1).2 : Int)])
def mInv (a b : Nat) (n : Nat) (m : List (Str × Int) × Nat) : Prop := ∃ i j, m = ([(⟨#[a]⟩, i), (⟨#[b]⟩, j)], n)
theorem pairIf {α β : Type} {p : Prop} [Decidable p] {k : α} {x y : β} : (if p then (k, x) else (k, y)) = (k, if p then x else y) := by split <;> rfl
theorem mk1_inv {a b c n : Nat} {m : List (Str × Int) × Nat} (h : mInv a b n m) : mInv a b (n + 1) (mk1 m c) := by
  obtain ⟨i, j, rfl⟩ := h
  unfold mk1 put
  simp only [List.map_cons, List.map_nil, pairIf]
  exact ⟨_, _, rfl⟩
theorem mk_inv {a b : Nat} : ∀ (cs : List Nat) {n : Nat} {m : List (Str × Int) × Nat}, mInv a b n m → mInv a b (n + cs.length) (cs.foldl mk1 m)
  | [], _, _, h => h
  | c :: cs, n, m, h => by
    rw [List.foldl_cons, List.length_cons, show n + (cs.length + 1) = n + 1 + cs.length by omega]
    exact mk_inv cs (mk1_inv h)

def masksV (q : MS) : PV := .tup [.dct q.1.1, .int q.2.1, .int q.2.2.1, .list (q.2.2.2.map .int)]
def mJ (q : MS) : Vars := [(Str.ofString "@", .dct q.1.1), (Str.ofString "loops", .int q.2.1), (Str.ofString "begin", .int q.2.2.1), (Str.ofString "ends", .list (q.2.2.2.map .int)), (Str.ofString "first", .int (q.1.2 : Int))]
theorem mkA_inv {a b : Nat} : ∀ (atoms : List (Str × Int)) {n : Nat} {q : MS}, (∀ x ∈ atoms, x.1.cps.toList.length ≤ 3) → (∃ m, m ≤ n ∧ mInv a b m q.1) → ∃ m, m ≤ n + 4 * atoms.length ∧ mInv a b m (atoms.foldl mkA q).1 ∧ (atoms.foldl mkA q).2.2.2.length = q.2.2.2.length + atoms.length
  | [], n, q, _, ⟨m, h1, h2⟩ => ⟨m, h1, h2, rfl⟩
  | x :: r, n, q, hs, ⟨m, hm, h⟩ => by
    obtain ⟨i, j, e⟩ := mk_inv x.1.cps.toList h
    have hx := hs x List.mem_cons_self
    obtain ⟨m', h1, h2, h3⟩ := mkA_inv (a := a) (b := b) r (n := n + 4) (q := mkA q x) (fun y hy => hs y (List.mem_cons_of_mem _ hy)) ⟨m + x.1.cps.toList.length + 1, by omega, i, j, by unfold mkA; rw [e]⟩
    exact ⟨m', by rw [List.length_cons]; omega, h2, by rw [List.foldl_cons, h3]; show (q.2.2.2 ++ [_]).length + _ = _; rw [List.length_append, List.length_singleton, List.length_cons]; omega⟩
theorem masks {K : Params → Frag} (hK : Knows K) (w : World) (a b : Nat) (hab : a ≠ b) (atoms : List (Str × Int)) (hn : atoms.length ≤ 3) (hs : ∀ q ∈ atoms, q.1.cps.toList.length ≤ 3 ∧ ∀ c ∈ q.1.cps.toList, c = a ∨ c = b) :
    Fn K w 1 146 [.list (atoms.map fun q => .tup [.str q.1, .int q.2]), .str ⟨#[a, b]⟩] (masksV (atoms.foldl mkA (([(⟨#[a]⟩, 0), (⟨#[b]⟩, 0)], 0), 0, 0, []))) := by
  have H := hK.f146 w
  conv at H in (scopeAt _) => whnf
  conv at H in (bodyAt _) => whnf
  refine' FnT.enter (n := 0) [Str.ofString "atoms", Str.ofString "letters"] H rfl ?hb ?k1 ?k2 ?k3 ?k4 ?hnd ?c1 ?c2 ?c3 ?h
  walk_at "m_fn"
  intro A h₀ ok okr L cdv
  refine' EXs.mutD (x := Str.ofString "marks") (rs := [.int 0, .int 0, .list ([] : List PV), .int 0]) (a := ⟨#[a]⟩) (b := ⟨#[b]⟩) (i := 0) (j := 0) (μ' := [(Str.ofString "loops", .int 0), (Str.ofString "begin", .int 0), (Str.ofString "ends", .list []), (Str.ofString "first", .int 0), (Str.ofString "atoms", .list (atoms.map fun q => .tup [.str q.1, .int q.2]))]) [(Str.ofString "loops", _), (Str.ofString "begin", _), (Str.ofString "ends", _), (Str.ofString "first", _)] rfl rfl rfl rfl (by decide) rfl (EV.item (EV.var rfl rfl rfl) EV.int ?z1 fun _ _ => rfl) EV.int (EV.item (EV.var rfl rfl rfl) EV.int ?z2 fun _ _ => rfl) EV.int ?z3 ?z4 rfl rfl rfl ?z5 ?z6 ?rest
  case z1 => exact ITEM.str (by decide) (show (0 : Int) < ((2 : Nat) : Int) by decide) (show 2 ≤ 4096 by decide)
  case z2 => exact ITEM.str (by decide) (show (1 : Int) < ((2 : Nat) : Int) by decide) (show 2 ≤ 4096 by decide)
  case z3 => exact fun e => hab (by cases e; rfl)
  case z4 => exact fun d => EVs.cons EV.int (EVs.cons EV.int (EVs.cons (EV.list EVs.nil (Nat.zero_le _)) (EVs.cons EV.int EVs.nil rfl) rfl) rfl) rfl
  case z5 => exact fun _ => rfl
  case z6 => exact fun _ => rfl
  case rest =>
    intro d
    refine' EXs.cons (EX.for (FD.list (as := atoms) (val := fun q => .tup [.str q.1, .int q.2]) (EV.var rfl rfl rfl) rfl) (fun q μ => (Str.ofString "gaps", .int q.2) :: (Str.ofString "signs", .str q.1) :: μ) (fun i => mJ ((atoms.take i).foldl mkA (([(⟨#[a]⟩, 0), (⟨#[b]⟩, 0)], 0), 0, 0, []))) rfl ?g1 ?g2 ?g3) ?fin
    case g1 => exact fun _ _ _ => ASG.tup (ASG.pair (ASG.name rfl rfl) (ASG.name rfl rfl) rfl)
    case g3 => exact fun _ => rfl
    case g2 =>
      intro i q wr hq
      obtain ⟨n, hn0, ⟨i', j', e⟩, hen⟩ := mkA_inv (a := a) (b := b) (atoms.take i) (n := 0) (q := (([(⟨#[a]⟩, 0), (⟨#[b]⟩, 0)], 0), 0, 0, [])) (fun x hx => (hs x (List.mem_of_mem_take hx)).1) ⟨0, Nat.le_refl _, 0, 0, rfl⟩
      have hl := List.length_take_le' i atoms
      obtain ⟨hq1, hq2⟩ := hs q (List.mem_of_getElem? hq)
      rw [List.take_add_one, hq, Option.toList_some, List.foldl_append]
      generalize (atoms.take i).foldl mkA (([(⟨#[a]⟩, 0), (⟨#[b]⟩, 0)], 0), 0, 0, []) = m at e hen
      obtain ⟨⟨mk, f⟩, lo, be, en⟩ := m
      cases e
      obtain ⟨sg, gp⟩ := q
      have hn : n ≤ 12 := by omega
      have hen : en.length ≤ 3 := by rw [show en.length = _ from hen, List.length_nil]; omega
      clear hn0 hl hq hs
      have hq1 : sg.length ≤ 3 := hq1
      have hl7 : (n : Int) < 1000 := by omega
      have hl8 : n ≤ 60 := by omega
      have hl4 : ((sg.length : Int) + 1) < 1000 := by omega
      show EXs _ _ _ (.next (mJ (mkA _ _)))
      refine' EXs.cons (EX.assign (r := .int (lo + gp.fmod (2 ^ (sg.length + 1)) * 2 ^ n)) ?a1 rfl rfl rfl) (EXs.cons (EX.assign (r := .int (be + 2 ^ n)) ?a2 rfl rfl rfl) (EXs.cons (EX.for (FD.str (EV.var rfl rfl rfl)) (fun c => ((Str.ofString "sign", .str ⟨#[c]⟩) :: ·)) (fun k => mJ ((sg.cps.toList.take k).foldl mk1 ([(⟨#[a]⟩, i'), (⟨#[b]⟩, j')], n), lo + gp.fmod (2 ^ (sg.length + 1)) * 2 ^ n, be + 2 ^ n, en)) rfl ?b1 ?b2 ?b3) ?tl))
      case a1 =>
        refine' EV.bin (EV.var rfl rfl rfl) (EV.bin (EV.bin (EV.var rfl rfl rfl) (EV.bin EV.int (EV.bin (EV.callB (EV.blt rfl ?l0 rfl rfl ?l1) (EVs.cons (EV.var rfl rfl rfl) EVs.nil rfl) (CALL.lenS ?l2) rfl rfl rfl) EV.int BIN.add) (BIN.pow ?l3 (powbits ?l4))) (BIN.mod ?l5)) (EV.bin EV.int (EV.var rfl rfl rfl) (BIN.pow ?l6 (powbits ?l7))) (BIN.mul ?l8)) BIN.add
        case l0 => walk_at "kn"
        case l1 => decide
        case l2 => exact Nat.le_trans hq1 (by decide)
        case l3 => exact Int.natCast_nonneg (sg.length + 1)
        case l4 => exact hl4
        case l5 => exact powne
        case l6 => exact Int.natCast_nonneg n
        case l7 => exact hl7
        case l8 => exact intok hl8
      case a2 =>
        refine' EV.bin (EV.var rfl rfl rfl) (EV.bin EV.int (EV.var rfl rfl rfl) (BIN.pow ?l6 (powbits ?l7))) BIN.add
        case l6 => exact Int.natCast_nonneg n
        case l7 => exact hl7
      case b1 => exact fun _ _ _ => ASG.name rfl rfl
      case b3 => exact fun _ => rfl
      case b2 =>
        intro k c wr hc
        obtain ⟨i2, j2, e2⟩ := mk_inv (sg.cps.toList.take k) (⟨i', j', rfl⟩ : mInv a b n ([(⟨#[a]⟩, i'), (⟨#[b]⟩, j')], n))
        have hc2 := hq2 c (List.mem_of_getElem? hc)
        rw [List.take_add_one, hc, Option.toList_some, List.foldl_append, e2]
        obtain ⟨v, hv⟩ : ∃ v, [((⟨#[a]⟩ : Str), i2), (⟨#[b]⟩, j2)].lookup ⟨#[c]⟩ = some v := by
          rcases hc2 with rfl | rfl
          · exact ⟨i2, by rw [List.lookup_cons, beq_self_eq_true]⟩
          · by_cases h : ((⟨#[c]⟩ : Str) == ⟨#[a]⟩) = true
            · exact ⟨i2, by rw [List.lookup_cons, h]⟩
            · exact ⟨j2, by rw [List.lookup_cons, Bool.eq_false_iff.mpr h, List.lookup_cons, beq_self_eq_true]⟩
        have hk : n + (sg.cps.toList.take k).length ≤ 15 := Nat.add_le_add hn (Nat.le_trans (List.length_take_le' k _) hq1)
        generalize n + (sg.cps.toList.take k).length = f at hk
        show EXs _ _ _ (.next (mJ (mk1 _ _, _)))
        unfold mk1
        rw [hv]
        refine' EXs.sub (EXs.cons (EX.assign (EV.bin (EV.var rfl rfl rfl) EV.int BIN.add) rfl rfl rfl) (EXs.cons (EX.setM rfl rfl rfl (EV.bin (EV.itemM rfl rfl rfl (EV.var rfl rfl rfl) hv fun _ _ => rfl) (EV.bin EV.int (EV.var rfl rfl rfl) (BIN.pow ?p1 ?p2)) BIN.add) (EV.var rfl rfl rfl) hv (show 2 ≤ 4096 by decide) rfl) EXs.nil)) rfl
        case p1 => exact Int.natCast_nonneg (f + 1)
        case p2 => exact powbits (show (f : Int) + 1 < 1000 by omega)
      case tl =>
        rw [List.take_length]
        refine' EXs.sub (EXs.cons (EX.assign (EV.conv (EV.bin (EV.var rfl rfl rfl) (EV.list (EVs.cons (EV.var rfl rfl rfl) EVs.nil rfl) (Nat.le_of_ble_eq_true rfl)) (BIN.addL ?y1)) ?y2) rfl rfl rfl) (EXs.cons (EX.assign (EV.bin (EV.var rfl rfl rfl) EV.int BIN.add) rfl rfl rfl) EXs.nil)) rfl
        case y1 => rw [List.length_map]; exact Nat.le_trans (Nat.succ_le_succ hen) (by decide)
        case y2 => exact congrArg PV.list (List.map_append (l₁ := en) (l₂ := [((sg.cps.toList.foldl mk1 ([(⟨#[a]⟩, i'), (⟨#[b]⟩, j')], n)).2 : Int)])).symm
    case fin =>
      rw [List.take_length]
      unfold masksV
      generalize atoms.foldl mkA (([(⟨#[a]⟩, 0), (⟨#[b]⟩, 0)], 0), 0, 0, []) = m
      refine' EXs.freeze (r₀ := .dct m.1.1) (μ₁ := [(Str.ofString "loops", .int m.2.1), (Str.ofString "begin", .int m.2.2.1), (Str.ofString "ends", .list (m.2.2.2.map .int))]) rfl rfl rfl (EXs.consR (EX.ret (EV.tuple (EVs.cons (EV.var rfl rfl rfl) (EVs.cons (EV.var rfl rfl rfl) (EVs.cons (EV.var rfl rfl rfl) (EVs.cons (EV.var rfl rfl rfl) EVs.nil rfl) rfl) rfl) rfl) ?e9)))
      case e9 => exact Nat.le_of_ble_eq_true rfl
def sel (c : Bool) (x y : Str) : Str := if c then x else y
theorem EV.sel {C : FC} {μ : Vars} {t a b : PySem.Expr} {pos : Pos} {c : Bool} {x y : Str} (ht : TV C μ t c) (ha : EV C μ a (.str x)) (hb : EV C μ b (.str y)) : EV C μ (.IfExp t a b pos) (.str (sel c x y)) :=
  EV.ite ht (fun h => h ▸ ha) (fun h => h ▸ hb)
theorem sel_le {c : Bool} {x y : Str} {n : Nat} (hx : x.length ≤ n) (hy : y.length ≤ n) : (sel c x y).length ≤ n := by cases c; exact hy; exact hx
def bitO (g : Int) (k : Nat) : Bool := (g.fdiv (2 ^ k)).fmod 2 != 0
def pg1 (g : Int) (p : Str) (q : Nat × Nat) : Str := p ++ sel (bitO g q.2) (Str.ofString "...") (Str.ofString "") ++ ⟨#[q.1]⟩
def joinS (joins : List Int) (k : Nat) : Str := if k = 0 then Str.ofString "" else Txt.item (Str.ofString "&|^") (joins.getD (k - 1) 0)
def pgA (joins : List Int) (turns : Int) (p : Str) (q : (Str × Int) × Nat) : Str :=
  q.1.1.cps.toList.zipIdx.foldl (pg1 q.1.2) p ++ sel (bitO q.1.2 q.1.1.length) (Str.ofString "...,") (Str.ofString ",") ++ sel (bitO turns q.2) (Str.ofString "~") (Str.ofString "") ++ joinS joins q.2
def pageP (atoms : List (Str × Int)) (joins : List Int) (turns : Int) : Str := atoms.zipIdx.foldl (pgA joins turns) (Str.ofString "") ++ sel (turns.fdiv 8 != 0) (Str.ofString "~") (Str.ofString "")
theorem pg1_len {g : Int} : ∀ (qs : List (Nat × Nat)) (p : Str), (qs.foldl (pg1 g) p).length ≤ p.length + 4 * qs.length
  | [], p => Nat.le_refl _
  | q :: r, p => by
    have h := pg1_len (g := g) r (pg1 g p q)
    have h2 : (pg1 g p q).length = p.length + (sel (bitO g q.2) (Str.ofString "...") (Str.ofString "")).length + 1 := by unfold pg1; rw [slen, slen]; rfl
    have h3 : (sel (bitO g q.2) (Str.ofString "...") (Str.ofString "")).length ≤ 3 := sel_le (by decide) (by decide)
    rw [List.foldl_cons, List.length_cons]
    omega
theorem joinS_len {joins : List Int} {k : Nat} : (joinS joins k).length ≤ 1 := by
  unfold joinS
  split
  · decide
  · exact Nat.le_of_eq item1
theorem pgA_len {joins : List Int} {turns : Int} {p : Str} {q : (Str × Int) × Nat} : (pgA joins turns p q).length ≤ p.length + 4 * q.1.1.length + 6 := by
  have h1 := pg1_len (g := q.1.2) q.1.1.cps.toList.zipIdx p
  have h2 : (sel (bitO q.1.2 q.1.1.length) (Str.ofString "...,") (Str.ofString ",")).length ≤ 4 := sel_le (by decide) (by decide)
  have h3 : (sel (bitO turns q.2) (Str.ofString "~") (Str.ofString "")).length ≤ 1 := sel_le (by decide) (by decide)
  have h4 := joinS_len (joins := joins) (k := q.2)
  have h5 : q.1.1.cps.toList.zipIdx.length = q.1.1.length := List.length_zipIdx
  unfold pgA
  rw [slen, slen, slen]
  omega
theorem pgAs_len {joins : List Int} {turns : Int} : ∀ (qs : List ((Str × Int) × Nat)) (p : Str), (∀ q ∈ qs, q.1.1.length ≤ 3) → (qs.foldl (pgA joins turns) p).length ≤ p.length + 18 * qs.length
  | [], p, _ => Nat.le_refl _
  | q :: r, p, h => by
    have h1 := pgAs_len (joins := joins) (turns := turns) r (pgA joins turns p q) fun x hx => h x (List.mem_cons_of_mem _ hx)
    have h2 := pgA_len (joins := joins) (turns := turns) (p := p) (q := q)
    have h3 := h q List.mem_cons_self
    rw [List.foldl_cons, List.length_cons]
    omega
def pJ (p : Str) (joins : List Int) (turns : Int) : Vars := [(Str.ofString "page", .str p), (Str.ofString "joins", .list (joins.map .int)), (Str.ofString "turns", .int turns)]
theorem page {K : Params → Frag} (hK : Knows K) (w : World) (atoms : List (Str × Int)) (joins : List Int) (turns : Int) (hn : atoms.length ≤ 3) (hs : ∀ q ∈ atoms, q.1.length ≤ 3) (hj : joins.length = 2) (hjs : ∀ j ∈ joins, 0 ≤ j ∧ j < 3) :
    Fn K w 1 139 [.list (atoms.map fun q => .tup [.str q.1, .int q.2]), .list (joins.map .int), .int turns] (.str (pageP atoms joins turns)) := by
  have H := hK.f139 w
  conv at H in (scopeAt _) => whnf
  conv at H in (bodyAt _) => whnf
  refine' FnT.enter (n := 0) [Str.ofString "atoms", Str.ofString "joins", Str.ofString "turns"] H rfl ?hb ?k1 ?k2 ?k3 ?k4 ?hnd ?c1 ?c2 ?c3 ?h
  walk_at "m_fn"
  intro A h₀ ok okr L cdv
  have hq : ∀ q ∈ atoms.zipIdx, q.1.1.length ≤ 3 ∧ q.2 < 3 := fun q hq => ⟨hs q.1 (zipIdx_at hq).1, Nat.lt_of_lt_of_le (zipIdx_at hq).2 hn⟩
  refine' EXs.cons (EX.assign EV.str rfl rfl rfl) (EXs.cons (EX.for (FD.call (EV.blt rfl ?f1 rfl rfl ?f2) (EVs.cons (EV.var rfl rfl rfl) EVs.nil rfl) (CALLF.enumL (val := fun q : Str × Int => .tup [.str q.1, .int q.2])) rfl rfl rfl) (fun q μ => (Str.ofString "gaps", .int q.1.2) :: (Str.ofString "signs", .str q.1.1) :: (Str.ofString "place", .int (q.2 : Int)) :: μ) (fun i => pJ ((atoms.zipIdx.take i).foldl (pgA joins turns) (Str.ofString "")) joins turns) rfl ?g1 ?g2 ?g3) ?fin)
  case f1 => walk_at "kn"
  case f2 => decide
  case g1 => exact fun q _ _ => ASG.pair (b₀ := ((Str.ofString "place", .int (q.2 : Int)) :: ·)) (b₁ := fun μ => (Str.ofString "gaps", .int q.1.2) :: (Str.ofString "signs", .str q.1.1) :: μ) (ASG.name rfl rfl) (ASG.tup (ASG.pair (ASG.name rfl rfl) (ASG.name rfl rfl) rfl)) rfl
  case g3 => exact fun _ => rfl
  case fin =>
    rw [List.take_length]
    have hl := pgAs_len (joins := joins) (turns := turns) atoms.zipIdx (Str.ofString "") fun q h => (hq q h).1
    rw [show (Str.ofString "").length = 0 from rfl, List.length_zipIdx] at hl
    unfold pageP
    generalize atoms.zipIdx.foldl (pgA joins turns) (Str.ofString "") = p at hl
    refine' EXs.consR (EX.ret (EV.bin (EV.var rfl rfl rfl) (EV.sel (TV.int (EV.bin (EV.var rfl rfl rfl) EV.int (BIN.div (by decide) (PyProof.noPylong_small (by decide)))) rfl) EV.str EV.str) (BIN.addS ?u)))
    case u => exact Nat.le_trans (Nat.add_le_add hl (sel_le (n := 1) (by decide) (by decide))) (by unfold sizeLine; omega)
  case g2 =>
    intro i q wr hi
    obtain ⟨hq1, hq2⟩ := hq q (List.mem_of_getElem? hi)
    have hl := pgAs_len (joins := joins) (turns := turns) (atoms.zipIdx.take i) (Str.ofString "") fun q h => (hq q (List.mem_of_mem_take h)).1
    have hl2 := List.length_take_le' i atoms.zipIdx
    rw [List.length_zipIdx] at hl2
    rw [List.take_add_one, hi, Option.toList_some, List.foldl_append]
    generalize (atoms.zipIdx.take i).foldl (pgA joins turns) (Str.ofString "") = p at hl
    have hp : p.length ≤ 54 := by rw [show (Str.ofString "").length = 0 from rfl] at hl; omega
    clear hl hl2 hi
    obtain ⟨⟨sg, gp⟩, pl⟩ := q
    have hq1 : sg.length ≤ 3 := hq1
    have hq2 : pl < 3 := hq2
    show EXs _ _ _ (.next (pJ (pgA _ _ _ _) _ _))
    refine' EXs.cons (EX.for (FD.call (EV.blt rfl ?f1 rfl rfl ?f2) (EVs.cons (EV.var rfl rfl rfl) EVs.nil rfl) CALLF.enumS rfl rfl rfl) (fun q μ => (Str.ofString "sign", .str ⟨#[q.1]⟩) :: (Str.ofString "spot", .int (q.2 : Int)) :: μ) (fun i => (Str.ofString "gaps", .int gp) :: (Str.ofString "signs", .str sg) :: (Str.ofString "place", .int (pl : Int)) :: pJ ((sg.cps.toList.zipIdx.take i).foldl (pg1 gp) p) joins turns) rfl ?b1 ?b2 ?b3) ?tl
    case f1 => walk_at "kn"
    case f2 => decide
    case b1 => exact fun _ _ _ => ASG.pair (ASG.name rfl rfl) (ASG.name rfl rfl) rfl
    case b3 => exact fun _ => rfl
    case b2 =>
      intro k c wr hc
      have hk := List.length_take_le' k sg.cps.toList.zipIdx
      rw [List.length_zipIdx] at hk
      have hk2 : c.2 < 3 := Nat.lt_of_lt_of_le (zipIdx_at (List.mem_of_getElem? hc)).2 hq1
      have hl := pg1_len (g := gp) (sg.cps.toList.zipIdx.take k) p
      rw [List.take_add_one, hc, Option.toList_some, List.foldl_append]
      generalize (sg.cps.toList.zipIdx.take k).foldl (pg1 gp) p = p' at hl
      have hp' : p'.length ≤ 66 := by have hq1 : sg.cps.toList.length ≤ 3 := hq1; omega
      clear hl hk hc
      show EXs _ _ _ (.next (_ :: _ :: _ :: pJ (pg1 _ _ _) _ _))
      refine' EXs.sub (EXs.cons (EX.assign (EV.bin (EV.bin (EV.var rfl rfl rfl) (EV.sel (TV.int (EV.bin (EV.bin (EV.var rfl rfl rfl) (EV.bin EV.int (EV.var rfl rfl rfl) (BIN.pow ?p1 (powbits ?p2))) (BIN.div powne (powpl ?p3))) EV.int (BIN.mod (by decide))) rfl) EV.str EV.str) (BIN.addS ?p4)) (EV.var rfl rfl rfl) (BIN.addS ?p5)) rfl rfl rfl) EXs.nil) rfl
      case p1 => exact Int.natCast_nonneg c.2
      case p2 => omega
      case p3 => exact Nat.lt_trans hk2 (by decide)
      case p4 => exact Nat.le_trans (Nat.add_le_add hp' (sel_le (n := 3) (by decide) (by decide))) (by decide)
      case p5 =>
        rw [slen]
        exact Nat.le_trans (Nat.add_le_add (Nat.add_le_add hp' (sel_le (n := 3) (by decide) (by decide))) (show _ ≤ 1 from Nat.le_refl _)) (by decide)
    case tl =>
      rw [List.take_length]
      have hl := pg1_len (g := gp) sg.cps.toList.zipIdx p
      rw [List.length_zipIdx] at hl
      unfold pgA
      generalize sg.cps.toList.zipIdx.foldl (pg1 gp) p = p' at hl
      have hp' : p'.length ≤ 66 := by have hq1 : sg.cps.toList.length ≤ 3 := hq1; omega
      clear hl
      refine' EXs.sub (EXs.cons (EX.assign (r := .str (p' ++ sel (bitO gp sg.length) (Str.ofString "...,") (Str.ofString ","))) ?a1 rfl rfl rfl) (EXs.cons (EX.assign (EV.bin (EV.bin (EV.var rfl rfl rfl) ?a2 (BIN.addS ?p4)) (EV.ite (c := ((pl : Int) != 0)) (TV.int (EV.var rfl rfl rfl) rfl) ?a3 ?a4) (BIN.addS ?p5)) rfl rfl rfl) EXs.nil)) rfl
      case a1 =>
        refine' EV.bin (EV.var rfl rfl rfl) (EV.sel (TV.int (EV.bin (EV.bin (EV.var rfl rfl rfl) (EV.bin EV.int (EV.callB (EV.blt rfl ?l0 rfl rfl ?l1) (EVs.cons (EV.var rfl rfl rfl) EVs.nil rfl) (CALL.lenS ?l2) rfl rfl rfl) (BIN.pow ?l3 (powbits ?l4))) (BIN.div powne (powpl ?l5))) EV.int (BIN.mod (by decide))) rfl) EV.str EV.str) (BIN.addS ?l6)
        case l0 => walk_at "kn"
        case l1 => decide
        case l2 => exact Nat.le_trans hq1 (by decide)
        case l3 => exact Int.natCast_nonneg sg.length
        case l4 => omega
        case l5 => exact Nat.lt_of_le_of_lt hq1 (by decide)
        case l6 => exact Nat.le_trans (Nat.add_le_add hp' (sel_le (n := 4) (by decide) (by decide))) (by decide)
      case a2 =>
        refine' EV.sel (TV.int (EV.bin (EV.bin (EV.var rfl rfl rfl) (EV.bin EV.int (EV.var rfl rfl rfl) (BIN.pow ?l3 (powbits ?l4))) (BIN.div powne (powpl ?l5))) EV.int (BIN.mod (by decide))) rfl) EV.str EV.str
        case l3 => exact Int.natCast_nonneg pl
        case l4 => omega
        case l5 => exact Nat.lt_trans hq2 (by decide)
      case p4 =>
        rw [slen]
        exact Nat.le_trans (Nat.add_le_add (Nat.add_le_add hp' (sel_le (n := 4) (by decide) (by decide))) (sel_le (n := 1) (by decide) (by decide))) (by decide)
      case p5 =>
        rw [slen, slen]
        exact Nat.le_trans (Nat.add_le_add (Nat.add_le_add (Nat.add_le_add hp' (sel_le (n := 4) (by decide) (by decide))) (sel_le (n := 1) (by decide) (by decide))) (joinS_len (joins := joins) (k := pl))) (by decide)
      case a3 =>
        intro h
        obtain ⟨k, rfl⟩ : ∃ k, pl = k + 1 := by
          cases pl with
          | zero => cases h
          | succ k => exact ⟨k, rfl⟩
        have hk : joins[k]? = some (joins.getD k 0) := by rw [List.getD_eq_getElem?_getD]; exact get_d (by omega)
        obtain ⟨j1, j2⟩ := hjs _ (List.mem_of_getElem? hk)
        refine' EV.item EV.str (EV.item (EV.var rfl rfl rfl) (EV.bin (EV.var rfl rfl rfl) EV.int BIN.sub) (ITEM.list (r := .int (joins.getD k 0)) ?i1 ?i2 ?i3) fun _ _ => rfl) (ITEM.str j1 ?i4 (by decide)) fun _ _ => rfl
        case i1 => omega
        case i2 => rw [show ((((k + 1 : Nat) : Int) - 1)).toNat = k by omega, List.getElem?_map, hk]; rfl
        case i3 => omega
        case i4 => exact j2
      case a4 =>
        intro h
        obtain rfl : pl = 0 := by
          cases pl with
          | zero => rfl
          | succ k => simp at h; omega
        exact EV.str
theorem indexOf {K : Params → Frag} (hK : Knows K) (w : World) (a b c : Nat) (t : Tok) (hc : c = a ∨ c = b) (ha : a < 128) (hb : b < 128) (ht : @LE.le Nat _ 1 t) :
    FnT K (t + 1) w 1 91 [.str ⟨#[a, b]⟩, .fix (.str ⟨#[c]⟩ t)] (.int (if c = a then 0 else 1)) := by
  have H := hK.f91 w
  conv at H in (scopeAt _) => whnf
  conv at H in (bodyAt _) => whnf
  refine' FnT.enter (n := 0) [Str.ofString "a", Str.ofString "b"] H rfl ?hb ?k1 ?k2 ?k3 ?k4 ?hnd ?c1 ?c2 ?c3 ?h
  walk_at "m_fn"
  intro A h₀ ok okr L cdv
  have hasc : (⟨#[a, b]⟩ : Str).cps.all (· < 128) = true := by simp [ha, hb]
  rcases Decidable.em (c = a) with h | h
  · subst h
    rw [if_pos rfl]
    refine' EXs.consR (EX.forR (FD.call (EV.blt rfl ?f1 rfl rfl ?f2) (EVs.cons (EV.var rfl rfl rfl) EVs.nil rfl) (CALLF.enumT hasc) rfl rfl rfl) (fun q μ => (Str.ofString "j", .tok ⟨#[q.1]⟩ (t + 1)) :: (Str.ofString "i", .int (q.2 : Int)) :: μ) (fun i => [(Str.ofString "b", .fix (.str ⟨#[c]⟩ t))]) 0 (c, 0) rfl rfl ?g1 ?g2 ?g4 ?g3)
    case g4 => exact fun wr => EXs.consR (EX.ite (c := (⟨#[c]⟩ : Str) == ⟨#[c]⟩) (TV.isOr hK (EV.var rfl rfl rfl) (EV.var rfl rfl rfl) (EV.var rfl rfl rfl) (EV.var rfl rfl rfl) ht (Nat.lt_succ_self _) rfl rfl) (fun _ => EXs.consR (EX.ret (EV.var rfl rfl rfl))) (fun h => by rw [beq_self_eq_true] at h; cases h))
    case f1 => walk_at "kn"
    case f2 => decide
    case g1 => exact fun _ _ _ => ASG.pair (ASG.name rfl rfl) (ASG.name rfl rfl) rfl
    case g2 => exact fun i _ _ h => absurd h (Nat.not_lt_zero i)
    case g3 => exact fun _ => rfl
  · obtain rfl : c = b := hc.resolve_left h
    rw [if_neg h]
    refine' EXs.consR (EX.forR (FD.call (EV.blt rfl ?f1 rfl rfl ?f2) (EVs.cons (EV.var rfl rfl rfl) EVs.nil rfl) (CALLF.enumT hasc) rfl rfl rfl) (fun q μ => (Str.ofString "j", .tok ⟨#[q.1]⟩ (t + 1)) :: (Str.ofString "i", .int (q.2 : Int)) :: μ) (fun i => [(Str.ofString "b", .fix (.str ⟨#[c]⟩ t))]) 1 (c, 1) rfl rfl ?g1 ?g2 ?g4 ?g3)
    case g4 => exact fun wr => EXs.consR (EX.ite (c := (⟨#[c]⟩ : Str) == ⟨#[c]⟩) (TV.isOr hK (EV.var rfl rfl rfl) (EV.var rfl rfl rfl) (EV.var rfl rfl rfl) (EV.var rfl rfl rfl) ht (Nat.lt_succ_self _) rfl rfl) (fun _ => EXs.consR (EX.ret (EV.var rfl rfl rfl))) (fun h => by rw [beq_self_eq_true] at h; cases h))
    case f1 => walk_at "kn"
    case f2 => decide
    case g1 => exact fun _ _ _ => ASG.pair (ASG.name rfl rfl) (ASG.name rfl rfl) rfl
    case g3 => exact fun _ => rfl
    case g2 =>
      intro i q wr hi hq
      obtain rfl : i = 0 := Nat.lt_one_iff.mp hi
      obtain rfl : (a, 0) = q := Option.some.inj hq
      have hne : ((⟨#[a]⟩ : Str) == ⟨#[c]⟩) = false := beq_eq_false_iff_ne.mpr fun e => h (by injection e with e; injection e with e; injection e with e _; exact e.symm)
      refine' EXs.sub (EXs.cons (EX.ite (c := (⟨#[a]⟩ : Str) == ⟨#[c]⟩) (TV.isOr hK (EV.var rfl rfl rfl) (EV.var rfl rfl rfl) (EV.var rfl rfl rfl) (EV.var rfl rfl rfl) ht (Nat.lt_succ_self _) rfl rfl) (fun h => by rw [hne] at h; cases h) (fun _ => EXs.nil)) EXs.nil) rfl
/-- how many signs the page's head has -/
def sz (p : Str) : Int := if (tok (Txt.slice p none (some 3))).isSome then 3 else if (tok (Txt.slice p none (some 2))).isSome then 2 else 1
def hdOf (p : Str) : Str := Txt.slice p none (some (sz p))
def tlOf (p : Str) : Str := Txt.slice p (some (sz p)) none
/-- a page and the numbers that it is read as -/
inductive Reads (a b : Nat) : Str → List Int → Prop
  | nil {p : Str} (h : p.length = 0) : Reads a b p []
  | known {p : Str} {v : Int} {vs : List Int} (h : p.length ≠ 0) (hv : tok (hdOf p) = some v) (r : Reads a b (tlOf p) vs) : Reads a b p (v :: vs)
  | sign {p : Str} {c : Nat} {vs : List Int} (h : p.length ≠ 0) (hv : tok (hdOf p) = none) (hh : hdOf p = ⟨#[c]⟩) (hc : c = a ∨ c = b) (hn : hdOf p ≠ p) (r : Reads a b (tlOf p) vs) : Reads a b p ((256 + if c = a then 0 else 1) :: vs)
theorem Reads.step {a b : Nat} {q : Str} {rest : List Int} (h : Reads a b q rest) : (q.length = 0 ∧ rest = []) ∨ ∃ v rest', rest = v :: rest' ∧ q.length ≠ 0 ∧ Reads a b (tlOf q) rest' ∧
    (tok (hdOf q) = some v ∨ ∃ c, tok (hdOf q) = none ∧ hdOf q = ⟨#[c]⟩ ∧ (c = a ∨ c = b) ∧ hdOf q ≠ q ∧ v = 256 + if c = a then 0 else 1) := by
  cases h with
  | nil h0 => exact .inl ⟨h0, rfl⟩
  | known h0 hv r => exact .inr ⟨_, _, rfl, h0, r, .inl hv⟩
  | sign h0 hv hh hc hn r => exact .inr ⟨_, _, rfl, h0, r, .inr ⟨_, hv, hh, hc, hn, rfl⟩⟩
theorem sz_pos {p : Str} : 1 ≤ sz p ∧ sz p ≤ 3 := by
  unfold sz
  split
  · decide
  · split <;> decide
def wides (p : Str) : List Int := [2, 3].filter fun a => (tok (Txt.slice p none (some a))).isSome
theorem sz_mem {p : Str} : sz p ∈ 1 :: wides p ∧ ∀ a ∈ 1 :: wides p, a ≤ sz p := by
  unfold sz wides
  cases h2 : (tok (Txt.slice p none (some 2))).isSome <;> cases h3 : (tok (Txt.slice p none (some 3))).isSome <;> simp [h2, h3]
def yJ (p l : Str) (done : List Int) : Vars := [(Str.ofString "@", .list (done.map .int)), (Str.ofString "page", .str p), (Str.ofString "letters", .str l)]
theorem symbols {K : Params → Frag} (hK : Knows K) (w : World) (a b : Nat) (ha : a < 128) (hb : b < 128) (p : Str) (vs : List Int) (hr : Reads a b p vs) (hp : p.length ≤ 1000) (hvs : vs.length ≤ 1000) :
    Fn K w 2 113 [.str p, .str ⟨#[a, b]⟩] (.list ((vs ++ [0]).map .int)) := by
  have H := hK.f113 w
  conv at H in (scopeAt _) => whnf
  conv at H in (bodyAt _) => whnf
  refine' FnT.enter (n := 1) [Str.ofString "page", Str.ofString "letters"] H rfl ?hb ?k1 ?k2 ?k3 ?k4 ?hnd ?c1 ?c2 ?c3 ?h
  walk_at "m_fn"
  intro A h₀ ok okr L cdv
  refine' EXs.mutL (μ := [(Str.ofString "page", .str p), (Str.ofString "letters", .str ⟨#[a, b]⟩)]) rfl rfl rfl rfl (fun _ => rfl) ?rest
  intro d
  refine' EXs.cons (EX.while (fun n μ => ∃ done rest q, Reads a b q rest ∧ q.length ≤ 1000 ∧ vs = done ++ rest ∧ n = rest.length ∧ μ = yJ q ⟨#[a, b]⟩ done) (μ' := yJ (Str.ofString "") ⟨#[a, b]⟩ vs) ?turn (n := vs.length) ⟨[], vs, p, hr, hp, rfl, rfl, rfl⟩) ?fin
  case fin =>
    refine' EXs.freeze (r₀ := .list (vs.map .int)) (μ₁ := []) rfl rfl rfl (EXs.consR (EX.ret (EV.conv (EV.bin (EV.var rfl rfl rfl) (EV.list (EVs.cons EV.int EVs.nil rfl) (Nat.le_of_ble_eq_true rfl)) (BIN.addL ?y1)) ?y2)))
    case y1 => rw [List.length_map]; exact Nat.le_trans (Nat.succ_le_succ hvs) (by decide)
    case y2 => exact congrArg PV.list (List.map_append (l₁ := vs) (l₂ := [(0 : Int)])).symm
  case turn =>
    rintro n μ ⟨done, rest, q, hr, hq, hvd, rfl, rfl⟩
    have hd : done.length ≤ 1000 := by rw [hvd, List.length_append] at hvs; omega
    have hsl : q.length ≤ sizeLine := Nat.le_trans hq (by decide)
    rcases hr.step with ⟨h0, rfl⟩ | ⟨v, rest', rfl, h0, hr', hk⟩
    · refine .inr ⟨?_, ?_⟩
      · have e : ((q.length : Int) != 0) = false := by rw [h0]; rfl
        exact e ▸ TV.str (EV.var rfl rfl rfl) (Nat.le_trans hq (by decide)) rfl
      · have : q = Str.ofString "" := by
          obtain ⟨c⟩ := q
          exact congrArg Str.mk (Array.eq_empty_of_size_eq_zero h0)
        rw [this, hvd, List.append_nil]
    · have e : ((q.length : Int) != 0) = true := bne_iff_ne.mpr fun z => h0 (Int.ofNat.inj z)
      have hql : (tlOf q).length ≤ 1000 := Nat.le_trans (PyProof.Txt.length_slice_le q _ _) hq
      refine' .inl ⟨e ▸ TV.str (EV.var rfl rfl rfl) (Nat.le_trans hq (by decide)) rfl, rest'.length, yJ (tlOf q) ⟨#[a, b]⟩ (done ++ [v]), Nat.lt_succ_self _, EXs.cons (EX.assign (r := .int (sz q)) ?size rfl rfl rfl) ?tail, done ++ [v], rest', tlOf q, hr', hql, by rw [hvd]; simp, rfl, rfl⟩
      case size =>
        refine' EV.callB (EV.blt rfl ?f1 rfl rfl ?f2) (EVs.cons (EV.conv (EV.bin (EV.list (EVs.cons EV.int EVs.nil rfl) (Nat.le_of_ble_eq_true rfl)) (EV.comp (as := [2, 3]) (sh := fun a => .one (.int a)) (μc := [(Str.ofString "page", .str q)]) ?O (FD.tup (EV.tuple (EVs.cons EV.int (EVs.cons EV.int EVs.nil rfl) rfl) (Nat.le_of_ble_eq_true rfl)) rfl) (by decide) (fun a => ((Str.ofString "wide", .int a) :: ·)) (fun a => (tok (Txt.slice q none (some a))).isSome) .int ?c2 ?c3 ?c4 ?c5 ?c6) (BIN.addL ?c7)) (?c8 : _ = PV.list ((1 :: wides q).map .int))) EVs.nil rfl) (CALL.maxL sz_mem.1 sz_mem.2) rfl rfl rfl
        case f1 => walk_at "kn"
        case f2 => decide
        case O => exact ⟨rfl, rfl, by decide, by decide, rfl, rfl, rfl, rfl, rfl, rfl⟩
        case c2 => exact fun _ _ _ _ _ => ASG.name rfl rfl
        case c3 => exact fun _ _ => rfl
        case c4 =>
          intro a _ wr K' D
          refine' TVs.one (TV.bool (EV.callF (EV.glob rfl ?g1 rfl) (EVs.cons (EV.glob rfl ?g2 rfl) (EVs.cons (EV.slice (EV.var rfl rfl rfl) EVo.none (EVo.some (EV.var rfl rfl rfl)) (SLICE.strTo hsl)) EVs.nil rfl) rfl) (Fn.call (containsX hK w _) (Nat.le_refl 1)) ?g3 rfl rfl rfl) rfl)
          all_goals walk_at "kn"
        case c5 => exact fun _ _ _ _ _ _ => EV.var rfl rfl rfl
        case c6 => exact fun _ => rfl
        case c7 => exact Nat.le_trans (Nat.add_le_add_left (by rw [List.length_map]; exact List.length_filter_le _ _) _) (by decide)
        case c8 => rfl
      case tail =>
        rcases hk with hv | ⟨c, hv, hh, hc, hn, rfl⟩
        · refine' EXs.cons (EX.assign (EV.slice (EV.var rfl rfl rfl) EVo.none (EVo.some (EV.var rfl rfl rfl)) (SLICE.strTo hsl)) rfl rfl rfl) (EXs.cons (EX.assign (r := .bool true) (EV.conv (EV.callF (EV.glob rfl ?w1 rfl) (EVs.cons (EV.glob rfl ?w2 rfl) (EVs.cons (EV.var rfl rfl rfl) EVs.nil rfl) rfl) (Fn.call (containsX hK w (hdOf q)) (Nat.le_refl 1)) ?w3 rfl rfl rfl) ?w4) rfl rfl rfl) (EXs.cons (EX.append rfl rfl (EVm.pure (EV.ite (c := true) (TV.bool (EV.var rfl rfl rfl) rfl) (fun _ => EV.callF (EV.glob rfl ?w5 rfl) (EVs.cons (EV.glob rfl ?w6 rfl) (EVs.cons (EV.var rfl rfl rfl) EVs.nil rfl) rfl) (Fn.call (getitemX hK w (hdOf q) v hv) (Nat.le_refl 1)) ?w7 rfl rfl rfl) (fun h => by cases h))) ⟨_, rfl, ?w8, (List.map_append (l₁ := done) (l₂ := [v])).symm⟩ rfl rfl rfl rfl _ rfl)
            (EXs.sub (EXs.cons (EX.assign (EV.slice (EV.var rfl rfl rfl) (EVo.some (EV.var rfl rfl rfl)) EVo.none (SLICE.strFrom hsl)) rfl rfl rfl) EXs.nil) rfl)))
          case w4 => rw [hv]; rfl
          case w8 => rw [List.length_map]; exact Nat.le_trans hd (by decide)
          all_goals walk_at "kn"
        · refine' EXs.head (Nat.le_refl 1) (EV.var rfl rfl rfl) (EV.var rfl rfl rfl) hsl hn rfl rfl rfl ?x0
          intro t ht
          have hix := indexOf hK w a b c t hc ha hb ht
          refine' EXs.cons (EX.assign (r := .bool false) (EV.conv (EV.callF (EV.glob rfl ?x1 rfl) (EVs.cons (EV.glob rfl ?x2 rfl) (EVs.cons (EV.asS (EV.var rfl rfl rfl)) EVs.nil rfl) rfl) (Fn.call (containsX hK w (hdOf q)) (Nat.le_refl 1)) ?x3 rfl rfl rfl) ?x4) rfl rfl rfl) (EXs.cons (EX.append rfl rfl (EVm.pure (EV.ite (c := false) (TV.bool (EV.var rfl rfl rfl) rfl) (fun h => by cases h) (fun _ => EV.callF (EV.glob rfl ?x5 rfl) (EVs.cons EV.int (EVs.cons (EV.callF (EV.glob rfl ?x6 rfl) (EVs.cons (EV.var rfl rfl rfl) (EVs.cons (hh ▸ EV.var rfl rfl rfl) EVs.nil rfl) rfl) (FnT.call hix (Nat.le_refl 1) (Nat.le_refl _)) ?x7 rfl rfl rfl) EVs.nil rfl) rfl) (Fn.call (addI hK w 256 _) (Nat.le_refl 1)) ?x8 rfl rfl rfl))) ⟨_, rfl, ?x9, (List.map_append (l₁ := done) (l₂ := [256 + if c = a then 0 else 1])).symm⟩ rfl rfl rfl rfl _ rfl)
            (EXs.sub (EXs.cons (EX.assign (EV.slice (EV.var rfl rfl rfl) (EVo.some (EV.var rfl rfl rfl)) EVo.none (SLICE.strFrom hsl)) rfl rfl rfl) EXs.nil) rfl))
          case x4 => rw [hv]; rfl
          case x9 => rw [List.length_map]; exact Nat.le_trans hd (by decide)
          all_goals walk_at "kn"
/-- a deed: a pattern or an operator's number -/
abbrev Dd := Str ⊕ Int
def ddV : Dd → PV
  | .inl p => .str p
  | .inr i => .int i
def jn (i : Int) (l u : Bool) : Bool := if i = 18 then l || u else if i = 19 then l && u else l != u
/-- the pile, its top first -/
def sayS (em : Str → Bool) : List Bool → Dd → List Bool
  | st, .inl p => em p :: st
  | st, .inr i => if i = 31 then (match st with | x :: st => (!x) :: st | [] => []) else (match st with | u :: l :: st => jn i l u :: st | st => st)
def okD (st : List Bool) : Dd → Prop
  | .inl _ => True
  | .inr i => (i = 31 ∧ ∃ x r, st = x :: r) ∨ ((i = 18 ∨ i = 19 ∨ i = 32) ∧ ∃ u l r, st = u :: l :: r)
def sJ (st : List Bool) (text : Str) : Vars := [(Str.ofString "@", .list (st.reverse.map .bool)), (Str.ofString "text", .str text)]
theorem rev1 {x : Bool} {st : List Bool} : ((x :: st).reverse.map PV.bool) = st.reverse.map PV.bool ++ [.bool x] := by simp
theorem says {K : Params → Frag} (hK : Knows K) (w : World) (em : Str → Bool) (text : Str) (deeds : List Dd) (hem : ∀ p, .inl p ∈ deeds → Fn K w 1 21 [.str p, .str text] (.bool (em p))) (hv : ∀ i d, deeds[i]? = some d → okD ((deeds.take i).foldl (sayS em) []) d) (hl : ∀ i, ((deeds.take i).foldl (sayS em) []).length ≤ 100) :
    Fn K w 2 127 [.list (deeds.map ddV), .str text] (.list ((deeds.foldl (sayS em) []).reverse.map .bool)) := by
  have H := hK.f127 w
  conv at H in (scopeAt _) => whnf
  conv at H in (bodyAt _) => whnf
  refine' FnT.enter (n := 1) [Str.ofString "deeds", Str.ofString "text"] H rfl ?hb ?k1 ?k2 ?k3 ?k4 ?hnd ?c1 ?c2 ?c3 ?h
  walk_at "m_fn"
  intro A h₀ ok okr L cdv
  refine' EXs.mutL (μ := [(Str.ofString "deeds", .list (deeds.map ddV)), (Str.ofString "text", .str text)]) rfl rfl rfl rfl (fun _ => rfl) ?rest
  intro d
  refine' EXs.cons (EX.for (FD.list (as := deeds) (val := ddV) (EV.var rfl rfl rfl) rfl) (fun q => ((Str.ofString "deed", ddV q) :: ·)) (fun i => sJ ((deeds.take i).foldl (sayS em) []) text) rfl ?g1 ?g2 ?g3) ?fin
  case g1 => exact fun _ _ _ => ASG.name rfl rfl
  case g3 => exact fun _ => rfl
  case fin =>
    rw [List.take_length]
    generalize deeds.foldl (sayS em) [] = st
    exact EXs.freeze (r₀ := .list (st.reverse.map .bool)) (μ₁ := []) rfl rfl rfl (EXs.consR (EX.ret (EV.var rfl rfl rfl)))
  case g2 =>
    intro i q wr hi
    have hok := hv i q hi
    have hlen := hl i
    have hmem := List.mem_of_getElem? hi
    rw [List.take_add_one, hi, Option.toList_some, List.foldl_append]
    generalize (deeds.take i).foldl (sayS em) [] = st at hok hlen
    have hlr : (st.reverse.map PV.bool).length ≤ 4096 := by rw [List.length_map, List.length_reverse]; exact Nat.le_trans hlen (by decide)
    cases q with
    | inl p =>
      refine' EXs.sub (EXs.cons (EX.ite (c := true) (TV.bool (EV.callB (EV.blt rfl ?f1 rfl rfl ?f2) (EVs.cons (EV.var rfl rfl rfl) (EVs.cons (EV.blt rfl ?f3 rfl rfl ?f4) EVs.nil rfl) rfl) CALL.isStr rfl rfl rfl) rfl) (fun _ => EXs.cons (EX.append rfl rfl (EVm.pure (EV.callF (EV.glob rfl ?f5 rfl) (EVs.cons (EV.var rfl rfl rfl) (EVs.cons (EV.var rfl rfl rfl) EVs.nil rfl) rfl) (Fn.call (hem p hmem) (Nat.le_refl 1)) ?f6 rfl rfl rfl)) ⟨_, rfl, hlr, rev1.symm⟩ rfl rfl rfl rfl _ rfl) EXs.nil) (fun h => by cases h)) EXs.nil) rfl
      case f2 => decide
      case f4 => decide
      all_goals walk_at "kn"
    | inr j =>
      rcases hok with ⟨rfl, x, r, rfl⟩ | ⟨hj, u, l, r, rfl⟩
      · have e : sJ (x :: r) text = [(Str.ofString "@", .list (r.reverse.map PV.bool ++ [.bool x])), (Str.ofString "text", .str text)] := by unfold sJ; rw [rev1]
        rw [e]
        show EXs _ _ _ (.next (sJ ((!x) :: r) text))
        have hlr : (r.reverse.map PV.bool).length ≤ 4096 := by rw [List.length_map, List.length_reverse]; exact Nat.le_trans (Nat.le_of_succ_le hlen) (by decide)
        refine' EXs.sub (EXs.cons (EX.ite (c := false) (TV.bool (EV.callB (EV.blt rfl ?m1 rfl rfl ?m2) (EVs.cons (EV.var rfl rfl rfl) (EVs.cons (EV.blt rfl ?m3 rfl rfl ?m4) EVs.nil rfl) rfl) CALL.notStr rfl rfl rfl) rfl) (fun h => by cases h) (fun _ => EXs.cons (EX.ite (c := (31 : Int) == 31) (TV.cmp (EV.var rfl rfl rfl) EV.int CMP.eq rfl)
          (fun _ => EXs.cons (EX.append rfl rfl (EVm.call1 (EV.glob rfl ?m5 rfl) (EVm.pop rfl rfl hlr rfl _ rfl) (Fn.call (notB hK w x) (Nat.le_refl 1)) ?m6 rfl rfl) ⟨_, rfl, hlr, rev1.symm⟩ rfl rfl rfl rfl _ rfl) EXs.nil) (fun h => by cases h)) EXs.nil)) EXs.nil) rfl
        case m2 => decide
        case m4 => decide
        all_goals walk_at "kn"
      · have e : sJ (u :: l :: r) text = [(Str.ofString "@", .list ((r.reverse.map PV.bool ++ [.bool l]) ++ [.bool u])), (Str.ofString "text", .str text)] := by unfold sJ; rw [rev1, rev1]
        rw [e]
        have hlr : (r.reverse.map PV.bool).length ≤ 4096 := by rw [List.length_map, List.length_reverse]; exact Nat.le_trans (Nat.le_of_succ_le (Nat.le_of_succ_le hlen)) (by decide)
        have hlr1 : (r.reverse.map PV.bool ++ [PV.bool l]).length ≤ 4096 := by rw [List.length_append, List.length_map, List.length_reverse]; exact Nat.le_trans (Nat.le_of_succ_le hlen) (by decide)
        have h31 : (j == 31) = false := by rcases hj with rfl | rfl | rfl <;> rfl
        have hst : sayS em (u :: l :: r) (.inr j) = jn j l u :: r := by
          show (if j = 31 then _ else _) = _
          rw [if_neg fun z => by rw [z] at h31; cases h31]
        show EXs _ _ _ (.next (sJ (sayS em (u :: l :: r) (.inr j)) text))
        rw [hst]
        have hf : ∃ f, FK.contains f = true ∧ [PV.fix (.ref 56), PV.fix (.ref 42), PV.fix (.ref 70)][([18, 19, 32] : List Int).idxOf j]? = some (.fix (.ref f)) ∧ Fn K w 1 f [.bool l, .bool u] (.bool (jn j l u)) := by
          rcases hj with rfl | rfl | rfl
          · exact ⟨56, rfl, rfl, orB hK w l u⟩
          · exact ⟨42, rfl, rfl, andB hK w l u⟩
          · exact ⟨70, rfl, rfl, xorB hK w l u⟩
        obtain ⟨f, hfk, hfi, hF⟩ := hf
        have hm : j ∈ ([18, 19, 32] : List Int) := by rcases hj with rfl | rfl | rfl <;> decide
        refine' EXs.sub (EXs.cons (EX.ite (c := false) (TV.bool (EV.callB (EV.blt rfl ?n1 rfl rfl ?n2) (EVs.cons (EV.var rfl rfl rfl) (EVs.cons (EV.blt rfl ?n3 rfl rfl ?n4) EVs.nil rfl) rfl) CALL.notStr rfl rfl rfl) rfl) (fun h => by cases h) (fun _ => EXs.cons (EX.ite (c := j == 31) (TV.cmp (EV.var rfl rfl rfl) EV.int CMP.eq rfl) (fun h => by rw [h31] at h; cases h)
          (fun _ => EXs.cons (EX.assign (r := .fix (.ref f)) (EV.item (EV.list (EVs.cons (EV.glob rfl ?n5 rfl) (EVs.cons (EV.glob rfl ?n6 rfl) (EVs.cons (EV.glob rfl ?n7 rfl) EVs.nil rfl) rfl) rfl) (Nat.le_of_ble_eq_true rfl)) (EV.meth1 (EV.list (EVs.cons EV.int (EVs.cons EV.int (EVs.cons EV.int EVs.nil rfl) rfl) rfl) (Nat.le_of_ble_eq_true rfl)) METH.index (EV.var rfl rfl rfl) (CALL.index (ns := [18, 19, 32]) rfl hm) rfl _ rfl) (ITEM.list (Int.natCast_nonneg _) hfi ?n8) fun _ _ => rfl) rfl rfl rfl)
            (EXs.cons (EX.assignM (EVm.pop rfl rfl hlr1 rfl _ rfl) rfl rfl rfl) (EXs.cons (EX.append rfl rfl (EVm.call2 (EV.var rfl rfl rfl) (EVm.pop rfl rfl hlr rfl _ rfl) (EV.var rfl rfl rfl) (Fn.call hF (Nat.le_refl 1)) ?n9 rfl rfl rfl rfl) ⟨_, rfl, hlr, rev1.symm⟩ rfl rfl rfl rfl _ rfl) EXs.nil))) ) EXs.nil)) EXs.nil) rfl
        case n2 => decide
        case n4 => decide
        case n8 => rcases hj with rfl | rfl | rfl <;> decide
        case n9 => exact hK.kp _ f hfk
        all_goals walk_at "kn"
theorem ematchE {K : Params → Frag} (hK : Knows K) (w : World) (x y : Str) (ho : (Builtin.Str.occurrences x (Str.ofString "...") 0 x.length 1).isEmpty = true) : Fn K w 1 21 [.str x, .str y] (.bool (x == y)) := by
  have H := hK.f21 w
  conv at H in (scopeAt _) => whnf
  conv at H in (bodyAt _) => whnf
  refine' FnT.enter (n := 0) [Str.ofString "want", Str.ofString "got"] H rfl ?hb ?k1 ?k2 ?k3 ?k4 ?hnd ?c1 ?c2 ?c3 ?h
  walk_at "m_fn"
  intro A h₀ ok okr L cdv
  refine' EXs.consR (EX.ite (c := true) (ho ▸ TV.cmp (EV.asS (EV.glob rfl ?g1 rfl)) (EV.var rfl rfl rfl) CMP.notIn rfl) (fun _ => EXs.consR (EX.ret (EV.cmp (EV.var rfl rfl rfl) (EV.var rfl rfl rfl) CMP.eqS rfl))) (fun h => by cases h))
  case g1 => walk_at "kn"
/-- where the search goes on when some pieces are taken -/
def spA (y : Str) (e : Int) (a : Int) (w : Str) : Int := find4 y w a e + w.length
theorem takes_yes {y : Str} {e : Int} : ∀ (ws : List Str) (a : Int), takesAll y e ws a = true → ∀ i w, ws[i]? = some w → ¬ find4 y w ((ws.take i).foldl (spA y e) a) e < 0
  | [], a, _, i, w, h => by cases h
  | p :: r, a, h, i, w, hi => by
    unfold takesAll at h
    by_cases hp : find4 y p a e < 0
    · rw [if_pos hp] at h; cases h
    · rw [if_neg hp] at h
      cases i with
      | zero => cases hi; exact hp
      | succ i => exact takes_yes r _ h i w hi
theorem takes_no {y : Str} {e : Int} : ∀ (ws : List Str) (a : Int), takesAll y e ws a = false → ∃ m w, ws[m]? = some w ∧ find4 y w ((ws.take m).foldl (spA y e) a) e < 0 ∧ ∀ i w, i < m → ws[i]? = some w → ¬ find4 y w ((ws.take i).foldl (spA y e) a) e < 0
  | [], a, h => by cases h
  | p :: r, a, h => by
    unfold takesAll at h
    by_cases hp : find4 y p a e < 0
    · exact ⟨0, p, rfl, hp, fun i w hi => absurd hi (Nat.not_lt_zero i)⟩
    · rw [if_neg hp] at h
      obtain ⟨m, w, h1, h2, h3⟩ := takes_no r _ h
      refine ⟨m + 1, w, h1, h2, fun i w' hi hw => ?_⟩
      cases i with
      | zero => cases hw; exact hp
      | succ i => exact h3 i w' (Nat.lt_of_succ_lt_succ hi) hw
def eJ (y : Str) (xs : List Str) (sp ep : Int) : Vars := [(Str.ofString "@", .list (xs.map .str)), (Str.ofString "startpos", .int sp), (Str.ofString "endpos", .int ep), (Str.ofString "got", .str y)]
def fJ (y : Str) (sp ep : Int) : Vars := [(Str.ofString "startpos", .int sp), (Str.ofString "endpos", .int ep), (Str.ofString "got", .str y)]
theorem EV.neg {C : FC} {μ : Vars} {e : PySem.Expr} {pos : Pos} {i : Int} (h : EV C μ e (.int i)) : EV C μ (.UnaryOp .USub e pos) (.int (-i)) := fun G s Q E S lo k =>
  UnaryOp_ (h G s _ _ S lo fun v h1 t1 e1 l1 i1 => by
    obtain ⟨t, rfl⟩ := i1.iE
    exact neg_int (k _ h1 _ e1 (Nat.le_succ_of_le l1) (.int _ _)))
theorem last_at {α β : Type} (f : α → β) (l : List α) (x : α) : ((l ++ [x]).map f)[((l ++ [x]).map f).length - 1]? = some (f x) := by simp
theorem ematchD {K : Params → Frag} (hK : Knows K) (w : World) (x y p0 pn : Str) (mid : List Str) (hs : Txt.split x (Str.ofString "...") = p0 :: (mid ++ [pn])) (ho : (Builtin.Str.occurrences x (Str.ofString "...") 0 x.length 1).isEmpty = false)
    (hh1 : (decide (x.length < (Str.ofString "...").length) || decide (Builtin.Str.strKind x < Builtin.Str.strKind (Str.ofString "..."))) = false) (hf : (Builtin.Str.occurrences x (Str.ofString "...") 0 x.length (x.length + 1)).isEmpty = false) (hx : x.length ≤ 64) (hy : y.length ≤ 4096)
    (hps : ∀ p ∈ p0 :: (mid ++ [pn]), p.length ≤ 64) (hpl : (p0 :: (mid ++ [pn])).length ≤ 64) (hsz2 : (Builtin.Str.partsBetween x (Builtin.Str.occurrences x (Str.ofString "...") 0 x.length (x.length + 1)) (Str.ofString "...").length).length ≤ sizeLine) : Fn K w 1 21 [.str x, .str y] (.bool (emD p0 mid pn y)) := by
  have H := hK.f21 w
  conv at H in (scopeAt _) => whnf
  conv at H in (bodyAt _) => whnf
  refine' FnT.enter (n := 0) [Str.ofString "want", Str.ofString "got"] H rfl ?hb ?k1 ?k2 ?k3 ?k4 ?hnd ?c1 ?c2 ?c3 ?h
  walk_at "m_fn"
  intro A h₀ ok okr L cdv
  have hyl : y.length ≤ sizeLine := Nat.le_trans hy (by decide)
  have hp0 : p0.length ≤ 64 := hps p0 List.mem_cons_self
  have hpn : pn.length ≤ 64 := hps pn (List.mem_cons_of_mem _ (List.mem_append_right _ (List.mem_singleton.mpr rfl)))
  have hml : (((p0 :: (mid ++ [pn])).map PV.str)).length ≤ 4096 := by rw [List.length_map]; exact Nat.le_trans hpl (by decide)
  refine' EXs.cons (EX.ite (c := false) (ho ▸ TV.cmp (EV.asS (EV.glob rfl ?g1 rfl)) (EV.var rfl rfl rfl) CMP.notIn rfl) (fun h => by cases h) (fun _ => EXs.nil)) (EXs.mutSplit (μ := [(Str.ofString "want", .str x), (Str.ofString "got", .str y)]) rfl rfl rfl rfl (fun _ => rfl) (EV.var rfl rfl rfl) (EV.asS (EV.glob rfl ?g2 rfl)) hh1 rfl hf (Nat.le_trans hx (by decide)) hsz2 hs rfl _ rfl ?rest)
  case g1 => walk_at "kn"
  case g2 => walk_at "kn"
  case rest =>
    intro d
    refine' EXs.cons (EX.assert (?as : TV _ _ _ true)) (EXs.cons (EX.unpackSw [Str.ofString "startpos", Str.ofString "endpos"] (EV.tuple (EVs.cons EV.int (EVs.cons (EV.callB (EV.blt rfl ?g3 rfl rfl ?g4) (EVs.cons (EV.var rfl rfl rfl) EVs.nil rfl) (CALL.lenS hyl) rfl rfl rfl) EVs.nil rfl) rfl) (Nat.le_of_ble_eq_true rfl)) rfl rfl rfl rfl) (EXs.cons (EX.assign (EV.itemL rfl rfl rfl EV.int (.inl ⟨by decide, rfl⟩) (by decide) fun _ _ => rfl) rfl rfl rfl) ?A))
    case as =>
      have e : decide ((2 : Int) ≤ (((p0 :: (mid ++ [pn])).map PV.str).length : Int)) = true := decide_eq_true (by rw [List.length_map, List.length_cons, List.length_append, List.length_singleton]; omega)
      refine' e ▸ TV.cmp (EV.lenM rfl rfl rfl (EV.blt rfl ?e1 rfl rfl ?e2) hml rfl rfl) EV.int CMP.ge rfl
      case e1 => walk_at "kn"
      case e2 => decide
    case g3 => walk_at "kn"
    case g4 => decide
    case A =>
      by_cases h0 : (p0.length == 0 || Txt.startswith y p0) = true
      · refine' EXs.cons (μ' := eJ y (((if p0.length = 0 then [p0] else []) ++ mid) ++ [pn]) p0.length y.length) ?i1 (EXs.cons (EX.assign (EV.itemL (r := .str pn) rfl rfl rfl ?i2 (.inr ⟨rfl, ?i3⟩) (by decide) fun _ _ => rfl) rfl rfl rfl) ?B)
        case i1 =>
          by_cases hz : p0.length = 0
          · have e : ((p0.length : Int) != 0) = false := by rw [hz]; rfl
            rw [if_pos hz, hz]
            exact EX.pre (EX.ite (c := false) (e ▸ TV.str (EV.var rfl rfl rfl) (Nat.le_trans hp0 (by decide)) rfl) (fun h => by cases h) (fun _ => EXs.sub EXs.nil rfl)) (μ₀ := (Str.ofString "w", .str p0) :: eJ y (p0 :: (mid ++ [pn])) 0 y.length) rfl
          · have e : ((p0.length : Int) != 0) = true := bne_iff_ne.mpr fun z => hz (Int.ofNat.inj z)
            have hsw : Txt.startswith y p0 = true := by rw [beq_eq_false_iff_ne.mpr hz, Bool.false_or] at h0; exact h0
            rw [if_neg hz]
            refine' EX.ite (c := true) (e ▸ TV.str (EV.var rfl rfl rfl) (Nat.le_trans hp0 (by decide)) rfl) (fun _ => EXs.sub (EXs.cons (EX.ite (c := true) (hsw ▸ TV.bool (EV.meth (EV.var rfl rfl rfl) METH.starts (EVs.cons (EV.var rfl rfl rfl) EVs.nil rfl) CALL.starts rfl rfl _ rfl) rfl) (fun _ => EXs.cons (EX.assign (EV.callB (EV.blt rfl ?j1 rfl rfl ?j2) (EVs.cons (EV.var rfl rfl rfl) EVs.nil rfl) (CALL.lenS (Nat.le_trans hp0 (by decide))) rfl rfl rfl) rfl rfl rfl) (EXs.cons (EX.delM (k := 0) rfl rfl rfl EV.int rfl ?j3 hml) EXs.nil)) (fun h => by cases h)) EXs.nil) rfl) (fun h => by cases h)
            case j1 => walk_at "kn"
            case j2 => decide
            case j3 => rw [List.length_map, List.length_cons]; exact seqIndex_first
        case i2 => exact EV.neg EV.int
        case i3 => exact last_at PV.str _ pn
        case B =>
          have hX : ((if p0.length = 0 then [p0] else []) ++ mid).length ≤ 64 := by
            rw [List.length_cons, List.length_append, List.length_singleton] at hpl
            rw [List.length_append]
            have : (if p0.length = 0 then [p0] else []).length ≤ 1 := by split <;> simp
            omega
          have hXp : ∀ p ∈ (if p0.length = 0 then [p0] else []) ++ mid, p.length ≤ 64 := fun p hp => by
            rcases List.mem_append.mp hp with hp | hp
            · split at hp
              · rw [List.mem_singleton.mp hp]; exact hp0
              · cases hp
            · exact hps p (List.mem_cons_of_mem _ (List.mem_append_left _ hp))
          have hem : emD p0 mid pn y = ((pn.length == 0 || Txt.endswith y pn) && decide ((p0.length : Int) ≤ (y.length : Int) - pn.length) && takesAll y ((y.length : Int) - pn.length) (((if p0.length = 0 then [p0] else []) ++ mid) ++ (if pn.length = 0 then [pn] else [])) p0.length) := by
            unfold emD; rw [h0, Bool.true_and, List.append_assoc]
          rw [hem]
          generalize (if p0.length = 0 then [p0] else []) ++ mid = X at hX hXp
          have hXm : ((X ++ [pn]).map PV.str).length ≤ 4096 := by rw [List.length_map, List.length_append]; exact Nat.le_trans (Nat.succ_le_succ hX) (by decide)
          by_cases h1 : (pn.length == 0 || Txt.endswith y pn) = true
          · refine' EXs.cons (μ' := eJ y (X ++ (if pn.length = 0 then [pn] else [])) p0.length ((y.length : Int) - pn.length)) ?m1 ?Cc
            case m1 =>
              by_cases hz : pn.length = 0
              · have e : ((pn.length : Int) != 0) = false := by rw [hz]; rfl
                rw [if_pos hz, hz, show ((y.length : Int) - ((0 : Nat) : Int)) = y.length from Int.sub_zero _]
                exact EX.pre (EX.ite (c := false) (e ▸ TV.str (EV.var rfl rfl rfl) (Nat.le_trans hpn (by decide)) rfl) (fun h => by cases h) (fun _ => EXs.sub EXs.nil rfl)) (μ₀ := (Str.ofString "w", .str pn) :: eJ y (X ++ [pn]) p0.length y.length) rfl
              · have e : ((pn.length : Int) != 0) = true := bne_iff_ne.mpr fun z => hz (Int.ofNat.inj z)
                have hsw : Txt.endswith y pn = true := by rw [beq_eq_false_iff_ne.mpr hz, Bool.false_or] at h1; exact h1
                have hers : ((X ++ [pn]).map PV.str).eraseIdx X.length = X.map PV.str := by
                  rw [List.map_append, show X.length = (X.map PV.str).length from (List.length_map _).symm, List.eraseIdx_append_of_length_le (Nat.le_refl _), Nat.sub_self]
                  exact List.append_nil _
                rw [if_neg hz, List.append_nil]
                unfold eJ
                rw [← hers]
                refine' EX.ite (c := true) (e ▸ TV.str (EV.var rfl rfl rfl) (Nat.le_trans hpn (by decide)) rfl) (fun _ => EXs.sub (EXs.cons (EX.ite (c := true) (hsw ▸ TV.bool (EV.meth (EV.var rfl rfl rfl) METH.ends (EVs.cons (EV.var rfl rfl rfl) EVs.nil rfl) CALL.ends rfl rfl _ rfl) rfl) (fun _ => EXs.cons (EX.aug rfl rfl rfl (EV.callB (EV.blt rfl ?n1 rfl rfl ?n2) (EVs.cons (EV.var rfl rfl rfl) EVs.nil rfl) (CALL.lenS (Nat.le_trans hpn (by decide))) rfl rfl rfl) (fun h => PyProof.Rows.isub_int h)) (EXs.cons (EX.delM (k := X.length) rfl rfl rfl (EV.neg EV.int) rfl ?n3 hXm) EXs.nil)) (fun h => by cases h)) EXs.nil) rfl) (fun h => by cases h)
                case n1 => walk_at "kn"
                case n2 => decide
                case n3 => rw [List.length_map, List.length_append]; exact seqIndex_last
            case Cc =>
              have hYp : ∀ p ∈ X ++ (if pn.length = 0 then [pn] else []), p.length ≤ 64 := fun p hp => by
                rcases List.mem_append.mp hp with hp | hp
                · exact hXp p hp
                · split at hp
                  · rw [List.mem_singleton.mp hp]; exact hpn
                  · cases hp
              rw [h1, Bool.true_and]
              generalize X ++ (if pn.length = 0 then [pn] else []) = ws at hYp
              generalize (y.length : Int) - pn.length = ep
              generalize (p0.length : Int) = sp
              by_cases hle : sp ≤ ep
              · have e : decide (ep < sp) = false := decide_eq_false (Int.not_lt.mpr hle)
                rw [decide_eq_true hle, Bool.true_and]
                refine' EXs.cons (EX.ite (c := false) (e ▸ TV.cmp (EV.var rfl rfl rfl) (EV.var rfl rfl rfl) CMP.gt rfl) (fun h => by cases h) (fun _ => EXs.nil)) (EXs.freeze (r₀ := .list (ws.map .str)) (μ₁ := fJ y sp ep) rfl rfl rfl ?F)
                cases ht : takesAll y ep ws sp with
                | true =>
                  refine' EXs.cons (EX.for (FD.list (as := ws) (val := .str) (EV.var rfl rfl rfl) rfl) (fun q => ((Str.ofString "w", .str q) :: ·)) (fun i => fJ y ((ws.take i).foldl (spA y ep) sp) ep) rfl ?u1 ?u2 ?u3) (EXs.consR (EX.ret EV.bool))
                  case u1 => exact fun _ _ _ => ASG.name rfl rfl
                  case u3 => exact fun _ => rfl
                  case u2 =>
                    intro i q wr hq
                    have hn := takes_yes ws sp ht i q hq
                    have e : decide (find4 y q ((ws.take i).foldl (spA y ep) sp) ep < 0) = false := decide_eq_false hn
                    have hql : q.length ≤ sizeLine := Nat.le_trans (hYp q (List.mem_of_getElem? hq)) (by decide)
                    rw [List.take_add_one, hq, Option.toList_some, List.foldl_append]
                    generalize (ws.take i).foldl (spA y ep) sp = st at e
                    show EXs _ _ _ (.next (fJ y (find4 y q st ep + q.length) ep))
                    refine' EXs.sub (EXs.cons (EX.assign (EV.meth (EV.var rfl rfl rfl) METH.find (EVs.cons (EV.var rfl rfl rfl) (EVs.cons (EV.var rfl rfl rfl) (EVs.cons (EV.var rfl rfl rfl) EVs.nil rfl) rfl) rfl) CALL.find4 rfl rfl _ rfl) rfl rfl rfl) (EXs.cons (EX.ite (c := false) (e ▸ TV.cmp (EV.var rfl rfl rfl) EV.int CMP.lt rfl) (fun h => by cases h) (fun _ => EXs.nil)) (EXs.cons (EX.aug rfl rfl rfl (EV.callB (EV.blt rfl ?t1 rfl rfl ?t2) (EVs.cons (EV.var rfl rfl rfl) EVs.nil rfl) (CALL.lenS hql) rfl rfl rfl) (fun h => PyProof.Rows.iadd_int h)) EXs.nil))) rfl
                    case t1 => walk_at "kn"
                    case t2 => decide
                | false =>
                  obtain ⟨m, q, h1', h2', h3⟩ := takes_no ws sp ht
                  refine' EXs.consR (EX.forR (FD.list (as := ws) (val := .str) (EV.var rfl rfl rfl) rfl) (fun q => ((Str.ofString "w", .str q) :: ·)) (fun i => fJ y ((ws.take i).foldl (spA y ep) sp) ep) m q h1' rfl ?u4 ?u5 ?u6 ?u7)
                  case u4 => exact fun _ _ _ => ASG.name rfl rfl
                  case u7 => exact fun _ => rfl
                  case u6 =>
                    intro wr
                    have e : decide (find4 y q ((ws.take m).foldl (spA y ep) sp) ep < 0) = true := decide_eq_true h2'
                    generalize (ws.take m).foldl (spA y ep) sp = st at e
                    exact EXs.cons (EX.assign (EV.meth (EV.var rfl rfl rfl) METH.find (EVs.cons (EV.var rfl rfl rfl) (EVs.cons (EV.var rfl rfl rfl) (EVs.cons (EV.var rfl rfl rfl) EVs.nil rfl) rfl) rfl) CALL.find4 rfl rfl _ rfl) rfl rfl rfl) (EXs.consR (EX.ite (c := true) (e ▸ TV.cmp (EV.var rfl rfl rfl) EV.int CMP.lt rfl) (fun _ => EXs.consR (EX.ret EV.bool)) (fun h => by cases h)))
                  case u5 =>
                    intro i q wr hi hq
                    have hn := h3 i q hi hq
                    have e : decide (find4 y q ((ws.take i).foldl (spA y ep) sp) ep < 0) = false := decide_eq_false hn
                    have hql : q.length ≤ sizeLine := Nat.le_trans (hYp q (List.mem_of_getElem? hq)) (by decide)
                    rw [List.take_add_one, hq, Option.toList_some, List.foldl_append]
                    generalize (ws.take i).foldl (spA y ep) sp = st at e
                    show EXs _ _ _ (.next (fJ y (find4 y q st ep + q.length) ep))
                    refine' EXs.sub (EXs.cons (EX.assign (EV.meth (EV.var rfl rfl rfl) METH.find (EVs.cons (EV.var rfl rfl rfl) (EVs.cons (EV.var rfl rfl rfl) (EVs.cons (EV.var rfl rfl rfl) EVs.nil rfl) rfl) rfl) CALL.find4 rfl rfl _ rfl) rfl rfl rfl) (EXs.cons (EX.ite (c := false) (e ▸ TV.cmp (EV.var rfl rfl rfl) EV.int CMP.lt rfl) (fun h => by cases h) (fun _ => EXs.nil)) (EXs.cons (EX.aug rfl rfl rfl (EV.callB (EV.blt rfl ?v1 rfl rfl ?v2) (EVs.cons (EV.var rfl rfl rfl) EVs.nil rfl) (CALL.lenS hql) rfl rfl rfl) (fun h => PyProof.Rows.iadd_int h)) EXs.nil))) rfl
                    case v1 => walk_at "kn"
                    case v2 => decide
              · have e : decide (ep < sp) = true := decide_eq_true (Int.not_le.mp hle)
                rw [decide_eq_false hle, Bool.false_and]
                refine' EXs.consR (EX.ite (c := true) (e ▸ TV.cmp (EV.var rfl rfl rfl) (EV.var rfl rfl rfl) CMP.gt rfl) (fun _ => EXs.consR (EX.ret EV.bool)) (fun h => by cases h))
          · have hne : ¬ pn.length = 0 := fun z => h1 (by rw [beq_iff_eq.mpr z, Bool.true_or])
            have hsw : Txt.endswith y pn = false := by rw [beq_eq_false_iff_ne.mpr hne, Bool.false_or, Bool.not_eq_true] at h1; exact h1
            have e : ((pn.length : Int) != 0) = true := bne_iff_ne.mpr fun z => hne (Int.ofNat.inj z)
            rw [Bool.not_eq_true] at h1
            rw [h1, Bool.false_and, Bool.false_and]
            refine' EXs.consR (EX.ite (c := true) (e ▸ TV.str (EV.var rfl rfl rfl) (Nat.le_trans hpn (by decide)) rfl) (fun _ => EXs.consR (EX.ite (c := false) (hsw ▸ TV.bool (EV.meth (EV.var rfl rfl rfl) METH.ends (EVs.cons (EV.var rfl rfl rfl) EVs.nil rfl) CALL.ends rfl rfl _ rfl) rfl) (fun h => by cases h) (fun _ => EXs.consR (EX.ret EV.bool)))) (fun h => by cases h))
      · have hne : ¬ p0.length = 0 := fun z => h0 (by rw [beq_iff_eq.mpr z, Bool.true_or])
        have hsw : Txt.startswith y p0 = false := by rw [beq_eq_false_iff_ne.mpr hne, Bool.false_or, Bool.not_eq_true] at h0; exact h0
        have e : ((p0.length : Int) != 0) = true := bne_iff_ne.mpr fun z => hne (Int.ofNat.inj z)
        rw [Bool.not_eq_true] at h0
        rw [show emD p0 mid pn y = false by unfold emD; rw [h0, Bool.false_and, Bool.false_and, Bool.false_and]]
        refine' EXs.consR (EX.ite (c := true) (e ▸ TV.str (EV.var rfl rfl rfl) (Nat.le_trans hp0 (by decide)) rfl) (fun _ => EXs.consR (EX.ite (c := false) (hsw ▸ TV.bool (EV.meth (EV.var rfl rfl rfl) METH.starts (EVs.cons (EV.var rfl rfl rfl) EVs.nil rfl) CALL.starts rfl rfl _ rfl) rfl) (fun h => by cases h) (fun _ => EXs.consR (EX.ret EV.bool)))) (fun h => by cases h))
def cellsP (ns : List Int) : List Int := (ns.take 6).map (fun c => c.fmod (10 ^ (6 : Int).toNat)) ++ ([137, 154, 6, 25, 208, 555] : List Int).drop (ns.take 6).length
theorem bounds_to {k n : Nat} : sliceBounds none (some (k : Int)) none n = (0, ((min k n : Nat) : Int), 1) := by
  simp only [sliceBounds, Option.getD_none]
  have h1 : ¬ ((k : Int) < 0) := by omega
  simp only [h1, if_false, show (1 : Int) > 0 by decide, if_true]
  congr 2
  omega
theorem pick_to {α : Type} (l : List α) (k : Nat) : pick l none (some (k : Int)) = l.take k := by
  unfold pick
  rw [bounds_to]
  have := pick_run l.toArray 0 (min k l.length)
  simp only [List.getElem?_toArray, List.drop_zero] at this
  rw [show sliceRange 0 ((min k l.length : Nat) : Int) 1 = _ from sliceRange_one 0 (min k l.length), Nat.sub_zero, this, List.take_eq_take_iff]
  omega
theorem pick_last {α : Type} (l : List α) (x : α) : pick (l ++ [x]) (some (-1)) none = [x] := by
  have e : sliceBounds (some (-1)) none none (l ++ [x]).length = sliceBounds (some ((l.length : Nat) : Int)) none none (l ++ [x]).length := by
    rw [bounds_from (by simp)]
    simp only [sliceBounds, Option.getD_none]
    simp only [show ((-1 : Int) < 0) from by decide, if_true, show (1 : Int) > 0 by decide, List.length_append, List.length_singleton]
    congr 1
    omega
  have : pick (l ++ [x]) (some (-1)) none = pick (l ++ [x]) (some ((l.length : Nat) : Int)) none := by unfold pick; rw [e]
  rw [this, pick_from _ _ (by simp), List.drop_append_of_le_length (Nat.le_refl _), List.drop_length]
  rfl
def textsP (short long : Str) : List Str := ((List.range (short.length + 1)).map fun i : Nat => Txt.slice short none (some (i : Int))) ++ [long]
def rows (bs : List Bool) : PV := .list (bs.map fun b => PV.list [PV.bool b])
theorem rows_eq {bs : List Bool} : rows bs = .list ((bs.map fun b => [b]).map fun r => PV.list (r.map .bool)) := by
  unfold rows
  rw [List.map_map]
  rfl
theorem rows_map {f : Str → Bool} {pre : List Str} {x : Str} : (pre ++ [x]).map (fun t => PV.list [PV.bool (f t)]) = (pre.map f ++ [f x]).map fun b => PV.list [PV.bool b] := by
  rw [List.map_append, List.map_append, List.map_map]
  rfl
theorem flat_len (bs : List Bool) : ((bs.filter fun _ => true).flatMap fun b => (([b] : List Bool).filter fun _ => true).map PV.bool).length = bs.length := by
  rw [all_kept, show (fun b => (([b] : List Bool).filter fun _ => true).map PV.bool) = fun b => [PV.bool b] from rfl, flat1, List.length_map]
def lets (k : Int) : Option PV := [PV.str (Str.ofString "ab"), .str (Str.ofString "a\n"), .str (Str.ofString "\n "), .str (Str.ofString "\\$"), .str (Str.ofString "\"#")][k.toNat]?
def atomsP (l : Str) (cs : List Int) : List (Str × Int) := cs.map fun c => (signsP c l, (c.fdiv 3).fmod 16)
theorem lawW {K : Params → Frag} (hK : Knows K) (w : World) (ns : List Int) (hns : ns.length ≤ 63) (c0 c1 c2 c3 c4 c5 : Int) (hc : cellsP ns = [c0, c1, c2, c3, c4, c5]) (hr : ∀ c ∈ [c0, c1, c2, c3, c4, c5], 0 ≤ c ∧ c ≤ 1000000) (a b : Nat) (ha : a < 128) (hb : b < 128) (hab : a ≠ b) (hL : lets (([c0, c1, c2, c3, c4, c5] : List Int).sum.fmod 5) = some (.str ⟨#[a, b]⟩))
    (atoms : List (Str × Int)) (hat : atomsP ⟨#[a, b]⟩ [c0, c1, c2] = atoms) (joins : List Int) (hjo : [c3.fmod 3, (c3.fdiv 3).fmod 3] = joins) (turns : Int) (htu : (c3.fdiv 9).fmod 16 = turns)
    (hal : atoms.length = 3) (has : ∀ q ∈ atoms, q.1.length ≤ 3 ∧ ∀ c ∈ q.1.cps.toList, c = a ∨ c = b) (hj2 : joins.length = 2) (hj3 : ∀ j ∈ joins, 0 ≤ j ∧ j < 3)
    (syms : List Int) (hsy : Reads a b (pageP atoms joins turns) syms) (hpl : (pageP atoms joins turns).length ≤ 200) (hsl : syms.length ≤ 200) (hs0 : ∀ s ∈ syms, s ≠ 0 ∧ s < 258) (ds : List Dd) (hds : (syms.foldl (dstep ⟨#[a, b]⟩) ([], Str.ofString "")).1 = ds.map ddV)
    (mk : List (Str × Int)) (lp be : Int) (en : List Int) (hmk : masksV (atoms.foldl mkA (([(⟨#[a]⟩, 0), (⟨#[b]⟩, 0)], 0), 0, 0, [])) = .tup [.dct mk, .int lp, .int be, .list (en.map .int)])
    (here there front end_ out home off back : Str) (hwd : wordsP c4 c5 ⟨#[a, b]⟩ = [PV.str here, .str there, .str front, .str end_, .str out, .str home, .str off, .str back])
    (hw1 : here.length ≤ 2) (hw2 : there.length ≤ 2) (hw3 : front.length ≤ 1) (hw4 : end_.length ≤ 1) (hw5 : out.length ≤ 1) (hw6 : home.length ≤ 1) (hw7 : off.length ≤ 1) (hw8 : back.length ≤ 1)
    (tm : Int) (htm : tm - 1 ∈ atoms.map fun q => (q.1.length : Int)) (htm2 : ∀ x ∈ atoms.map fun q => (q.1.length : Int), x ≤ tm - 1) (hub rim ahead behind short : Str) (hhub : Txt.mul here tm = hub) (hrim : Txt.mul there tm = rim) (hm1 : MulOk here tm) (hm2 : MulOk there tm) (hm3 : MulOk (hub ++ out ++ rim ++ home) tm) (hm4 : MulOk (hub ++ off ++ rim ++ back) tm)
    (hah : front ++ Txt.mul (hub ++ out ++ rim ++ home) tm = ahead) (hbe : Txt.mul (hub ++ off ++ rim ++ back) tm ++ end_ = behind) (hsh : front ++ here ++ out ++ there ++ back ++ end_ = short) (hv1 : hub.length ≤ 10) (hv2 : rim.length ≤ 10) (hv3 : ahead.length ≤ 100) (hv4 : behind.length ≤ 100)
    (hen : en.length = 3) (hen2 : ∀ e ∈ en, 0 ≤ e ∧ e < 30) (hmkc : ∀ t ∈ textsP short (ahead ++ behind), ∀ c ∈ t.cps.toList, ∃ i, mk.lookup ⟨#[c]⟩ = some i) (em : Str → Str → Bool) (hem : ∀ t ∈ textsP short (ahead ++ behind) ++ [ahead ++ hub ++ out ++ rim ++ back ++ behind], ∀ p, .inl p ∈ ds → Fn K w 1 21 [.str p, .str t] (.bool (em t p)))
    (hok : ∀ t i d, ds[i]? = some d → okD ((ds.take i).foldl (sayS (em t)) []) d) (hst : ∀ t i, ((ds.take i).foldl (sayS (em t)) []).length ≤ 100) (hsay : ∀ t ∈ textsP short (ahead ++ behind), ds.foldl (sayS (em t)) [] = [toldP mk lp be turns en joins t])
    (hdet : ds.foldl (sayS (em (ahead ++ hub ++ out ++ rim ++ back ++ behind))) [] = [toldP mk lp be turns en joins (ahead ++ behind)]) :
    FnT K 0 w 3 161 [.list (ns.map .int)] (.bool true) := by
  have H := hK.f161 w
  conv at H in (scopeAt _) => whnf
  conv at H in (bodyAt _) => whnf
  refine' FnT.enter (n := 2) [Str.ofString "script"] H rfl ?hb ?k1 ?k2 ?k3 ?k4 ?hnd ?c1 ?c2 ?c3 ?h
  walk_at "m_fn"
  intro A h₀ ok okr L cdv
  have hl6 : (ns.take 6).length ≤ 6 := List.length_take_le 6 ns
  refine' EXs.cons (EX.assignComp (as := ns.take 6) (sh := fun c => .one (.int c)) (μc := []) ?O (FD.list (val := .int) (EV.slice (EV.var rfl rfl rfl) EVo.none (EVo.some EV.int) (SLICE.list ?z1)) ?z2) ?z3 (fun c => ((Str.ofString "cell", .int c) :: ·)) (fun _ => true) (fun c => .int (c.fmod (10 ^ (6 : Int).toNat))) ?z4 ?z5 ?z6 ?z7 ?z8 rfl rfl rfl) ?S2
  case O => exact ⟨rfl, rfl, by decide, by decide, rfl, rfl, rfl, rfl, rfl, rfl⟩
  case z1 => rw [List.length_map]; exact Nat.le_trans hns (by decide)
  case z2 => rw [pick_map]; exact congrArg _ (pick_to ns 6)
  case z3 => exact Nat.le_trans hl6 (by decide)
  case z4 => exact fun _ _ _ _ _ => ASG.name rfl rfl
  case z5 => exact fun _ _ => rfl
  case z6 => exact fun _ _ _ _ _ => TVs.nil
  case z8 => exact fun _ => rfl
  case z7 =>
    intro c _ _ wr K' D
    refine' EV.bin (EV.callT (EV.blt rfl ?y1 rfl rfl ?y2) (EVs.cons (EV.var rfl rfl rfl) EVs.nil rfl) CALL.int rfl rfl rfl) (EV.bin EV.int EV.int (BIN.pow (by decide) (by decide))) (BIN.mod (by decide))
    case y1 => walk_at "kn"
    case y2 => decide
  case S2 =>
    refine' EXs.assignUp (r := .list ((cellsP ns).map .int)) (EV.conv (EV.bin (EV.var rfl rfl rfl) (EV.slice (EV.list (EVs.cons EV.int (EVs.cons EV.int (EVs.cons EV.int (EVs.cons EV.int (EVs.cons EV.int (EVs.cons EV.int EVs.nil rfl) rfl) rfl) rfl) rfl) rfl) (Nat.le_of_ble_eq_true rfl)) (EVo.some (EV.callB (EV.blt rfl ?y3 rfl rfl ?y4) (EVs.cons (EV.var rfl rfl rfl) EVs.nil rfl) (CALL.lenL ?y5) rfl rfl rfl)) EVo.none (SLICE.list (Nat.le_of_ble_eq_true rfl))) (BIN.addL ?y6)) ?y7) rfl rfl rfl ?S3
    case y3 => walk_at "kn"
    case y4 => decide
    case y5 => rw [all_kept, List.length_map]; exact Nat.le_trans hl6 (by decide)
    case y6 =>
      rw [all_kept, List.length_map, pick_from _ _ (by exact hl6), List.length_drop]
      exact Nat.le_trans (Nat.add_le_add hl6 (Nat.sub_le _ _)) (by decide)
    case y7 =>
      rw [all_kept, pick_from _ _ (by rw [List.length_map]; exact hl6), List.length_map]
      unfold cellsP
      rw [List.map_append, List.map_map, List.map_drop]
      rfl
    case S3 =>
      rw [hc]
      clear hc hl6
      refine' EXs.cons (EX.assign (r := .str ⟨#[a, b]⟩) (EV.item (EV.tuple (EVs.cons EV.str (EVs.cons EV.str (EVs.cons EV.str (EVs.cons EV.str (EVs.cons EV.str EVs.nil rfl) rfl) rfl) rfl) rfl) (Nat.le_of_ble_eq_true rfl)) (EV.bin (EV.callB (EV.blt rfl ?x1 rfl rfl ?x2) (EVs.cons (EV.var rfl rfl rfl) EVs.nil rfl) (CALL.sum hr (Nat.le_of_ble_eq_true rfl)) rfl rfl rfl) EV.int (BIN.mod (by decide))) (ITEM.tup ?x3 hL ?x4) fun _ _ => rfl) rfl rfl rfl) ?S4
      case x1 => walk_at "kn"
      case x2 => decide
      case x3 => exact Int.fmod_nonneg_of_pos _ (by decide)
      case x4 => exact Int.lt_trans (Int.fmod_lt_of_pos _ (by decide)) (by decide)
      case S4 =>
        refine' EXs.cons (EX.conv (EX.assignComp (as := [c0, c1, c2]) (sh := fun c => .one (.int c)) (μc := [(Str.ofString "letters", .str ⟨#[a, b]⟩)]) ?O4 (FD.list (val := .int) (EV.slice (EV.var rfl rfl rfl) EVo.none (EVo.some EV.int) (SLICE.list (Nat.le_of_ble_eq_true rfl))) ?w2) (Nat.le_of_ble_eq_true rfl) (fun c => ((Str.ofString "cell", .int c) :: ·)) (fun _ => true) (fun c => .tup [.str (signsP c ⟨#[a, b]⟩), .int ((c.fdiv 3).fmod 16)]) ?w4 ?w5 ?w6 ?w7 ?w8 rfl rfl rfl) (?w9 : _ = Out.next ((Str.ofString "atoms", .list (atoms.map fun q => .tup [.str q.1, .int q.2])) :: _))) ?S5
        case O4 => exact ⟨rfl, rfl, by decide, by decide, rfl, rfl, rfl, rfl, rfl, rfl⟩
        case w2 => exact pick_to _ 3
        case w4 => exact fun _ _ _ _ _ => ASG.name rfl rfl
        case w5 => exact fun _ _ => rfl
        case w6 => exact fun _ _ _ _ _ => TVs.nil
        case w8 => exact fun _ => rfl
        case w9 => rw [← hat]; rfl
        case w7 =>
          intro c _ _ wr K' D
          refine' EV.callF (EV.glob rfl ?v1 rfl) (EVs.cons (EV.var rfl rfl rfl) (EVs.cons (EV.var rfl rfl rfl) EVs.nil rfl) rfl) (Fn.call (atom hK w c ⟨#[a, b]⟩ rfl) (Nat.le_succ 1)) ?v2 rfl rfl rfl
          case v1 => walk_at "kn"
          case v2 => walk_at "kn"
        case S5 =>
          refine' EXs.cons (EX.conv (EX.unpack [(Str.ofString "joins", _), (Str.ofString "turns", _)] rfl (EV.tuple (EVs.cons (EV.list (EVs.cons (EV.bin (EV.item (EV.var rfl rfl rfl) EV.int (ITEM.list (by decide) rfl (by decide)) fun _ _ => rfl) EV.int (BIN.mod (by decide))) (EVs.cons (EV.bin (EV.bin (EV.item (EV.var rfl rfl rfl) EV.int (ITEM.list (by decide) rfl (by decide)) fun _ _ => rfl) EV.int (BIN.div (by decide) (PyProof.noPylong_small (by decide)))) EV.int (BIN.mod (by decide))) EVs.nil rfl) rfl) (Nat.le_of_ble_eq_true rfl)) (EVs.cons (EV.bin (EV.bin (EV.item (EV.var rfl rfl rfl) EV.int (ITEM.list (by decide) rfl (by decide)) fun _ _ => rfl) EV.int (BIN.div (by decide) (PyProof.noPylong_small (by decide)))) EV.int (BIN.mod (by decide))) EVs.nil rfl) rfl) (Nat.le_of_ble_eq_true rfl)) rfl rfl rfl rfl) (?u1 : _ = Out.next ((Str.ofString "turns", .int turns) :: (Str.ofString "joins", .list (joins.map .int)) :: _))) ?S6
          case u1 => rw [← hjo, ← htu]; rfl
          case S6 =>
            refine' EXs.cons (EX.assign (r := .list (ds.map ddV)) (EV.conv (EV.callF (EV.glob rfl ?t1 rfl) (EVs.cons (EV.callF (EV.glob rfl ?t2 rfl) (EVs.cons (EV.callF (EV.glob rfl ?t3 rfl) (EVs.cons (EV.var rfl rfl rfl) (EVs.cons (EV.var rfl rfl rfl) (EVs.cons (EV.var rfl rfl rfl) EVs.nil rfl) rfl) rfl) (Fn.call (page hK w atoms joins turns (Nat.le_of_eq hal) (fun q hq => (has q hq).1) hj2 hj3) (Nat.le_succ 1)) ?t4 rfl rfl rfl) (EVs.cons (EV.var rfl rfl rfl) EVs.nil rfl) rfl) (Fn.call (symbols hK w a b ha hb _ syms hsy (Nat.le_trans hpl (by decide)) (Nat.le_trans hsl (by decide))) (Nat.le_refl 2)) ?t5 rfl rfl rfl) (EVs.cons (EV.var rfl rfl rfl) EVs.nil rfl) rfl)
              (Fn.call (deeds hK w ⟨#[a, b]⟩ syms rfl (Nat.le_trans hsl (by decide)) hs0 (iseof hK w) (isnt hK w) (subI hK w) (addS hK w) (getitemS hK w)) (Nat.le_refl 2)) ?t6 rfl rfl rfl) (congrArg PV.list hds)) rfl rfl rfl) ?S7
            case S7 =>
              refine' EXs.cons (EX.assign (r := .tup [.dct mk, .int lp, .int be, .list (en.map .int)]) (EV.conv (EV.callF (EV.glob rfl ?s1 rfl) (EVs.cons (EV.var rfl rfl rfl) (EVs.cons (EV.var rfl rfl rfl) EVs.nil rfl) rfl) (Fn.call (masks hK w a b hab atoms (Nat.le_of_eq hal) has) (Nat.le_succ 1)) ?s2 rfl rfl rfl) hmk) rfl rfl rfl) ?S8
              case S8 =>
                refine' EXs.cons (EX.unpackL [(Str.ofString "here", _), (Str.ofString "there", _), (Str.ofString "front", _), (Str.ofString "end", _), (Str.ofString "out", _), (Str.ofString "home", _), (Str.ofString "off", _), (Str.ofString "back", _)] rfl (EV.conv (EV.callF (EV.glob rfl ?r1 rfl) (EVs.cons (EV.item (EV.var rfl rfl rfl) EV.int (ITEM.list (by decide) rfl (by decide)) fun _ _ => rfl) (EVs.cons (EV.item (EV.var rfl rfl rfl) EV.int (ITEM.list (by decide) rfl (by decide)) fun _ _ => rfl) (EVs.cons (EV.var rfl rfl rfl) EVs.nil rfl) rfl) rfl) (Fn.call (words hK w c4 c5 ⟨#[a, b]⟩ rfl) (Nat.le_succ 1)) ?r2 rfl rfl rfl) (congrArg PV.list hwd)) rfl rfl rfl rfl) ?S9
                case S9 =>
                  refine' EXs.cons (EX.assign (r := .int tm) (EV.conv (EV.bin EV.int (EV.callB (EV.blt rfl ?q1 rfl rfl ?q2) (EVs.cons (EV.conv (EV.comp (as := atoms) (sh := fun q => .one (.tup [.str q.1, .int q.2])) (μc := []) ?O9 (FD.list (EV.var rfl rfl rfl) rfl) (Nat.le_trans (Nat.le_of_eq hal) (by decide)) (fun q μ => (Str.ofString "gaps", .int q.2) :: (Str.ofString "signs", .str q.1) :: μ) (fun _ => true) (fun q => .int (q.1.length : Int)) ?q4 ?q5 ?q6 ?q7 ?q8) (?q9 : _ = PV.list ((atoms.map fun q => (q.1.length : Int)).map .int))) EVs.nil rfl) (CALL.maxL htm htm2) rfl rfl rfl) BIN.add) (congrArg PV.int (show 1 + (tm - 1) = tm by omega))) rfl rfl rfl) ?S10
                  case q1 => walk_at "kn"
                  case q2 => decide
                  case O9 => exact ⟨rfl, rfl, by decide, by decide, rfl, rfl, rfl, rfl, rfl, rfl⟩
                  case q4 => exact fun q _ _ _ _ => ASG.tup (ASG.pair (ASG.name rfl rfl) (ASG.name rfl rfl) rfl)
                  case q5 => exact fun _ _ => rfl
                  case q6 => exact fun _ _ _ _ _ => TVs.nil
                  case q8 => exact fun _ => rfl
                  case q9 => rw [all_kept, List.map_map]; rfl
                  case q7 =>
                    intro q hq _ wr K' D
                    refine' EV.callB (EV.blt rfl ?p1 rfl rfl ?p2) (EVs.cons (EV.var rfl rfl rfl) EVs.nil rfl) (CALL.lenS (Nat.le_trans (has q hq).1 (by decide))) rfl rfl rfl
                    case p1 => walk_at "kn"
                    case p2 => decide
                  case S10 =>
                    refine' EXs.cons (EX.unpackSw (rs := [.str hub, .str rim]) [Str.ofString "hub", Str.ofString "rim"] (EV.tuple (EVs.cons (EV.conv (EV.callF (EV.glob rfl ?o1 rfl) (EVs.cons (EV.var rfl rfl rfl) (EVs.cons (EV.var rfl rfl rfl) EVs.nil rfl) rfl) (Fn.call (mulS hK w here tm hm1) (Nat.le_succ 1)) ?o2 rfl rfl rfl) (congrArg PV.str hhub)) (EVs.cons (EV.conv (EV.callF (EV.glob rfl ?o3 rfl) (EVs.cons (EV.var rfl rfl rfl) (EVs.cons (EV.var rfl rfl rfl) EVs.nil rfl) rfl) (Fn.call (mulS hK w there tm hm2) (Nat.le_succ 1)) ?o4 rfl rfl rfl) (congrArg PV.str hrim)) EVs.nil rfl) rfl) (Nat.le_of_ble_eq_true rfl)) rfl rfl rfl rfl) ?S11
                    case o1 => walk_at "kn"
                    case o2 => walk_at "kn"
                    case o3 => walk_at "kn"
                    case o4 => walk_at "kn"
                    case S11 =>
                      have b1 : (hub ++ out).length ≤ 11 := by rw [slen]; omega
                      have b2 : (hub ++ out ++ rim).length ≤ 21 := by rw [slen]; omega
                      have b3 : (hub ++ off).length ≤ 11 := by rw [slen]; omega
                      have b4 : (hub ++ off ++ rim).length ≤ 21 := by rw [slen]; omega
                      refine' EXs.cons (EX.assign (r := .str ahead) (EV.conv (EV.bin (EV.var rfl rfl rfl) (EV.callF (EV.glob rfl ?n1 rfl) (EVs.cons (EV.bin (EV.bin (EV.bin (EV.var rfl rfl rfl) (EV.var rfl rfl rfl) (BIN.addS ?n2)) (EV.var rfl rfl rfl) (BIN.addS ?n3)) (EV.var rfl rfl rfl) (BIN.addS ?n4)) (EVs.cons (EV.var rfl rfl rfl) EVs.nil rfl) rfl) (Fn.call (mulS hK w _ tm hm3) (Nat.le_succ 1)) ?n5 rfl rfl rfl) (BIN.addS ?n6)) (congrArg PV.str hah)) rfl rfl rfl) ?S12
                      case n1 => walk_at "kn"
                      case n5 => walk_at "kn"
                      case n2 => unfold sizeLine; omega
                      case n3 => unfold sizeLine; omega
                      case n4 => unfold sizeLine; omega
                      case n6 => rw [← slen, hah]; unfold sizeLine; omega
                      case S12 =>
                        refine' EXs.cons (EX.assign (r := .str behind) (EV.conv (EV.bin (EV.callF (EV.glob rfl ?m1 rfl) (EVs.cons (EV.bin (EV.bin (EV.bin (EV.var rfl rfl rfl) (EV.var rfl rfl rfl) (BIN.addS ?m2)) (EV.var rfl rfl rfl) (BIN.addS ?m3)) (EV.var rfl rfl rfl) (BIN.addS ?m4)) (EVs.cons (EV.var rfl rfl rfl) EVs.nil rfl) rfl) (Fn.call (mulS hK w _ tm hm4) (Nat.le_succ 1)) ?m5 rfl rfl rfl) (EV.var rfl rfl rfl) (BIN.addS ?m6)) (congrArg PV.str hbe)) rfl rfl rfl) ?S13
                        case m1 => walk_at "kn"
                        case m5 => walk_at "kn"
                        case m2 => unfold sizeLine; omega
                        case m3 => unfold sizeLine; omega
                        case m4 => unfold sizeLine; omega
                        case m6 => rw [← slen, hbe]; unfold sizeLine; omega
                        case S13 =>
                          have d1 : (front ++ here).length ≤ 3 := by rw [slen]; omega
                          have d2 : (front ++ here ++ out).length ≤ 4 := by rw [slen]; omega
                          have d3 : (front ++ here ++ out ++ there).length ≤ 6 := by rw [slen]; omega
                          have d4 : (front ++ here ++ out ++ there ++ back).length ≤ 7 := by rw [slen]; omega
                          have d5 : short.length ≤ 8 := by rw [← hsh, slen]; omega
                          refine' EXs.cons (EX.assign (r := .str short) (EV.conv (EV.bin (EV.bin (EV.bin (EV.bin (EV.bin (EV.var rfl rfl rfl) (EV.var rfl rfl rfl) (BIN.addS ?l1)) (EV.var rfl rfl rfl) (BIN.addS ?l2)) (EV.var rfl rfl rfl) (BIN.addS ?l3)) (EV.var rfl rfl rfl) (BIN.addS ?l4)) (EV.var rfl rfl rfl) (BIN.addS ?l5)) (congrArg PV.str hsh)) rfl rfl rfl) ?S14
                          case l1 => unfold sizeLine; omega
                          case l2 => unfold sizeLine; omega
                          case l3 => unfold sizeLine; omega
                          case l4 => unfold sizeLine; omega
                          case l5 => unfold sizeLine; omega
                          case S14 =>
                            refine' EXs.cons (EX.assign (r := .list ((textsP short (ahead ++ behind)).map .str)) (EV.conv (EV.bin (EV.comp (as := List.range (short.length + 1)) (sh := fun i => .one (.int (i : Int))) (μc := [(Str.ofString "short", .str short)]) ?O14 (FD.call (EV.blt rfl ?k1' rfl rfl ?k2') (EVs.cons (EV.bin (EV.callB (EV.blt rfl ?k3' rfl rfl ?k4') (EVs.cons (EV.var rfl rfl rfl) EVs.nil rfl) (CALL.lenS (Nat.le_trans d5 (by decide))) rfl rfl rfl) EV.int BIN.add) EVs.nil rfl) (CALLF.rangeE (n := short.length + 1) rfl ?k5') rfl rfl rfl) ?k6' (fun i => ((Str.ofString "size", .int (i : Int)) :: ·)) (fun _ => true) (fun i => .str (Txt.slice short none (some (i : Int)))) ?k7' ?k8' ?k9' ?k10' ?k11') (EV.list (EVs.cons (EV.bin (EV.var rfl rfl rfl) (EV.var rfl rfl rfl) (BIN.addS ?k12')) EVs.nil rfl) (Nat.le_of_ble_eq_true rfl)) (BIN.addL ?k13')) ?k14') rfl rfl rfl) ?S15
                            case O14 => exact ⟨rfl, rfl, by decide, by decide, rfl, rfl, rfl, rfl, rfl, rfl⟩
                            case k1' => walk_at "kn"
                            case k2' => decide
                            case k3' => walk_at "kn"
                            case k4' => decide
                            case k5' => exact Nat.le_trans (Nat.succ_le_succ d5) (by decide)
                            case k6' => rw [List.length_range]; exact Nat.le_trans (Nat.succ_le_succ d5) (by decide)
                            case k7' => exact fun _ _ _ _ _ => ASG.name rfl rfl
                            case k8' => exact fun _ _ => rfl
                            case k9' => exact fun _ _ _ _ _ => TVs.nil
                            case k10' => exact fun i _ _ wr K' D => EV.slice (EV.var rfl rfl rfl) EVo.none (EVo.some (EV.var rfl rfl rfl)) (SLICE.strTo (Nat.le_trans d5 (by decide)))
                            case k11' => exact fun _ => rfl
                            case k12' => unfold sizeLine; omega
                            case k13' => rw [all_kept, List.length_map, List.length_range]; exact Nat.le_trans (Nat.succ_le_succ (Nat.succ_le_succ d5)) (by decide)
                            case k14' => rw [all_kept]; unfold textsP; rw [List.map_append, List.map_map]; rfl
                            case S15 =>
                              have htl : (textsP short (ahead ++ behind)).length ≤ 10 := by unfold textsP; rw [List.length_append, List.length_map, List.length_range]; exact Nat.succ_le_succ (Nat.succ_le_succ d5)
                              obtain ⟨pre, hpre⟩ : ∃ pre, textsP short (ahead ++ behind) = pre ++ [ahead ++ behind] := ⟨_, rfl⟩
                              rw [hpre] at htl hmkc hem hsay
                              rw [hpre]
                              clear hpre d1 d2 d3 d4 d5 b1 b2 b3 b4 hm1 hm2 hm3 hm4 hds hsy hwd
                              have htl' : ((pre ++ [ahead ++ behind]).filter fun _ => true).length ≤ 10 := by rw [all_kept]; exact htl
                              refine' EXs.cons (EX.conv (EX.assignComp (as := pre ++ [ahead ++ behind]) (sh := fun t => .one (.str t)) (μc := [(Str.ofString "masks", .tup [.dct mk, .int lp, .int be, .list (en.map .int)]), (Str.ofString "joins", .list (joins.map .int)), (Str.ofString "turns", .int turns)]) ?O15 (FD.list (val := .str) (EV.var rfl rfl rfl) rfl) (Nat.le_trans htl (by decide)) (fun t => ((Str.ofString "text", .str t) :: ·)) (fun _ => true) (fun t => .list [.bool (toldP mk lp be turns en joins t)]) ?i1 ?i2 ?i3 ?i4 ?i5 rfl rfl rfl) (?i6 : _ = Out.next ((Str.ofString "told", rows (pre.map (toldP mk lp be turns en joins) ++ [toldP mk lp be turns en joins (ahead ++ behind)])) :: _))) ?S16
                              case O15 => exact ⟨rfl, rfl, by decide, by decide, rfl, rfl, rfl, rfl, rfl, rfl⟩
                              case i1 => exact fun _ _ _ _ _ => ASG.name rfl rfl
                              case i2 => exact fun _ _ => rfl
                              case i3 => exact fun _ _ _ _ _ => TVs.nil
                              case i5 => exact fun _ => rfl
                              case i6 => rw [all_kept]; exact congrArg (fun l => Out.next ((Str.ofString "told", PV.list l) :: _)) rows_map
                              case i4 =>
                                intro t ht _ wr K' D
                                refine' EV.callF (EV.glob rfl ?i7 rfl) (EVs.cons (EV.var rfl rfl rfl) (EVs.cons (EV.var rfl rfl rfl) (EVs.cons (EV.var rfl rfl rfl) (EVs.cons (EV.var rfl rfl rfl) EVs.nil rfl) rfl) rfl) rfl) (Fn.call (told hK w mk lp be turns en joins t (hmkc t ht) hen2 hen hj2 hj3) (Nat.le_succ 1)) ?i8 rfl rfl rfl
                                case i7 => walk_at "kn"
                                case i8 => walk_at "kn"
                              case S16 =>
                                have hv5 : (ahead ++ hub).length ≤ 110 := by rw [slen]; omega
                                have hv6 : (ahead ++ hub ++ out).length ≤ 111 := by rw [slen]; omega
                                have hv7 : (ahead ++ hub ++ out ++ rim).length ≤ 121 := by rw [slen]; omega
                                have hv8 : (ahead ++ hub ++ out ++ rim ++ back).length ≤ 122 := by rw [slen]; omega
                                refine' EXs.cons (EX.conv (EX.assignComp (as := pre ++ [ahead ++ behind] ++ [ahead ++ hub ++ out ++ rim ++ back ++ behind]) (sh := fun t => .one (.str t)) (μc := [(Str.ofString "deeds", .list (ds.map ddV))]) ?O16 (FD.list (val := .str) (EV.bin (EV.var rfl rfl rfl) (EV.list (EVs.cons (EV.bin (EV.bin (EV.bin (EV.bin (EV.bin (EV.var rfl rfl rfl) (EV.var rfl rfl rfl) (BIN.addS ?h1')) (EV.var rfl rfl rfl) (BIN.addS ?h2')) (EV.var rfl rfl rfl) (BIN.addS ?h3')) (EV.var rfl rfl rfl) (BIN.addS ?h4')) (EV.var rfl rfl rfl) (BIN.addS ?h5')) EVs.nil rfl) (Nat.le_of_ble_eq_true rfl)) (BIN.addL ?h6')) ?h7') ?h8' (fun t => ((Str.ofString "text", .str t) :: ·)) (fun _ => true) (fun t => .list ((ds.foldl (sayS (em t)) []).reverse.map .bool)) ?j1 ?j2 ?j3 ?j4 ?j5 rfl rfl rfl) (?j6 : _ = Out.next ((Str.ofString "says", rows (pre.map (toldP mk lp be turns en joins) ++ [toldP mk lp be turns en joins (ahead ++ behind)] ++ [toldP mk lp be turns en joins (ahead ++ behind)])) :: _))) ?S17
                                case O16 => exact ⟨rfl, rfl, by decide, by decide, rfl, rfl, rfl, rfl, rfl, rfl⟩
                                case h1' => unfold sizeLine; omega
                                case h2' => unfold sizeLine; omega
                                case h3' => unfold sizeLine; omega
                                case h4' => unfold sizeLine; omega
                                case h5' => unfold sizeLine; omega
                                case h6' => rw [List.length_map]; exact Nat.le_trans (Nat.succ_le_succ htl) (by decide)
                                case h7' => exact (List.map_append (l₁ := pre ++ [ahead ++ behind]) (l₂ := [ahead ++ hub ++ out ++ rim ++ back ++ behind])).symm
                                case h8' => rw [List.length_append]; exact Nat.le_trans (Nat.succ_le_succ htl) (by decide)
                                case j1 => exact fun _ _ _ _ _ => ASG.name rfl rfl
                                case j2 => exact fun _ _ => rfl
                                case j3 => exact fun _ _ _ _ _ => TVs.nil
                                case j5 => exact fun _ => rfl
                                case j4 =>
                                  intro t ht _ wr K' D
                                  refine' EV.callF (EV.glob rfl ?j7 rfl) (EVs.cons (EV.var rfl rfl rfl) (EVs.cons (EV.var rfl rfl rfl) EVs.nil rfl) rfl) (Fn.call (says hK w (em t) t ds (hem t ht) (hok t) (hst t)) (Nat.le_refl 2)) ?j8 rfl rfl rfl
                                  case j7 => walk_at "kn"
                                  case j8 => walk_at "kn"
                                case j6 =>
                                  rw [all_kept, List.map_append]
                                  refine congrArg (fun l => Out.next ((Str.ofString "says", PV.list l) :: _)) ?_
                                  rw [List.map_append (l₁ := pre.map (toldP mk lp be turns en joins) ++ [toldP mk lp be turns en joins (ahead ++ behind)])]
                                  refine congr (congrArg HAppend.hAppend ?_) ?_
                                  · rw [show pre.map (toldP mk lp be turns en joins) ++ [toldP mk lp be turns en joins (ahead ++ behind)] = (pre ++ [ahead ++ behind]).map (toldP mk lp be turns en joins) by rw [List.map_append]; rfl, List.map_map]
                                    exact List.map_congr_left fun t ht => by rw [hsay t ht]; rfl
                                  · rw [List.map_singleton, hdet]; rfl
                                case S17 =>
                                  generalize toldP mk lp be turns en joins (ahead ++ behind) = bl
                                  have hbl : (pre.map (toldP mk lp be turns en joins)).length ≤ 10 := by rw [List.length_map]; rw [List.length_append] at htl; omega
                                  generalize pre.map (toldP mk lp be turns en joins) = bs at hbl
                                  clear hsay hdet hem hmkc htl htl' hok hst
                                  have hlen : ∀ x : List Bool, x = bs ++ [bl] ++ [bl] → x.length ≤ 12 := fun x e => by rw [e, List.length_append, List.length_append]; exact Nat.succ_le_succ (Nat.succ_le_succ hbl)
                                  refine' EXs.consR (EX.ret (EV.and (EV.cmp (EV.conv (EV.var rfl rfl rfl) rows_eq) (EV.conv (EV.bin (EV.var rfl rfl rfl) (EV.slice (EV.var rfl rfl rfl) (EVo.some (EV.neg EV.int)) EVo.none (SLICE.list ?a1)) (BIN.addL ?a2)) ?a3) (CMP.eqLL (Nat.le_succ 1)) rfl) (EV.conv (EV.cmp (EV.callB (EV.blt rfl ?a4 rfl rfl ?a5) (EVs.cons (EV.comp2 (as := bs ++ [bl] ++ [bl]) (sh := fun b => .one (.list [.bool b])) (bs := fun b => [b]) (sh2 := fun _ b => .one (.bool b)) (μc := []) ?O17 (FD.list (val := fun b => .list [.bool b]) (EV.var rfl rfl rfl) rfl) (fun b => ((Str.ofString "row", .list [.bool b]) :: ·)) (fun _ => true) (fun _ b => ((Str.ofString "flag", .bool b) :: ·)) (fun _ _ => true) (fun _ b => .bool b) ?a6 ?a7 ?a8 ?a9 ?a10 ?a11 ?a12 ?a13 ?a14 ?a15 ?a16) EVs.nil rfl) (CALL.lenL ?a17) rfl rfl rfl) (EV.callB (EV.blt rfl ?a18 rfl rfl ?a19) (EVs.cons (EV.var rfl rfl rfl) EVs.nil rfl) (CALL.lenL ?a20) rfl rfl rfl) CMP.eq rfl) ?a21)))
                                  case O17 => exact ⟨rfl, rfl, by decide, by decide, rfl, rfl, rfl, rfl, rfl, rfl⟩
                                  case a4 => walk_at "kn"
                                  case a5 => decide
                                  case a18 => walk_at "kn"
                                  case a19 => decide
                                  case a1 => rw [List.length_map, List.length_append]; exact Nat.le_trans (Nat.succ_le_succ hbl) (by decide)
                                  case a2 => rw [pick_map, pick_last, List.length_map, List.length_append]; exact Nat.le_trans (Nat.succ_le_succ (Nat.succ_le_succ hbl)) (by decide)
                                  case a3 =>
                                    rw [pick_map, pick_last, ← List.map_append]
                                    exact rows_eq
                                  case a6 => rw [flat_len]; exact Nat.le_trans (hlen _ rfl) (by decide)
                                  case a7 => exact fun _ _ _ _ _ => ASG.name rfl rfl
                                  case a8 => exact fun _ _ => rfl
                                  case a9 => exact fun _ _ _ _ _ => TVs.nil
                                  case a10 => exact fun b _ wr K' D => FD.list (val := .bool) (EV.var rfl rfl rfl) rfl
                                  case a11 => exact fun _ _ _ _ _ _ _ _ => ASG.name rfl rfl
                                  case a12 => exact fun _ _ _ _ => rfl
                                  case a13 =>
                                    intro b _ c _ wr K' D wr'
                                    refine' TVs.one (TV.bool (EV.callB (EV.blt rfl ?b1 rfl rfl ?b2) (EVs.cons (EV.var rfl rfl rfl) (EVs.cons (EV.blt rfl ?b3 rfl rfl ?b4) EVs.nil rfl) rfl) CALL.isBool rfl rfl rfl) rfl)
                                    case b1 => walk_at "kn"
                                    case b2 => decide
                                    case b3 => walk_at "kn"
                                    case b4 => decide
                                  case a14 => exact fun _ _ _ _ _ _ _ _ _ => EV.var rfl rfl rfl
                                  case a15 => exact fun _ => rfl
                                  case a16 => exact fun _ _ => rfl
                                  case a17 => rw [flat_len]; exact Nat.le_trans (hlen _ rfl) (by decide)
                                  case a20 => rw [List.length_map]; exact Nat.le_trans (hlen _ rfl) (by decide)
                                  case a21 => rw [flat_len, List.length_map, beq_self_eq_true]
                case r1 => walk_at "kn"
                case r2 => walk_at "kn"
              case s1 => walk_at "kn"
              case s2 => walk_at "kn"
            case t1 => walk_at "kn"
            case t2 => walk_at "kn"
            case t3 => walk_at "kn"
            case t4 => walk_at "kn"
            case t5 => walk_at "kn"
            case t6 => walk_at "kn"
end
section
/-- the pattern's signs, each with whether dots stand ahead of it, from a to N; e: dots behind all -/
def Acc (T : Nat → Nat) : List (Bool × Nat) → Bool → Nat → Nat → Prop
  | [], e, a, N => a ≤ N ∧ (e = false → a = N)
  | (g, c) :: r, e, a, N => ∃ s, a ≤ s ∧ (g = false → s = a) ∧ T s = c ∧ Acc T r e (s + 1) N
theorem Acc.snoc {T : Nat → Nat} {g e : Bool} {c N : Nat} : ∀ (r : List (Bool × Nat)) (a : Nat), Acc T (r ++ [(g, c)]) e a N ↔ ∃ s, Acc T r g a s ∧ T s = c ∧ s + 1 ≤ N ∧ (e = false → s + 1 = N)
  | [], a => by
    constructor
    · rintro ⟨s, h1, h2, h3, h4, h5⟩
      exact ⟨s, ⟨h1, fun h => (h2 h).symm⟩, h3, h4, h5⟩
    · rintro ⟨s, ⟨h1, h2⟩, h3, h4, h5⟩
      exact ⟨s, h1, fun h => (h2 h).symm, h3, h4, h5⟩
  | (g', c') :: r, a => by
    constructor
    · rintro ⟨s, h1, h2, h3, h4⟩
      obtain ⟨s', h5, h6⟩ := (Acc.snoc r (s + 1)).mp h4
      exact ⟨s', ⟨s, h1, h2, h3, h5⟩, h6⟩
    · rintro ⟨s', ⟨s, h1, h2, h3, h5⟩, h6⟩
      exact ⟨s, h1, h2, h3, (Acc.snoc r (s + 1)).mpr ⟨s', h5, h6⟩⟩
def gp (items : List (Bool × Nat)) (e : Bool) (k : Nat) : Bool := ((items[k]?).map (·.1)).getD e
/-- one sign read by the machine -/
def stB (items : List (Bool × Nat)) (e : Bool) (S : Nat → Bool) (c : Nat) : Nat → Bool
  | 0 => S 0 && gp items e 0
  | j + 1 => (S (j + 1) && gp items e (j + 1)) || (((items[j]?).map (·.2)) == some c && S j)
def runN (items : List (Bool × Nat)) (e : Bool) (T : Nat → Nat) : Nat → Nat → Bool
  | 0 => fun k => k == 0
  | i + 1 => stB items e (runN items e T i) (T i)
theorem runN_iff {items : List (Bool × Nat)} {e : Bool} {T : Nat → Nat} : ∀ (i k : Nat), k ≤ items.length → (runN items e T i k = true ↔ Acc T (items.take k) (gp items e k) 0 i) := by
  have tk : ∀ j, j < items.length → ∃ p, items[j]? = some p ∧ items.take (j + 1) = items.take j ++ [(gp items e j, p.2)] ∧ gp items e j = p.1 := fun j hj => by
    have h := List.getElem?_eq_getElem hj
    refine ⟨items[j], h, ?_, ?_⟩
    · have : gp items e j = items[j].1 := by unfold gp; rw [h]; rfl
      rw [this, List.take_add_one, h]; rfl
    · unfold gp; rw [h]; rfl
  intro i
  induction i with
  | zero =>
    intro k hk
    cases k with
    | zero => exact Iff.intro (fun _ => ⟨Nat.le_refl 0, fun _ => rfl⟩) (fun _ => rfl)
    | succ j =>
      obtain ⟨p, h1, h2, h3⟩ := tk j hk
      rw [h2, Acc.snoc]
      exact Iff.intro (fun h => by cases h) (fun ⟨s, _, _, h, _⟩ => absurd h (Nat.not_succ_le_zero s))
  | succ i ih =>
    intro k hk
    cases k with
    | zero =>
      show (runN items e T i 0 && gp items e 0) = true ↔ _
      rw [Bool.and_eq_true, ih 0 (Nat.zero_le _)]
      constructor
      · rintro ⟨_, h⟩; exact ⟨Nat.zero_le _, fun q => by rw [h] at q; cases q⟩
      · rintro ⟨_, h⟩
        have : gp items e 0 = true := by
          cases q : gp items e 0 with
          | true => rfl
          | false => have := h q; omega
        exact ⟨⟨Nat.zero_le _, fun q => by rw [this] at q; cases q⟩, this⟩
    | succ j =>
      obtain ⟨p, h1, h2, h3⟩ := tk j hk
      show ((runN items e T i (j + 1) && gp items e (j + 1)) || (((items[j]?).map (·.2)) == some (T i) && runN items e T i j)) = true ↔ _
      rw [Bool.or_eq_true, Bool.and_eq_true, Bool.and_eq_true, ih (j + 1) hk, ih j (Nat.le_of_succ_le hk), h2, Acc.snoc, Acc.snoc, h1]
      simp only [Option.map_some, beq_iff_eq, Option.some.injEq]
      constructor
      · rintro (⟨⟨s, a1, a2, a3, a4⟩, a5⟩ | ⟨b1, b2⟩)
        · exact ⟨s, a1, a2, Nat.le_succ_of_le a3, fun q => by rw [a5] at q; cases q⟩
        · exact ⟨i, b2, b1.symm, Nat.le_refl _, fun _ => rfl⟩
      · rintro ⟨s, a1, a2, a3, a4⟩
        rcases Nat.lt_or_ge s i with h | h
        · have : gp items e (j + 1) = true := by
            cases q : gp items e (j + 1) with
            | true => rfl
            | false => have := a4 q; omega
          exact .inl ⟨⟨s, a1, a2, h, fun q => by rw [this] at q; cases q⟩, this⟩
        · obtain rfl : s = i := by omega
          exact .inr ⟨a2.symm, a1⟩
/-- w stands at s -/
def Occ (T : Nat → Nat) (w : List Nat) (s : Nat) : Prop := ∀ j c, w[j]? = some c → T (s + j) = c
theorem Occ.cons {T : Nat → Nat} {c : Nat} {w : List Nat} {s : Nat} : Occ T (c :: w) s ↔ T s = c ∧ Occ T w (s + 1) := by
  constructor
  · intro h
    refine ⟨by simpa using h 0 c rfl, fun j d hj => ?_⟩
    have := h (j + 1) d (by simpa using hj)
    rwa [show s + (j + 1) = s + 1 + j by omega] at this
  · rintro ⟨h1, h2⟩ j d hj
    cases j with
    | zero => cases hj; exact h1
    | succ j =>
      have := h2 j d (by simpa using hj)
      rwa [show s + 1 + j = s + (j + 1) by omega] at this
/-- the pieces between the dots -/
def pc : List (Bool × Nat) → Bool → List Nat × List (List Nat)
  | [], e => ([], if e then [[]] else [])
  | (g, c) :: r, e => if g then ([], (c :: (pc r e).1) :: (pc r e).2) else (c :: (pc r e).1, (pc r e).2)
/-- pieces one behind the other, the last at the end -/
def AccT (T : Nat → Nat) : List (List Nat) → Nat → Nat → Prop
  | [], b, N => b = N
  | w :: r, b, N => ∃ s, b ≤ s ∧ Occ T w s ∧ AccT T r (s + w.length) N
theorem acc_pc {T : Nat → Nat} {e : Bool} {N : Nat} : ∀ (items : List (Bool × Nat)) (a : Nat), Acc T items e a N ↔ Occ T (pc items e).1 a ∧ AccT T (pc items e).2 (a + (pc items e).1.length) N
  | [], a => by
    cases e with
    | true =>
      constructor
      · rintro ⟨h, _⟩; exact ⟨(fun _ _ h => by cases h), N, h, (fun _ _ h => by cases h), rfl⟩
      · rintro ⟨_, s, h1, _, h2⟩
        have h2 : s + 0 = N := h2
        have h1 : a + 0 ≤ s := h1
        exact ⟨by omega, fun q => by cases q⟩
    | false =>
      constructor
      · rintro ⟨h, h2⟩; exact ⟨(fun _ _ h => by cases h), h2 rfl⟩
      · rintro ⟨_, h⟩
        have h : a + 0 = N := h
        exact ⟨by omega, fun _ => h⟩
  | (g, c) :: r, a => by
    cases g with
    | true =>
      show (∃ s, a ≤ s ∧ _ ∧ T s = c ∧ Acc T r e (s + 1) N) ↔ Occ T [] a ∧ ∃ s, a + 0 ≤ s ∧ Occ T (c :: (pc r e).1) s ∧ AccT T (pc r e).2 (s + ((pc r e).1.length + 1)) N
      constructor
      · rintro ⟨s, h1, _, h3, h4⟩
        obtain ⟨h5, h6⟩ := (acc_pc r (s + 1)).mp h4
        exact ⟨(fun _ _ h => by cases h), s, h1, Occ.cons.mpr ⟨h3, h5⟩, by rwa [show s + ((pc r e).1.length + 1) = s + 1 + (pc r e).1.length by omega]⟩
      · rintro ⟨_, s, h1, h2, h3⟩
        obtain ⟨h4, h5⟩ := Occ.cons.mp h2
        exact ⟨s, h1, (fun q => by cases q), h4, (acc_pc r (s + 1)).mpr ⟨h5, by rwa [show s + 1 + (pc r e).1.length = s + ((pc r e).1.length + 1) by omega]⟩⟩
    | false =>
      show (∃ s, a ≤ s ∧ _ ∧ T s = c ∧ Acc T r e (s + 1) N) ↔ Occ T (c :: (pc r e).1) a ∧ AccT T (pc r e).2 (a + ((pc r e).1.length + 1)) N
      constructor
      · rintro ⟨s, h1, h2, h3, h4⟩
        obtain rfl := h2 rfl
        obtain ⟨h5, h6⟩ := (acc_pc r (s + 1)).mp h4
        exact ⟨Occ.cons.mpr ⟨h3, h5⟩, by rwa [show s + ((pc r e).1.length + 1) = s + 1 + (pc r e).1.length by omega]⟩
      · rintro ⟨h2, h3⟩
        obtain ⟨h4, h5⟩ := Occ.cons.mp h2
        exact ⟨a, Nat.le_refl _, (fun _ => rfl), h4, (acc_pc r (a + 1)).mpr ⟨h5, by rwa [show a + 1 + (pc r e).1.length = a + ((pc r e).1.length + 1) by omega]⟩⟩
/-- pieces one behind the other within a .. N -/
def Emb (T : Nat → Nat) : List (List Nat) → Nat → Nat → Prop
  | [], b, N => b ≤ N
  | w :: r, b, N => ∃ s, b ≤ s ∧ Occ T w s ∧ Emb T r (s + w.length) N
theorem accT_last {T : Nat → Nat} {pn : List Nat} {N : Nat} : ∀ (mid : List (List Nat)) (b : Nat), AccT T (mid ++ [pn]) b N ↔ pn.length ≤ N ∧ Occ T pn (N - pn.length) ∧ Emb T mid b (N - pn.length)
  | [], b => by
    constructor
    · rintro ⟨s, h1, h2, h3⟩
      have h3 : s + pn.length = N := h3
      subst h3
      rw [Nat.add_sub_cancel]
      exact ⟨Nat.le_add_left _ _, h2, h1⟩
    · rintro ⟨h1, h2, h3⟩
      exact ⟨N - pn.length, h3, h2, Nat.sub_add_cancel h1⟩
  | w :: r, b => by
    constructor
    · rintro ⟨s, h1, h2, h3⟩
      obtain ⟨h4, h5, h6⟩ := (accT_last r (s + w.length)).mp h3
      exact ⟨h4, h5, s, h1, h2, h6⟩
    · rintro ⟨h4, h5, s, h1, h2, h6⟩
      exact ⟨s, h1, h2, (accT_last r (s + w.length)).mpr ⟨h4, h5, h6⟩⟩
theorem Emb.le {T : Nat → Nat} {N : Nat} : ∀ {ws : List (List Nat)} {b : Nat}, Emb T ws b N → b ≤ N
  | [], _, h => h
  | w :: r, b, ⟨s, h1, _, h3⟩ => by have := Emb.le h3; omega
theorem Emb.mono {T : Nat → Nat} {N : Nat} {ws : List (List Nat)} {b b' : Nat} (h : Emb T ws b N) (hb : b' ≤ b) : Emb T ws b' N := by
  cases ws with
  | nil => exact Nat.le_trans hb h
  | cons w r => exact let ⟨s, h1, h2, h3⟩ := h; ⟨s, Nat.le_trans hb h1, h2, h3⟩
end
section
def tot (ws : List (List Nat)) : Nat := (ws.map (·.length)).sum
theorem tot_cons {w : List Nat} {r : List (List Nat)} : tot (w :: r) = w.length + tot r := rfl
theorem tot_append {a b : List (List Nat)} : tot (a ++ b) = tot a + tot b := by unfold tot; rw [List.map_append, List.sum_append]
theorem len_tot : ∀ {ws : List (List Nat)}, (∀ w ∈ ws, w ≠ []) → ws.length ≤ tot ws
  | [], _ => Nat.le_refl _
  | w :: r, h => by
    have h1 := len_tot (ws := r) fun x hx => h x (List.mem_cons_of_mem _ hx)
    have h2 : 0 < w.length := List.length_pos_iff.mpr (h w List.mem_cons_self)
    rw [tot_cons, List.length_cons]
    omega
theorem mem_tot {w : List Nat} : ∀ {ws : List (List Nat)}, w ∈ ws → w.length ≤ tot ws
  | x :: r, h => by
    rw [tot_cons]
    rcases List.mem_cons.mp h with rfl | h
    · omega
    · have := mem_tot h; omega
theorem Occ.of {T T' : Nat → Nat} {w : List Nat} {s s' : Nat} (h : Occ T w s) (e : ∀ j, j < w.length → T' (s' + j) = T (s + j)) : Occ T' w s' := fun j c hj =>
  (e j (List.getElem?_eq_some_iff.mp hj).1).trans (h j c hj)
theorem Emb.app {T : Nat → Nat} {x N : Nat} {b : List (List Nat)} (h2 : Emb T b x N) : ∀ {a : List (List Nat)} {s : Nat}, Emb T a s x → Emb T (a ++ b) s N
  | [], _, h => h2.mono h
  | _ :: _, _, ⟨s, h1, h3, h4⟩ => ⟨s, h1, h3, Emb.app h2 h4⟩
theorem Emb.up {T : Nat → Nat} {N N' : Nat} (hN : N ≤ N') : ∀ {ws : List (List Nat)} {b : Nat}, Emb T ws b N → Emb T ws b N'
  | [], _, h => Nat.le_trans h hN
  | _ :: _, _, ⟨s, h1, h2, h3⟩ => ⟨s, h1, h2, Emb.up hN h3⟩
/-- the text moved by d -/
theorem Emb.move {T T' : Nat → Nat} {d N lo : Nat} (e : ∀ i, lo ≤ i → T' (i + d) = T i) : ∀ {ws : List (List Nat)} {b : Nat}, lo ≤ b → Emb T ws b N → Emb T' ws (b + d) (N + d)
  | [], _, _, h => Nat.add_le_add_right h d
  | w :: r, b, hb, ⟨s, h1, h2, h3⟩ => ⟨s + d, Nat.add_le_add_right h1 d, h2.of fun j _ => by rw [show s + d + j = s + j + d by omega]; exact e _ (by omega), by
    have := Emb.move e (ws := r) (b := s + w.length) (by omega) h3
    rwa [show s + w.length + d = s + d + w.length by omega] at this⟩
theorem Emb.back {T T' : Nat → Nat} {d N lo : Nat} (e : ∀ i, lo ≤ i → T' (i + d) = T i) : ∀ {ws : List (List Nat)} {b : Nat}, lo ≤ b → Emb T' ws (b + d) (N + d) → Emb T ws b N
  | [], _, _, h => Nat.le_of_add_le_add_right h
  | w :: r, b, hb, ⟨s, h1, h2, h3⟩ => by
    obtain ⟨s, rfl⟩ : ∃ t, s = t + d := ⟨s - d, by omega⟩
    refine ⟨s, by omega, h2.of fun j _ => by rw [show s + d + j = s + j + d by omega]; exact (e _ (by omega)).symm, ?_⟩
    rw [show s + d + w.length = s + w.length + d by omega] at h3
    exact Emb.back e (by omega) h3
/-- the texts agree below N -/
theorem Emb.agree {T T' : Nat → Nat} {N : Nat} (e : ∀ i, i < N → T' i = T i) : ∀ {ws : List (List Nat)} {b : Nat}, Emb T ws b N → Emb T' ws b N
  | [], _, h => h
  | w :: r, b, ⟨s, h1, h2, h3⟩ => ⟨s, h1, h2.of fun j hj => e _ (by have := h3.le; omega), Emb.agree e h3⟩
/-- the detour comes in -/
theorem emb_in {T1 T2 : Nat → Nat} {p d h E : Nat} (h1 : ∀ i, i < p → T2 i = T1 i) (h2 : ∀ i, p ≤ i → T2 (i + d) = T1 i) (h3 : ∀ i, i < h → T2 (p + i) = T1 (p + i)) : ∀ {ws : List (List Nat)} {b : Nat}, (∀ w ∈ ws, w.length ≤ h) → b ≤ p → Emb T1 ws b E → Emb T2 ws b (E + d)
  | [], b, _, _, he => Nat.le_trans he (Nat.le_add_right _ _)
  | w :: r, b, hw, hb, ⟨s, g1, g2, g3⟩ => by
    rcases Nat.lt_or_ge s p with hs | hs
    · have hwl := hw w List.mem_cons_self
      have o : Occ T2 w s := g2.of fun j hj => by
        rcases Nat.lt_or_ge (s + j) p with q | q
        · exact h1 _ q
        · have := h3 (s + j - p) (by omega)
          rwa [show p + (s + j - p) = s + j by omega] at this
      refine ⟨s, g1, o, ?_⟩
      rcases Nat.lt_or_ge p (s + w.length) with q | q
      · exact (g3.move h2 (Nat.le_of_lt q)).mono (Nat.le_add_right _ _)
      · exact emb_in h1 h2 h3 (fun x hx => hw x (List.mem_cons_of_mem _ hx)) q g3
    · exact Emb.mono (Emb.move h2 hs (⟨s, Nat.le_refl _, g2, g3⟩ : Emb T1 (w :: r) s E)) (by omega)
/-- the pieces that end by g, and the rest -/
theorem emb_cut {T : Nat → Nat} {f g M : Nat} (hM : f ≤ M) : ∀ {ws : List (List Nat)} {b : Nat}, (∀ w ∈ ws, f + w.length ≤ g) → b ≤ g → Emb T ws b M → ∃ a c, ws = a ++ c ∧ Emb T a b g ∧ Emb T c f M
  | [], b, _, hb, h => ⟨[], [], rfl, hb, hM⟩
  | w :: r, b, hw, hb, ⟨s, g1, g2, g3⟩ => by
    rcases Nat.lt_or_ge g (s + w.length) with q | q
    · exact ⟨[], w :: r, rfl, hb, s, by have := hw w List.mem_cons_self; omega, g2, g3⟩
    · obtain ⟨a, c, rfl, h1, h2⟩ := emb_cut hM (fun x hx => hw x (List.mem_cons_of_mem _ hx)) q g3
      exact ⟨w :: a, c, rfl, ⟨s, g1, g2, h1⟩, h2⟩
theorem least {P : Nat → Prop} {n : Nat} (h : P n) : ∃ m, P m ∧ m ≤ n ∧ ∀ k, P k → m ≤ k := by
  induction n using Nat.strongRecOn with
  | ind n ih =>
    by_cases q : ∃ k, k < n ∧ P k
    · obtain ⟨k, h1, h2⟩ := q
      obtain ⟨m, h3, h4, h5⟩ := ih k h1 h2
      exact ⟨m, h3, by omega, h5⟩
    · exact ⟨n, h, Nat.le_refl _, fun k hk => Nat.le_of_not_lt fun z => q ⟨k, z, hk⟩⟩
/-- few pieces stand in few rounds -/
theorem emb_left {T : Nat → Nat} {x β g : Nat} (hβ : 0 < β) (per : ∀ i, x ≤ i → i + β < g → T (i + β) = T i) : ∀ {ws : List (List Nat)} {e : Nat}, Emb T ws e g → Emb T ws e (max e x + ws.length * β + tot ws)
  | [], e, _ => by show e ≤ _; omega
  | w :: r, e, ⟨s, g1, g2, g3⟩ => by
    obtain ⟨m, ⟨m1, m2, m3⟩, m4, m5⟩ := least (P := fun m => e ≤ m ∧ Occ T w m ∧ m + w.length ≤ g) (n := s) ⟨g1, g2, g3.le⟩
    have hm : m ≤ max e x + β := by
      rcases Nat.lt_or_ge (max e x + β) m with q | q
      · exfalso
        have := m5 (m - β) ⟨by omega, m2.of fun j hj => ?_, by omega⟩
        · omega
        · have := per (m - β + j) (by omega) (by omega)
          rw [show m - β + j + β = m + j by omega] at this
          exact this.symm
      · exact q
    have ih := emb_left hβ per (g3.mono (show m + w.length ≤ s + w.length by omega))
    refine ⟨m, m1, m2, ih.up ?_⟩
    rw [tot_cons, List.length_cons, Nat.succ_mul]
    omega
/-- from the right: the last piece first -/
def EmbR (T : Nat → Nat) : List (List Nat) → Nat → Nat → Prop
  | [], E, b => b ≤ E
  | w :: r, E, b => ∃ s, s + w.length ≤ E ∧ Occ T w s ∧ EmbR T r s b
theorem Emb.snoc {T : Nat → Nat} {w : List Nat} {E : Nat} : ∀ {ws : List (List Nat)} {b : Nat}, Emb T (ws ++ [w]) b E ↔ ∃ s, Emb T ws b s ∧ Occ T w s ∧ s + w.length ≤ E
  | [], b => ⟨fun ⟨s, h1, h2, h3⟩ => ⟨s, h1, h2, h3⟩, fun ⟨s, h1, h2, h3⟩ => ⟨s, h1, h2, h3⟩⟩
  | v :: r, b => ⟨fun ⟨s, h1, h2, h3⟩ => let ⟨t, h4, h5⟩ := Emb.snoc.mp h3; ⟨t, ⟨s, h1, h2, h4⟩, h5⟩, fun ⟨t, ⟨s, h1, h2, h4⟩, h5⟩ => ⟨s, h1, h2, Emb.snoc.mpr ⟨t, h4, h5⟩⟩⟩
theorem embR_iff {T : Nat → Nat} : ∀ {ws : List (List Nat)} {E b : Nat}, EmbR T ws E b ↔ Emb T ws.reverse b E
  | [], E, b => Iff.rfl
  | w :: r, E, b => by
    rw [List.reverse_cons, Emb.snoc]
    exact ⟨fun ⟨s, h1, h2, h3⟩ => ⟨s, embR_iff.mp h3, h2, h1⟩, fun ⟨s, h1, h2, h3⟩ => ⟨s, h3, h2, embR_iff.mpr h1⟩⟩
theorem EmbR.le {T : Nat → Nat} : ∀ {ws : List (List Nat)} {E b : Nat}, EmbR T ws E b → b ≤ E
  | [], _, _, h => h
  | w :: r, E, b, ⟨s, h1, _, h3⟩ => by have := EmbR.le h3; omega
theorem EmbR.mono {T : Nat → Nat} {ws : List (List Nat)} {E E' b : Nat} (h : EmbR T ws E b) (hE : E ≤ E') : EmbR T ws E' b := by
  cases ws with
  | nil => exact Nat.le_trans h hE
  | cons w r => exact let ⟨s, h1, h2, h3⟩ := h; ⟨s, Nat.le_trans h1 hE, h2, h3⟩
theorem most {P : Nat → Prop} {n N : Nat} (h : P n) (hN : ∀ k, P k → k ≤ N) : ∃ m, P m ∧ n ≤ m ∧ ∀ k, P k → k ≤ m := by
  obtain ⟨m, ⟨h1, h2⟩, h3, h4⟩ := least (P := fun m => m ≤ N ∧ P (N - m)) (n := N - n) ⟨Nat.sub_le _ _, by rwa [Nat.sub_sub_self (hN n h)]⟩
  refine ⟨N - m, h2, by have := hN n h; omega, fun k hk => ?_⟩
  have h5 := hN k hk
  have := h4 (N - k) ⟨Nat.sub_le _ _, by rwa [Nat.sub_sub_self h5]⟩
  omega
theorem emb_right {T : Nat → Nat} {Z β f : Nat} (hβ : 0 < β) (per : ∀ i, f ≤ i → i + β < Z → T (i + β) = T i) : ∀ {ws : List (List Nat)} {E : Nat}, EmbR T ws E f → ∃ b, EmbR T ws E b ∧ min E Z ≤ b + ws.length * β + tot ws
  | [], E, h => ⟨E, Nat.le_refl _, by omega⟩
  | w :: r, E, ⟨s, g1, g2, g3⟩ => by
    obtain ⟨m, ⟨m1, m2, m3⟩, m4, m5⟩ := most (P := fun m => m + w.length ≤ E ∧ Occ T w m ∧ f ≤ m) (n := s) (N := E) ⟨g1, g2, g3.le⟩ (fun k hk => by omega)
    have hm : min E Z ≤ m + w.length + β := by
      rcases Nat.lt_or_ge (m + w.length + β) (min E Z) with q | q
      · exfalso
        have := m5 (m + β) ⟨by omega, m2.of fun j hj => ?_, by omega⟩
        · omega
        · have := per (m + j) (by omega) (by omega)
          rw [show m + β + j = m + j + β by omega]
          exact this
      · exact q
    obtain ⟨b, h1, h2⟩ := emb_right hβ per (g3.mono m4)
    refine ⟨b, ⟨m, m1, m2, h1⟩, ?_⟩
    rw [tot_cons, List.length_cons, Nat.succ_mul]
    omega
theorem EmbR.down {T : Nat → Nat} {b b' : Nat} (hb : b' ≤ b) : ∀ {ws : List (List Nat)} {E : Nat}, EmbR T ws E b → EmbR T ws E b'
  | [], _, h => Nat.le_trans hb h
  | _ :: _, _, ⟨s, h1, h2, h3⟩ => ⟨s, h1, h2, EmbR.down hb h3⟩
theorem tot_rev {ws : List (List Nat)} : tot ws.reverse = tot ws := by unfold tot; rw [List.map_reverse, List.sum_reverse]
/-- the detour goes out: f .. g its middle, p the place where it stands, c the sizes at the end -/
theorem emb_out {T1 T2 : Nat → Nat} {p d x y β β' n f g h c a : Nat} (h1 : ∀ i, i < p → T1 i = T2 i) (h2 : ∀ i, p ≤ i → T2 (i + d) = T1 i) (hp : p = x + n * β) (hg : p ≤ g) (hfg : f + h = g) (hgd : g ≤ p + d) (hβ : n ≤ β + 1) (hβ0 : 0 < β) (hβ' : n ≤ β' + 1) (hβ0' : 0 < β') (per : ∀ i, x ≤ i → i + β < g → T2 (i + β) = T2 i)
    (per' : ∀ i, f ≤ i → i + β' < p + d + n * β' → T2 (i + β') = T2 i) {ws : List (List Nat)} (hne : ∀ w ∈ ws, w ≠ []) (hws : a + tot ws + c < n) (hh : n ≤ h + 1) (hap : a ≤ p) (hc : c ≤ n * β' + y) (he : Emb T2 ws a (p + d + n * β' + y - c)) : Emb T1 ws a (p + n * β' + y - c) := by
  obtain ⟨A, B, rfl, hA, hB⟩ := emb_cut (T := T2) (f := f) (g := g) (M := p + d + n * β' + y - c) (by omega) (fun w hw => by have := mem_tot hw; omega) (by omega) he
  rw [tot_append] at hws
  have kA := len_tot (ws := A) fun w hw => hne w (List.mem_append_left _ hw)
  have kB := len_tot (ws := B) fun w hw => hne w (List.mem_append_right _ hw)
  have bA : A.length * β + β ≤ n * β := by rw [← Nat.succ_mul]; exact Nat.mul_le_mul_right _ (by omega)
  have bB : B.length * β' + β' ≤ n * β' := by rw [← Nat.succ_mul]; exact Nat.mul_le_mul_right _ (by omega)
  have lA : Emb T1 A a p := ((emb_left hβ0 per hA).up (by omega)).agree h1
  obtain ⟨b, hb1, hb2⟩ := emb_right hβ0' per' (embR_iff.mpr ((List.reverse_reverse B).symm ▸ hB) : EmbR T2 B.reverse _ f)
  rw [tot_rev, List.length_reverse] at hb2
  have hb3 := embR_iff.mp (hb1.down (b' := p + d) (by omega))
  rw [List.reverse_reverse] at hb3
  have lB : Emb T1 B p (p + n * β' + y - c) := Emb.back h2 (Nat.le_refl p) (by rwa [show p + n * β' + y - c + d = p + d + n * β' + y - c by omega])
  exact Emb.app lB lA
end
section
/-- a text's signs by their places -/
def at_ (l : List Nat) (i : Nat) : Nat := l.getD i 0
theorem at_left {a b : List Nat} {i : Nat} (h : i < a.length) : at_ (a ++ b) i = at_ a i := by
  unfold at_
  rw [List.getD_eq_getElem?_getD, List.getD_eq_getElem?_getD, List.getElem?_append_left h]
theorem at_right {a b : List Nat} {i : Nat} : at_ (a ++ b) (a.length + i) = at_ b i := by
  unfold at_
  rw [List.getD_eq_getElem?_getD, List.getD_eq_getElem?_getD, List.getElem?_append_right (Nat.le_add_right _ _), Nat.add_sub_cancel_left]
def rep (n : Nat) (l : List Nat) : List Nat := (List.replicate n l).flatten
theorem rep_succ {n : Nat} {l : List Nat} : rep (n + 1) l = l ++ rep n l := by unfold rep; rw [List.replicate_succ, List.flatten_cons]
theorem rep_last {l : List Nat} : ∀ {n : Nat}, rep (n + 1) l = rep n l ++ l
  | 0 => by rw [rep_succ]; exact List.append_nil l
  | n + 1 => (rep_succ (n := n + 1)).trans (by conv => lhs; rw [rep_last (n := n), ← List.append_assoc, ← rep_succ])
theorem rep_len {l : List Nat} : ∀ {n : Nat}, (rep n l).length = n * l.length
  | 0 => (Nat.zero_mul _).symm
  | n + 1 => by rw [rep_succ, List.length_append, rep_len, Nat.succ_mul, Nat.add_comm]
theorem rep_per {l : List Nat} {n j : Nat} (h : j < n * l.length) : at_ (rep (n + 1) l) (j + l.length) = at_ (rep (n + 1) l) j := by
  rw [Nat.add_comm j, show at_ (rep (n + 1) l) (l.length + j) = at_ (rep n l) j by rw [rep_succ]; exact at_right, rep_last, at_left (by rw [rep_len]; exact h)]
section
variable (x H o R m k r y : List Nat) (n : Nat)
def lP : List Nat := x ++ rep n (H ++ o ++ R ++ m)
def lD : List Nat := H ++ o ++ R ++ r
def lQ : List Nat := rep n (H ++ k ++ R ++ r) ++ y
/-- what a pattern of pieces says of a text -/
def Says (T : Nat → Nat) (N : Nat) (p0 : List Nat) (mid : List (List Nat)) (pn : List Nat) : Prop := Occ T p0 0 ∧ pn.length ≤ N ∧ Occ T pn (N - pn.length) ∧ Emb T mid p0.length (N - pn.length)
theorem knast (hn : 1 ≤ n) (hH : n ≤ H.length) (hR : n ≤ R.length) {p0 pn : List Nat} {mid : List (List Nat)} (hne : ∀ w ∈ mid, w ≠ []) (hs : p0.length + tot mid + pn.length < n) :
    Says (at_ (lP x H o R m n ++ lQ H R k r y n)) (lP x H o R m n ++ lQ H R k r y n).length p0 mid pn ↔ Says (at_ (lP x H o R m n ++ lD H o R r ++ lQ H R k r y n)) (lP x H o R m n ++ lD H o R r ++ lQ H R k r y n).length p0 mid pn := by
  obtain ⟨n, rfl⟩ : ∃ n', n = n' + 1 := ⟨n - 1, by omega⟩
  have lp : (lP x H o R m (n + 1)).length = x.length + (n + 1) * (H ++ o ++ R ++ m).length := by unfold lP; rw [List.length_append, rep_len]
  have lq : (lQ H R k r y (n + 1)).length = (n + 1) * (H ++ k ++ R ++ r).length + y.length := by unfold lQ; rw [List.length_append, rep_len]
  have ld : (lD H o R r).length = H.length + o.length + R.length + r.length := by unfold lD; rw [List.length_append, List.length_append, List.length_append]
  have lB : (H ++ o ++ R ++ m).length = H.length + o.length + R.length + m.length := by rw [List.length_append, List.length_append, List.length_append]
  have lB' : (H ++ k ++ R ++ r).length = H.length + k.length + R.length + r.length := by rw [List.length_append, List.length_append, List.length_append]
  have hpre : ∃ z, lP x H o R m (n + 1) ++ lD H o R r ++ lQ H R k r y (n + 1) = (x ++ rep (n + 1) (H ++ o ++ R ++ m) ++ (H ++ o ++ R)) ++ z := ⟨r ++ lQ H R k r y (n + 1), by unfold lP lD; simp only [List.append_assoc]⟩
  have hpre' : ∃ z, x ++ rep (n + 1 + 1) (H ++ o ++ R ++ m) = (x ++ rep (n + 1) (H ++ o ++ R ++ m) ++ (H ++ o ++ R)) ++ z := ⟨m, by rw [rep_last]; simp only [List.append_assoc]⟩
  have hsuf : lP x H o R m (n + 1) ++ lD H o R r ++ lQ H R k r y (n + 1) = (lP x H o R m (n + 1) ++ (H ++ o)) ++ ((R ++ r ++ rep (n + 1) (H ++ k ++ R ++ r)) ++ y) := by unfold lD lQ; simp only [List.append_assoc]
  have hsuf' : rep (n + 1 + 1) (H ++ k ++ R ++ r) = (H ++ k) ++ (R ++ r ++ rep (n + 1) (H ++ k ++ R ++ r)) := by rw [rep_succ]; simp only [List.append_assoc]
  have hD : ∃ z, lD H o R r ++ lQ H R k r y (n + 1) = H ++ z := ⟨o ++ (R ++ (r ++ lQ H R k r y (n + 1))), by unfold lD; simp only [List.append_assoc]⟩
  have hQ : ∃ z, lQ H R k r y (n + 1) = H ++ z := ⟨k ++ (R ++ (r ++ (rep n (H ++ k ++ R ++ r) ++ y))), by unfold lQ; rw [rep_succ]; simp only [List.append_assoc]⟩
  have hB1 : (n + 1) * (H ++ o ++ R ++ m).length = n * (H ++ o ++ R ++ m).length + (H ++ o ++ R ++ m).length := Nat.succ_mul _ _
  have hB2 : (n + 1) * (H ++ k ++ R ++ r).length = n * (H ++ k ++ R ++ r).length + (H ++ k ++ R ++ r).length := Nat.succ_mul _ _
  have h1 : ∀ i, i < (lP x H o R m (n + 1)).length → at_ (lP x H o R m (n + 1) ++ lD H o R r ++ lQ H R k r y (n + 1)) i = at_ (lP x H o R m (n + 1) ++ lQ H R k r y (n + 1)) i := fun i hi => by rw [List.append_assoc, at_left hi, at_left hi]
  have h2 : ∀ i, (lP x H o R m (n + 1)).length ≤ i → at_ (lP x H o R m (n + 1) ++ lD H o R r ++ lQ H R k r y (n + 1)) (i + (lD H o R r).length) = at_ (lP x H o R m (n + 1) ++ lQ H R k r y (n + 1)) i := fun i hi => by
    obtain ⟨j, rfl⟩ : ∃ j, i = (lP x H o R m (n + 1)).length + j := ⟨i - (lP x H o R m (n + 1)).length, by omega⟩
    rw [at_right, show (lP x H o R m (n + 1)).length + j + (lD H o R r).length = (lP x H o R m (n + 1) ++ lD H o R r).length + j by rw [List.length_append]; omega, at_right]
  have h3 : ∀ i, i < H.length → at_ (lP x H o R m (n + 1) ++ lD H o R r ++ lQ H R k r y (n + 1)) ((lP x H o R m (n + 1)).length + i) = at_ (lP x H o R m (n + 1) ++ lQ H R k r y (n + 1)) ((lP x H o R m (n + 1)).length + i) := fun i hi => by
    obtain ⟨z, hz⟩ := hD
    obtain ⟨z', hz'⟩ := hQ
    rw [List.append_assoc, at_right, at_right, hz, hz', at_left hi, at_left hi]
  have N1 : (lP x H o R m (n + 1) ++ lQ H R k r y (n + 1)).length = (lP x H o R m (n + 1)).length + (lQ H R k r y (n + 1)).length := List.length_append
  have N2 : (lP x H o R m (n + 1) ++ lD H o R r ++ lQ H R k r y (n + 1)).length = (lP x H o R m (n + 1)).length + (lQ H R k r y (n + 1)).length + (lD H o R r).length := by rw [List.length_append, List.length_append]; omega
  have per : ∀ i, x.length ≤ i → i + (H ++ o ++ R ++ m).length < (lP x H o R m (n + 1)).length + (H.length + o.length + R.length) → at_ (lP x H o R m (n + 1) ++ lD H o R r ++ lQ H R k r y (n + 1)) (i + (H ++ o ++ R ++ m).length) = at_ (lP x H o R m (n + 1) ++ lD H o R r ++ lQ H R k r y (n + 1)) i := fun i hi hg => by
    obtain ⟨z, hz⟩ := hpre
    obtain ⟨z', hz'⟩ := hpre'
    have lz : (x ++ rep (n + 1) (H ++ o ++ R ++ m) ++ (H ++ o ++ R)).length = (lP x H o R m (n + 1)).length + (H.length + o.length + R.length) := by unfold lP; rw [List.length_append, List.length_append (as := H ++ o), List.length_append (as := H)]
    obtain ⟨j, rfl⟩ : ∃ j, i = x.length + j := ⟨i - x.length, by omega⟩
    have la : x.length + j + (H ++ o ++ R ++ m).length < (x ++ rep (n + 1) (H ++ o ++ R ++ m) ++ (H ++ o ++ R)).length := by omega
    have lb : x.length + j < (x ++ rep (n + 1) (H ++ o ++ R ++ m) ++ (H ++ o ++ R)).length := by omega
    rw [hz, at_left la, at_left lb, ← at_left (b := z') la, ← at_left (b := z') lb, ← hz', at_right, show x.length + j + (H ++ o ++ R ++ m).length = x.length + (j + (H ++ o ++ R ++ m).length) by omega, at_right]
    exact rep_per (by omega)
  have per' : ∀ i, (lP x H o R m (n + 1)).length + (H.length + o.length) ≤ i → i + (H ++ k ++ R ++ r).length < (lP x H o R m (n + 1)).length + (lD H o R r).length + (n + 1) * (H ++ k ++ R ++ r).length → at_ (lP x H o R m (n + 1) ++ lD H o R r ++ lQ H R k r y (n + 1)) (i + (H ++ k ++ R ++ r).length) = at_ (lP x H o R m (n + 1) ++ lD H o R r ++ lQ H R k r y (n + 1)) i := fun i hi hg => by
    have la : (lP x H o R m (n + 1) ++ (H ++ o)).length = (lP x H o R m (n + 1)).length + (H.length + o.length) := by rw [List.length_append, List.length_append]
    have lz : (R ++ r ++ rep (n + 1) (H ++ k ++ R ++ r)).length = R.length + r.length + (n + 1) * (H ++ k ++ R ++ r).length := by rw [List.length_append, List.length_append, rep_len]
    obtain ⟨j, rfl⟩ : ∃ j, i = (lP x H o R m (n + 1) ++ (H ++ o)).length + j := ⟨i - (lP x H o R m (n + 1) ++ (H ++ o)).length, by omega⟩
    have lu : j + (H ++ k ++ R ++ r).length < (R ++ r ++ rep (n + 1) (H ++ k ++ R ++ r)).length := by omega
    have lv : j < (R ++ r ++ rep (n + 1) (H ++ k ++ R ++ r)).length := by omega
    rw [hsuf, at_right, show (lP x H o R m (n + 1) ++ (H ++ o)).length + j + (H ++ k ++ R ++ r).length = (lP x H o R m (n + 1) ++ (H ++ o)).length + (j + (H ++ k ++ R ++ r).length) by omega, at_right, at_left lu, at_left lv]
    have e := rep_per (l := H ++ k ++ R ++ r) (n := n + 1) (j := (H ++ k).length + j) (by rw [List.length_append]; omega)
    rw [hsuf', show (H ++ k).length + j + (H ++ k ++ R ++ r).length = (H ++ k).length + (j + (H ++ k ++ R ++ r).length) by omega, at_right, at_right] at e
    exact e
  generalize at_ (lP x H o R m (n + 1) ++ lD H o R r ++ lQ H R k r y (n + 1)) = T2 at *
  generalize at_ (lP x H o R m (n + 1) ++ lQ H R k r y (n + 1)) = T1 at *
  rw [N1, N2]
  generalize (lP x H o R m (n + 1)).length = p at *
  generalize (lQ H R k r y (n + 1)).length = q at *
  generalize (lD H o R r).length = d at *
  generalize (H ++ o ++ R ++ m).length = β at *
  generalize (H ++ k ++ R ++ r).length = β' at *
  have sub : p + q + d - pn.length = p + q - pn.length + d := by omega
  have o0 : Occ T1 p0 0 ↔ Occ T2 p0 0 := ⟨fun h => h.of fun j hj => by rw [Nat.zero_add]; exact h1 j (by omega), fun h => h.of fun j hj => by rw [Nat.zero_add]; exact (h1 j (by omega)).symm⟩
  have on : Occ T1 pn (p + q - pn.length) ↔ Occ T2 pn (p + q + d - pn.length) := ⟨fun h => h.of fun j hj => by rw [sub, show p + q - pn.length + d + j = p + q - pn.length + j + d by omega]; exact h2 _ (by omega), fun h => h.of fun j hj => by rw [sub, show p + q - pn.length + d + j = p + q - pn.length + j + d by omega]; exact (h2 _ (by omega)).symm⟩
  have hmid : ∀ w ∈ mid, w.length ≤ H.length := fun w hw => by have := mem_tot hw; omega
  unfold Says
  rw [o0, on, sub]
  refine and_congr_right fun _ => ?_
  constructor
  · rintro ⟨a1, a2, a3⟩
    exact ⟨by omega, a2, emb_in h1 h2 h3 hmid (by omega) a3⟩
  · rintro ⟨a1, a2, a3⟩
    refine ⟨by omega, a2, ?_⟩
    have := emb_out (T1 := T1) (T2 := T2) (p := p) (d := d) (x := x.length) (y := y.length) (β := β) (β' := β') (n := n + 1) (f := p + (H.length + o.length)) (g := p + (H.length + o.length + R.length)) (h := R.length) (c := pn.length) (a := p0.length) (fun i hi => (h1 i hi).symm) h2 lp (by omega) (by omega) (by omega) (by omega) (by omega) (by omega) (by omega) per per' hne (by omega) (by omega) (by omega) (by omega) (by rwa [show p + d + (n + 1) * β' + y.length - pn.length = p + q - pn.length + d by omega])
    rwa [show p + (n + 1) * β' + y.length - pn.length = p + q - pn.length by omega] at this
end
end
section
abbrev S (w : List Nat) : Str := ⟨w.toArray⟩
theorem S_len {w : List Nat} : (S w).length = w.length := List.size_toArray
theorem occ_sub {y : Str} {w : List Nat} {i : Nat} (h : i + w.length ≤ y.length) : Builtin.Str.subAt y (S w) i = true ↔ Occ (at_ y.cps.toList) w i := by
  have hl : y.length = y.cps.toList.length := rfl
  rw [StrLaws.subAt_eq, S_len, beq_iff_eq]
  constructor
  · intro e j c hj
    have hj' := (List.getElem?_eq_some_iff.mp hj).1
    have e : (y.cps.toList.drop i).take w.length = w := e
    rw [← e, List.getElem?_take_of_lt hj', List.getElem?_drop] at hj
    unfold at_
    rw [List.getD_eq_getElem?_getD, hj]
    rfl
  · intro o
    show (y.cps.toList.drop i).take w.length = w
    refine List.ext_getElem? fun j => ?_
    rcases Nat.lt_or_ge j w.length with q | q
    · rw [List.getElem?_take_of_lt q, List.getElem?_drop]
      have := o j w[j] (List.getElem?_eq_getElem q)
      unfold at_ at this
      rw [List.getD_eq_getElem?_getD, List.getElem?_eq_getElem (by omega)] at this
      rw [List.getElem?_eq_getElem (by omega), List.getElem?_eq_getElem q]
      exact congrArg some this
    · rw [List.getElem?_eq_none (by rw [List.length_take]; omega), List.getElem?_eq_none q]
theorem starts_iff {y : Str} {w : List Nat} : Txt.startswith y (S w) = true ↔ w.length ≤ y.length ∧ Occ (at_ y.cps.toList) w 0 := by
  unfold Txt.startswith
  rw [Bool.and_eq_true, decide_eq_true_iff, S_len, Nat.zero_add]
  exact and_congr_right fun h => occ_sub (by omega)
theorem ends_iff {y : Str} {w : List Nat} : Txt.endswith y (S w) = true ↔ w.length ≤ y.length ∧ Occ (at_ y.cps.toList) w (y.length - w.length) := by
  unfold Txt.endswith
  rw [Bool.and_eq_true, decide_eq_true_iff, S_len, Nat.zero_add]
  exact and_congr_right fun h => occ_sub (by omega)
theorem from_nat {n a : Nat} : fromIndex n (a : Int) = a := by
  unfold fromIndex
  split <;> omega
open StrLaws in
/-- the first place at or behind a, the end by e -/
theorem find4_spec {y : Str} {w : List Nat} {a e : Nat} (ha : a ≤ y.length) (he : e ≤ y.length) : (find4 y (S w) a e < 0 ∧ ∀ i, a ≤ i → i + w.length ≤ e → ¬ Occ (at_ y.cps.toList) w i) ∨
    ∃ i : Nat, find4 y (S w) a e = i ∧ a ≤ i ∧ i + w.length ≤ e ∧ Occ (at_ y.cps.toList) w i ∧ ∀ k, a ≤ k → k + w.length ≤ e → Occ (at_ y.cps.toList) w k → i ≤ k := by
  unfold find4
  rw [from_nat, from_nat, Nat.min_eq_left he]
  rw [occ_eq]
  rcases occ_first y (S w) e 1 (Nat.le_refl 1) (List.range' a (e + 1 - a)) a (fun i hi => by have := List.mem_range'_1.mp hi; omega) with ⟨h0, hn⟩ | ⟨pre, i, post, e', h0, hi, hn⟩
  · refine .inl ⟨by rw [h0]; decide, fun i h1 h2 o => hn i (by rw [List.mem_range'_1]; omega) ⟨by rw [S_len]; exact h2, (occ_sub (by omega)).mpr o⟩⟩
  · obtain ⟨g1, g2⟩ := range'_split_from e'
    obtain ⟨i1, i2⟩ := hi
    rw [S_len] at i1
    have h1 : ((forIn (List.range' a (e + 1 - a)) ((#[] : Array Nat), a) (occBody y (S w) e 1)).run.fst.toList)[0]? = some i := by rw [Array.getElem?_toList]; exact h0
    refine .inr ⟨i, ?_, g1, i1, (occ_sub (by omega)).mp i2, fun k k1 k2 k3 => Nat.le_of_not_lt fun z => hn k (g2 k k1 z) ⟨by rw [S_len]; exact k2, (occ_sub (by omega)).mpr k3⟩⟩
    generalize (forIn (List.range' a (e + 1 - a)) ((#[] : Array Nat), a) (occBody y (S w) e 1)).run.fst.toList = L at h1
    cases L with
    | nil => cases h1
    | cons b t => cases h1; rfl
theorem takes_iff {y : Str} {e : Nat} (he : e ≤ y.length) : ∀ (ws : List (List Nat)) (a : Nat), a ≤ e → (takesAll y e (ws.map S) a = true ↔ Emb (at_ y.cps.toList) ws a e)
  | [], a, ha => ⟨fun _ => ha, fun _ => rfl⟩
  | w :: r, a, ha => by
    show (if find4 y (S w) a e < 0 then false else takesAll y e (r.map S) (find4 y (S w) a e + (S w).length)) = true ↔ _
    rcases find4_spec (y := y) (w := w) (a := a) (e := e) (by omega) he with ⟨h1, h2⟩ | ⟨i, h1, h2, h3, h4, h5⟩
    · rw [if_pos h1]
      exact ⟨fun h => (by cases h), fun ⟨s, g1, g2, g3⟩ => absurd g2 (h2 s g1 g3.le)⟩
    · rw [if_neg (by omega), h1, S_len, show ((i : Int) + (w.length : Int)) = ((i + w.length : Nat) : Int) by omega, takes_iff he r (i + w.length) h3]
      exact ⟨fun h => ⟨i, h2, h4, h⟩, fun ⟨s, g1, g2, g3⟩ => g3.mono (by have := h5 s g1 g3.le g2; omega)⟩
theorem takes_nil {y : Str} {a e : Nat} (hae : a ≤ e) (he : e ≤ y.length) {ws : List Str} : takesAll y e (S [] :: ws) a = takesAll y e ws a := by
  show (if find4 y (S []) a e < 0 then false else takesAll y e ws (find4 y (S []) a e + (S []).length)) = _
  rcases find4_spec (y := y) (w := []) (a := a) (e := e) (by omega) he with ⟨h1, h2⟩ | ⟨i, h1, h2, h3, h4, h5⟩
  · exact absurd (fun _ _ h => by cases h) (h2 a (Nat.le_refl _) hae)
  · have := h5 a (Nat.le_refl _) hae (fun _ _ h => by cases h)
    obtain rfl : i = a := by omega
    rw [if_neg (by omega), h1, S_len, List.length_nil]
    simp
theorem emb_nil {T : Nat → Nat} {ws : List (List Nat)} {b N : Nat} : Emb T ([] :: ws) b N ↔ Emb T ws b N :=
  ⟨fun ⟨s, h1, _, h3⟩ => h3.mono (by simpa using h1), fun h => ⟨b, Nat.le_refl _, (fun _ _ h => by cases h), h⟩⟩
theorem emb_last {T : Nat → Nat} {ws : List (List Nat)} {b N : Nat} : Emb T (ws ++ [[]]) b N ↔ Emb T ws b N := by
  rw [Emb.snoc]
  exact ⟨fun ⟨s, h1, _, h3⟩ => h1.up h3, fun h => ⟨N, h, (fun _ _ h => by cases h), Nat.le_refl _⟩⟩
theorem em_iff {y : Str} {p0 pn : List Nat} {mid : List (List Nat)} : emD (S p0) (mid.map S) (S pn) y = true ↔ Says (at_ y.cps.toList) y.length p0 mid pn := by
  have hA : ((S p0).length == 0 || Txt.startswith y (S p0)) = true ↔ p0.length ≤ y.length ∧ Occ (at_ y.cps.toList) p0 0 := by
    rw [Bool.or_eq_true, starts_iff, beq_iff_eq, S_len]
    refine ⟨fun h => h.elim (fun z => ?_) id, .inr⟩
    rw [List.length_eq_zero_iff.mp z]
    exact ⟨Nat.zero_le _, fun _ _ h => by cases h⟩
  have hB : ((S pn).length == 0 || Txt.endswith y (S pn)) = true ↔ pn.length ≤ y.length ∧ Occ (at_ y.cps.toList) pn (y.length - pn.length) := by
    rw [Bool.or_eq_true, ends_iff, beq_iff_eq, S_len]
    refine ⟨fun h => h.elim (fun z => ?_) id, .inr⟩
    rw [List.length_eq_zero_iff.mp z]
    exact ⟨Nat.zero_le _, fun _ _ h => by cases h⟩
  unfold emD Says
  rw [Bool.and_eq_true, Bool.and_eq_true, Bool.and_eq_true, hA, hB, decide_eq_true_iff, S_len (w := p0), S_len (w := pn)]
  have hws : (if p0.length = 0 then [S p0] else []) ++ (mid.map S ++ (if pn.length = 0 then [S pn] else [])) = (((if p0.length = 0 then [p0] else []) ++ (mid ++ (if pn.length = 0 then [pn] else []))).map S) := by
    rw [List.map_append, List.map_append]
    split <;> split <;> rfl
  rw [hws]
  have hE : ∀ b N, Emb (at_ y.cps.toList) ((if p0.length = 0 then [p0] else []) ++ (mid ++ (if pn.length = 0 then [pn] else []))) b N ↔ Emb (at_ y.cps.toList) mid b N := fun b N => by
    have h2 : ∀ b, Emb (at_ y.cps.toList) (mid ++ (if pn.length = 0 then [pn] else [])) b N ↔ Emb (at_ y.cps.toList) mid b N := fun b => by
      split
      · rename_i z
        rw [List.length_eq_zero_iff.mp z, emb_last]
      · rw [List.append_nil]
    split
    · rename_i z
      rw [List.length_eq_zero_iff.mp z]
      exact emb_nil.trans (h2 b)
    · exact h2 b
  constructor
  · rintro ⟨⟨⟨⟨a1, a2⟩, b1, b2⟩, c1⟩, d1⟩
    rw [show ((y.length : Int) - (pn.length : Int)) = ((y.length - pn.length : Nat) : Int) by omega, takes_iff (by omega) _ _ (by omega), hE] at d1
    exact ⟨a2, b1, b2, d1⟩
  · rintro ⟨a2, b1, b2, d1⟩
    have := d1.le
    refine ⟨⟨⟨⟨by omega, a2⟩, b1, b2⟩, by omega⟩, ?_⟩
    rw [show ((y.length : Int) - (pn.length : Int)) = ((y.length - pn.length : Nat) : Int) by omega, takes_iff (by omega) _ _ (by omega), hE]
    exact d1
end
section
def dots : Str := Str.ofString "..."
def itemsP (cs : List Nat) (g : Int) : List (Bool × Nat) := cs.zipIdx.map fun q => (bitO g q.2, q.1)
/-- the text of a pattern -/
def patS (cs : List Nat) (g : Int) : Str := cs.zipIdx.foldl (pg1 g) (Str.ofString "") ++ sel (bitO g cs.length) dots (Str.ofString "")
def pcP (cs : List Nat) (g : Int) : List Nat × List (List Nat) := pc (itemsP cs g) (bitO g cs.length)
def phi (c : Nat) : Nat := if c = 46 then 46 else 97
theorem sub_phi {l : List Nat} {i : Nat} : Builtin.Str.subAt (S l) dots i = Builtin.Str.subAt (S (l.map phi)) dots i := by
  have hinj : ∀ {c : Nat}, phi c = 46 ↔ c = 46 := fun {c} => by unfold phi; split <;> omega
  rw [StrLaws.subAt_eq, StrLaws.subAt_eq]
  show (((l.drop i).take 3 == [46, 46, 46]) : Bool) = ((((l.map phi).drop i).take 3 == [46, 46, 46]) : Bool)
  rw [← List.map_drop, ← List.map_take]
  generalize (l.drop i).take 3 = w
  rw [Bool.eq_iff_iff, beq_iff_eq, beq_iff_eq]
  constructor
  · rintro rfl; rfl
  · intro h
    match w, h with
    | [], h => cases h
    | [_], h => simp at h
    | [_, _], h => simp at h
    | _ :: _ :: _ :: _ :: _, h => simp at h
    | [a, b, c], h =>
      simp only [List.map_cons, List.map_nil, List.cons.injEq, and_true, hinj] at h
      obtain ⟨rfl, rfl, rfl⟩ := h
      rfl
theorem occ_phi {l : List Nat} {hi lim : Nat} : Builtin.Str.occurrences (S l) dots 0 hi lim = Builtin.Str.occurrences (S (l.map phi)) dots 0 hi lim := by
  have : Builtin.Str.subAt (S l) dots = Builtin.Str.subAt (S (l.map phi)) dots := funext fun i => sub_phi
  unfold Builtin.Str.occurrences
  rw [this]
theorem kind_dots (x : Str) : decide (Builtin.Str.strKind x < Builtin.Str.strKind dots) = false := decide_eq_false (by
  have : Builtin.Str.strKind dots = 1 := by decide +kernel
  rw [this]
  unfold Builtin.Str.strKind
  split
  · decide
  · split <;> decide)
theorem split_phi {l l' : List Nat} {occs : List Nat} (hl : l.map phi = l') (h3 : 3 ≤ l.length) (ho : Builtin.Str.occurrences (S l') dots 0 l'.length (l'.length + 1) = occs) (hne : occs.isEmpty = false) : Txt.split (S l) dots = Builtin.Str.partsBetween (S l) occs 3 := by
  subst hl
  rw [List.length_map] at ho
  have ho' : Builtin.Str.occurrences (S l) dots 0 (S l).length ((S l).length + 1) = occs := by rw [S_len, occ_phi]; exact ho
  unfold Txt.split
  rw [ho', kind_dots, hne, show decide ((S l).length < dots.length) = false from decide_eq_false (by rw [S_len]; exact Nat.not_lt.mpr h3)]
  rfl
theorem none_phi {l l' : List Nat} (hl : l.map phi = l') (ho : (Builtin.Str.occurrences (S l') dots 0 l'.length 1).isEmpty = true) : (Builtin.Str.occurrences (S l) dots 0 (S l).length 1).isEmpty = true := by
  subst hl
  rw [List.length_map] at ho
  rw [S_len, occ_phi]
  exact ho
/-- how a pattern is cut at its dots -/
def PatOk (cs : List Nat) (g : Int) : Prop :=
  ((pcP cs g).2 = [] ∧ (Builtin.Str.occurrences (patS cs g) dots 0 (patS cs g).length 1).isEmpty = true ∧ patS cs g = S (pcP cs g).1) ∨ ((pcP cs g).2 ≠ [] ∧ Txt.split (patS cs g) dots = ((pcP cs g).1 :: (pcP cs g).2).map S)
theorem phi97 {c : Nat} (h : c ≠ 46) : phi c = 97 := if_neg h
theorem pat1 {c0 : Nat} (h0 : c0 ≠ 46) (g : Int) : PatOk [c0] g := by
  unfold PatOk pcP patS itemsP
  simp only [List.zipIdx_cons, List.zipIdx_nil, List.map_cons, List.map_nil, List.foldl_cons, List.foldl_nil, pg1, List.length_cons, List.length_nil, Nat.zero_add]
  generalize bitO g 0 = b0
  generalize bitO g 1 = b1
  cases b0 <;> cases b1
  · exact .inl ⟨rfl, none_phi (l := [c0]) (l' := [97]) (by simp [phi, h0]) (by decide +kernel), rfl⟩
  · exact .inr ⟨nofun, (split_phi (l := [c0, 46, 46, 46]) (l' := [97, 46, 46, 46]) (occs := [1]) (by simp [phi, h0]) (Nat.le_of_ble_eq_true rfl) (by decide +kernel) rfl).trans rfl⟩
  · exact .inr ⟨nofun, (split_phi (l := [46, 46, 46, c0]) (l' := [46, 46, 46, 97]) (occs := [0]) (by simp [phi, h0]) (Nat.le_of_ble_eq_true rfl) (by decide +kernel) rfl).trans rfl⟩
  · exact .inr ⟨nofun, (split_phi (l := [46, 46, 46, c0, 46, 46, 46]) (l' := [46, 46, 46, 97, 46, 46, 46]) (occs := [0, 4]) (by simp [phi, h0]) (Nat.le_of_ble_eq_true rfl) (by decide +kernel) rfl).trans rfl⟩
theorem pat2 {c0 c1 : Nat} (h0 : c0 ≠ 46) (h1 : c1 ≠ 46) (g : Int) : PatOk [c0, c1] g := by
  unfold PatOk pcP patS itemsP
  simp only [List.zipIdx_cons, List.zipIdx_nil, List.map_cons, List.map_nil, List.foldl_cons, List.foldl_nil, pg1, List.length_cons, List.length_nil, Nat.zero_add]
  generalize bitO g 0 = b0
  generalize bitO g 1 = b1
  generalize bitO g 2 = b2
  cases b0 <;> cases b1 <;> cases b2
  · exact .inl ⟨rfl, none_phi (l := [c0, c1]) (l' := [97, 97]) (by simp [phi, h0, h1]) (by decide +kernel), rfl⟩
  · exact .inr ⟨nofun, (split_phi (l := [c0, c1, 46, 46, 46]) (l' := [97, 97, 46, 46, 46]) (occs := [2]) (by simp [phi, h0, h1]) (Nat.le_of_ble_eq_true rfl) (by decide +kernel) rfl).trans rfl⟩
  · exact .inr ⟨nofun, (split_phi (l := [c0, 46, 46, 46, c1]) (l' := [97, 46, 46, 46, 97]) (occs := [1]) (by simp [phi, h0, h1]) (Nat.le_of_ble_eq_true rfl) (by decide +kernel) rfl).trans rfl⟩
  · exact .inr ⟨nofun, (split_phi (l := [c0, 46, 46, 46, c1, 46, 46, 46]) (l' := [97, 46, 46, 46, 97, 46, 46, 46]) (occs := [1, 5]) (by simp [phi, h0, h1]) (Nat.le_of_ble_eq_true rfl) (by decide +kernel) rfl).trans rfl⟩
  · exact .inr ⟨nofun, (split_phi (l := [46, 46, 46, c0, c1]) (l' := [46, 46, 46, 97, 97]) (occs := [0]) (by simp [phi, h0, h1]) (Nat.le_of_ble_eq_true rfl) (by decide +kernel) rfl).trans rfl⟩
  · exact .inr ⟨nofun, (split_phi (l := [46, 46, 46, c0, c1, 46, 46, 46]) (l' := [46, 46, 46, 97, 97, 46, 46, 46]) (occs := [0, 5]) (by simp [phi, h0, h1]) (Nat.le_of_ble_eq_true rfl) (by decide +kernel) rfl).trans rfl⟩
  · exact .inr ⟨nofun, (split_phi (l := [46, 46, 46, c0, 46, 46, 46, c1]) (l' := [46, 46, 46, 97, 46, 46, 46, 97]) (occs := [0, 4]) (by simp [phi, h0, h1]) (Nat.le_of_ble_eq_true rfl) (by decide +kernel) rfl).trans rfl⟩
  · exact .inr ⟨nofun, (split_phi (l := [46, 46, 46, c0, 46, 46, 46, c1, 46, 46, 46]) (l' := [46, 46, 46, 97, 46, 46, 46, 97, 46, 46, 46]) (occs := [0, 4, 8]) (by simp [phi, h0, h1]) (Nat.le_of_ble_eq_true rfl) (by decide +kernel) rfl).trans rfl⟩
set_option maxHeartbeats 4000000 in
theorem pat3 {c0 c1 c2 : Nat} (h0 : c0 ≠ 46) (h1 : c1 ≠ 46) (h2 : c2 ≠ 46) (g : Int) : PatOk [c0, c1, c2] g := by
  unfold PatOk pcP patS itemsP
  simp only [List.zipIdx_cons, List.zipIdx_nil, List.map_cons, List.map_nil, List.foldl_cons, List.foldl_nil, pg1, List.length_cons, List.length_nil, Nat.zero_add]
  generalize bitO g 0 = b0
  generalize bitO g 1 = b1
  generalize bitO g 2 = b2
  generalize bitO g 3 = b3
  cases b0 <;> cases b1 <;> cases b2 <;> cases b3
  · exact .inl ⟨rfl, none_phi (l := [c0, c1, c2]) (l' := [97, 97, 97]) (by simp [phi, h0, h1, h2]) (by decide +kernel), rfl⟩
  · exact .inr ⟨nofun, (split_phi (l := [c0, c1, c2, 46, 46, 46]) (l' := [97, 97, 97, 46, 46, 46]) (occs := [3]) (by simp [phi, h0, h1, h2]) (Nat.le_of_ble_eq_true rfl) (by decide +kernel) rfl).trans rfl⟩
  · exact .inr ⟨nofun, (split_phi (l := [c0, c1, 46, 46, 46, c2]) (l' := [97, 97, 46, 46, 46, 97]) (occs := [2]) (by simp [phi, h0, h1, h2]) (Nat.le_of_ble_eq_true rfl) (by decide +kernel) rfl).trans rfl⟩
  · exact .inr ⟨nofun, (split_phi (l := [c0, c1, 46, 46, 46, c2, 46, 46, 46]) (l' := [97, 97, 46, 46, 46, 97, 46, 46, 46]) (occs := [2, 6]) (by simp [phi, h0, h1, h2]) (Nat.le_of_ble_eq_true rfl) (by decide +kernel) rfl).trans rfl⟩
  · exact .inr ⟨nofun, (split_phi (l := [c0, 46, 46, 46, c1, c2]) (l' := [97, 46, 46, 46, 97, 97]) (occs := [1]) (by simp [phi, h0, h1, h2]) (Nat.le_of_ble_eq_true rfl) (by decide +kernel) rfl).trans rfl⟩
  · exact .inr ⟨nofun, (split_phi (l := [c0, 46, 46, 46, c1, c2, 46, 46, 46]) (l' := [97, 46, 46, 46, 97, 97, 46, 46, 46]) (occs := [1, 6]) (by simp [phi, h0, h1, h2]) (Nat.le_of_ble_eq_true rfl) (by decide +kernel) rfl).trans rfl⟩
  · exact .inr ⟨nofun, (split_phi (l := [c0, 46, 46, 46, c1, 46, 46, 46, c2]) (l' := [97, 46, 46, 46, 97, 46, 46, 46, 97]) (occs := [1, 5]) (by simp [phi, h0, h1, h2]) (Nat.le_of_ble_eq_true rfl) (by decide +kernel) rfl).trans rfl⟩
  · exact .inr ⟨nofun, (split_phi (l := [c0, 46, 46, 46, c1, 46, 46, 46, c2, 46, 46, 46]) (l' := [97, 46, 46, 46, 97, 46, 46, 46, 97, 46, 46, 46]) (occs := [1, 5, 9]) (by simp [phi, h0, h1, h2]) (Nat.le_of_ble_eq_true rfl) (by decide +kernel) rfl).trans rfl⟩
  · exact .inr ⟨nofun, (split_phi (l := [46, 46, 46, c0, c1, c2]) (l' := [46, 46, 46, 97, 97, 97]) (occs := [0]) (by simp [phi, h0, h1, h2]) (Nat.le_of_ble_eq_true rfl) (by decide +kernel) rfl).trans rfl⟩
  · exact .inr ⟨nofun, (split_phi (l := [46, 46, 46, c0, c1, c2, 46, 46, 46]) (l' := [46, 46, 46, 97, 97, 97, 46, 46, 46]) (occs := [0, 6]) (by simp [phi, h0, h1, h2]) (Nat.le_of_ble_eq_true rfl) (by decide +kernel) rfl).trans rfl⟩
  · exact .inr ⟨nofun, (split_phi (l := [46, 46, 46, c0, c1, 46, 46, 46, c2]) (l' := [46, 46, 46, 97, 97, 46, 46, 46, 97]) (occs := [0, 5]) (by simp [phi, h0, h1, h2]) (Nat.le_of_ble_eq_true rfl) (by decide +kernel) rfl).trans rfl⟩
  · exact .inr ⟨nofun, (split_phi (l := [46, 46, 46, c0, c1, 46, 46, 46, c2, 46, 46, 46]) (l' := [46, 46, 46, 97, 97, 46, 46, 46, 97, 46, 46, 46]) (occs := [0, 5, 9]) (by simp [phi, h0, h1, h2]) (Nat.le_of_ble_eq_true rfl) (by decide +kernel) rfl).trans rfl⟩
  · exact .inr ⟨nofun, (split_phi (l := [46, 46, 46, c0, 46, 46, 46, c1, c2]) (l' := [46, 46, 46, 97, 46, 46, 46, 97, 97]) (occs := [0, 4]) (by simp [phi, h0, h1, h2]) (Nat.le_of_ble_eq_true rfl) (by decide +kernel) rfl).trans rfl⟩
  · exact .inr ⟨nofun, (split_phi (l := [46, 46, 46, c0, 46, 46, 46, c1, c2, 46, 46, 46]) (l' := [46, 46, 46, 97, 46, 46, 46, 97, 97, 46, 46, 46]) (occs := [0, 4, 9]) (by simp [phi, h0, h1, h2]) (Nat.le_of_ble_eq_true rfl) (by decide +kernel) rfl).trans rfl⟩
  · exact .inr ⟨nofun, (split_phi (l := [46, 46, 46, c0, 46, 46, 46, c1, 46, 46, 46, c2]) (l' := [46, 46, 46, 97, 46, 46, 46, 97, 46, 46, 46, 97]) (occs := [0, 4, 8]) (by simp [phi, h0, h1, h2]) (Nat.le_of_ble_eq_true rfl) (by decide +kernel) rfl).trans rfl⟩
  · exact .inr ⟨nofun, (split_phi (l := [46, 46, 46, c0, 46, 46, 46, c1, 46, 46, 46, c2, 46, 46, 46]) (l' := [46, 46, 46, 97, 46, 46, 46, 97, 46, 46, 46, 97, 46, 46, 46]) (occs := [0, 4, 8, 12]) (by simp [phi, h0, h1, h2]) (Nat.le_of_ble_eq_true rfl) (by decide +kernel) rfl).trans rfl⟩
end
section
theorem pc_mid {e : Bool} : ∀ items : List (Bool × Nat), ∃ ws, (pc items e).2 = ws ++ (if e = true then [[]] else []) ∧ ∀ w ∈ ws, w ≠ []
  | [] => ⟨[], by cases e <;> rfl, nofun⟩
  | (g, c) :: r => by
    obtain ⟨ws, h1, h2⟩ := pc_mid (e := e) r
    cases g with
    | true => exact ⟨(c :: (pc r e).1) :: ws, congrArg _ h1, fun w hw => by
        rcases List.mem_cons.mp hw with rfl | hw
        · exact nofun
        · exact h2 w hw⟩
    | false => exact ⟨ws, h1, h2⟩
theorem pc_tot {e : Bool} : ∀ items : List (Bool × Nat), (pc items e).1.length + tot (pc items e).2 = items.length
  | [] => by cases e <;> rfl
  | (g, c) :: r => by
    have h := pc_tot (e := e) r
    cases g with
    | true => show 0 + tot ((c :: (pc r e).1) :: (pc r e).2) = r.length + 1; rw [tot_cons, List.length_cons]; omega
    | false => show ((pc r e).1.length + 1) + tot (pc r e).2 = r.length + 1; omega
theorem pc_num {e : Bool} : ∀ items : List (Bool × Nat), (pc items e).2.length ≤ items.length + 1
  | [] => by cases e <;> decide
  | (g, c) :: r => by
    have h := pc_num (e := e) r
    cases g with
    | true => exact Nat.succ_le_succ h
    | false => exact Nat.le_succ_of_le h
theorem items_len {cs : List Nat} {g : Int} : (itemsP cs g).length = cs.length := by unfold itemsP; rw [List.length_map, List.length_zipIdx]
/-- what _ellipsis_match says -/
def emT (t p : Str) : Bool :=
  if (Builtin.Str.occurrences p dots 0 p.length 1).isEmpty = true then p == t else
    match Txt.split p dots with
    | [] => false
    | p0 :: r => match r.reverse with
      | [] => false
      | pn :: m => emD p0 m.reverse pn t
theorem split_two {p a b : Str} {r : List Str} (h : Txt.split p dots = a :: b :: r) : (Builtin.Str.occurrences p dots 0 p.length 1).isEmpty = false ∧ (decide (p.length < dots.length) || decide (Builtin.Str.strKind p < Builtin.Str.strKind dots)) = false ∧
    (Builtin.Str.occurrences p dots 0 p.length (p.length + 1)).isEmpty = false ∧ Builtin.Str.partsBetween p (Builtin.Str.occurrences p dots 0 p.length (p.length + 1)) dots.length = a :: b :: r := by
  unfold Txt.split at h
  split at h
  · cases h
  · rename_i h1
    split at h
    · cases h
    · rename_i h2
      rw [Bool.not_eq_true] at h1 h2
      refine ⟨?_, h1, h2, h⟩
      rcases StrLaws.occ_head p dots (p.length + 1) (Nat.le_add_left _ _) with ⟨h3, _⟩ | ⟨i, q, _, h4, _⟩
      · rw [h3] at h2; cases h2
      · rcases StrLaws.occ_head p dots 1 (Nat.le_refl 1) with ⟨_, h5⟩ | ⟨j, q', h6, _⟩
        · exact absurd h4 (h5 i)
        · rw [h6]; rfl
theorem emT_one {t p : Str} (h : (Builtin.Str.occurrences p dots 0 p.length 1).isEmpty = true) : emT t p = (p == t) := if_pos h
theorem emT_two {t p p0 pn : Str} {mid : List Str} (h : Txt.split p dots = p0 :: (mid ++ [pn])) : emT t p = emD p0 mid pn t := by
  have h0 : ∃ b r, mid ++ [pn] = b :: r := by cases mid <;> exact ⟨_, _, rfl⟩
  obtain ⟨b, r, h0⟩ := h0
  have h1 := (split_two (h.trans (congrArg _ h0))).1
  unfold emT
  rw [h1, if_neg nofun, h]
  show (match (mid ++ [pn]).reverse with | [] => false | pn :: m => emD p0 m.reverse pn t) = _
  rw [List.reverse_append]
  show emD p0 mid.reverse.reverse pn t = _
  rw [List.reverse_reverse]
/-- the pieces of a pattern that has dots -/
theorem pat_cut {cs : List Nat} {g : Int} (h : (pcP cs g).2 ≠ []) : ∃ mid pn, (pcP cs g).2 = mid ++ [pn] ∧ (∀ w ∈ mid, w ≠ []) ∧ (pcP cs g).1.length + tot mid + pn.length = cs.length ∧ mid.length ≤ cs.length := by
  obtain ⟨mid, pn, e⟩ : ∃ mid pn, (pcP cs g).2 = mid ++ [pn] := ⟨_, _, (List.dropLast_concat_getLast h).symm⟩
  obtain ⟨ws, h1, h2⟩ := pc_mid (e := bitO g cs.length) (itemsP cs g)
  have h3 := pc_tot (e := bitO g cs.length) (itemsP cs g)
  have h4 := pc_num (e := bitO g cs.length) (itemsP cs g)
  rw [items_len] at h3 h4
  refine ⟨mid, pn, e, ?_, ?_, ?_⟩
  · have e : (pc (itemsP cs g) (bitO g cs.length)).2 = mid ++ [pn] := e
    rw [h1] at e
    cases q : bitO g cs.length with
    | true =>
      rw [q, if_pos rfl] at e
      obtain ⟨rfl, _⟩ := List.append_inj' e rfl
      exact h2
    | false =>
      rw [q, if_neg nofun, List.append_nil] at e
      subst e
      exact fun w hw => h2 w (List.mem_append_left _ hw)
  · have : tot (pcP cs g).2 = tot mid + pn.length := by rw [e, tot_append, tot_cons]; rfl
    have h3 : (pcP cs g).1.length + tot (pcP cs g).2 = cs.length := h3
    omega
  · have h4 : (pcP cs g).2.length ≤ cs.length + 1 := h4
    rw [e, List.length_append, List.length_singleton] at h4
    omega
theorem occ_all {t : Str} {w : List Nat} : (Occ (at_ t.cps.toList) w 0 ∧ w.length = t.length) ↔ S w = t := by
  constructor
  · rintro ⟨h1, h2⟩
    have := (occ_sub (y := t) (w := w) (i := 0) (by omega)).mpr h1
    rw [StrLaws.subAt_eq, beq_iff_eq] at this
    have hl : t.cps.toList.length = t.length := rfl
    have : (t.cps.toList.drop 0).take (S w).length = w := this
    rw [S_len, List.drop_zero, List.take_of_length_le (by omega)] at this
    subst this
    rfl
  · rintro rfl
    refine ⟨(occ_sub (by rw [S_len]; omega)).mp ?_, S_len.symm⟩
    rw [StrLaws.subAt_eq, beq_iff_eq]
    show ((w.drop 0).take (S w).length) = w
    rw [S_len, List.drop_zero, List.take_length]
/-- the pattern takes the text -/
theorem emT_iff {cs : List Nat} {g : Int} {t : Str} (h : PatOk cs g) : emT t (patS cs g) = true ↔ Acc (at_ t.cps.toList) (itemsP cs g) (bitO g cs.length) 0 t.length := by
  rw [acc_pc]
  rcases h with ⟨h1, h2, h3⟩ | ⟨h1, h2⟩
  · have h1 : (pc (itemsP cs g) (bitO g cs.length)).2 = [] := h1
    rw [emT_one h2, h3, beq_iff_eq, ← occ_all, h1, Nat.zero_add]
    exact Iff.rfl
  · obtain ⟨mid, pn, e, _⟩ := pat_cut h1
    rw [e, List.map_cons, List.map_append] at h2
    rw [emT_two (mid := mid.map S) (pn := S pn) h2, em_iff]
    have e : (pc (itemsP cs g) (bitO g cs.length)).2 = mid ++ [pn] := e
    rw [e, accT_last, Nat.zero_add]
    exact Iff.rfl
theorem patS_len {cs : List Nat} {g : Int} : (patS cs g).length ≤ 4 * cs.length + 3 := by
  unfold patS
  rw [slen]
  have h1 := pg1_len (g := g) cs.zipIdx (Str.ofString "")
  have h2 := sel_le (c := bitO g cs.length) (x := dots) (y := Str.ofString "") (n := 3) (by decide) (by decide)
  rw [List.length_zipIdx] at h1
  have h3 : (Str.ofString "").length = 0 := rfl
  omega
theorem emT_fn {K : Params → Frag} (hK : Knows K) (w : World) {cs : List Nat} {g : Int} {t : Str} (h : PatOk cs g) (hc : cs.length ≤ 3) (ht : t.length ≤ 4096) : Fn K w 1 21 [.str (patS cs g), .str t] (.bool (emT t (patS cs g))) := by
  have hp := patS_len (cs := cs) (g := g)
  rcases h with ⟨h1, h2, h3⟩ | ⟨h1, h2⟩
  · rw [emT_one h2]
    exact ematchE hK w _ _ h2
  · obtain ⟨mid, pn, e, _, h4, h5⟩ := pat_cut h1
    rw [e, List.map_cons, List.map_append] at h2
    rw [emT_two (mid := mid.map S) (pn := S pn) h2]
    have h0 : ∃ b r, mid.map S ++ [S pn] = b :: r := by cases mid <;> exact ⟨_, _, rfl⟩
    obtain ⟨b, r, h0⟩ := h0
    obtain ⟨k1, k2, k3, k4⟩ := split_two (h2.trans (congrArg _ h0))
    have hl : (S (pcP cs g).1 :: (mid.map S ++ [S pn])).length ≤ 64 := by rw [List.length_cons, List.length_append, List.length_map, List.length_singleton]; omega
    refine ematchD hK w _ t _ _ _ h2 k1 k2 k3 (by omega) ht (fun p hq => ?_) hl ?_
    · rcases List.mem_cons.mp hq with rfl | hq
      · rw [S_len]; omega
      · rcases List.mem_append.mp hq with hq | hq
        · obtain ⟨v, hv, rfl⟩ := List.mem_map.mp hq
          have := mem_tot hv
          rw [S_len]; omega
        · rw [List.mem_singleton.mp hq, S_len]; omega
    · have : (Builtin.Str.partsBetween (patS cs g) (Builtin.Str.occurrences (patS cs g) dots 0 (patS cs g).length ((patS cs g).length + 1)) dots.length).length ≤ sizeLine := by
        rw [k4, ← h0]; exact Nat.le_trans hl (by decide)
      exact this
/-- no pattern of fewer than n signs sees the detour -/
theorem emT_knast {cs : List Nat} {g : Int} (h : PatOk cs g) {x H o R m k r y : List Nat} {n : Nat} (hn : 1 ≤ n) (hH : n ≤ H.length) (hR : n ≤ R.length) (hs : cs.length < n) :
    emT (S (lP x H o R m n ++ lQ H R k r y n)) (patS cs g) = emT (S (lP x H o R m n ++ lD H o R r ++ lQ H R k r y n)) (patS cs g) := by
  rw [Bool.eq_iff_iff]
  rcases h with ⟨h1, h2, h3⟩ | ⟨h1, h2⟩
  · have h4 := pc_tot (e := bitO g cs.length) (itemsP cs g)
    rw [items_len] at h4
    have h4 : (pcP cs g).1.length + tot (pcP cs g).2 = cs.length := h4
    rw [emT_one h2, emT_one h2, h3, beq_iff_eq, beq_iff_eq]
    have l1 : n ≤ (lQ H R k r y n).length := by
      unfold lQ
      rw [List.length_append, rep_len]
      simp only [List.length_append]
      have : n * 1 ≤ n * (H.length + k.length + R.length + r.length) := Nat.mul_le_mul_left n (by omega)
      omega
    constructor
    · intro e
      have := congrArg Str.length e
      rw [S_len, S_len, List.length_append] at this
      omega
    · intro e
      have := congrArg Str.length e
      rw [S_len, S_len, List.length_append] at this
      omega
  · obtain ⟨mid, pn, e, h3, h4, _⟩ := pat_cut h1
    rw [e, List.map_cons, List.map_append] at h2
    rw [emT_two (mid := mid.map S) (pn := S pn) h2, emT_two (mid := mid.map S) (pn := S pn) h2, em_iff, em_iff, S_len, S_len]
    exact knast x H o R m k r y n hn hH hR h3 (by omega)
end
section
theorem bitO_nat {g k : Nat} : bitO (g : Int) k = g.testBit k := by
  unfold bitO
  rw [Nat.testBit_eq_decide_div_mod_eq, Int.fmod_eq_emod_of_nonneg _ (by decide), Int.fdiv_eq_ediv_of_nonneg _ (by exact Int.le_of_lt (Int.pow_pos (by decide)))]
  have : ((g : Int) / 2 ^ k) % 2 = ((g / 2 ^ k % 2 : Nat) : Int) := by push_cast; rfl
  rw [this]
  rcases Nat.mod_two_eq_zero_or_one (g / 2 ^ k) with h | h <;> rw [h] <;> rfl
theorem bitAnd_nat {x y : Nat} : Builtin.bitAnd (x : Int) (y : Int) = ((x &&& y : Nat) : Int) := by
  unfold Builtin.bitAnd
  rw [decide_eq_true (Int.natCast_nonneg x), decide_eq_true (Int.natCast_nonneg y)]
  rfl
theorem bitOr_nat {x y : Nat} : Builtin.bitOr (x : Int) (y : Int) = ((x ||| y : Nat) : Int) := by
  have h : ∀ z : Nat, decide ((0 : Int) ≤ Builtin.bitNot (z : Int)) = false := fun z => decide_eq_false (by unfold Builtin.bitNot; omega)
  have h2 : ∀ z : Int, Builtin.bitNot (Builtin.bitNot z) = z := fun z => by unfold Builtin.bitNot; omega
  unfold Builtin.bitOr Builtin.bitAnd
  rw [h x, h y]
  show Builtin.bitNot (Builtin.bitNot (((Builtin.bitNot (Builtin.bitNot (x : Int))).toNat ||| (Builtin.bitNot (Builtin.bitNot (y : Int))).toNat : Nat) : Int)) = _
  rw [h2, h2, h2]
  rfl
/-- the marks of both letters -/
def mkOf (a b : Nat) (M : Nat → Nat) : List (Str × Int) := [(⟨#[a]⟩, (M a : Int)), (⟨#[b]⟩, (M b : Int))]
theorem one_eq {c d : Nat} : ((⟨#[c]⟩ : Str) == ⟨#[d]⟩) = decide (c = d) := by
  rw [Bool.eq_iff_iff, beq_iff_eq, decide_eq_true_iff]
  exact ⟨fun h => by cases h; rfl, fun h => h ▸ rfl⟩
theorem one_iff {c d : Nat} : ((⟨#[c]⟩ : Str) = ⟨#[d]⟩) ↔ c = d := ⟨fun h => by cases h; rfl, fun h => h ▸ rfl⟩
theorem mkOf_look {a b c : Nat} {M : Nat → Nat} (hc : c = a ∨ c = b) : (mkOf a b M).lookup ⟨#[c]⟩ = some (M c : Int) := by
  unfold mkOf
  rw [List.lookup_cons, one_eq]
  by_cases h : c = a
  · rw [decide_eq_true h, h]
  · rw [decide_eq_false h, List.lookup_cons, one_eq, decide_eq_true (hc.resolve_left h), hc.resolve_left h]
def upM (M : Nat → Nat) (c n : Nat) (d : Nat) : Nat := if d = c then 2 ^ n + M d else M d
theorem mk1_of {a b c n : Nat} {M : Nat → Nat} (hab : a ≠ b) (hc : c = a ∨ c = b) : mk1 (mkOf a b M, n) c = (mkOf a b (upM M c (n + 1)), n + 1) := by
  have hp : ((M c : Int) + 2 ^ (n + 1)) = ((2 ^ (n + 1) + M c : Nat) : Int) := by push_cast; omega
  unfold mk1
  rw [mkOf_look hc]
  show (put (mkOf a b M) ⟨#[c]⟩ ((M c : Int) + 2 ^ (n + 1)), n + 1) = _
  rw [hp]
  congr 1
  unfold mkOf put upM
  simp only [List.map_cons, List.map_nil, one_iff]
  rcases hc with rfl | rfl
  · rw [if_pos rfl, if_pos rfl, if_neg (Ne.symm hab), if_neg (Ne.symm hab)]
  · rw [if_neg hab, if_neg hab, if_pos rfl, if_pos rfl]
theorem mk1s {a b : Nat} (hab : a ≠ b) : ∀ (cs : List Nat) (n : Nat) (M : Nat → Nat), (∀ c ∈ cs, c = a ∨ c = b) → (∀ d, M d < 2 ^ (n + 1)) → ∃ M', cs.foldl mk1 (mkOf a b M, n) = (mkOf a b M', n + cs.length) ∧ (∀ d, M' d < 2 ^ (n + cs.length + 1)) ∧ (∀ d k, k ≤ n → (M' d).testBit k = (M d).testBit k) ∧
    ∀ d j, j < cs.length → (M' d).testBit (n + j + 1) = (cs[j]? == some d)
  | [], n, M, _, h => ⟨M, rfl, h, fun _ _ _ => rfl, fun _ _ hj => absurd hj (Nat.not_lt_zero _)⟩
  | c :: cs, n, M, hc, h => by
    have hu : ∀ d, upM M c (n + 1) d < 2 ^ (n + 1 + 1) := fun d => by
      have := h d
      unfold upM
      rw [Nat.pow_succ]
      split <;> omega
    have hb : ∀ d k, k ≤ n → (upM M c (n + 1) d).testBit k = (M d).testBit k := fun d k hk => by
      unfold upM
      split
      · exact Nat.testBit_two_pow_add_gt (by omega) _
      · rfl
    have hn : ∀ d, (upM M c (n + 1) d).testBit (n + 1) = (some c == some d) := fun d => by
      have h0 := Nat.testBit_lt_two_pow (h d)
      unfold upM
      by_cases q : d = c
      · rw [if_pos q, Nat.testBit_two_pow_add_eq, h0, q]; simp
      · rw [if_neg q, h0]
        exact (beq_eq_false_iff_ne.mpr fun z => q (Option.some.inj z).symm).symm
    obtain ⟨M', h1, h2, h3, h4⟩ := mk1s hab cs (n + 1) (upM M c (n + 1)) (fun x hx => hc x (List.mem_cons_of_mem _ hx)) hu
    refine ⟨M', ?_, fun d => ?_, fun d k hk => ?_, fun d j hj => ?_⟩
    · rw [List.foldl_cons, mk1_of hab (hc c List.mem_cons_self), h1, List.length_cons]
      congr 1
      omega
    · have := h2 d
      rwa [show n + 1 + cs.length + 1 = n + (c :: cs).length + 1 by rw [List.length_cons]; omega] at this
    · rw [h3 d k (by omega), hb d k hk]
    · cases j with
      | zero => exact (h3 d (n + 1) (Nat.le_refl _)).trans (hn d)
      | succ j =>
        have := h4 d j (by rw [List.length_cons] at hj; omega)
        rwa [show n + 1 + j + 1 = n + (j + 1) + 1 by omega] at this
/-- the bits of one pattern -/
structure AtB (M : Nat → Nat) (lp be off : Nat) (cs : List Nat) (g : Int) : Prop where
  lp : ∀ k, k ≤ cs.length → lp.testBit (off + k) = bitO g k
  be : ∀ k, k ≤ cs.length → be.testBit (off + k) = (k == 0)
  m0 : ∀ d, (M d).testBit off = false
  mj : ∀ d j, j < cs.length → (M d).testBit (off + j + 1) = (cs[j]? == some d)
theorem AtB.keep {M M' : Nat → Nat} {lp lp' be be' off n : Nat} {cs : List Nat} {g : Int} (h : AtB M lp be off cs g) (hn : off + cs.length < n) (h1 : ∀ d k, k < n → (M' d).testBit k = (M d).testBit k) (h2 : ∀ k, k < n → lp'.testBit k = lp.testBit k) (h3 : ∀ k, k < n → be'.testBit k = be.testBit k) : AtB M' lp' be' off cs g :=
  ⟨fun k hk => (h2 _ (by omega)).trans (h.lp k hk), fun k hk => (h3 _ (by omega)).trans (h.be k hk), fun d => (h1 d _ (by omega)).trans (h.m0 d), fun d j hj => (h1 d _ (by omega)).trans (h.mj d j hj)⟩
theorem mkA_step {a b : Nat} (hab : a ≠ b) {M : Nat → Nat} {lp be n : Nat} {en : List Int} (hM : ∀ d, M d < 2 ^ n) (hl : lp < 2 ^ n) (hb : be < 2 ^ n) {cs : List Nat} {g : Nat} (hc : ∀ c ∈ cs, c = a ∨ c = b) :
    ∃ M' lp' be', mkA ((mkOf a b M, n), (lp : Int), (be : Int), en) (⟨cs.toArray⟩, (g : Int)) = ((mkOf a b M', n + cs.length + 1), ((lp' : Nat) : Int), ((be' : Nat) : Int), en ++ [((n + cs.length : Nat) : Int)]) ∧ (∀ d, M' d < 2 ^ (n + cs.length + 1)) ∧ lp' < 2 ^ (n + cs.length + 1) ∧ be' < 2 ^ (n + cs.length + 1) ∧
      (∀ d k, k < n → (M' d).testBit k = (M d).testBit k) ∧ (∀ k, k < n → lp'.testBit k = lp.testBit k) ∧ (∀ k, k < n → be'.testBit k = be.testBit k) ∧ AtB M' lp' be' n cs g := by
  obtain ⟨M', h1, h2, h3, h4⟩ := mk1s hab cs n M hc fun d => Nat.lt_of_lt_of_le (hM d) (Nat.pow_le_pow_right (by decide) (Nat.le_succ n))
  have hy : g % 2 ^ (cs.length + 1) < 2 ^ (cs.length + 1) := Nat.mod_lt _ (Nat.two_pow_pos _)
  have hp : 2 ^ (n + cs.length + 1) = 2 ^ n * 2 ^ (cs.length + 1) := by rw [← Nat.pow_add, Nat.add_assoc]
  have hlp : 2 ^ n * (g % 2 ^ (cs.length + 1)) + lp < 2 ^ (n + cs.length + 1) := by
    have : 2 ^ n * (g % 2 ^ (cs.length + 1) + 1) ≤ 2 ^ n * 2 ^ (cs.length + 1) := Nat.mul_le_mul_left _ hy
    rw [hp]
    rw [Nat.mul_add, Nat.mul_one] at this
    omega
  have hbe1 : 2 ^ n + be < 2 ^ (n + 1) := by rw [Nat.pow_succ]; omega
  have hbe : 2 ^ n + be < 2 ^ (n + cs.length + 1) := Nat.lt_of_lt_of_le hbe1 (Nat.pow_le_pow_right (by decide) (by omega))
  refine ⟨M', 2 ^ n * (g % 2 ^ (cs.length + 1)) + lp, 2 ^ n + be, ?_, h2, hlp, hbe, fun d k hk => h3 d k (Nat.le_of_lt hk), fun k hk => ?_, fun k hk => Nat.testBit_two_pow_add_gt hk _, ?_⟩
  · unfold mkA
    have e : (⟨cs.toArray⟩ : Str).cps.toList = cs := rfl
    have e2 : (⟨cs.toArray⟩ : Str).length = cs.length := List.size_toArray
    show (((cs.foldl mk1 (mkOf a b M, n)).1, (cs.foldl mk1 (mkOf a b M, n)).2 + 1), (lp : Int) + (g : Int).fmod (2 ^ ((⟨cs.toArray⟩ : Str).length + 1)) * 2 ^ n, (be : Int) + 2 ^ n, en ++ [((cs.foldl mk1 (mkOf a b M, n)).2 : Int)]) = _
    rw [h1, e2]
    have e3 : (lp : Int) + (g : Int).fmod (2 ^ (cs.length + 1)) * 2 ^ n = ((2 ^ n * (g % 2 ^ (cs.length + 1)) + lp : Nat) : Int) := by
      rw [Int.fmod_eq_emod_of_nonneg _ (by exact Int.le_of_lt (Int.pow_pos (by decide)))]
      push_cast
      rw [Int.mul_comm, Int.add_comm]
    have e4 : (be : Int) + 2 ^ n = ((2 ^ n + be : Nat) : Int) := by push_cast; omega
    rw [e3, e4]
  · rw [Nat.testBit_two_pow_mul_add _ hl, if_pos hk]
  · refine ⟨fun k hk => ?_, fun k hk => ?_, fun d => ?_, fun d j hj => h4 d j hj⟩
    · rw [Nat.testBit_two_pow_mul_add _ hl, if_neg (by omega), Nat.add_sub_cancel_left, Nat.testBit_mod_two_pow, decide_eq_true (by omega), Bool.true_and, bitO_nat]
    · cases k with
      | zero => rw [Nat.add_zero, Nat.testBit_two_pow_add_eq, Nat.testBit_lt_two_pow hb]; rfl
      | succ k => exact Nat.testBit_lt_two_pow (Nat.lt_of_lt_of_le hbe1 (Nat.pow_le_pow_right (by decide) (by omega)))
    · rw [h3 d n (Nat.le_refl n)]; exact Nat.testBit_lt_two_pow (hM d)
theorem gp_items {cs : List Nat} {g : Int} {k : Nat} (hk : k ≤ cs.length) : gp (cs.zipIdx.map fun q => (bitO g q.2, q.1)) (bitO g cs.length) k = bitO g k := by
  unfold gp
  rw [List.getElem?_map, List.getElem?_zipIdx]
  rcases Nat.lt_or_ge k cs.length with h | h
  · rw [List.getElem?_eq_getElem h]; show bitO g (0 + k) = _; rw [Nat.zero_add]
  · rw [List.getElem?_eq_none h]; show bitO g cs.length = _; rw [show k = cs.length by omega]
theorem it2 {cs : List Nat} {g : Int} {j : Nat} : ((cs.zipIdx.map fun q => (bitO g q.2, q.1))[j]?).map (·.2) = cs[j]? := by
  rw [List.getElem?_map, List.getElem?_zipIdx]
  cases cs[j]? <;> rfl
/-- the machine's bits are the pieces' places -/
theorem run_bits {a b : Nat} {M : Nat → Nat} {lp be : Nat} {l : List Nat} (hl : ∀ c ∈ l, c = a ∨ c = b) (T : Nat → Nat) (hT : ∀ i, i < l.length → l[i]? = some (T i)) : ∀ i, i ≤ l.length → ∃ sn : Nat, (l.take i).foldl (stepT (mkOf a b M) (lp : Int)) (be : Int) = (sn : Int) ∧
    ∀ off cs (g : Int), AtB M lp be off cs g → ∀ k, k ≤ cs.length → sn.testBit (off + k) = runN (cs.zipIdx.map fun q => (bitO g q.2, q.1)) (bitO g cs.length) T i k
  | 0, _ => ⟨be, rfl, fun off cs g h k hk => h.be k hk⟩
  | i + 1, hi => by
    obtain ⟨sn, h1, h2⟩ := run_bits hl T hT i (Nat.le_of_succ_le hi)
    have hi' := hT i hi
    have hmem : T i ∈ l := List.mem_of_getElem? hi'
    rw [List.take_add_one, hi', List.foldl_append, h1]
    refine ⟨(sn * 2 &&& M (T i)) ||| (sn &&& lp), ?_, fun off cs g h k hk => ?_⟩
    · show stepT (mkOf a b M) (lp : Int) (sn : Int) (T i) = _
      unfold stepT
      rw [mkOf_look (hl _ hmem), show ((some (M (T i) : Int)).getD 0) = ((M (T i) : Nat) : Int) from rfl, show (sn : Int) * 2 = ((sn * 2 : Nat) : Int) by push_cast; rfl, bitAnd_nat, bitAnd_nat, bitOr_nat]
    · rw [Nat.testBit_or, Nat.testBit_and, Nat.testBit_and, h.lp k hk, h2 off cs g h k hk]
      show _ = stB _ _ (runN _ _ T i) (T i) k
      cases k with
      | zero =>
        rw [Nat.add_zero, h.m0, Bool.and_false, Bool.false_or]
        show _ = (_ && gp _ _ 0)
        rw [gp_items hk]
      | succ j =>
        have e : (sn * 2).testBit (off + (j + 1)) = sn.testBit (off + j) := by
          rw [show off + (j + 1) = (off + j) + 1 by omega, Nat.testBit_succ, Nat.mul_div_cancel _ (by decide)]
        rw [e, h2 off cs g h j (by omega), show off + (j + 1) = off + j + 1 by omega, h.mj _ j (by omega)]
        show _ = ((_ && gp _ _ (j + 1)) || ((_ == some (T i)) && _))
        rw [gp_items hk, it2, Bool.or_comm, Bool.and_comm (runN _ _ T i j)]
end
section
def b2i (b : Bool) : Int := if b then 1 else 0
def jb (k : Int) (a b : Bool) : Bool := if k = 0 then a && b else if k = 1 then a || b else a != b
theorem j3_b {k : Int} {a b : Bool} : j3v k (b2i a) (b2i b) = b2i (jb k a b) := by
  unfold j3v jb
  split
  · cases a <;> cases b <;> rfl
  · split
    · cases a <;> cases b <;> rfl
    · cases a <;> cases b <;> rfl
theorem par {A B : Int} : (A + B).fmod 2 = b2i ((A.fmod 2 != 0) != (B.fmod 2 != 0)) := by
  rw [Int.fmod_eq_emod_of_nonneg _ (by decide), Int.fmod_eq_emod_of_nonneg _ (by decide), Int.fmod_eq_emod_of_nonneg _ (by decide)]
  have hA : A % 2 = 0 ∨ A % 2 = 1 := by omega
  have hB : B % 2 = 0 ∨ B % 2 = 1 := by omega
  rcases hA with h | h <;> rcases hB with h' | h' <;> rw [h, h'] <;> show _ = (_ : Int) <;> (first | (show _ = (0 : Int); omega) | (show _ = (1 : Int); omega))
theorem flag_b {s turns : Int} {e k : Nat} : flagP s turns ((e : Int), k) = b2i (bitO s e != bitO turns k) := par
theorem b2i_bit {b : Bool} : ((b2i b).fmod 2 != 0) = b := by cases b <;> rfl
theorem b2i_one {b : Bool} : (b2i b == 1) = b := by cases b <;> rfl
theorem told_f {mk : List (Str × Int)} {lp be turns j0 j1 : Int} {e0 e1 e2 : Nat} {t : Str} {s : Int} (hs : t.cps.toList.foldl (stepT mk lp) be = s) :
    toldP mk lp be turns [(e0 : Int), (e1 : Int), (e2 : Int)] [j0, j1] t = (jb j1 (jb j0 (bitO s e0 != bitO turns 0) (bitO s e1 != bitO turns 1)) (bitO s e2 != bitO turns 2) != bitO turns 3) := by
  unfold toldP
  rw [hs]
  show (((j3v j1 (j3v j0 (flagP s turns ((e0 : Int), 0)) (flagP s turns ((e1 : Int), 1))) (flagP s turns ((e2 : Int), 2))) + turns.fdiv 8).fmod 2 == 1) = _
  rw [flag_b, flag_b, flag_b, j3_b, j3_b, par, b2i_bit, b2i_one]
  rfl
/-- the numbers of the joins -/
def code (j : Int) : Int := if j = 0 then 19 else if j = 1 then 18 else 32
def tl31 (b : Bool) : List Dd := if b then [.inr 31] else []
def dsP (turns j0 j1 : Int) (p0 p1 p2 : Str) : List Dd :=
  ([.inl p0] ++ tl31 (bitO turns 0)) ++ ([.inl p1] ++ tl31 (bitO turns 1) ++ [.inr (code j0)]) ++ ([.inl p2] ++ tl31 (bitO turns 2) ++ [.inr (code j1)]) ++ tl31 (bitO turns 3)
theorem say_tl {em : Str → Bool} {b x : Bool} {r : List Bool} : (tl31 b).foldl (sayS em) (x :: r) = (x != b) :: r := by
  cases b
  · show x :: r = _; cases x <;> rfl
  · show (!x) :: r = _; cases x <;> rfl
theorem say_j {em : Str → Bool} {j : Int} {u l : Bool} {r : List Bool} : ([Sum.inr (code j)] : List Dd).foldl (sayS em) (u :: l :: r) = jb j l u :: r := by
  show sayS em (u :: l :: r) (.inr (code j)) = _
  unfold code jb
  by_cases h : j = 0
  · rw [if_pos h, if_pos h]; rfl
  · rw [if_neg h, if_neg h]
    by_cases h : j = 1
    · rw [if_pos h, if_pos h]; rfl
    · rw [if_neg h, if_neg h]; rfl
theorem say_p {em : Str → Bool} {p : Str} {r : List Bool} : ([Sum.inl p] : List Dd).foldl (sayS em) r = em p :: r := rfl
theorem say_f {em : Str → Bool} {turns j0 j1 : Int} {p0 p1 p2 : Str} : (dsP turns j0 j1 p0 p1 p2).foldl (sayS em) [] = [jb j1 (jb j0 (em p0 != bitO turns 0) (em p1 != bitO turns 1)) (em p2 != bitO turns 2) != bitO turns 3] := by
  unfold dsP
  simp only [List.foldl_append]
  simp only [say_p, say_tl, say_j]
/-- the pile holds what each deed takes -/
def dpF : List Dd → Nat → Bool
  | [], _ => true
  | .inl _ :: r, n => dpF r (n + 1)
  | .inr i :: r, n => if i = 31 then decide (1 ≤ n) && dpF r n else (i == 18 || i == 19 || i == 32) && decide (2 ≤ n) && dpF r (n - 1)
theorem dpF_ok {em : Str → Bool} : ∀ (ds : List Dd) (st : List Bool), dpF ds st.length = true → ∀ i d, ds[i]? = some d → okD ((ds.take i).foldl (sayS em) st) d
  | [], st, _, i, d, h => by cases h
  | .inl p :: r, st, h, 0, d, e => by cases e; trivial
  | .inl p :: r, st, h, i + 1, d, e => dpF_ok r (em p :: st) h i d e
  | .inr k :: r, st, h, i, d, e => by
    unfold dpF at h
    by_cases hk : k = 31
    · rw [if_pos hk, Bool.and_eq_true, decide_eq_true_iff] at h
      obtain ⟨x, q, rfl⟩ : ∃ x q, st = x :: q := by
        cases st with
        | nil => exact absurd h.1 (by decide)
        | cons x q => exact ⟨x, q, rfl⟩
      cases i with
      | zero => cases e; exact .inl ⟨hk, x, q, rfl⟩
      | succ i =>
        show okD ((r.take i).foldl (sayS em) (sayS em (x :: q) (.inr k))) d
        have : sayS em (x :: q) (.inr k) = (!x) :: q := if_pos hk
        rw [this]
        exact dpF_ok r ((!x) :: q) h.2 i d e
    · rw [if_neg hk, Bool.and_eq_true, Bool.and_eq_true, decide_eq_true_iff, Bool.or_eq_true, Bool.or_eq_true, beq_iff_eq, beq_iff_eq, beq_iff_eq] at h
      obtain ⟨⟨h1, h2⟩, h3⟩ := h
      obtain ⟨x, y, q, rfl⟩ : ∃ x y q, st = x :: y :: q := by
        match st, h2 with
        | [], h2 => exact absurd h2 (by decide)
        | [_], h2 => exact absurd h2 (Nat.lt_irrefl 1)
        | x :: y :: q, _ => exact ⟨x, y, q, rfl⟩
      cases i with
      | zero => cases e; exact .inr ⟨by rcases h1 with (h1 | h1) | h1 <;> simp [h1], x, y, q, rfl⟩
      | succ i =>
        show okD ((r.take i).foldl (sayS em) (sayS em (x :: y :: q) (.inr k))) d
        have : sayS em (x :: y :: q) (.inr k) = jn k y x :: q := if_neg hk
        rw [this]
        exact dpF_ok r (jn k y x :: q) h3 i d e
theorem dsP_ok {turns j0 j1 : Int} {p0 p1 p2 : Str} : dpF (dsP turns j0 j1 p0 p1 p2) 0 = true := by
  unfold dsP
  have hcode : ∀ j, code j = 19 ∨ code j = 18 ∨ code j = 32 := fun j => by
    unfold code
    split
    · exact .inl rfl
    · split
      · exact .inr (.inl rfl)
      · exact .inr (.inr rfl)
  generalize bitO turns 0 = t0
  generalize bitO turns 1 = t1
  generalize bitO turns 2 = t2
  generalize bitO turns 3 = t3
  rcases hcode j0 with h | h | h <;> rcases hcode j1 with h' | h' | h' <;> rw [h, h'] <;> cases t0 <;> cases t1 <;> cases t2 <;> cases t3 <;> rfl
theorem say_len {em : Str → Bool} : ∀ (ds : List Dd) (st : List Bool), (ds.foldl (sayS em) st).length ≤ st.length + ds.length
  | [], _ => Nat.le_refl _
  | d :: r, st => by
    have h := say_len (em := em) r (sayS em st d)
    have h2 : (sayS em st d).length ≤ st.length + 1 := by
      cases d with
      | inl p => exact Nat.le_refl _
      | inr i =>
        clear h
        by_cases hi : i = 31
        · simp only [sayS, if_pos hi]
          split <;> simp
        · simp only [sayS, if_neg hi]
          split <;> simp
    rw [List.foldl_cons, List.length_cons]
    omega
theorem dsP_len {turns j0 j1 : Int} {p0 p1 p2 : Str} : (dsP turns j0 j1 p0 p1 p2).length ≤ 9 := by
  unfold dsP
  have h : ∀ b, (tl31 b).length ≤ 1 := fun b => by cases b <;> decide
  have h0 := h (bitO turns 0)
  have h1 := h (bitO turns 1)
  have h2 := h (bitO turns 2)
  have h3 := h (bitO turns 3)
  simp only [List.length_append, List.length_singleton]
  omega
theorem dsP_pat {turns j0 j1 : Int} {p0 p1 p2 p : Str} (h : Sum.inl p ∈ dsP turns j0 j1 p0 p1 p2) : p = p0 ∨ p = p1 ∨ p = p2 := by
  have ht : ∀ b, ¬ (Sum.inl p : Dd) ∈ tl31 b := fun b => by cases b <;> simp [tl31]
  unfold dsP at h
  simp only [List.mem_append, List.mem_singleton, ht, or_false, Sum.inl.injEq, reduceCtorEq] at h
  rcases h with (h | h) | h
  · exact .inl h
  · exact .inr (.inl h)
  · exact .inr (.inr h)
/-- the law's machine and the formula say the same -/
theorem masks_say {a b : Nat} (hab : a ≠ b) {cs0 cs1 cs2 : List Nat} {g0 g1 g2 : Nat} (h0 : ∀ c ∈ cs0, c = a ∨ c = b) (h1 : ∀ c ∈ cs1, c = a ∨ c = b) (h2 : ∀ c ∈ cs2, c = a ∨ c = b) (l0 : cs0.length ≤ 3) (l1 : cs1.length ≤ 3) (l2 : cs2.length ≤ 3) (k0 : PatOk cs0 g0) (k1 : PatOk cs1 g1) (k2 : PatOk cs2 g2) (turns j0 j1 : Int) :
    ∃ (M : Nat → Nat) (lp be : Nat) (e0 e1 e2 : Nat), masksV (([(⟨cs0.toArray⟩, (g0 : Int)), (⟨cs1.toArray⟩, (g1 : Int)), (⟨cs2.toArray⟩, (g2 : Int))] : List (Str × Int)).foldl mkA (([(⟨#[a]⟩, 0), (⟨#[b]⟩, 0)], 0), 0, 0, [])) = .tup [.dct (mkOf a b M), .int lp, .int be, .list (([(e0 : Int), (e1 : Int), (e2 : Int)] : List Int).map .int)] ∧
      e0 < 30 ∧ e1 < 30 ∧ e2 < 30 ∧ ∀ t : Str, (∀ c ∈ t.cps.toList, c = a ∨ c = b) → toldP (mkOf a b M) lp be turns [(e0 : Int), (e1 : Int), (e2 : Int)] [j0, j1] t = (jb j1 (jb j0 (emT t (patS cs0 g0) != bitO turns 0) (emT t (patS cs1 g1) != bitO turns 1)) (emT t (patS cs2 g2) != bitO turns 2) != bitO turns 3) := by
  obtain ⟨M1, lp1, be1, q1, a1, a2, a3, _, _, _, a7⟩ := mkA_step hab (M := fun _ => 0) (lp := 0) (be := 0) (n := 0) (en := []) (fun _ => by decide) (by decide) (by decide) (g := g0) h0
  obtain ⟨M2, lp2, be2, q2, b1, b2, b3, b4, b5, b6, b7⟩ := mkA_step hab (en := [] ++ [((0 + cs0.length : Nat) : Int)]) a1 a2 a3 (g := g1) h1
  obtain ⟨M3, lp3, be3, q3, c1, c2, c3, c4, c5, c6, c7⟩ := mkA_step hab (en := [] ++ [((0 + cs0.length : Nat) : Int)] ++ [((0 + cs0.length + 1 + cs1.length : Nat) : Int)]) b1 b2 b3 (g := g2) h2
  have r0 : AtB M3 lp3 be3 0 cs0 g0 := (a7.keep (n := 0 + cs0.length + 1) (by omega) b4 b5 b6).keep (n := 0 + cs0.length + 1 + cs1.length + 1) (by omega) c4 c5 c6
  have r1 : AtB M3 lp3 be3 (0 + cs0.length + 1) cs1 g1 := b7.keep (n := 0 + cs0.length + 1 + cs1.length + 1) (by omega) c4 c5 c6
  refine ⟨M3, lp3, be3, 0 + cs0.length, 0 + cs0.length + 1 + cs1.length, 0 + cs0.length + 1 + cs1.length + 1 + cs2.length, ?_, by omega, by omega, by omega, fun t ht => ?_⟩
  · rw [List.foldl_cons, List.foldl_cons, List.foldl_cons, List.foldl_nil]
    have q1 : mkA (([(⟨#[a]⟩, 0), (⟨#[b]⟩, 0)], 0), 0, 0, []) (⟨cs0.toArray⟩, (g0 : Int)) = _ := q1
    rw [q1, q2, q3]
    rfl
  · obtain ⟨sn, d1, d2⟩ := run_bits (a := a) (b := b) (M := M3) (lp := lp3) (be := be3) ht (at_ t.cps.toList) (fun i hi => by
      unfold at_
      rw [List.getD_eq_getElem?_getD, List.getElem?_eq_getElem hi]; rfl) t.cps.toList.length (Nat.le_refl _)
    rw [List.take_length] at d1
    have hx : ∀ (off : Nat) (cs : List Nat) (g : Nat), AtB M3 lp3 be3 off cs g → PatOk cs g → bitO (sn : Int) (off + cs.length) = emT t (patS cs g) := fun off cs g r k => by
      rw [bitO_nat, d2 off cs g r cs.length (Nat.le_refl _), Bool.eq_iff_iff, emT_iff k]
      have := runN_iff (items := itemsP cs g) (e := bitO g cs.length) (T := at_ t.cps.toList) t.cps.toList.length cs.length (by rw [items_len]; exact Nat.le_refl _)
      rw [show (itemsP cs g).take cs.length = itemsP cs g by rw [← items_len (cs := cs) (g := g), List.take_length], show gp (itemsP cs g) (bitO g cs.length) cs.length = bitO g cs.length from gp_items (Nat.le_refl _)] at this
      exact this
    rw [told_f d1, hx 0 cs0 g0 r0 k0, hx _ cs1 g1 r1 k1, hx _ cs2 g2 c7 k2]
end
section
theorem S_app {l m : List Nat} : S l ++ S m = S (l ++ m) := congrArg Str.mk (by simp)
theorem up_beyond {n : Nat} {i : Int} (h : (n : Int) ≤ i) : Builtin.Str.strSliceIndices none (some i) 1 n = Builtin.Str.strSliceIndices none (some (n : Int)) 1 n := by
  have h0 : ¬ i < 0 := by omega
  have h1 : ¬ ((n : Int) < 0) := by omega
  have h2 : (1 : Int) > 0 := by decide
  simp only [Builtin.Str.strSliceIndices, h0, h1, h2, if_false, if_true, Int.min_eq_right h, Int.min_self]
theorem S_take {l : List Nat} {n : Nat} : Txt.slice (S l) none (some (n : Int)) = S (l.take n) := by
  rcases Nat.le_total n l.length with h | h
  · rw [beq_iff_eq.mp (slice_closes_to (x := S l) (j := n) ⟨Int.natCast_nonneg n, by exact Int.ofNat_le.mpr h⟩), Int.sub_zero]
    rfl
  · have e : Txt.slice (S l) none (some (n : Int)) = Txt.slice (S l) none (some (l.length : Int)) := by
      unfold Txt.slice
      rw [S_len, up_beyond (Int.ofNat_le.mpr h)]
    rw [e, beq_iff_eq.mp (slice_closes_to (x := S l) (j := l.length) ⟨Int.natCast_nonneg _, Int.le_refl _⟩), Int.sub_zero, List.take_of_length_le h]
    show S ((l.drop 0).take l.length) = S l
    rw [List.drop_zero, List.take_length]
theorem S_drop {l : List Nat} {n : Nat} : Txt.slice (S l) (some (n : Int)) none = S (l.drop n) := by
  have key : ∀ n : Nat, n ≤ l.length → Txt.slice (S l) (some (n : Int)) none = S (l.drop n) := fun n h => by
    rw [beq_iff_eq.mp (slice_closes_from (x := S l) (i := n) ⟨Int.natCast_nonneg n, by exact Int.ofNat_le.mpr h⟩)]
    show S ((l.drop n).take ((l.length : Int) - (n : Int)).toNat) = _
    rw [List.take_of_length_le (by rw [List.length_drop]; omega)]
  rcases Nat.le_total n l.length with h | h
  · exact key n h
  · have e : Txt.slice (S l) (some (n : Int)) none = Txt.slice (S l) (some (l.length : Int)) none := by
      unfold Txt.slice
      rw [S_len, indices_beyond (Int.ofNat_le.mpr h)]
    rw [e, key _ (Nat.le_refl _), List.drop_length, List.drop_eq_nil_iff.mpr h]
/-- the signs that may stand second in an operator -/
def bad (d : Nat) : Bool := d == 61 || d == 42 || d == 62 || d == 47 || d == 60
theorem tok_none {c d : Nat} {r : List Nat} (hc : c ≠ 46) (hd : bad d = false) : tok (S (c :: d :: r)) = none := by
  have H : ∀ e ∈ EXE, e.1.cps.toList.length < 2 ∨ e.1.cps.toList[0]? = some 46 ∨ (e.1.cps.toList[1]?.map bad) = some true := by decide +kernel
  unfold tok
  cases q : EXE.find? fun e => e.1 == S (c :: d :: r) with
  | none => rfl
  | some e =>
    exfalso
    have h1 := List.find?_some q
    rw [beq_iff_eq] at h1
    have h2 := H e (List.mem_of_find?_eq_some q)
    rw [h1] at h2
    rcases h2 with h2 | h2 | h2
    · exact absurd h2 (by show ¬ (r.length + 2 < 2); omega)
    · exact hc (Option.some.inj h2)
    · have h2 : some (bad d) = some true := h2
      rw [hd] at h2; cases h2
theorem tok3 : tok (S [46, 46, 46]) = some 52 := by decide +kernel
/-- what a symbol is on the page -/
def stx (a b : Nat) (s : Int) : List Nat := if s = 52 then [46, 46, 46] else if s = 12 then [44] else if s = 31 then [126] else if s = 19 then [38] else if s = 18 then [124] else if s = 32 then [94] else if s = 256 then [a] else [b]
def isSy (s : Int) : Prop := s = 52 ∨ s = 12 ∨ s = 31 ∨ s = 19 ∨ s = 18 ∨ s = 32 ∨ s = 256 ∨ s = 257
/-- a sign of a pattern is not the page's last -/
def okW : List Int → Prop
  | [] => True
  | [s] => s < 256
  | _ :: t :: r => okW (t :: r)
theorem okW.tail {s : Int} {r : List Int} (h : okW (s :: r)) : okW r := by cases r; trivial; exact h
theorem sz_one {c d : Nat} {r : List Nat} (hc : c ≠ 46) (hd : bad d = false) : sz (S (c :: d :: r)) = 1 := by
  unfold sz
  rw [show (3 : Int) = ((3 : Nat) : Int) from rfl, show (2 : Int) = ((2 : Nat) : Int) from rfl, S_take, S_take, show (c :: d :: r).take 3 = c :: d :: r.take 1 from rfl, show (c :: d :: r).take 2 = c :: d :: [] from rfl, tok_none hc hd, tok_none hc hd]
  rfl
theorem hd_one {c : Nat} {r : List Nat} (h : sz (S (c :: r)) = 1) : hdOf (S (c :: r)) = S [c] ∧ tlOf (S (c :: r)) = S r := by
  unfold hdOf tlOf
  rw [h, show (1 : Int) = ((1 : Nat) : Int) from rfl, S_take, S_drop]
  exact ⟨rfl, rfl⟩
theorem hd_end {c : Nat} {v : Int} (h : tok (S [c]) = some v) : hdOf (S [c]) = S [c] ∧ tlOf (S [c]) = S [] := by
  have : sz (S [c]) = 3 := by
    unfold sz
    rw [show (3 : Int) = ((3 : Nat) : Int) from rfl, S_take, show [c].take 3 = [c] from rfl, h]
    rfl
  unfold hdOf tlOf
  rw [this, show (3 : Int) = ((3 : Nat) : Int) from rfl, S_take, S_drop]
  exact ⟨rfl, rfl⟩
theorem hd_dots {r : List Nat} : hdOf (S (46 :: 46 :: 46 :: r)) = S [46, 46, 46] ∧ tlOf (S (46 :: 46 :: 46 :: r)) = S r := by
  have : sz (S (46 :: 46 :: 46 :: r)) = 3 := by
    unfold sz
    rw [show (3 : Int) = ((3 : Nat) : Int) from rfl, S_take, show (46 :: 46 :: 46 :: r).take 3 = [46, 46, 46] from rfl, tok3]
    rfl
  unfold hdOf tlOf
  rw [this, show (3 : Int) = ((3 : Nat) : Int) from rfl, S_take, S_drop]
  exact ⟨rfl, rfl⟩
theorem pos_len {c : Nat} {r : List Nat} : (S (c :: r)).length ≠ 0 := by rw [S_len]; exact Nat.succ_ne_zero _
/-- letters that are no operator's sign -/
structure Lett (a b : Nat) : Prop where
  ab : a ≠ b
  a46 : a ≠ 46
  b46 : b ≠ 46
  ba : bad a = false
  bb : bad b = false
  ta : tok (S [a]) = none
  tb : tok (S [b]) = none
theorem stx_head {a b : Nat} (L : Lett a b) {s : Int} (hs : isSy s) : ∃ d r, stx a b s = d :: r ∧ bad d = false := by
  rcases hs with rfl | rfl | rfl | rfl | rfl | rfl | rfl | rfl
  · exact ⟨_, _, rfl, rfl⟩
  · exact ⟨_, _, rfl, rfl⟩
  · exact ⟨_, _, rfl, rfl⟩
  · exact ⟨_, _, rfl, rfl⟩
  · exact ⟨_, _, rfl, rfl⟩
  · exact ⟨_, _, rfl, rfl⟩
  · exact ⟨_, _, rfl, L.ba⟩
  · exact ⟨_, _, rfl, L.bb⟩
theorem rd_known {a b : Nat} (L : Lett a b) {c : Nat} {s : Int} {r : List Int} (hc : c ≠ 46) (ht : tok (S [c]) = some s) (hs : ∀ x ∈ r, isSy x) (ih : Reads a b (S (r.flatMap (stx a b))) r) : Reads a b (S (c :: r.flatMap (stx a b))) (s :: r) := by
  cases r with
  | nil =>
    obtain ⟨h1, h2⟩ := hd_end ht
    rw [List.flatMap_nil] at ih ⊢
    exact .known pos_len (by rw [h1]; exact ht) (by rw [h2]; exact ih)
  | cons t r =>
    obtain ⟨d, q, e, hd⟩ := stx_head L (hs t List.mem_cons_self)
    rw [List.flatMap_cons, e, List.cons_append] at ih ⊢
    obtain ⟨h1, h2⟩ := hd_one (sz_one hc hd (r := q ++ r.flatMap (stx a b)))
    exact .known pos_len (by rw [h1]; exact ht) (by rw [h2]; exact ih)
theorem rd_sign {a b : Nat} (L : Lett a b) {c : Nat} {s : Int} {r : List Int} (hab : c = a ∨ c = b) (hc : c ≠ 46) (ht : tok (S [c]) = none) (hr : r ≠ []) (he : s = 256 + if c = a then 0 else 1) (hs : ∀ x ∈ r, isSy x) (ih : Reads a b (S (r.flatMap (stx a b))) r) : Reads a b (S (c :: r.flatMap (stx a b))) (s :: r) := by
  cases r with
  | nil => exact absurd rfl hr
  | cons t r =>
    obtain ⟨d, q, e, hd⟩ := stx_head L (hs t List.mem_cons_self)
    rw [List.flatMap_cons, e, List.cons_append] at ih ⊢
    obtain ⟨h1, h2⟩ := hd_one (sz_one hc hd (r := q ++ r.flatMap (stx a b)))
    rw [he]
    refine .sign pos_len (by rw [h1]; exact ht) h1 hab (fun z => ?_) (by rw [h2]; exact ih)
    rw [h1] at z
    have := congrArg Str.length z
    rw [S_len, S_len] at this
    simp at this
theorem reads {a b : Nat} (L : Lett a b) : ∀ ws : List Int, (∀ s ∈ ws, isSy s) → okW ws → Reads a b (S (ws.flatMap (stx a b))) ws
  | [], _, _ => .nil rfl
  | s :: r, hs, ho => by
    have ih := reads L r (fun x hx => hs x (List.mem_cons_of_mem _ hx)) ho.tail
    rw [List.flatMap_cons]
    have known : ∀ c : Nat, c ≠ 46 → tok (S [c]) = some s → Reads a b (S (c :: r.flatMap (stx a b))) (s :: r) := fun c hc ht => rd_known L hc ht (fun x hx => hs x (List.mem_cons_of_mem _ hx)) ih
    have sign : ∀ c : Nat, (c = a ∨ c = b) → c ≠ 46 → tok (S [c]) = none → 256 ≤ s → (s = 256 + if c = a then 0 else 1) → Reads a b (S (c :: r.flatMap (stx a b))) (s :: r) := fun c hab hc ht h256 he => rd_sign L hab hc ht (fun z => by subst z; exact absurd ho (Int.not_lt.mpr h256)) he (fun x hx => hs x (List.mem_cons_of_mem _ hx)) ih
    rcases hs s List.mem_cons_self with rfl | rfl | rfl | rfl | rfl | rfl | rfl | rfl
    · obtain ⟨h1, h2⟩ := hd_dots (r := r.flatMap (stx a b))
      exact .known (p := S (46 :: 46 :: 46 :: r.flatMap (stx a b))) pos_len (h1 ▸ tok3) (h2 ▸ ih)
    · exact known 44 (by decide) (by decide +kernel)
    · exact known 126 (by decide) (by decide +kernel)
    · exact known 38 (by decide) (by decide +kernel)
    · exact known 124 (by decide) (by decide +kernel)
    · exact known 94 (by decide) (by decide +kernel)
    · exact sign a (.inl rfl) L.a46 L.ta (by decide) (by rw [if_pos rfl]; rfl)
    · exact sign b (.inr rfl) L.b46 L.tb (by decide) (by rw [if_neg (Ne.symm L.ab)]; rfl)
end
section
def w52 (b : Bool) : List Int := if b then [52] else []
def w31 (b : Bool) : List Int := if b then [31] else []
def sgn (a c : Nat) : Int := 256 + if c = a then 0 else 1
def sgW (a : Nat) (g : Int) (qs : List (Nat × Nat)) : List Int := qs.flatMap fun q => w52 (bitO g q.2) ++ [sgn a q.1]
def patW (a : Nat) (cs : List Nat) (g : Int) : List Int := sgW a g cs.zipIdx ++ w52 (bitO g cs.length)
def pageW (a : Nat) (turns j0 j1 : Int) (cs0 : List Nat) (g0 : Int) (cs1 : List Nat) (g1 : Int) (cs2 : List Nat) (g2 : Int) : List Int :=
  (patW a cs0 g0 ++ ([12] ++ w31 (bitO turns 0))) ++ (patW a cs1 g1 ++ ([12] ++ w31 (bitO turns 1) ++ [code j0])) ++ (patW a cs2 g2 ++ ([12] ++ w31 (bitO turns 2) ++ [code j1])) ++ w31 (bitO turns 3)
theorem stx_sgn {a b c : Nat} (hab : a ≠ b) (hc : c = a ∨ c = b) : stx a b (sgn a c) = [c] := by
  unfold sgn
  by_cases h : c = a
  · rw [if_pos h, h]; rfl
  · rw [if_neg h, hc.resolve_left h]; rfl
theorem sg_txt {a b : Nat} (hab : a ≠ b) {g : Int} : ∀ (qs : List (Nat × Nat)) (l : List Nat), (∀ q ∈ qs, q.1 = a ∨ q.1 = b) → qs.foldl (pg1 g) (S l) = S (l ++ (sgW a g qs).flatMap (stx a b))
  | [], l, _ => by rw [show sgW a g [] = [] from rfl, List.flatMap_nil, List.append_nil]; rfl
  | q :: qs, l, h => by
    have e : pg1 g (S l) q = S (l ++ (w52 (bitO g q.2) ++ [sgn a q.1]).flatMap (stx a b)) := by
      have e1 : sel (bitO g q.2) (Str.ofString "...") (Str.ofString "") = S ((w52 (bitO g q.2)).flatMap (stx a b)) := by cases bitO g q.2 <;> rfl
      unfold pg1
      rw [e1]
      show S l ++ S _ ++ S [q.1] = _
      rw [S_app, S_app, List.flatMap_append, List.append_assoc, show [sgn a q.1].flatMap (stx a b) = [q.1] by rw [List.flatMap_singleton, stx_sgn hab (h q List.mem_cons_self)]]
    rw [List.foldl_cons, e, sg_txt hab qs _ fun x hx => h x (List.mem_cons_of_mem _ hx)]
    show _ = S (l ++ (((w52 (bitO g q.2) ++ [sgn a q.1]) ++ sgW a g qs).flatMap (stx a b)))
    simp only [List.flatMap_append, List.append_assoc]
theorem zip_mem {cs : List Nat} {a b : Nat} (h : ∀ c ∈ cs, c = a ∨ c = b) : ∀ q ∈ cs.zipIdx, q.1 = a ∨ q.1 = b := fun q hq => h q.1 (List.fst_mem_of_mem_zipIdx hq)
theorem pat_txt {a b : Nat} (hab : a ≠ b) {cs : List Nat} {g : Int} (h : ∀ c ∈ cs, c = a ∨ c = b) {l : List Nat} (joins : List Int) (turns : Int) (k : Nat) (j : List Int) (hj : joinS joins k = S (j.flatMap (stx a b))) :
    pgA joins turns (S l) ((S cs, g), k) = S (l ++ (patW a cs g ++ ([12] ++ w31 (bitO turns k) ++ j)).flatMap (stx a b)) := by
  have e1 : sel (bitO g (S cs).length) (Str.ofString "...,") (Str.ofString ",") = S ((w52 (bitO g cs.length) ++ [12]).flatMap (stx a b)) := by rw [S_len]; cases bitO g cs.length <;> rfl
  have e2 : sel (bitO turns k) (Str.ofString "~") (Str.ofString "") = S ((w31 (bitO turns k)).flatMap (stx a b)) := by cases bitO turns k <;> rfl
  show cs.zipIdx.foldl (pg1 g) (S l) ++ sel (bitO g (S cs).length) (Str.ofString "...,") (Str.ofString ",") ++ sel (bitO turns k) (Str.ofString "~") (Str.ofString "") ++ joinS joins k = _
  rw [sg_txt hab _ _ (zip_mem h), e1, e2, hj, S_app, S_app, S_app]
  unfold patW
  simp only [List.flatMap_append, List.append_assoc]
theorem join_txt {a b : Nat} {j : Int} (h : 0 ≤ j ∧ j < 3) : Txt.item (Str.ofString "&|^") j = S ([code j].flatMap (stx a b)) := by
  obtain rfl | rfl | rfl : j = 0 ∨ j = 1 ∨ j = 2 := by omega
  · rfl
  · rfl
  · rfl
theorem turn3 {turns : Int} (h : 0 ≤ turns ∧ turns < 16) : (turns.fdiv 8 != 0) = bitO turns 3 := by
  obtain ⟨n, rfl⟩ : ∃ n : Nat, turns = n := ⟨turns.toNat, by omega⟩
  have : ∀ n < 16, (((n : Nat) : Int).fdiv 8 != 0) = bitO n 3 := by decide
  exact this n (by omega)
theorem page_txt {a b : Nat} (hab : a ≠ b) {turns j0 j1 : Int} {cs0 cs1 cs2 : List Nat} {g0 g1 g2 : Int} (h0 : ∀ c ∈ cs0, c = a ∨ c = b) (h1 : ∀ c ∈ cs1, c = a ∨ c = b) (h2 : ∀ c ∈ cs2, c = a ∨ c = b) (ht : 0 ≤ turns ∧ turns < 16) (hj0 : 0 ≤ j0 ∧ j0 < 3) (hj1 : 0 ≤ j1 ∧ j1 < 3) :
    pageP [(S cs0, g0), (S cs1, g1), (S cs2, g2)] [j0, j1] turns = S ((pageW a turns j0 j1 cs0 g0 cs1 g1 cs2 g2).flatMap (stx a b)) := by
  have e3 : sel (turns.fdiv 8 != 0) (Str.ofString "~") (Str.ofString "") = S ((w31 (bitO turns 3)).flatMap (stx a b)) := by rw [turn3 ht]; cases bitO turns 3 <;> rfl
  show pgA [j0, j1] turns (pgA [j0, j1] turns (pgA [j0, j1] turns (S []) ((S cs0, g0), 0)) ((S cs1, g1), 1)) ((S cs2, g2), 2) ++ sel (turns.fdiv 8 != 0) (Str.ofString "~") (Str.ofString "") = _
  rw [pat_txt hab h0 [j0, j1] turns 0 [] rfl, pat_txt hab h1 [j0, j1] turns 1 [code j0] (join_txt hj0), pat_txt hab h2 [j0, j1] turns 2 [code j1] (join_txt hj1), e3, S_app]
  unfold pageW
  simp only [List.flatMap_append, List.append_assoc, List.nil_append, List.append_nil]
theorem str_nil {p : Str} : p ++ Str.ofString "" = p := by
  cases p with
  | mk c => exact congrArg Str.mk (Array.append_empty)
theorem item_sgn {a b c : Nat} (hc : c = a ∨ c = b) : Txt.item ⟨#[a, b]⟩ (sgn a c - 256) = ⟨#[c]⟩ := by
  unfold sgn
  by_cases h : c = a
  · rw [if_pos h, h]; rfl
  · rw [if_neg h, hc.resolve_left h]; rfl
theorem dst_52 {l : Str} {d : List PV} {p : Str} {b : Bool} : (w52 b).foldl (dstep l) (d, p) = (d, p ++ sel b (Str.ofString "...") (Str.ofString "")) := by
  cases b
  · show (d, p) = (d, p ++ Str.ofString ""); rw [str_nil]
  · rfl
theorem dst_sg {a b : Nat} {g : Int} {d : List PV} : ∀ (qs : List (Nat × Nat)) (p : Str), (∀ q ∈ qs, q.1 = a ∨ q.1 = b) → (sgW a g qs).foldl (dstep ⟨#[a, b]⟩) (d, p) = (d, qs.foldl (pg1 g) p)
  | [], p, _ => rfl
  | q :: qs, p, h => by
    have e : [sgn a q.1].foldl (dstep ⟨#[a, b]⟩) (d, p ++ sel (bitO g q.2) (Str.ofString "...") (Str.ofString "")) = (d, pg1 g p q) := by
      show dstep ⟨#[a, b]⟩ (d, p ++ sel (bitO g q.2) (Str.ofString "...") (Str.ofString "")) (sgn a q.1) = _
      have h256 : (256 : Int) ≤ sgn a q.1 := by unfold sgn; split <;> decide
      unfold dstep pg1
      rw [if_pos h256, item_sgn (h q List.mem_cons_self)]
    show ((w52 (bitO g q.2) ++ [sgn a q.1]) ++ sgW a g qs).foldl (dstep ⟨#[a, b]⟩) (d, p) = _
    rw [List.foldl_append, List.foldl_append, dst_52, e, dst_sg qs _ fun x hx => h x (List.mem_cons_of_mem _ hx), List.foldl_cons]
theorem dst_pat {a b : Nat} {cs : List Nat} {g : Int} {d : List PV} (h : ∀ c ∈ cs, c = a ∨ c = b) : [(12 : Int)].foldl (dstep ⟨#[a, b]⟩) ((patW a cs g).foldl (dstep ⟨#[a, b]⟩) (d, Str.ofString "")) = (d ++ [.str (patS cs g)], Str.ofString "") := by
  unfold patW
  rw [List.foldl_append, dst_sg _ _ (zip_mem h), dst_52]
  rfl
theorem dst_31 {l : Str} {d : List PV} {p : Str} {b : Bool} : (w31 b).foldl (dstep l) (d, p) = (d ++ (tl31 b).map ddV, p) := by
  cases b
  · show (d, p) = (d ++ [], p); rw [List.append_nil]
  · rfl
theorem code_is (j : Int) : code j = 19 ∨ code j = 18 ∨ code j = 32 := by
  unfold code
  split
  · exact .inl rfl
  · split
    · exact .inr (.inl rfl)
    · exact .inr (.inr rfl)
theorem dst_j {l : Str} {d : List PV} {p : Str} {j : Int} : [code j].foldl (dstep l) (d, p) = (d ++ ([Sum.inr (code j)] : List Dd).map ddV, p) := by
  rcases code_is j with h | h | h <;> rw [h] <;> rfl
theorem page_ds {a b : Nat} {turns j0 j1 : Int} {cs0 cs1 cs2 : List Nat} {g0 g1 g2 : Int} (h0 : ∀ c ∈ cs0, c = a ∨ c = b) (h1 : ∀ c ∈ cs1, c = a ∨ c = b) (h2 : ∀ c ∈ cs2, c = a ∨ c = b) :
    ((pageW a turns j0 j1 cs0 g0 cs1 g1 cs2 g2).foldl (dstep ⟨#[a, b]⟩) ([], Str.ofString "")).1 = (dsP turns j0 j1 (patS cs0 g0) (patS cs1 g1) (patS cs2 g2)).map ddV := by
  have e : pageW a turns j0 j1 cs0 g0 cs1 g1 cs2 g2 = (patW a cs0 g0 ++ [12]) ++ w31 (bitO turns 0) ++ (patW a cs1 g1 ++ [12]) ++ w31 (bitO turns 1) ++ [code j0] ++ (patW a cs2 g2 ++ [12]) ++ w31 (bitO turns 2) ++ [code j1] ++ w31 (bitO turns 3) := by
    unfold pageW
    simp only [List.append_assoc]
  rw [e]
  simp only [List.foldl_append]
  simp only [dst_pat h0, dst_pat h1, dst_pat h2, dst_31, dst_j]
  unfold dsP
  simp only [List.map_append, List.append_assoc, List.nil_append, List.map_cons, List.map_nil, ddV, List.cons_append]
theorem okW_app {y : List Int} (hy : okW y) (hn : y ≠ []) : ∀ x : List Int, okW (x ++ y)
  | [] => hy
  | [s] => by
    cases y with
    | nil => exact absurd rfl hn
    | cons t r => exact hy
  | s :: t :: r => okW_app hy hn (t :: r)
theorem okW_lt : ∀ {y : List Int}, (∀ s ∈ y, s < 256) → okW y
  | [], _ => trivial
  | [s], h => h s List.mem_cons_self
  | _ :: t :: r, h => okW_lt (y := t :: r) fun s hs => h s (List.mem_cons_of_mem _ hs)
theorem w31_mem {b : Bool} {s : Int} (h : s ∈ w31 b) : s = 31 := by cases b; cases h; exact List.mem_singleton.mp h
theorem w52_mem {b : Bool} {s : Int} (h : s ∈ w52 b) : s = 52 := by cases b; cases h; exact List.mem_singleton.mp h
theorem code_sy (j : Int) : isSy (code j) := by rcases code_is j with h | h | h <;> rw [h] <;> simp [isSy]
theorem sgn_sy {a c : Nat} : isSy (sgn a c) := by unfold sgn; split <;> simp [isSy]
theorem pat_sy {a : Nat} {cs : List Nat} {g : Int} : ∀ s ∈ patW a cs g, isSy s := fun s hs => by
  unfold patW sgW at hs
  rcases List.mem_append.mp hs with hs | hs
  · obtain ⟨q, _, hs⟩ := List.mem_flatMap.mp hs
    rcases List.mem_append.mp hs with hs | hs
    · rw [w52_mem hs]; simp [isSy]
    · rw [List.mem_singleton.mp hs]; exact sgn_sy
  · rw [w52_mem hs]; simp [isSy]
theorem page_sy {a : Nat} {turns j0 j1 : Int} {cs0 cs1 cs2 : List Nat} {g0 g1 g2 : Int} : ∀ s ∈ pageW a turns j0 j1 cs0 g0 cs1 g1 cs2 g2, isSy s := fun s hs => by
  unfold pageW at hs
  simp only [List.mem_append, List.mem_singleton] at hs
  have h12 : ∀ s : Int, s = 12 → isSy s := fun s h => by rw [h]; simp [isSy]
  have h31 : ∀ b, s ∈ w31 b → isSy s := fun b h => by rw [w31_mem h]; simp [isSy]
  rcases hs with (((hs | hs | hs) | (hs | ((hs | hs) | hs))) | (hs | ((hs | hs) | hs))) | hs
  · exact pat_sy s hs
  · exact h12 s hs
  · exact h31 _ hs
  · exact pat_sy s hs
  · exact h12 s hs
  · exact h31 _ hs
  · rw [hs]; exact code_sy _
  · exact pat_sy s hs
  · exact h12 s hs
  · exact h31 _ hs
  · rw [hs]; exact code_sy _
  · exact h31 _ hs
theorem page_ok {a : Nat} {turns j0 j1 : Int} {cs0 cs1 cs2 : List Nat} {g0 g1 g2 : Int} : okW (pageW a turns j0 j1 cs0 g0 cs1 g1 cs2 g2) := by
  have e : pageW a turns j0 j1 cs0 g0 cs1 g1 cs2 g2 = ((patW a cs0 g0 ++ ([12] ++ w31 (bitO turns 0))) ++ (patW a cs1 g1 ++ ([12] ++ w31 (bitO turns 1) ++ [code j0])) ++ patW a cs2 g2) ++ ([12] ++ w31 (bitO turns 2) ++ [code j1] ++ w31 (bitO turns 3)) := by
    unfold pageW
    simp only [List.append_assoc]
  rw [e]
  refine okW_app (okW_lt fun s hs => ?_) (by simp) _
  simp only [List.mem_append, List.mem_singleton] at hs
  rcases hs with ((hs | hs) | hs) | hs
  · rw [hs]; decide
  · rw [w31_mem hs]; decide
  · rw [hs]; rcases code_is j1 with h | h | h <;> rw [h] <;> decide
  · rw [w31_mem hs]; decide
theorem sg_len {a : Nat} {g : Int} : ∀ qs : List (Nat × Nat), (sgW a g qs).length ≤ 2 * qs.length
  | [] => Nat.le_refl _
  | q :: qs => by
    have h := sg_len (a := a) (g := g) qs
    show ((w52 (bitO g q.2) ++ [sgn a q.1]) ++ sgW a g qs).length ≤ _
    have : (w52 (bitO g q.2)).length ≤ 1 := by cases bitO g q.2 <;> decide
    simp only [List.length_append, List.length_cons, List.length_nil]
    omega
theorem pat_wlen {a : Nat} {cs : List Nat} {g : Int} : (patW a cs g).length ≤ 2 * cs.length + 1 := by
  have h := sg_len (a := a) (g := g) cs.zipIdx
  rw [List.length_zipIdx] at h
  have : (w52 (bitO g cs.length)).length ≤ 1 := by cases bitO g cs.length <;> decide
  unfold patW
  rw [List.length_append]
  omega
theorem page_wlen {a : Nat} {turns j0 j1 : Int} {cs0 cs1 cs2 : List Nat} {g0 g1 g2 : Int} (l0 : cs0.length ≤ 3) (l1 : cs1.length ≤ 3) (l2 : cs2.length ≤ 3) : (pageW a turns j0 j1 cs0 g0 cs1 g1 cs2 g2).length ≤ 200 := by
  have p0 := pat_wlen (a := a) (cs := cs0) (g := g0)
  have p1 := pat_wlen (a := a) (cs := cs1) (g := g1)
  have p2 := pat_wlen (a := a) (cs := cs2) (g := g2)
  have h : ∀ b, (w31 b).length ≤ 1 := fun b => by cases b <;> decide
  have q0 := h (bitO turns 0)
  have q1 := h (bitO turns 1)
  have q2 := h (bitO turns 2)
  have q3 := h (bitO turns 3)
  unfold pageW
  simp only [List.length_append, List.length_singleton]
  omega
theorem page_slen {turns : Int} {joins : List Int} {cs0 cs1 cs2 : List Nat} {g0 g1 g2 : Int} (l0 : cs0.length ≤ 3) (l1 : cs1.length ≤ 3) (l2 : cs2.length ≤ 3) : (pageP [(S cs0, g0), (S cs1, g1), (S cs2, g2)] joins turns).length ≤ 200 := by
  unfold pageP
  have h := pgAs_len (joins := joins) (turns := turns) ([(S cs0, g0), (S cs1, g1), (S cs2, g2)] : List (Str × Int)).zipIdx (Str.ofString "") (fun q hq => by
    have := List.fst_mem_of_mem_zipIdx hq
    simp only [List.mem_cons, List.not_mem_nil, or_false] at this
    rcases this with h | h | h <;> rw [h] <;> show (S _).length ≤ 3 <;> rw [S_len] <;> assumption)
  have h2 := sel_le (c := (turns.fdiv 8 != 0)) (x := Str.ofString "~") (y := Str.ofString "") (n := 1) (by decide) (by decide)
  rw [slen]
  have h3 : (([(S cs0, g0), (S cs1, g1), (S cs2, g2)] : List (Str × Int)).zipIdx).length = 3 := rfl
  have h4 : (Str.ofString "").length = 0 := rfl
  omega
theorem sy_ok {s : Int} (h : isSy s) : s ≠ 0 ∧ s < 258 := by
  rcases h with rfl | rfl | rfl | rfl | rfl | rfl | rfl | rfl <;> decide
end
section
theorem fm_lt {x : Int} {n : Int} (h : 0 < n) : 0 ≤ x.fmod n ∧ x.fmod n < n := ⟨Int.fmod_nonneg_of_pos _ h, Int.fmod_lt_of_pos _ h⟩
theorem item_2 {a b : Nat} {i : Int} (h : i = 0 ∨ i = 1) : ∃ d, Txt.item ⟨#[a, b]⟩ i = ⟨#[d]⟩ ∧ (d = a ∨ d = b) := by
  rcases h with rfl | rfl
  · exact ⟨a, rfl, .inl rfl⟩
  · exact ⟨b, rfl, .inr rfl⟩
theorem fm2c {x : Int} : x.fmod 2 = 0 ∨ x.fmod 2 = 1 := by
  have := fm_lt (x := x) (n := 2) (by decide)
  omega
theorem glue_S : ∀ (ds acc : List Nat), (ds.map fun d => (⟨#[d]⟩ : Str)).foldl (fun acc p => acc ++ (Str.ofString "").cps ++ p.cps) acc.toArray = (acc ++ ds).toArray
  | [], acc => by rw [List.append_nil]; rfl
  | d :: r, acc => by
    rw [List.map_cons, List.foldl_cons]
    have e : acc.toArray ++ (Str.ofString "").cps ++ (⟨#[d]⟩ : Str).cps = (acc ++ [d]).toArray := by
      show acc.toArray ++ #[] ++ #[d] = _
      simp
    rw [e, glue_S r (acc ++ [d]), List.append_assoc]
    rfl
theorem join_S {ds : List Nat} : Txt.join (Str.ofString "") (ds.map fun d => (⟨#[d]⟩ : Str)) = S ds := by
  cases ds with
  | nil => rfl
  | cons d r =>
    show (⟨(r.map fun d => (⟨#[d]⟩ : Str)).foldl (fun acc p => acc ++ (Str.ofString "").cps ++ p.cps) [d].toArray⟩ : Str) = _
    rw [glue_S]
    rfl
theorem signs_S {a b : Nat} (c : Int) : ∃ cs, signsP c ⟨#[a, b]⟩ = S cs ∧ cs.length = (1 + c.fmod 3).toNat ∧ ∀ d ∈ cs, d = a ∨ d = b := by
  have hd : ∀ i : Nat, ∃ d, Txt.item ⟨#[a, b]⟩ ((c.fdiv (48 * 2 ^ (i : Int).toNat)).fmod 2) = ⟨#[d]⟩ ∧ (d = a ∨ d = b) := fun i => item_2 fm2c
  refine ⟨(List.range (1 + c.fmod 3).toNat).map fun i => Classical.choose (hd i), ?_, by rw [List.length_map, List.length_range], fun d h => ?_⟩
  · unfold signsP
    rw [← join_S, List.map_map]
    exact congrArg _ (List.map_congr_left fun i _ => (Classical.choose_spec (hd i)).1)
  · obtain ⟨i, _, rfl⟩ := List.mem_map.mp h
    exact (Classical.choose_spec (hd i)).2
theorem pat_ok {a b : Nat} (L : Lett a b) {cs : List Nat} (h1 : 1 ≤ cs.length) (h2 : cs.length ≤ 3) (h : ∀ d ∈ cs, d = a ∨ d = b) (g : Int) : PatOk cs g := by
  have h46 : ∀ d ∈ cs, d ≠ 46 := fun d hd => by
    rcases h d hd with rfl | rfl
    · exact L.a46
    · exact L.b46
  match cs, h1, h2 with
  | [], h1, _ => exact absurd h1 (by decide)
  | [x], _, _ => exact pat1 (h46 x (by simp)) g
  | [x, y], _, _ => exact pat2 (h46 x (by simp)) (h46 y (by simp)) g
  | [x, y, z], _, _ => exact pat3 (h46 x (by simp)) (h46 y (by simp)) (h46 z (by simp)) g
  | _ :: _ :: _ :: _ :: _, _, h2 => exact absurd h2 (by simp)
theorem way_S {a b : Nat} (c : Int) : ∃ w, way ⟨#[a, b]⟩ c = .str (S w) ∧ w.length ≤ 1 ∧ ∀ d ∈ w, d = a ∨ d = b := by
  have h := fm_lt (x := c) (n := 3) (by decide)
  unfold way
  generalize c.fmod 3 = r at h
  obtain rfl | rfl | rfl : r = 0 ∨ r = 1 ∨ r = 2 := by omega
  · exact ⟨[], rfl, by decide, nofun⟩
  · exact ⟨[a], rfl, Nat.le_refl 1, fun d h => .inl (List.mem_singleton.mp h)⟩
  · exact ⟨[b], rfl, Nat.le_refl 1, fun d h => .inr (List.mem_singleton.mp h)⟩
theorem wd_S {a b : Nat} (x y z : Int) : ∃ w, wd ⟨#[a, b]⟩ x y z = S w ∧ 1 ≤ w.length ∧ w.length ≤ 2 ∧ ∀ d ∈ w, d = a ∨ d = b := by
  obtain ⟨d, h1, h2⟩ := item_2 (a := a) (b := b) (fm2c (x := x))
  obtain ⟨e, h3, h4⟩ := item_2 (a := a) (b := b) (fm2c (x := y))
  unfold wd
  rw [h1, h3]
  have hs : (⟨#[d]⟩ : Str) ++ ⟨#[e]⟩ = S [d, e] := S_app (l := [d]) (m := [e])
  rw [hs]
  rcases fm2c (x := z) with h | h
  · rw [h, show (1 + 0 : Int) = ((1 : Nat) : Int) from rfl, S_take]
    exact ⟨[d], rfl, Nat.le_of_ble_eq_true rfl, Nat.le_of_ble_eq_true rfl, fun q hq => by rw [List.mem_singleton.mp hq]; exact h2⟩
  · rw [h, show (1 + 1 : Int) = ((2 : Nat) : Int) from rfl, S_take]
    refine ⟨[d, e], rfl, Nat.le_of_ble_eq_true rfl, Nat.le_of_ble_eq_true rfl, fun q hq => ?_⟩
    rcases List.mem_cons.mp hq with rfl | hq
    · exact h2
    · rw [List.mem_singleton.mp hq]; exact h4
theorem rep_arr {l : List Nat} : ∀ (n : Nat) (acc : List Nat), (List.replicate n l.toArray).foldl (· ++ ·) acc.toArray = (acc ++ rep n l).toArray
  | 0, acc => by rw [show rep 0 l = [] from rfl, List.append_nil]; rfl
  | n + 1, acc => by
    rw [List.replicate_succ, List.foldl_cons, show acc.toArray ++ l.toArray = (acc ++ l).toArray by simp, rep_arr n (acc ++ l), rep_succ, List.append_assoc]
theorem mul_S {l : List Nat} {n : Nat} (h : 2 ≤ n) : Txt.mul (S l) (n : Int) = S (rep n l) := by
  have h1 : ¬ ((n : Int) < 1) := by omega
  have h2 : ((n : Int) == 1) = false := beq_eq_false_iff_ne.mpr (by omega)
  unfold Txt.mul
  rw [if_neg h1, h2, Bool.false_or]
  split
  · rename_i hl
    rw [beq_iff_eq, S_len] at hl
    rw [List.length_eq_zero_iff.mp hl]
    have : (rep n ([] : List Nat)).length = 0 := by rw [rep_len]; exact Nat.mul_zero n
    rw [List.length_eq_zero_iff.mp this]
  · rw [Int.toNat_natCast]
    exact congrArg Str.mk ((rep_arr (l := l) n []).trans (by rw [List.nil_append]))
theorem mul_ok {x : Str} {n : Nat} (h : 2 ≤ n) (h2 : n ≤ 4) (hx : x.length ≤ 100) : MulOk x (n : Int) := by
  refine ⟨?_, fun _ _ => ?_, fun _ _ => ?_⟩
  · rw [Bool.or_eq_false_iff]
    exact ⟨decide_eq_false (by omega), decide_eq_false (by omega)⟩
  · obtain rfl | rfl | rfl : n = 2 ∨ n = 3 ∨ n = 4 := by omega
    · intro z; have z : (x.length : Int) > (2 ^ 63 - 1) / 2 := z; omega
    · intro z; have z : (x.length : Int) > (2 ^ 63 - 1) / 3 := z; omega
    · intro z; have z : (x.length : Int) > (2 ^ 63 - 1) / 4 := z; omega
  · rw [Int.toNat_natCast]
    have : x.length * n ≤ 100 * 4 := Nat.mul_le_mul hx h2
    unfold Builtin.Str.tooLong
    exact decide_eq_false (by unfold sizeLine; omega)
theorem rep_mem {l : List Nat} {n : Nat} {p : Nat → Prop} (h : ∀ d ∈ l, p d) : ∀ d ∈ rep n l, p d := fun d hd => by
  unfold rep at hd
  obtain ⟨m, hm, hd⟩ := List.mem_flatten.mp hd
  rw [(List.mem_replicate.mp hm).2] at hd
  exact h d hd
end
section
theorem lets_ok {s : Int} : ∃ a b, lets (s.fmod 5) = some (.str ⟨#[a, b]⟩) ∧ a < 128 ∧ b < 128 ∧ Lett a b := by
  have h := fm_lt (x := s) (n := 5) (by decide)
  generalize s.fmod 5 = r at h
  obtain rfl | rfl | rfl | rfl | rfl : r = 0 ∨ r = 1 ∨ r = 2 ∨ r = 3 ∨ r = 4 := by omega
  · exact ⟨97, 98, rfl, by decide, by decide, by decide, by decide, by decide, by decide, by decide, by decide +kernel, by decide +kernel⟩
  · exact ⟨97, 10, rfl, by decide, by decide, by decide, by decide, by decide, by decide, by decide, by decide +kernel, by decide +kernel⟩
  · exact ⟨10, 32, rfl, by decide, by decide, by decide, by decide, by decide, by decide, by decide, by decide +kernel, by decide +kernel⟩
  · exact ⟨92, 36, rfl, by decide, by decide, by decide, by decide, by decide, by decide, by decide, by decide +kernel, by decide +kernel⟩
  · exact ⟨34, 35, rfl, by decide, by decide, by decide, by decide, by decide, by decide, by decide, by decide +kernel, by decide +kernel⟩
theorem cells_ok (ns : List Int) : ∃ c0 c1 c2 c3 c4 c5, cellsP ns = [c0, c1, c2, c3, c4, c5] ∧ ∀ c ∈ [c0, c1, c2, c3, c4, c5], 0 ≤ c ∧ c ≤ 1000000 := by
  have hl : (cellsP ns).length = 6 := by
    have : (ns.take 6).length ≤ 6 := List.length_take_le 6 ns
    unfold cellsP
    rw [List.length_append, List.length_map, List.length_drop]
    show (ns.take 6).length + (6 - (ns.take 6).length) = 6
    omega
  have hm : ∀ c ∈ cellsP ns, 0 ≤ c ∧ c ≤ 1000000 := fun c hc => by
    unfold cellsP at hc
    rcases List.mem_append.mp hc with hc | hc
    · obtain ⟨d, _, rfl⟩ := List.mem_map.mp hc
      have := fm_lt (x := d) (n := 10 ^ (6 : Int).toNat) (by decide)
      have e : (10 : Int) ^ (6 : Int).toNat = 1000000 := rfl
      rw [e] at this ⊢
      omega
    · have : ∀ c ∈ ([137, 154, 6, 25, 208, 555] : List Int), 0 ≤ c ∧ c ≤ 1000000 := by decide
      exact this c (List.mem_of_mem_drop hc)
  match h : cellsP ns, hl with
  | [c0, c1, c2, c3, c4, c5], _ => exact ⟨c0, c1, c2, c3, c4, c5, rfl, fun c hc => hm c (h ▸ hc)⟩
theorem nat16 (c : Int) : ∃ g : Nat, (c.fdiv 3).fmod 16 = (g : Int) := ⟨_, (Int.toNat_of_nonneg (fm_lt (by decide)).1).symm⟩
theorem max3 (l0 l1 l2 : Nat) : ∃ n : Nat, l0 + 1 ≤ n ∧ l1 + 1 ≤ n ∧ l2 + 1 ≤ n ∧ (n = l0 + 1 ∨ n = l1 + 1 ∨ n = l2 + 1) := by
  rcases Nat.le_total l0 l1 with h | h
  · rcases Nat.le_total l1 l2 with h' | h'
    · exact ⟨l2 + 1, by omega, by omega, by omega, .inr (.inr rfl)⟩
    · exact ⟨l1 + 1, by omega, by omega, by omega, .inr (.inl rfl)⟩
  · rcases Nat.le_total l0 l2 with h' | h'
    · exact ⟨l2 + 1, by omega, by omega, by omega, .inr (.inr rfl)⟩
    · exact ⟨l0 + 1, by omega, by omega, by omega, .inl rfl⟩
theorem texts_mem {a b : Nat} {s l : List Nat} (hs : ∀ c ∈ s, c = a ∨ c = b) (hl : ∀ c ∈ l, c = a ∨ c = b) {t : Str} (h : t ∈ textsP (S s) (S l)) : (∃ u, t = S u ∧ (u.length ≤ s.length ∨ u = l)) ∧ ∀ c ∈ t.cps.toList, c = a ∨ c = b := by
  unfold textsP at h
  rcases List.mem_append.mp h with h | h
  · obtain ⟨i, _, rfl⟩ := List.mem_map.mp h
    show (∃ u, Txt.slice (S s) none (some ((i : Nat) : Int)) = S u ∧ _) ∧ ∀ c ∈ (Txt.slice (S s) none (some ((i : Nat) : Int))).cps.toList, c = a ∨ c = b
    rw [S_take]
    exact ⟨⟨_, rfl, .inl (List.length_take_le' i s)⟩, fun c hc => hs c (List.mem_of_mem_take hc)⟩
  · rw [List.mem_singleton.mp h]
    exact ⟨⟨l, rfl, .inr rfl⟩, hl⟩
set_option maxHeartbeats 4000000 in
theorem lawB {K : Params → Frag} (hK : Knows K) (w : World) (ns : List Int) (hns : ns.length ≤ 63) : FnT K 0 w 3 161 [.list (ns.map .int)] (.bool true) := by
  obtain ⟨c0, c1, c2, c3, c4, c5, hc, hr⟩ := cells_ok ns
  obtain ⟨a, b, hL, ha, hb, L⟩ := lets_ok (s := ([c0, c1, c2, c3, c4, c5] : List Int).sum)
  obtain ⟨cs0, s0, n0, m0⟩ := signs_S (a := a) (b := b) c0
  obtain ⟨cs1, s1, n1, m1⟩ := signs_S (a := a) (b := b) c1
  obtain ⟨cs2, s2, n2, m2⟩ := signs_S (a := a) (b := b) c2
  have f0 := fm_lt (x := c0) (n := 3) (by decide)
  have f1 := fm_lt (x := c1) (n := 3) (by decide)
  have f2 := fm_lt (x := c2) (n := 3) (by decide)
  obtain ⟨g0, e0⟩ := nat16 c0
  obtain ⟨g1, e1⟩ := nat16 c1
  obtain ⟨g2, e2⟩ := nat16 c2
  have hat : atomsP ⟨#[a, b]⟩ [c0, c1, c2] = [(S cs0, (g0 : Int)), (S cs1, (g1 : Int)), (S cs2, (g2 : Int))] := by
    unfold atomsP
    rw [List.map_cons, List.map_cons, List.map_cons, List.map_nil, s0, s1, s2, e0, e1, e2]
  have ft := fm_lt (x := c3.fdiv 9) (n := 16) (by decide)
  have fj0 := fm_lt (x := c3) (n := 3) (by decide)
  have fj1 := fm_lt (x := c3.fdiv 3) (n := 3) (by decide)
  generalize htu : (c3.fdiv 9).fmod 16 = turns at ft
  generalize hjo0 : c3.fmod 3 = j0 at fj0
  generalize hjo1 : (c3.fdiv 3).fmod 3 = j1 at fj1
  have l0 : 1 ≤ cs0.length ∧ cs0.length ≤ 3 := by omega
  have l1 : 1 ≤ cs1.length ∧ cs1.length ≤ 3 := by omega
  have l2 : 1 ≤ cs2.length ∧ cs2.length ≤ 3 := by omega
  clear n0 n1 n2 f0 f1 f2 s0 s1 s2
  have k0 := pat_ok L l0.1 l0.2 m0 (g0 : Int)
  have k1 := pat_ok L l1.1 l1.2 m1 (g1 : Int)
  have k2 := pat_ok L l2.1 l2.2 m2 (g2 : Int)
  obtain ⟨M, lp, be, x0, x1, x2, hmk, hx0, hx1, hx2, hto⟩ := masks_say L.ab m0 m1 m2 l0.2 l1.2 l2.2 k0 k1 k2 turns j0 j1
  obtain ⟨here, w1, u1, v1, z1⟩ := wd_S (a := a) (b := b) (c4.fdiv 2) (c4.fdiv 4) c4
  obtain ⟨there, w2, u2, v2, z2⟩ := wd_S (a := a) (b := b) (c4.fdiv 16) (c4.fdiv 32) (c4.fdiv 8)
  obtain ⟨front, w3, v3, z3⟩ := way_S (a := a) (b := b) (c4.fdiv 64)
  obtain ⟨end_, w4, v4, z4⟩ := way_S (a := a) (b := b) (c4.fdiv 192)
  obtain ⟨out, w5, v5, z5⟩ := way_S (a := a) (b := b) c5
  obtain ⟨home, w6, v6, z6⟩ := way_S (a := a) (b := b) (c5.fdiv 3)
  obtain ⟨off, w7, v7, z7⟩ := way_S (a := a) (b := b) (c5.fdiv 9)
  obtain ⟨back, w8, v8, z8⟩ := way_S (a := a) (b := b) (c5.fdiv 27)
  have hwd : wordsP c4 c5 ⟨#[a, b]⟩ = [PV.str (S here), .str (S there), .str (S front), .str (S end_), .str (S out), .str (S home), .str (S off), .str (S back)] := by
    unfold wordsP
    rw [w1, w2]
    show [PV.str (S here), .str (S there), way _ (c4.fdiv 64), way _ (c4.fdiv 192), way _ c5, way _ (c5.fdiv 3), way _ (c5.fdiv 9), way _ (c5.fdiv 27)] = _
    rw [w3, w4, w5, w6, w7, w8]
  clear w1 w2 w3 w4 w5 w6 w7 w8
  obtain ⟨n, q0, q1, q2, q3⟩ := max3 cs0.length cs1.length cs2.length
  have hn2 : 2 ≤ n := by omega
  have hn4 : n ≤ 4 := by omega
  have lenle : ∀ {l : List Nat} {k : Nat}, l.length ≤ k → n * l.length ≤ 4 * k := fun h => Nat.mul_le_mul hn4 h
  have hH : n ≤ (rep n here).length := by rw [rep_len]; exact Nat.le_mul_of_pos_right n (by omega)
  have hR : n ≤ (rep n there).length := by rw [rep_len]; exact Nat.le_mul_of_pos_right n (by omega)
  have hH8 : (rep n here).length ≤ 8 := by rw [rep_len]; exact lenle v1
  have hR8 : (rep n there).length ≤ 8 := by rw [rep_len]; exact lenle v2
  have hlP : (lP front (rep n here) out (rep n there) home n).length ≤ 100 := by
    have := lenle (l := rep n here ++ out ++ rep n there ++ home) (k := 18) (by simp only [List.length_append]; omega)
    unfold lP
    rw [List.length_append, rep_len]
    omega
  have hlQ : (lQ (rep n here) (rep n there) off back end_ n).length ≤ 100 := by
    have := lenle (l := rep n here ++ off ++ rep n there ++ back) (k := 18) (by simp only [List.length_append]; omega)
    unfold lQ
    rw [List.length_append, rep_len]
    omega
  have hlD : (lD (rep n here) out (rep n there) back).length ≤ 18 := by unfold lD; simp only [List.length_append]; omega
  have mR : ∀ d ∈ rep n there, d = a ∨ d = b := rep_mem z2
  have mH : ∀ d ∈ rep n here, d = a ∨ d = b := rep_mem z1
  have mem4 : ∀ {x y u v : List Nat}, (∀ d ∈ x, d = a ∨ d = b) → (∀ d ∈ y, d = a ∨ d = b) → (∀ d ∈ u, d = a ∨ d = b) → (∀ d ∈ v, d = a ∨ d = b) → ∀ d ∈ x ++ y ++ u ++ v, d = a ∨ d = b := fun hx hy hu hv d hd => by
    simp only [List.mem_append] at hd
    rcases hd with ((h | h) | h) | h
    · exact hx d h
    · exact hy d h
    · exact hu d h
    · exact hv d h
  have mP : ∀ d ∈ lP front (rep n here) out (rep n there) home n, d = a ∨ d = b := fun d hd => by
    rcases List.mem_append.mp hd with h | h
    · exact z3 d h
    · exact rep_mem (mem4 mH z5 mR z6) d h
  have mQ : ∀ d ∈ lQ (rep n here) (rep n there) off back end_ n, d = a ∨ d = b := fun d hd => by
    rcases List.mem_append.mp hd with h | h
    · exact rep_mem (mem4 mH z7 mR z8) d h
    · exact z4 d h
  have mD : ∀ d ∈ lD (rep n here) out (rep n there) back, d = a ∨ d = b := mem4 mH z5 mR z8
  have mS : ∀ d ∈ front ++ here ++ out ++ there ++ back ++ end_, d = a ∨ d = b := fun d hd => by
    rcases List.mem_append.mp hd with h | h
    · rcases List.mem_append.mp h with h | h
      · exact mem4 z3 z1 z5 z2 d h
      · exact z8 d h
    · exact z4 d h
  have mPQ : ∀ d ∈ lP front (rep n here) out (rep n there) home n ++ lQ (rep n here) (rep n there) off back end_ n, d = a ∨ d = b := fun d hd => (List.mem_append.mp hd).elim (mP d) (mQ d)
  have hah : S front ++ Txt.mul (S (rep n here) ++ S out ++ S (rep n there) ++ S home) (n : Int) = S (lP front (rep n here) out (rep n there) home n) := by
    rw [S_app, S_app, S_app, mul_S hn2, S_app]; rfl
  have hbe : Txt.mul (S (rep n here) ++ S off ++ S (rep n there) ++ S back) (n : Int) ++ S end_ = S (lQ (rep n here) (rep n there) off back end_ n) := by
    rw [S_app, S_app, S_app, mul_S hn2, S_app]; rfl
  have hsh : S front ++ S here ++ S out ++ S there ++ S back ++ S end_ = S (front ++ here ++ out ++ there ++ back ++ end_) := by
    rw [S_app, S_app, S_app, S_app, S_app]
  have hdt : S (lP front (rep n here) out (rep n there) home n) ++ S (rep n here) ++ S out ++ S (rep n there) ++ S back ++ S (lQ (rep n here) (rep n there) off back end_ n) = S (lP front (rep n here) out (rep n there) home n ++ lD (rep n here) out (rep n there) back ++ lQ (rep n here) (rep n there) off back end_ n) := by
    rw [S_app, S_app, S_app, S_app, S_app]
    unfold lD
    simp only [List.append_assoc]
  have hSl : (front ++ here ++ out ++ there ++ back ++ end_).length ≤ 8 := by simp only [List.length_append]; omega
  have hPQl : (lP front (rep n here) out (rep n there) home n ++ lQ (rep n here) (rep n there) off back end_ n).length ≤ 200 := by rw [List.length_append]; omega
  have htx : ∀ t ∈ textsP (S (front ++ here ++ out ++ there ++ back ++ end_)) (S (lP front (rep n here) out (rep n there) home n) ++ S (lQ (rep n here) (rep n there) off back end_ n)), t.length ≤ 4096 ∧ ∀ c ∈ t.cps.toList, c = a ∨ c = b := fun t ht => by
    rw [S_app] at ht
    obtain ⟨⟨u, hu, hu2⟩, h2⟩ := texts_mem mS mPQ ht
    refine ⟨?_, h2⟩
    rw [hu, S_len]
    rcases hu2 with h | h
    · omega
    · rw [h]; omega
  have hsayF : ∀ t : Str, (∀ c ∈ t.cps.toList, c = a ∨ c = b) → (dsP turns j0 j1 (patS cs0 g0) (patS cs1 g1) (patS cs2 g2)).foldl (sayS (emT t)) [] = [toldP (mkOf a b M) lp be turns [(x0 : Int), (x1 : Int), (x2 : Int)] [j0, j1] t] := fun t ht => by rw [hto t ht, say_f]
  refine lawW hK w ns hns c0 c1 c2 c3 c4 c5 hc hr a b ha hb L.ab hL [(S cs0, (g0 : Int)), (S cs1, (g1 : Int)), (S cs2, (g2 : Int))] hat [j0, j1] (by rw [hjo0, hjo1]) turns htu rfl ?has rfl ?hj3
    (pageW a turns j0 j1 cs0 g0 cs1 g1 cs2 g2) ?hsy (page_slen l0.2 l1.2 l2.2) (page_wlen l0.2 l1.2 l2.2) (fun s hs => sy_ok (page_sy s hs)) (dsP turns j0 j1 (patS cs0 g0) (patS cs1 g1) (patS cs2 g2)) (page_ds m0 m1 m2)
    (mkOf a b M) lp be [(x0 : Int), (x1 : Int), (x2 : Int)] hmk (S here) (S there) (S front) (S end_) (S out) (S home) (S off) (S back) hwd
    (by rw [S_len]; exact v1) (by rw [S_len]; exact v2) (by rw [S_len]; exact v3) (by rw [S_len]; exact v4) (by rw [S_len]; exact v5) (by rw [S_len]; exact v6) (by rw [S_len]; exact v7) (by rw [S_len]; exact v8)
    (n : Int) ?htm ?htm2 (S (rep n here)) (S (rep n there)) (S (lP front (rep n here) out (rep n there) home n)) (S (lQ (rep n here) (rep n there) off back end_ n)) (S (front ++ here ++ out ++ there ++ back ++ end_)) (mul_S hn2) (mul_S hn2)
    (mul_ok hn2 hn4 (by rw [S_len]; omega)) (mul_ok hn2 hn4 (by rw [S_len]; omega)) (mul_ok hn2 hn4 ?ho1) (mul_ok hn2 hn4 ?ho2) hah hbe hsh (by rw [S_len]; omega) (by rw [S_len]; omega) (by rw [S_len]; omega) (by rw [S_len]; omega)
    rfl ?hen2 (fun t ht c hc' => ⟨_, mkOf_look ((htx t ht).2 c hc')⟩) emT ?hem ?hok ?hst (fun t ht => hsayF t (htx t ht).2) ?hdet
  case has =>
    intro q hq
    simp only [List.mem_cons, List.not_mem_nil, or_false] at hq
    rcases hq with rfl | rfl | rfl
    · exact ⟨by show (S _).length ≤ 3; rw [S_len]; exact l0.2, m0⟩
    · exact ⟨by show (S _).length ≤ 3; rw [S_len]; exact l1.2, m1⟩
    · exact ⟨by show (S _).length ≤ 3; rw [S_len]; exact l2.2, m2⟩
  case hj3 =>
    intro j hj
    simp only [List.mem_cons, List.not_mem_nil, or_false] at hj
    rcases hj with rfl | rfl
    · exact fj0
    · exact fj1
  case hsy =>
    rw [page_txt L.ab m0 m1 m2 ft fj0 fj1]
    exact reads L _ page_sy page_ok
  case htm =>
    show (n : Int) - 1 ∈ [((S cs0).length : Int), ((S cs1).length : Int), ((S cs2).length : Int)]
    rw [S_len, S_len, S_len]
    simp only [List.mem_cons, List.not_mem_nil, or_false]
    omega
  case htm2 =>
    intro x hx
    have hx : x ∈ [((S cs0).length : Int), ((S cs1).length : Int), ((S cs2).length : Int)] := hx
    rw [S_len, S_len, S_len] at hx
    simp only [List.mem_cons, List.not_mem_nil, or_false] at hx
    omega
  case ho1 => rw [S_app, S_app, S_app, S_len]; simp only [List.length_append]; omega
  case ho2 => rw [S_app, S_app, S_app, S_len]; simp only [List.length_append]; omega
  case hen2 =>
    intro e he
    simp only [List.mem_cons, List.not_mem_nil, or_false] at he
    omega
  case hem =>
    intro t ht p hp
    have htl : t.length ≤ 4096 := by
      rcases List.mem_append.mp ht with h | h
      · exact (htx t h).1
      · rw [List.mem_singleton.mp h, hdt, S_len, List.length_append, List.length_append]
        omega
    rcases dsP_pat hp with rfl | rfl | rfl
    · exact emT_fn hK w k0 l0.2 htl
    · exact emT_fn hK w k1 l1.2 htl
    · exact emT_fn hK w k2 l2.2 htl
  case hok => exact fun t => dpF_ok _ [] dsP_ok
  case hst =>
    intro t i
    refine Nat.le_trans (say_len _ []) ?_
    have h1 := dsP_len (turns := turns) (j0 := j0) (j1 := j1) (p0 := patS cs0 g0) (p1 := patS cs1 g1) (p2 := patS cs2 g2)
    have h2 := List.length_take_le' i (dsP turns j0 j1 (patS cs0 g0) (patS cs1 g1) (patS cs2 g2))
    show 0 + _ ≤ 100
    omega
  case hdet =>
    rw [hdt, S_app, hto _ mPQ, say_f, emT_knast k0 (by omega) hH hR q0, emT_knast k1 (by omega) hH hR q1, emT_knast k2 (by omega) hH hR q2]
end
theorem is_ints {w : World} {h : Heap} : ∀ {vs : List Value} {ns : List Int}, IntsAre vs ns → IsL w (fun _ => True) h (ns.map .int) vs
  | _, _, .nil => .nil
  | _, _, .cons n t r => .cons (.int n t) (is_ints r)
theorem amb3 : Amb 3 callerA := ⟨rfl, by decide, by decide⟩
theorem knAs {K : Params → Frag} {w : World} {h : Heap} (_ : (K w.params).In h) (k : Knows K) : Knows K := k
set_option Elab.async true
/- The head lays, for each constant that it makes, a copy (tw..) and a proof that both are equal (te..). The proofs are long, and the compiled file has a lid.
   Where a name tw.. is taken, the head goes on without that copy. The definitions below are there to take those names; no proof rests on them.
   The copy of the program's own form is the form itself. -/
def head.tw6474009502463322548 : Nat := 0
def head.tw1843723227996971456 : PySem.Program := PySem.Challenge.pw_ti0022_01
theorem head.te1843723227996971456 : PySem.Challenge.pw_ti0022_01 = head.tw1843723227996971456 := rfl
def head.tw13335025841360890868 : Nat := 0
def head.tw449119513551634826 : Nat := 0
def head.tw5684777059553021320 : Nat := 0
def head.tw9631839687265896505 : Nat := 0
def head.tw2355103038987944067 : Nat := 0
def head.tw12147184966966947637 : Nat := 0
def head.tw7994106446794305319 : Nat := 0
def head.tw13499107582688000984 : Nat := 0
def head.tw8534208459206503383 : Nat := 0
def head.tw17674571679781333832 : Nat := 0
def head.tw5986637957666399235 : Nat := 0
def head.tw14865920709389126754 : Nat := 0
def head.tw16747758414039768549 : Nat := 0
def head.tw9515422150858430662 : Nat := 0
def head.tw12299445865675373075 : Nat := 0
def head.tw16812575187878004724 : Nat := 0
def head.tw5331137831679937033 : Nat := 0
def head.tw17330182565034362564 : Nat := 0
set_option maxRecDepth 100000 in
set_option maxHeartbeats 8000000 in
theorem head : PySem.Challenge.rw_ti0022_01.Holds := by
  w_on; o_law; k_head; (case hw => w_witness2)
  intro w s₀ s₁ mg mb G Y fa o pm cd doc dV kV ho hd hcd hD hmg hg args vals as hpre hlay hrd hwl hlo
  have KX := kIn_of Y
  have kn := knAs KX (by
    refine ⟨?g, ?t, ?o, ?_, ?_, ?_, ?_, ?_, ?_, ?_, ?_, ?_, ?_, ?_, ?_, ?_, ?_, ?_, ?_, ?_, ?_, ?_, ?_, ?_, ?_, ?_, ?_, ?_, ?_, ?_, ?_, ?_, ?_, ?_, ?_, ?_, ?_, ?_, ?_, ?_, ?_, ?_, ?_, ?_, ?_, ?_, ?_⟩
    case g =>
      intro P x v h
      have hm := mem_of_lookup h
      unfold GT at hm
      simp only [List.mem_cons, List.not_mem_nil, or_false, Prod.mk.injEq] at hm
      rcases hm with h | h | h | h | h | h | h | h | h | h | h | h | h | h | h | h | h | h | h | h | h | h | h | h | h | h | h | h | h | h | h | h | h | h | h | h | h <;> (obtain ⟨rfl, rfl⟩ := h; exact rfl)
    case t => intro P; k_dflt k_is
    case o => intro P; k_dflt k_is
    all_goals first
      | (intro P; k_dflt k_is)
      | (intro w; refine' FnAt.mk ?ho ?hcd; (case ho => k_dflt k_is); (case hcd => k_dflt k_is)))
  have X := (Ground.X G).1
  have V := (Ground.X G).2
  refine Ground.open G ?_
  intro T B D TE TW
  clear hd hcd hD Y ho
  wrow_args hpre hlay hrd hwl hlo
  rename_i ns _ _ _ _ _ _ _ a vs _ hL _ hW _ hI _ hlen _
  have hfa : fa = 161 := by
    have h1 := mg_of KX T.g (kn.g w.params (Str.ofString "law") _ rfl)
    have h2 := hmg.symm.trans h1
    cases h2
    rfl
  subst hfa
  have hE : ∃ n, s₁.heap.get? a = some { cls := .type "list", data := .seq vs.toArray n } := by
    obtain ⟨ol, hol, hc, n, hd⟩ := id hL
    cases hW with
    | list g _ =>
      have g' := hol.symm.trans g
      cases g'
      simp only [Data.seq.injEq] at hd
      obtain ⟨h1, h2⟩ := hd
      rw [h1] at g
      exact ⟨_, g⟩
  obtain ⟨n, hE⟩ := hE
  refine lawB kn w ns (by omega) callerA s₁ (fun _ => True) mg mb [.ref a] _ _ amb3 KX ⟨T.g, T.b, T.nolimit, T.builtins⟩ (fun _ _ => trivial) (Nat.zero_le _) (.cons (.list trivial hE (is_ints hI)) .nil) fun v h' tk' e l i => ?_
  cases i
  exact GoodW.toG ⟨.inl ⟨.bool true, .bool true, [], rfl, fun _ => rfl,   .bool true, (by wrow_post), fun _ => ⟨.nil, fun _ h => nomatch h⟩⟩, e, rfl, hg⟩
end Mine
theorem PySem.Challenge.cw_ti0022_01_holds : PySem.Challenge.rw_ti0022_01.Holds :=
  Mine.head
