import PyProof.Rows.All
import Wide.All
import OpenK.AllK
import Wide.FinOn
import Lean
import PySem.Challenge.RW_yt0001_02
set_option maxRecDepth 100000
open PySem PySem.W PyProof.Rows
set_option Elab.async false
set_option maxRecDepth 100000
namespace Mine

/-- pure data -/
inductive D where
  | none
  | bool (b : Bool)
  | int (i : Int)
  | str (s : Str)
  | tup (l : List D)
  | lst (l : List D)
  | rng (a b c : Int)

abbrev G := Addr → Option Obj
def Sub (g g' : G) : Prop := ∀ b o, g b = some o → g' b = some o
def Grow (h h' : Heap) : Prop := ∀ b o, h.get? b = some o → h'.get? b = some o
def ext (g : G) (h h' : Heap) : G := fun b => if (h.get? b).isSome = true then g b else h'.get? b

theorem Sub.refl (g : G) : Sub g g := fun _ _ e => e
theorem Sub.trans {a b c : G} (x : Sub a b) (y : Sub b c) : Sub a c := fun i o e => y i o (x i o e)
theorem Grow.refl (h : Heap) : Grow h h := fun _ _ e => e
theorem Grow.trans {a b c : Heap} (x : Grow a b) (y : Grow b c) : Grow a c := fun i o e => y i o (x i o e)
theorem Grow.push (h : Heap) (o : Obj) : Grow h (h.push o) := fun _ _ e => Heap.get?_push_of_some _ e

theorem ext_old {g : G} {h h' : Heap} {b : Addr} {o : Obj} (e : h.get? b = some o) : ext g h h' b = g b := by
  unfold ext; rw [e]; rfl
theorem ext_new {g : G} {h h' : Heap} {b : Addr} (e : h.get? b = none) : ext g h h' b = h'.get? b := by
  unfold ext; rw [e]; rfl
theorem ext_sub {g : G} {h h' : Heap} (s : Sub g h.get?) : Sub g (ext g h h') := fun b o e => by
  rw [ext_old (s b o e)]; exact e
theorem ext_in {g : G} {h h' : Heap} (s : Sub g h.get?) (k : Grow h h') : Sub (ext g h h') h'.get? := fun b o e => by
  cases q : h.get? b with
  | none => rw [ext_new q] at e; exact e
  | some o' => rw [ext_old q] at e; exact k b o (s b o e)
theorem ext_ext {g : G} {h h₁ h₂ : Heap} (k : Grow h h₁) (k' : Grow h₁ h₂) : ext (ext g h h₁) h₁ h₂ = ext g h h₂ := by
  funext b
  cases q : h.get? b with
  | some o => rw [ext_old (k b o q), ext_old q, ext_old q]
  | none =>
    rw [ext_new q]
    cases q' : h₁.get? b with
    | some o => rw [ext_old q', ext_new q, q', k' b o q']
    | none => rw [ext_new q']
theorem ext_self {g : G} {h : Heap} (s : Sub g h.get?) : ext g h h = g := by
  funext b
  cases q : h.get? b with
  | some o => exact ext_old q
  | none =>
    rw [ext_new q, q]
    cases e : g b with
    | none => rfl
    | some o => rw [s b o e] at q; cases q

mutual
def Is (g : G) : D → Value → Prop
  | .none, v => v = .none
  | .bool b, v => v = .bool b
  | .int i, v => ∃ t, v = .int i t
  | .str x, v => ∃ t, v = .str x t
  | .tup l, v => ∃ a o vs n, v = .ref a ∧ g a = some o ∧ o.cls = .type "tuple" ∧ o.data = .seq vs n ∧ IsL g l vs.toList
  | .lst l, v => ∃ a o vs n, v = .ref a ∧ g a = some o ∧ o.cls = .type "list" ∧ o.data = .seq vs n ∧ IsL g l vs.toList
  | .rng a b c, v => ∃ r t u w, v = .ref r ∧ g r = some { cls := .type "range", dict := none, data := .fields #[.int a t, .int b u, .int c w], slots := #[] }
def IsL (g : G) : List D → List Value → Prop
  | [], vs => vs = []
  | d :: ds, vs => ∃ v vs', vs = v :: vs' ∧ Is g d v ∧ IsL g ds vs'
end

mutual
theorem Is.mono {g g' : G} (s : Sub g g') : ∀ (d : D) {v : Value}, Is g d v → Is g' d v
  | .none, _, h => h
  | .bool _, _, h => h
  | .int _, _, h => h
  | .str _, _, h => h
  | .tup l, _, ⟨a, o, vs, n, e, h1, h2, h3, h4⟩ => ⟨a, o, vs, n, e, s _ _ h1, h2, h3, IsL.mono s l h4⟩
  | .lst l, _, ⟨a, o, vs, n, e, h1, h2, h3, h4⟩ => ⟨a, o, vs, n, e, s _ _ h1, h2, h3, IsL.mono s l h4⟩
  | .rng _ _ _, _, ⟨r, t, u, w, e, h⟩ => ⟨r, t, u, w, e, s _ _ h⟩
theorem IsL.mono {g g' : G} (s : Sub g g') : ∀ (l : List D) {vs : List Value}, IsL g l vs → IsL g' l vs
  | [], _, h => h
  | d :: ds, _, ⟨v, vs', e, h, h'⟩ => ⟨v, vs', e, Is.mono s d h, IsL.mono s ds h'⟩
end

theorem IsL.length {g : G} : ∀ {l : List D} {vs : List Value}, IsL g l vs → vs.length = l.length
  | [], vs, h => by rw [show vs = [] from h]; rfl
  | _ :: _, _, ⟨_, _, e, _, h⟩ => by rw [e, List.length_cons, List.length_cons, IsL.length h]
theorem IsL.get {g : G} : ∀ {l : List D} {vs : List Value} {i : Nat} {d : D}, IsL g l vs → l[i]? = some d → ∃ v, vs[i]? = some v ∧ Is g d v
  | d :: _, _, 0, d', ⟨v, vs', e, h, _⟩, q => by
    simp at q; subst q; exact ⟨v, by rw [e]; rfl, h⟩
  | _ :: ds, _, i + 1, d', ⟨v, vs', e, _, h⟩, q => by
    simp at q
    obtain ⟨w, hw, hi⟩ := IsL.get h q
    exact ⟨w, by rw [e]; simpa using hw, hi⟩
theorem IsL.append {g : G} : ∀ {l l' : List D} {vs vs' : List Value}, IsL g l vs → IsL g l' vs' → IsL g (l ++ l') (vs ++ vs')
  | [], _, _, _, h, h' => by rw [show _ = [] from h]; exact h'
  | _ :: _, _, _, _, ⟨v, r, e, h, h2⟩, h' => by rw [e]; exact ⟨v, _, rfl, h, IsL.append h2 h'⟩

/-- a value that bears no reference -/
def flat : D → Bool
  | .none | .bool _ | .int _ | .str _ => true
  | _ => false
theorem Is.flat {g g' : G} : ∀ {d : D} {v : Value}, flat d = true → Is g d v → Is g' d v
  | .none, _, _, h => h
  | .bool _, _, _, h => h
  | .int _, _, _, h => h
  | .str _, _, _, h => h

structure GI where
  prog : Program
  w : World
  mg : Str → Option Value
  mb : Str → Option Value
  Gl : Heap → Prop
  grow : ∀ {h h'}, Gl h → Grow h h' → Gl h'
  g : ∀ {h}, Gl h → h.Ns mainGlobals mg
  b : ∀ {h}, Gl h → h.Ns builtinsNs mb
  nolimit : ∀ {h}, Gl h → h.NoLimit
  boot : ∀ x : Str, x ≠ "__name__" → mb x = bootBuiltins x

abbrev R := List (Option D)
abbrev Ev := R → Option D

def Holds (env : Env) (h : Heap) (x : Str) (v : Value) : Prop :=
  (env.kindOf x = some .local ∧ ∃ m, h.Ns env.locals m ∧ m x = some v) ∨ (env.kindOf x = some .cell ∧ ∃ c, env.cells.lookup x = some c ∧ h.IsCell c (some v))
theorem Holds.grow {env : Env} {h h' : Heap} {x : Str} {v : Value} (k : Grow h h') : Holds env h x v → Holds env h' x v
  | .inl ⟨a, m, b, c⟩ => .inl ⟨a, m, b.keeps k, c⟩
  | .inr ⟨a, c, b, d⟩ => .inr ⟨a, c, b, d.keeps k⟩

structure View (I : GI) (env : Env) (ns : List Str) (g : G) (r : R) (h : Heap) : Prop where
  sub : Sub g h.get?
  gl : I.Gl h
  var : ∀ (i : Nat) (x : Str) (d : D), ns[i]? = some x → (env.kindOf x = some .local ∨ env.kindOf x = some .cell) → r[i]? = some (some d) → ∃ v, Is g d v ∧ Holds env h x v
theorem View.grow {I : GI} {env : Env} {ns : List Str} {g : G} {r : R} {h h' : Heap} (V : View I env ns g r h) (k : Grow h h') : View I env ns (ext g h h') r h' where
  sub := ext_in V.sub k
  gl := I.grow V.gl k
  var := fun i x d e ek e' => let ⟨v, a, b⟩ := V.var i x d e ek e'; ⟨v, Is.mono (ext_sub V.sub) d a, b.grow k⟩

def AOK (k : Nat) (A : Around) : Prop := A.handled = none ∧ A.depth + k < recursionLimit ∧ A.units + 3 * k + 200 < cLine
theorem AOK.deeper {k : Nat} {A : Around} {env : Env} (h : AOK (k + 1) A) : AOK k (A.deeper env) := by
  obtain ⟨a, b, c⟩ := h
  refine ⟨a, ?_, ?_⟩
  · show A.depth + 1 + k < _; omega
  · show A.units + 3 + 3 * k + 200 < _; omega
theorem AOK.le {k k' : Nat} {A : Around} (h : AOK k' A) (l : k ≤ k') : AOK k A := by
  obtain ⟨a, b, c⟩ := h
  exact ⟨a, by omega, by omega⟩

structure EnvS (sc : Scope) (env : Env) : Prop where
  scope : env.scope = sc
  globals : env.globals = mainGlobals
  builtins : env.builtins = builtinsNs
  cells : ∀ x, sc.names.lookup x = some .cell → (env.cells.lookup x).isSome = true

def Post (g : G) (s : Shared) (d : D) (Q : Value → Shared → Prop) : Prop :=
  ∀ v h' tk, Grow s.heap h' → Is (ext g s.heap h') d v → Q v { s with heap := h', toks := tk }

theorem Post.now {g : G} {s : Shared} {d : D} {Q : Value → Shared → Prop} {v : Value} {tk : Nat} (P : Post g s d Q) (sub : Sub g s.heap.get?) (h : Is g d v) : Q v { s with toks := tk } :=
  P v s.heap tk (Grow.refl _) (by rw [ext_self sub]; exact h)

/-- an expression's meaning -/
def EvOK (I : GI) (k : Nat) (sc : Scope) (ns : List Str) (e : Expr) (F : Ev) : Prop :=
  ∀ (env : Env) (A : Around) (g : G) (r : R) (s : Shared) (d : D) (Q : Value → Shared → Prop) (E : Value → Shared → Prop),
    EnvS sc env → AOK k A → View I env ns g r s.heap → F r = some d → Post g s d Q → wpAny (model I.prog I.w) A (eval e env) Q E s

section
variable {I : GI} {k : Nat} {sc : Scope} {ns : List Str}

/-- the step behind a first part: the rest goes on from a grown heap -/
theorem Post.step {g : G} {s : Shared} {d : D} {Q : Value → Shared → Prop} {h₁ : Heap} {tk : Nat} (P : Post g s d Q) (k₁ : Grow s.heap h₁) :
    Post (ext g s.heap h₁) { s with heap := h₁, toks := tk } d Q := fun v h' tk' k₂ h => P v h' tk' (k₁.trans k₂) (by rw [ext_ext k₁ k₂] at h; exact h)

def eVar (i : Nat) : Ev := fun r => match r[i]? with | some (some d) => some d | _ => none
theorem EvOK.var {x : Str} {pos : Pos} {i : Nat} (hk : sc.kind = .function) (hx : ns[i]? = some x) (hd : (x == ("__debug__" : Str)) = false) (hn : sc.names.lookup x = some .local ∨ sc.names.lookup x = some .cell) : EvOK I k sc ns (.Name x pos) (eVar i) := by
  intro env A g r s d Q E hS hA V hF P
  have e : r[i]? = some (some d) := by
    unfold eVar at hF
    split at hF
    · rename_i d' h; cases hF; exact h
    · cases hF
  obtain ⟨v, hi, hv⟩ := V.var i x d hx (by unfold Env.kindOf; rw [hS.scope]; exact hn) e
  refine wpAny_Name ?_ hd
  have q := P.now (tk := s.toks) V.sub hi
  rcases hv with ⟨hl, m, hn, hm⟩ | ⟨hl, c, hc, hv⟩
  · exact wpAny_loadName_local (hS.scope ▸ hk) hl hn hm q
  · exact wpAny_loadName_cell (hS.scope ▸ hk) hl hc hv q

def eCst (d : D) : Ev := fun _ => some d
theorem EvOK.cint {i : Int} {kk pos} : EvOK I k sc ns (.Constant (.int i) kk pos) (eCst (.int i)) := by
  intro env A g r s d Q E hS hA V hF P
  cases hF
  exact wpAny_Constant_int (P.now V.sub ⟨_, rfl⟩)
theorem EvOK.cstr {x : Str} {kk pos} : EvOK I k sc ns (.Constant (.str x) kk pos) (eCst (.str x)) := by
  intro env A g r s d Q E hS hA V hF P
  cases hF
  exact wpAny_Constant_str (P.now V.sub ⟨_, rfl⟩)
theorem EvOK.cbool {b : Bool} {kk pos} : EvOK I k sc ns (.Constant (.bool b) kk pos) (eCst (.bool b)) := by
  intro env A g r s d Q E hS hA V hF P
  cases hF
  exact wpAny_Constant_bool (P.now (tk := s.toks) V.sub rfl)
theorem EvOK.cnone {kk pos} : EvOK I k sc ns (.Constant .none kk pos) (eCst .none) := by
  intro env A g r s d Q E hS hA V hF P
  cases hF
  exact wpAny_Constant_none (P.now (tk := s.toks) V.sub rfl)

/-- two operands, then an operation on values -/
def OpOK (I : GI) (k : Nat) (op : Value → Value → Sem Value) (f : D → D → Option D) : Prop :=
  ∀ (A : Around) (g : G) (s : Shared) (x y d : D) (u v : Value) (Q : Value → Shared → Prop) (E : Value → Shared → Prop),
    AOK k A → Sub g s.heap.get? → I.Gl s.heap → Is g x u → Is g y v → f x y = some d → Post g s d Q → wpAny (model I.prog I.w) A (op u v) Q E s

def e2 (f : D → D → Option D) (F F' : Ev) : Ev := fun r => match F r with
  | some x => match F' r with
    | some y => f x y
    | none => none
  | none => none
theorem e2_some {f : D → D → Option D} {F F' : Ev} {r : R} {d : D} (h : e2 f F F' r = some d) : ∃ x y, F r = some x ∧ F' r = some y ∧ f x y = some d := by
  unfold e2 at h
  split at h
  · rename_i x hx
    split at h
    · rename_i y hy; exact ⟨x, y, hx, hy, h⟩
    · cases h
  · cases h

theorem EvOK.two {l r : Expr} {F F' : Ev} {op : Value → Value → Sem Value} {f : D → D → Option D} {e : Expr} (hl : EvOK I k sc ns l F) (hr : EvOK I k sc ns r F') (ho : OpOK I k op f)
    (he : ∀ (env : Env) (A : Around) (s : Shared) (Q : Value → Shared → Prop) (E : Value → Shared → Prop), EnvS sc env →
      wpAny (model I.prog I.w) A (eval l env) (fun a s₁ => wpAny (model I.prog I.w) A (eval r env) (fun b s₂ => wpAny (model I.prog I.w) A (op a b) Q E s₂) E s₁) E s → wpAny (model I.prog I.w) A (eval e env) Q E s) :
    EvOK I k sc ns e (e2 f F F') := by
  intro env A g r s d Q E hS hA V hF P
  obtain ⟨x, y, hx, hy, hf⟩ := e2_some hF
  refine he _ _ _ _ _ hS (hl env A g r s x _ E hS hA V hx fun u h₁ tk₁ k₁ hu => ?_)
  refine hr env A _ r _ y _ E hS hA (V.grow k₁) hy fun v h₂ tk₂ k₂ hv => ?_
  have V₂ := (V.grow k₁).grow k₂
  refine ho A _ _ x y d u v Q E hA V₂.sub V₂.gl (Is.mono (ext_sub (V.grow k₁).sub) x hu) hv hf ?_
  exact (P.step k₁).step (s := { s with heap := h₁, toks := tk₁ }) k₂

theorem EvOK.bin {l r : Expr} {op : Operator} {pos : Pos} {F F' : Ev} {f : D → D → Option D} (hl : EvOK I k sc ns l F) (hr : EvOK I k sc ns r F') (ho : OpOK I k (binaryOp op) f) :
    EvOK I k sc ns (.BinOp l op r pos) (e2 f F F') := EvOK.two hl hr ho fun _ _ _ _ _ _ h => wpAny_BinOp h
theorem EvOK.cmp {l r : Expr} {op : CmpOp} {pos : Pos} {F F' : Ev} {f : D → D → Option D} (hl : EvOK I k sc ns l F) (hr : EvOK I k sc ns r F') (ho : OpOK I k (compareOp op) f)
    (hm : behindInMarks op r = false) : EvOK I k sc ns (.Compare l [op] [r] pos) (e2 f F F') := EvOK.two hl hr ho fun _ _ _ _ _ _ h => wpAny_Compare1 h hm

end
end Mine
open PySem PySem.W PyProof.Rows PySem.Spec
set_option linter.unusedVariables false
set_option Elab.async false
set_option maxRecDepth 100000
namespace Mine
section
variable {I : GI} {k : Nat} {sc : Scope} {ns : List Str}

def mulOk (a b : Int) : Bool := !(decide (Builtin.Int.intBits a > shortFactorBits) && decide (Builtin.Int.intBits b > shortFactorBits) && Builtin.Int.intTooBig (Builtin.Int.intBits a + Builtin.Int.intBits b))
theorem mulOk_ok {a b : Int} (h : mulOk a b = true) : IntMulOk a b := by
  unfold IntMulOk; intro e; unfold mulOk at h; rw [e] at h; cases h
def divOk (a b : Int) : Bool := decide (b ≠ 0) && decide (b.natAbs.log2 < 9000)
def powOk (a n : Int) : Bool := decide (0 ≤ n) && decide ((Builtin.Int.intBits a : Int) * n ≤ 2 ^ 27)

theorem Is.isList {g : G} {h : Heap} {l : List D} {v : Value} (s : Sub g h.get?) (i : Is g (.lst l) v) : ∃ a vs, v = .ref a ∧ h.IsList a vs ∧ IsL g l vs.toList := by
  obtain ⟨a, o, vs, n, e, h1, h2, h3, h4⟩ := i
  exact ⟨a, vs, e, ⟨o, s _ _ h1, h2, n, h3⟩, h4⟩
theorem Is.isTup {g : G} {h : Heap} {l : List D} {v : Value} (s : Sub g h.get?) (i : Is g (.tup l) v) : ∃ a vs, v = .ref a ∧ IsTup h a vs ∧ IsL g l vs.toList := by
  obtain ⟨a, o, vs, n, e, h1, h2, h3, h4⟩ := i
  exact ⟨a, vs, e, ⟨o, s _ _ h1, h2, n, h3⟩, h4⟩

/-- a new object behind the heap -/
theorem Post.push {g : G} {s : Shared} {d : D} {Q : Value → Shared → Prop} {o : Obj} {tk : Nat} (P : Post g s d Q) (sub : Sub g s.heap.get?) (hf : o.isFreed = false)
    (h : ∀ g', g' s.heap.objs.size = some o → Sub g g' → Is g' d (.ref s.heap.objs.size)) : Q (.ref s.heap.objs.size) { s with heap := s.heap.push o, toks := tk } := by
  refine P _ _ tk (Grow.push _ _) (h _ ?_ (ext_sub sub))
  have hn : s.heap.get? s.heap.objs.size = none := by
    cases q : s.heap.get? s.heap.objs.size with
    | none => rfl
    | some o' => exact absurd (Heap.lt_size q) (Nat.lt_irrefl _)
  rw [ext_new hn]
  exact Heap.get?_push_size _ hf

theorem Post.newTuple {g : G} {s : Shared} {l : List D} {vs : List Value} {Q : Value → Shared → Prop} {tk : Nat} (P : Post g s (.tup l) Q) (sub : Sub g s.heap.get?) (h : IsL g l vs) :
    Q (.ref s.heap.objs.size) { s with heap := s.heap.push { cls := .type "tuple", data := .seq vs.toArray }, toks := tk } :=
  P.push sub rfl fun g' e k => ⟨_, _, _, _, rfl, e, rfl, rfl, IsL.mono k l h⟩
theorem Post.newList {g : G} {s : Shared} {l : List D} {vs : List Value} {Q : Value → Shared → Prop} {tk : Nat} (P : Post g s (.lst l) Q) (sub : Sub g s.heap.get?) (h : IsL g l vs) :
    Q (.ref s.heap.objs.size) { s with heap := s.heap.push { cls := .type "list", data := .seq vs.toArray }, toks := tk } :=
  P.push sub rfl fun g' e k => ⟨_, _, _, _, rfl, e, rfl, rfl, IsL.mono k l h⟩

def fAdd : D → D → Option D
  | .int a, .int b => some (.int (a + b))
  | .str a, .str b => if a.length + b.length ≤ sizeLine then some (.str (a ++ b)) else none
  | .lst a, .lst b => if a.length + b.length ≤ sizeLine then some (.lst (a ++ b)) else none
  | _, _ => none
theorem OpOK.add : OpOK I k (binaryOp .Add) fAdd := by
  intro A g s x y d u v Q E hA sub gl hx hy hf P
  unfold fAdd at hf
  split at hf
  · obtain ⟨t, rfl⟩ := hx
    obtain ⟨t', rfl⟩ := hy
    cases hf
    exact PySem.P.add_int (P.now sub ⟨_, rfl⟩)
  · rename_i a b
    obtain ⟨t, rfl⟩ := hx
    obtain ⟨t', rfl⟩ := hy
    split at hf
    · rename_i hz
      cases hf
      exact SB.add (fun t' k => P.now sub ⟨_, rfl⟩) hz
    · cases hf
  · rename_i a b
    split at hf
    · rename_i hz
      cases hf
      obtain ⟨l, o, vs, n, rfl, h1, h2, h3, h4⟩ := hx
      obtain ⟨l', o', vs', n', rfl, h1', h2', h3', h4'⟩ := hy
      obtain ⟨cls, dd, data, sl⟩ := o
      obtain ⟨cls', dd', data', sl'⟩ := o'
      simp only at h2 h3 h2' h3'
      subst h2 h3 h2' h3'
      have e1 := h4.length
      have e2 := h4'.length
      refine concat_meets ⟨_, sub _ _ h1, rfl⟩ ⟨_, sub _ _ h1', rfl⟩ noFill_list_add seq_list_add PySem.F.slot_list_add PySem.F.entry_list_add (PySem.F.args_list_add_2 _ _)
        (list_addW l l' vs vs' n n' dd dd' sl sl' (by simp only [Array.length_toList] at e1 e2; omega)) ⟨sub _ _ h1, sub _ _ h1', ?_⟩
      have e : vs ++ vs' = (vs.toList ++ vs'.toList).toArray := by simp
      rw [e]
      exact P.newList sub (IsL.append h4 h4')
    · cases hf
  · cases hf

def fSub : D → D → Option D
  | .int a, .int b => some (.int (a - b))
  | _, _ => none
theorem OpOK.sub : OpOK I k (binaryOp .Sub) fSub := by
  intro A g s x y d u v Q E hA sub gl hx hy hf P
  unfold fSub at hf
  split at hf
  · obtain ⟨t, rfl⟩ := hx
    obtain ⟨t', rfl⟩ := hy
    cases hf
    exact PySem.P.sub_int (P.now sub ⟨_, rfl⟩)
  · cases hf
def fMul : D → D → Option D
  | .int a, .int b => if mulOk a b = true then some (.int (a * b)) else none
  | _, _ => none
theorem OpOK.mul : OpOK I k (binaryOp .Mult) fMul := by
  intro A g s x y d u v Q E hA sub gl hx hy hf P
  unfold fMul at hf
  split at hf
  · obtain ⟨t, rfl⟩ := hx
    obtain ⟨t', rfl⟩ := hy
    split at hf
    · rename_i hm
      cases hf
      exact PySem.P.mul_int (P.now sub ⟨_, rfl⟩) (mulOk_ok hm)
    · cases hf
  · cases hf
def fDiv : D → D → Option D
  | .int a, .int b => if divOk a b = true then some (.int (a.fdiv b)) else none
  | _, _ => none
theorem OpOK.div : OpOK I k (binaryOp .FloorDiv) fDiv := by
  intro A g s x y d u v Q E hA sub gl hx hy hf P
  unfold fDiv at hf
  split at hf
  · obtain ⟨t, rfl⟩ := hx
    obtain ⟨t', rfl⟩ := hy
    split at hf
    · rename_i hm
      cases hf
      simp only [divOk, Bool.and_eq_true, decide_eq_true_eq] at hm
      exact floordiv_int hm.1 (P.now sub ⟨_, rfl⟩) (.inl (PyProof.noPylong_of_log2 hm.2))
    · cases hf
  · cases hf
def fMod : D → D → Option D
  | .int a, .int b => if b ≠ 0 then some (.int (a.fmod b)) else none
  | _, _ => none
theorem OpOK.mod : OpOK I k (binaryOp .Mod) fMod := by
  intro A g s x y d u v Q E hA sub gl hx hy hf P
  unfold fMod at hf
  split at hf
  · obtain ⟨t, rfl⟩ := hx
    obtain ⟨t', rfl⟩ := hy
    split at hf
    · rename_i hm
      cases hf
      exact mod_int' hm (P.now sub ⟨_, rfl⟩)
    · cases hf
  · cases hf
def fPow : D → D → Option D
  | .int a, .int b => if powOk a b = true then some (.int (a ^ b.toNat)) else none
  | _, _ => none
theorem OpOK.pow : OpOK I k (binaryOp .Pow) fPow := by
  intro A g s x y d u v Q E hA sub gl hx hy hf P
  unfold fPow at hf
  split at hf
  · obtain ⟨t, rfl⟩ := hx
    obtain ⟨t', rfl⟩ := hy
    split at hf
    · rename_i hm
      cases hf
      simp only [powOk, Bool.and_eq_true, decide_eq_true_eq] at hm
      exact pow_int hm.1 hm.2 (P.now sub ⟨_, rfl⟩)
    · cases hf
  · cases hf
def fAnd : D → D → Option D
  | .int a, .int b => some (.int (Builtin.bitAnd a b))
  | _, _ => none
theorem OpOK.and : OpOK I k (binaryOp .BitAnd) fAnd := by
  intro A g s x y d u v Q E hA sub gl hx hy hf P
  unfold fAnd at hf
  split at hf
  · obtain ⟨t, rfl⟩ := hx
    obtain ⟨t', rfl⟩ := hy
    cases hf
    exact and_int (P.now sub ⟨_, rfl⟩)
  · cases hf

def fOrd (f : Int → Int → Bool) : D → D → Option D
  | .int a, .int b => some (.bool (f a b))
  | _, _ => none
theorem OpOK.lt : OpOK I k (compareOp .Lt) (fOrd fun a b => decide (a < b)) := by
  intro A g s x y d u v Q E hA sub gl hx hy hf P
  unfold fOrd at hf
  split at hf
  · obtain ⟨t, rfl⟩ := hx
    obtain ⟨t', rfl⟩ := hy
    cases hf
    exact PySem.P.lt_int (P.now (tk := s.toks) sub rfl)
  · cases hf
theorem OpOK.le : OpOK I k (compareOp .LtE) (fOrd fun a b => decide (a ≤ b)) := by
  intro A g s x y d u v Q E hA sub gl hx hy hf P
  unfold fOrd at hf
  split at hf
  · obtain ⟨t, rfl⟩ := hx
    obtain ⟨t', rfl⟩ := hy
    cases hf
    exact PySem.P.le_int (P.now (tk := s.toks) sub rfl)
  · cases hf
theorem OpOK.gt : OpOK I k (compareOp .Gt) (fOrd fun a b => decide (b < a)) := by
  intro A g s x y d u v Q E hA sub gl hx hy hf P
  unfold fOrd at hf
  split at hf
  · obtain ⟨t, rfl⟩ := hx
    obtain ⟨t', rfl⟩ := hy
    cases hf
    exact PySem.P.gt_int (P.now (tk := s.toks) sub rfl)
  · cases hf
theorem OpOK.ge : OpOK I k (compareOp .GtE) (fOrd fun a b => decide (b ≤ a)) := by
  intro A g s x y d u v Q E hA sub gl hx hy hf P
  unfold fOrd at hf
  split at hf
  · obtain ⟨t, rfl⟩ := hx
    obtain ⟨t', rfl⟩ := hy
    cases hf
    exact PySem.P.ge_int (P.now (tk := s.toks) sub rfl)
  · cases hf

mutual
def py : D → PyData
  | .none => .none
  | .bool b => .bool b
  | .int i => .int i
  | .str x => .str x
  | .tup l => .tuple (pyL l)
  | .lst l => .list (pyL l)
  | .rng _ _ _ => .none
def pyL : List D → List PyData
  | [] => []
  | d :: r => py d :: pyL r
end
mutual
def noRng : D → Bool
  | .none | .bool _ | .int _ | .str _ => true
  | .tup l => noRngL l
  | .lst l => noRngL l
  | .rng _ _ _ => false
def noRngL : List D → Bool
  | [] => true
  | d :: r => noRng d && noRngL r
end
mutual
theorem Is.reads {g : G} {h : Heap} (s : Sub g h.get?) : ∀ {d : D} {v : Value}, noRng d = true → Is g d v → ∃ as, Reads h v (py d) as
  | .none, _, _, e => by rw [show _ = Value.none from e]; exact ⟨_, Reads.none⟩
  | .bool b, _, _, e => by rw [show _ = Value.bool b from e]; exact ⟨_, Reads.bool b⟩
  | .int i, _, _, ⟨t, e⟩ => by rw [e]; exact ⟨_, Reads.int i t⟩
  | .str x, _, _, ⟨t, e⟩ => by rw [e]; exact ⟨_, Reads.str x t⟩
  | .tup l, _, hn, ⟨a, o, vs, n, e, h1, h2, h3, h4⟩ => by
    obtain ⟨as, q⟩ := IsL.reads s (by simpa [noRng] using hn) h4
    rw [e, py]
    exact ⟨as, reads_tuple_at (s _ _ h1) h2 h3 (by simpa using q)⟩
  | .lst l, _, hn, ⟨a, o, vs, n, e, h1, h2, h3, h4⟩ => by
    obtain ⟨as, q⟩ := IsL.reads s (by simpa [noRng] using hn) h4
    rw [e, py]
    exact ⟨_, reads_list_at (s _ _ h1) h2 h3 (by simpa using q)⟩
theorem IsL.reads {g : G} {h : Heap} (s : Sub g h.get?) : ∀ {l : List D} {vs : List Value}, noRngL l = true → IsL g l vs → ∃ as, ReadsAll h vs (pyL l) as
  | [], vs, _, e => by rw [show vs = [] from e]; exact ⟨_, ReadsAll.nil⟩
  | d :: r, _, hn, ⟨v, vs', e, h1, h2⟩ => by
    simp only [noRngL, Bool.and_eq_true] at hn
    obtain ⟨as, q⟩ := Is.reads s hn.1 h1
    obtain ⟨bs, p⟩ := IsL.reads s hn.2 h2
    rw [e, pyL]
    exact ⟨_, ReadsAll.cons q p⟩
end

def eqOk (x y : D) : Bool := noRng x && noRng y && SeqAt.shaped (py x) && SeqAt.shaped (py y)
def fEq : D → D → Option D
  | .int a, .int b => some (.bool (a == b))
  | x, y => if eqOk x y = true then some (.bool (PyData.eqv (py x) (py y))) else none
theorem AOK.u64 {A : Around} (h : AOK k A) : A.units + 64 < cLine := by have := h.2.2; omega
theorem OpOK.eq : OpOK I k (compareOp .Eq) fEq := by
  intro A g s x y d u v Q E hA sub gl hx hy hf P
  unfold fEq at hf
  split at hf
  · obtain ⟨t, rfl⟩ := hx
    obtain ⟨t', rfl⟩ := hy
    cases hf
    exact PySem.P.eq_int (P.now (tk := s.toks) sub rfl)
  · split at hf
    · rename_i he
      cases hf
      simp only [eqOk, Bool.and_eq_true] at he
      obtain ⟨as, ra⟩ := Is.reads sub he.1.1.1 hx
      obtain ⟨bs, rb⟩ := Is.reads sub he.1.1.2 hy
      exact eq_dataH ra rb he.1.2 he.2 hA.u64 (P.now (tk := s.toks) sub rfl)
    · cases hf
def fNe : D → D → Option D
  | .int a, .int b => some (.bool (a != b))
  | x, y => if eqOk x y = true then some (.bool (!PyData.eqv (py x) (py y))) else none
theorem OpOK.ne : OpOK I k (compareOp .NotEq) fNe := by
  intro A g s x y d u v Q E hA sub gl hx hy hf P
  unfold fNe at hf
  split at hf
  · obtain ⟨t, rfl⟩ := hx
    obtain ⟨t', rfl⟩ := hy
    cases hf
    exact PySem.P.ne_int (P.now (tk := s.toks) sub rfl)
  · split at hf
    · rename_i he
      cases hf
      simp only [eqOk, Bool.and_eq_true] at he
      obtain ⟨as, ra⟩ := Is.reads sub he.1.1.1 hx
      obtain ⟨bs, rb⟩ := Is.reads sub he.1.1.2 hy
      exact ne_dataH ra rb he.1.2 he.2 hA.u64 (P.now (tk := s.toks) sub rfl)
    · cases hf
end
end Mine
open PySem PySem.W PyProof.Rows PySem.Spec
set_option linter.unusedVariables false
set_option Elab.async false
set_option maxRecDepth 100000
namespace Mine
section
variable {I : GI} {k : Nat} {sc : Scope} {ns : List Str}

/-- one operand -/
def e1 (f : D → Option D) (F : Ev) : Ev := fun r => match F r with
  | some x => f x
  | none => none
def fNeg : D → Option D
  | .int a => some (.int (-a))
  | _ => none
theorem EvOK.neg {x : Expr} {pos : Pos} {F : Ev} (hx : EvOK I k sc ns x F) : EvOK I k sc ns (.UnaryOp .USub x pos) (e1 fNeg F) := by
  intro env A g r s d Q E hS hA V hF P
  unfold e1 at hF
  split at hF
  · rename_i y hy
    unfold fNeg at hF
    split at hF
    · cases hF
      refine UnaryOp_ (hx env A g r s _ _ E hS hA V hy fun v h₁ tk₁ k₁ hv => ?_)
      obtain ⟨t, rfl⟩ := hv
      exact PySem.P.neg_int ((P.step k₁).now (V.grow k₁).sub ⟨_, rfl⟩)
    · cases hF
  · cases hF

/-- truth -/
def fTruth : D → Option Bool
  | .none => some false
  | .bool b => some b
  | .int i => some (i != 0)
  | .lst l => if l.length ≤ sizeLine then some (!l.isEmpty) else none
  | _ => none
theorem truth_ok {A : Around} {g : G} {s : Shared} {d : D} {v : Value} {b : Bool} {Q : Bool → Shared → Prop} {E : Value → Shared → Prop} (sub : Sub g s.heap.get?) (h : Is g d v) (hf : fTruth d = some b)
    (hq : ∀ tk, Q b { s with toks := tk }) : wpAny (model I.prog I.w) A (truthy v) Q E s := by
  unfold fTruth at hf
  split at hf
  · cases hf
    rw [show v = .none from h]
    exact truthy_none (hq s.toks)
  · cases hf
    rw [show v = .bool _ from h]
    exact wpAny_truthy_bool (hq s.toks)
  · cases hf
    obtain ⟨t, rfl⟩ := h
    exact PySem.P.truthy_int (hq s.toks)
  · rename_i l
    split at hf
    · rename_i hz
      cases hf
      obtain ⟨a, vs, rfl, hl, hi⟩ := h.isList sub
      have e := hi.length
      have e' : (!vs.isEmpty) = !l.isEmpty := by
        cases l with
        | nil =>
          have : vs.toList = [] := hi
          have : vs = #[] := by simpa using this
          rw [this]; rfl
        | cons x r =>
          simp only [Array.length_toList, List.length_cons] at e
          have h0 : vs.size ≠ 0 := by omega
          simp [Array.isEmpty, h0]
      refine wpAny_truthy_list hl ?_ ?_
      · simp only [Array.length_toList] at e
        have hs : sizeLine = 2 ^ 24 := by rw [sizeLine_eq]
        omega
      · rw [e']; exact hq _
    · cases hf
  · cases hf

abbrev Tr := R → Option Bool
def TrOK (I : GI) (k : Nat) (sc : Scope) (ns : List Str) (e : Expr) (F : Tr) : Prop :=
  ∀ (env : Env) (A : Around) (g : G) (r : R) (s : Shared) (b : Bool) (Q : Bool → Shared → Prop) (E : Value → Shared → Prop),
    EnvS sc env → AOK k A → View I env ns g r s.heap → F r = some b → (∀ h' tk, Grow s.heap h' → Q b { s with heap := h', toks := tk }) → wpAny (model I.prog I.w) A (isTrue e env (eval e env)) Q E s

def tOf (F : Ev) : Tr := fun r => match F r with
  | some x => fTruth x
  | none => none
theorem TrOK.plain {e : Expr} {F : Ev} (h : EvOK I k sc ns e F) (he : ∀ env whole, isTrue e env whole = (do let v ← whole; standAt e.pos; holding [v] (truthy v))) : TrOK I k sc ns e (tOf F) := by
  intro env A g r s b Q E hS hA V hF P
  unfold tOf at hF
  split at hF
  · rename_i x hx
    refine isTrue_plain (h env A g r s x _ E hS hA V hx fun v h₁ tk₁ k₁ hv => ?_) (he _ _)
    exact truth_ok (s := { s with heap := h₁, toks := tk₁ }) (V.grow k₁).sub hv hF fun tk => P _ _ k₁
  · cases hF
theorem TrOK.cmp {l r : Expr} {op : CmpOp} {pos : Pos} {F F' : Ev} {f : D → D → Option D} (hl : EvOK I k sc ns l F) (hr : EvOK I k sc ns r F') (ho : OpOK I k (compareOp op) f)
    (hm : behindInMarks op r = false) : TrOK I k sc ns (.Compare l [op] [r] pos) (tOf (e2 f F F')) := by
  intro env A g rr s b Q E hS hA V hF P
  unfold tOf at hF
  split at hF
  · rename_i d hd
    obtain ⟨x, y, hx, hy, hf⟩ := e2_some hd
    refine wpAny_isTrue_Compare1 (hl env A g rr s x _ E hS hA V hx fun u h₁ tk₁ k₁ hu => ?_) hm
    refine hr env A _ rr _ y _ E hS hA (V.grow k₁) hy fun v h₂ tk₂ k₂ hv => ?_
    have V₂ := (V.grow k₁).grow k₂
    refine ho A _ _ x y d u v _ E hA V₂.sub V₂.gl (Is.mono (ext_sub (V.grow k₁).sub) x hu) hv hf fun c h₃ tk₃ k₃ hc => ?_
    exact truth_ok (s := { s with heap := h₃, toks := tk₃ }) (V₂.grow k₃).sub hc hF fun tk => P _ _ ((k₁.trans k₂).trans k₃)
  · cases hF
def tNot (F : Tr) : Tr := fun r => match F r with
  | some b => some (!b)
  | none => none
theorem TrOK.not {x : Expr} {pos : Pos} {F : Tr} (h : TrOK I k sc ns x F) : TrOK I k sc ns (.UnaryOp .Not x pos) (tNot F) := by
  intro env A g r s b Q E hS hA V hF P
  unfold tNot at hF
  split at hF
  · rename_i c hc
    cases hF
    exact isTrue_not (h env A g r s c _ E hS hA V hc P)
  · cases hF
def tAnd (F F' : Tr) : Tr := fun r => match F r with
  | some true => F' r
  | some false => some false
  | none => none
def tOr (F F' : Tr) : Tr := fun r => match F r with
  | some true => some true
  | some false => F' r
  | none => none
theorem TrOK.and {x : Expr} {rest : List Expr} {pos : Pos} {F F' : Tr} (h : TrOK I k sc ns x F) (h' : TrOK I k sc ns (.BoolOp .And rest pos) F') : TrOK I k sc ns (.BoolOp .And (x :: rest) pos) (tAnd F F') := by
  intro env A g r s b Q E hS hA V hF P
  unfold tAnd at hF
  split at hF
  · rename_i hc
    refine isTrue_and (h env A g r s _ _ E hS hA V hc fun h₁ tk k₁ => ?_)
    exact h' env A _ r _ b Q E hS hA (V.grow k₁) hF fun h₂ tk₂ k₂ => P _ _ (k₁.trans k₂)
  · rename_i hc
    cases hF
    exact isTrue_and (h env A g r s _ _ E hS hA V hc fun h₁ tk k₁ => P _ _ k₁)
  · cases hF
theorem TrOK.and0 {pos : Pos} : TrOK I k sc ns (.BoolOp .And [] pos) (fun _ => some true) := by
  intro env A g r s b Q E hS hA V hF P
  cases hF
  exact isTrue_and_nil (P s.heap s.toks (Grow.refl _))
theorem TrOK.or {x : Expr} {rest : List Expr} {pos : Pos} {F F' : Tr} (h : TrOK I k sc ns x F) (h' : TrOK I k sc ns (.BoolOp .Or rest pos) F') : TrOK I k sc ns (.BoolOp .Or (x :: rest) pos) (tOr F F') := by
  intro env A g r s b Q E hS hA V hF P
  unfold tOr at hF
  split at hF
  · rename_i hc
    cases hF
    exact isTrue_or (h env A g r s _ _ E hS hA V hc fun h₁ tk k₁ => P _ _ k₁)
  · rename_i hc
    refine isTrue_or (h env A g r s _ _ E hS hA V hc fun h₁ tk k₁ => ?_)
    exact h' env A _ r _ b Q E hS hA (V.grow k₁) hF fun h₂ tk₂ k₂ => P _ _ (k₁.trans k₂)
  · cases hF
theorem TrOK.or0 {pos : Pos} : TrOK I k sc ns (.BoolOp .Or [] pos) (fun _ => some false) := by
  intro env A g r s b Q E hS hA V hF P
  cases hF
  exact isTrue_or_nil (P s.heap s.toks (Grow.refl _))

/-- a value's not, and, or -/
def eNot (F : Ev) : Ev := fun r => match F r with
  | some x => match fTruth x with
    | some b => some (.bool (!b))
    | none => none
  | none => none
theorem EvOK.not {x : Expr} {pos : Pos} {F : Ev} (hx : EvOK I k sc ns x F) : EvOK I k sc ns (.UnaryOp .Not x pos) (eNot F) := by
  intro env A g r s d Q E hS hA V hF P
  unfold eNot at hF
  split at hF
  · rename_i y hy
    split at hF
    · rename_i b hb
      cases hF
      refine UnaryOp_ (hx env A g r s y _ E hS hA V hy fun v h₁ tk₁ k₁ hv => ?_)
      refine not_of (truth_ok (s := { s with heap := h₁, toks := tk₁ }) (V.grow k₁).sub hv hb fun tk => ?_)
      exact P _ h₁ tk k₁ rfl
    · cases hF
  · cases hF
def eAnd (F F' : Ev) : Ev := fun r => match F r with
  | some x => match fTruth x with
    | some true => F' r
    | some false => some x
    | none => none
  | none => none
def eOr (F F' : Ev) : Ev := fun r => match F r with
  | some x => match fTruth x with
    | some true => some x
    | some false => F' r
    | none => none
  | none => none
theorem EvOK.bool1 {op : BoolOp} {x : Expr} {pos : Pos} {F : Ev} (hx : EvOK I k sc ns x F) : EvOK I k sc ns (.BoolOp op [x] pos) F := fun env A g r s d Q E hS hA V hF P =>
  BoolOp_one (hx env A g r s d Q E hS hA V hF P)
theorem EvOK.and {x y : Expr} {rest : List Expr} {pos : Pos} {F F' : Ev} (hx : EvOK I k sc ns x F) (hy : EvOK I k sc ns (.BoolOp .And (y :: rest) pos) F') : EvOK I k sc ns (.BoolOp .And (x :: y :: rest) pos) (eAnd F F') := by
  intro env A g r s d Q E hS hA V hF P
  unfold eAnd at hF
  split at hF
  · rename_i z hz
    split at hF
    · rename_i hb
      refine BoolOp_and (hx env A g r s z _ E hS hA V hz fun v h₁ tk₁ k₁ hv => ?_)
      refine truth_ok (s := { s with heap := h₁, toks := tk₁ }) (V.grow k₁).sub hv hb fun tk => ?_
      exact hy env A _ r _ d Q E hS hA (V.grow k₁) hF (P.step k₁)
    · rename_i hb
      cases hF
      refine BoolOp_and (hx env A g r s _ _ E hS hA V hz fun v h₁ tk₁ k₁ hv => ?_)
      refine truth_ok (s := { s with heap := h₁, toks := tk₁ }) (V.grow k₁).sub hv hb fun tk => ?_
      exact P _ _ _ k₁ hv
    · cases hF
  · cases hF
theorem EvOK.or {x y : Expr} {rest : List Expr} {pos : Pos} {F F' : Ev} (hx : EvOK I k sc ns x F) (hy : EvOK I k sc ns (.BoolOp .Or (y :: rest) pos) F') : EvOK I k sc ns (.BoolOp .Or (x :: y :: rest) pos) (eOr F F') := by
  intro env A g r s d Q E hS hA V hF P
  unfold eOr at hF
  split at hF
  · rename_i z hz
    split at hF
    · rename_i hb
      cases hF
      refine BoolOp_or (hx env A g r s _ _ E hS hA V hz fun v h₁ tk₁ k₁ hv => ?_)
      refine truth_ok (s := { s with heap := h₁, toks := tk₁ }) (V.grow k₁).sub hv hb fun tk => ?_
      exact P _ _ _ k₁ hv
    · rename_i hb
      refine BoolOp_or (hx env A g r s z _ E hS hA V hz fun v h₁ tk₁ k₁ hv => ?_)
      refine truth_ok (s := { s with heap := h₁, toks := tk₁ }) (V.grow k₁).sub hv hb fun tk => ?_
      exact hy env A _ r _ d Q E hS hA (V.grow k₁) hF (P.step k₁)
    · cases hF
  · cases hF

/-- rows of expressions -/
abbrev Evs := R → Option (List D)
def EvsOK (I : GI) (k : Nat) (sc : Scope) (ns : List Str) (es : List Expr) (F : Evs) : Prop :=
  ∀ (env : Env) (A : Around) (g : G) (r : R) (s : Shared) (ds : List D) (pos : Pos) (Q : List Value → Shared → Prop) (E : Value → Shared → Prop),
    EnvS sc env → AOK k A → View I env ns g r s.heap → F r = some ds → (∀ vs h' tk, Grow s.heap h' → IsL (ext g s.heap h') ds vs → Q vs { s with heap := h', toks := tk }) →
    wpAny (model I.prog I.w) A (spliced (backTo pos (starEach es env))) Q E s
def es0 : Evs := fun _ => some []
def esC (F : Ev) (Fs : Evs) : Evs := fun r => match F r with
  | some d => match Fs r with
    | some ds => some (d :: ds)
    | none => none
  | none => none
theorem EvsOK.nil : EvsOK I k sc ns [] es0 := by
  intro env A g r s ds pos Q E hS hA V hF P
  cases hF
  exact args_nil (P [] s.heap s.toks (Grow.refl _) rfl)
theorem EvsOK.cons {e : Expr} {es : List Expr} {F : Ev} {Fs : Evs} (h : EvOK I k sc ns e F) (hs : EvsOK I k sc ns es Fs) (he : ∀ env, starEach (e :: es) env = (false, eval e env) :: starEach es env) :
    EvsOK I k sc ns (e :: es) (esC F Fs) := by
  intro env A g r s ds pos Q E hS hA V hF P
  unfold esC at hF
  split at hF
  · rename_i d hd
    split at hF
    · rename_i ds' hds
      cases hF
      refine args_cons (h env A g r s d _ E hS hA V hd fun v h₁ tk₁ k₁ hv => ?_) (he env)
      refine hs env A _ r _ ds' pos _ E hS hA (V.grow k₁) hds fun vs h₂ tk₂ k₂ hvs => ?_
      refine P _ _ _ (k₁.trans k₂) ⟨v, vs, rfl, ?_, ?_⟩
      · rw [← ext_ext k₁ k₂]; exact Is.mono (ext_sub (V.grow k₁).sub) d hv
      · rw [← ext_ext k₁ k₂]; exact hvs
    · cases hF
  · cases hF

def eTup (Fs : Evs) : Ev := fun r => match Fs r with
  | some ds => if ds.length ≤ sizeLine then some (.tup ds) else none
  | none => none
def eLst (Fs : Evs) : Ev := fun r => match Fs r with
  | some ds => if ds.length ≤ sizeLine then some (.lst ds) else none
  | none => none
theorem EvOK.tup {es : List Expr} {kk : Nat} {pos : Pos} {Fs : Evs} (h : EvsOK I k sc ns es Fs) : EvOK I k sc ns (.Tuple es kk pos) (eTup Fs) := by
  intro env A g r s d Q E hS hA V hF P
  unfold eTup at hF
  split at hF
  · rename_i ds hds
    split at hF
    · rename_i hz
      cases hF
      refine wpAny_Tuple (h env A g r s ds pos _ E hS hA V hds fun vs h₁ tk₁ k₁ hvs => ⟨by rw [hvs.length]; exact hz, ?_⟩)
      exact (P.step (tk := tk₁) k₁).newTuple (V.grow k₁).sub hvs
    · cases hF
  · cases hF
theorem EvOK.lst {es : List Expr} {pos : Pos} {Fs : Evs} (h : EvsOK I k sc ns es Fs) : EvOK I k sc ns (.List es pos) (eLst Fs) := by
  intro env A g r s d Q E hS hA V hF P
  unfold eLst at hF
  split at hF
  · rename_i ds hds
    split at hF
    · rename_i hz
      cases hF
      refine wpAny_List (h env A g r s ds pos _ E hS hA V hds fun vs h₁ tk₁ k₁ hvs => ⟨by rw [hvs.length]; exact hz, ?_⟩)
      exact (P.step (tk := tk₁) k₁).newList (V.grow k₁).sub hvs
    · cases hF
  · cases hF

/-- calls -/
def PrimOK (I : GI) (k : Nat) (f : Value) (F : List D → Option D) : Prop :=
  ∀ (A : Around) (g : G) (s : Shared) (ds : List D) (vs : List Value) (d : D) (Q : Value → Shared → Prop) (E : Value → Shared → Prop),
    AOK k A → Sub g s.heap.get? → I.Gl s.heap → F ds = some d → IsL g ds vs → Post g s d Q → wpAny (model I.prog I.w) A (call f vs) Q E s
structure FunOK (I : GI) (k : Nat) (x : Str) (F : List D → Option D) : Prop where
  ok : ∃ f, (I.mg x = some f ∨ (I.mg x = none ∧ x ≠ "__name__" ∧ bootBuiltins x = some f)) ∧
    (∀ h, I.Gl h → ∃ kp, (kp = Keeper.frame ∨ kp = Keeper.machine ∨ kp = Keeper.boundFrame) ∧ Looks (model I.prog I.w) h (keeperOf f) kp) ∧ PrimOK I k f F
theorem FunOK.le {k' : Nat} {x : Str} {F : List D → Option D} (h : FunOK I k x F) (l : k ≤ k') : FunOK I k' x F :=
  let ⟨f, a, b, c⟩ := h.ok
  ⟨f, a, b, fun A g s ds vs d Q E hA => c A g s ds vs d Q E (hA.le l)⟩

def eCall (F : List D → Option D) (Fs : Evs) : Ev := fun r => match Fs r with
  | some ds => F ds
  | none => none
theorem EvOK.call {x : Str} {px pos : Pos} {args : List Expr} {F : List D → Option D} {Fs : Evs} (hf : FunOK I k x F) (ha : EvsOK I k sc ns args Fs) (hk : sc.kind = .function)
    (hx : sc.names.lookup x = some .globalImplicit) (hd : (x == ("__debug__" : Str)) = false) (hp : ∀ env, (backTo pos (starEach args env)).any (·.1) = false) (hne : args.isEmpty = false)
    (hs : ∀ env, ∃ t rest, backTo pos (starEach args env) = (false, t) :: rest) :
    EvOK I k sc ns (.Call (.Name x px) args [] pos) (eCall F Fs) := by
  intro env A g r s d Q E hS hA V hF P
  unfold eCall at hF
  split at hF
  · rename_i ds hds
    obtain ⟨f, hn, hkp, hcall⟩ := hf.ok
    refine Call_ ?_ rfl
    have go : wpAny (model I.prog I.w) A (callWith pos f [] (backTo pos (starEach args env)) []) Q E s := by
      refine callWith_of (P := I.Gl) (by rw [hp env]; rfl) hkp ?_
      obtain ⟨t, rest, e⟩ := hs env
      rw [e]
      refine Calls.evalArgs_plain ?_
      rw [← e]
      refine ha env A g r s ds pos _ E hS hA V hds fun vs h₁ tk₁ k₁ hvs => ⟨I.grow V.gl k₁, ?_⟩
      exact hcall A _ _ ds vs d Q E hA (V.grow k₁).sub (I.grow V.gl k₁) hF hvs (P.step k₁)
    have hx' : env.kindOf x = some .globalImplicit := by unfold Env.kindOf; rw [hS.scope]; exact hx
    refine Calls.Name_function_global (hS.scope ▸ hk) hx' ?_ hd
    rcases hn with hn | ⟨hn, hne', hb⟩
    · exact Calls.loadGlobal_global (hS.globals ▸ I.g V.gl) hn go
    · exact Calls.loadGlobal_builtin (hS.globals ▸ I.g V.gl) hn (hS.builtins ▸ I.b V.gl) ((I.boot x hne').trans hb) go
  · cases hF

theorem keeper_builtin {M : Model} {id : String} (h : Heap) : ∃ kp, (kp = Keeper.frame ∨ kp = Keeper.machine ∨ kp = Keeper.boundFrame) ∧ Looks M h (keeperOf (.builtin id)) kp := ⟨.machine, .inr (.inl rfl), Looks.of_pure rfl⟩
theorem keeper_type {M : Model} {id : String} (h : Heap) : ∃ kp, (kp = Keeper.frame ∨ kp = Keeper.machine ∨ kp = Keeper.boundFrame) ∧ Looks M h (keeperOf (.type id)) kp := ⟨.machine, .inr (.inl rfl), Looks.of_pure rfl⟩

theorem FunOK.builtin {x : Str} {id : String} {F : List D → Option D} (hm : I.mg x = none) (hn : x ≠ "__name__") (hb : bootBuiltins x = some (.builtin id)) (h : PrimOK I k (.builtin id) F) : FunOK I k x F :=
  ⟨_, .inr ⟨hm, hn, hb⟩, fun h _ => keeper_builtin h, h⟩
theorem FunOK.type {x : Str} {id : String} {F : List D → Option D} (hm : I.mg x = none) (hn : x ≠ "__name__") (hb : bootBuiltins x = some (.type id)) (h : PrimOK I k (.type id) F) : FunOK I k x F :=
  ⟨_, .inr ⟨hm, hn, hb⟩, fun h _ => keeper_type h, h⟩
end
end Mine
open PySem PySem.W PyProof.Rows PySem.Spec
set_option linter.unusedVariables false
set_option Elab.async false
set_option maxRecDepth 100000
namespace Mine
section
variable {I : GI} {k : Nat} {sc : Scope} {ns : List Str}

theorem IsL.one {g : G} {d : D} {vs : List Value} (h : IsL g [d] vs) : ∃ v, vs = [v] ∧ Is g d v := by
  obtain ⟨v, r, e, hv, hr⟩ := h
  exact ⟨v, by rw [e, show r = [] from hr], hv⟩
theorem IsL.two {g : G} {d d' : D} {vs : List Value} (h : IsL g [d, d'] vs) : ∃ v v', vs = [v, v'] ∧ Is g d v ∧ Is g d' v' := by
  obtain ⟨v, r, e, hv, hr⟩ := h
  obtain ⟨v', e', hv'⟩ := hr.one
  exact ⟨v, v', by rw [e, e'], hv, hv'⟩
theorem IsL.three {g : G} {d d' d'' : D} {vs : List Value} (h : IsL g [d, d', d''] vs) : ∃ v v' v'', vs = [v, v', v''] ∧ Is g d v ∧ Is g d' v' ∧ Is g d'' v'' := by
  obtain ⟨v, r, e, hv, hr⟩ := h
  obtain ⟨v', v'', e', hv', hv''⟩ := hr.two
  exact ⟨v, v', v'', by rw [e, e'], hv, hv', hv''⟩

def fLen : List D → Option D
  | [.lst l] => if l.length ≤ sizeLine then some (.int l.length) else none
  | [.tup l] => if l.length ≤ sizeLine then some (.int l.length) else none
  | [.str x] => if x.length ≤ sizeLine then some (.int x.length) else none
  | _ => none
theorem sizeLine_lt {n : Nat} (h : n ≤ sizeLine) : (n : Int) < 2 ^ 63 := by rw [sizeLine_eq] at h; omega
theorem PrimOK.len : PrimOK I k (.builtin "len") fLen := by
  intro A g s ds vs d Q E hA sub gl hf hv P
  unfold fLen at hf
  split at hf
  · rename_i l
    split at hf
    · rename_i hz
      cases hf
      obtain ⟨v, rfl, hi⟩ := hv.one
      obtain ⟨a, xs, rfl, hl, hi⟩ := hi.isList sub
      have e := hi.length
      simp only [Array.length_toList] at e
      refine Calls.call_len_list hl (by rw [e]; exact sizeLine_lt hz) ?_
      rw [e]
      exact P.now sub ⟨_, rfl⟩
    · cases hf
  · rename_i l
    split at hf
    · rename_i hz
      cases hf
      obtain ⟨v, rfl, hi⟩ := hv.one
      obtain ⟨a, xs, rfl, hl, hi⟩ := hi.isTup sub
      have e := hi.length
      simp only [Array.length_toList] at e
      refine len_tuple hl (by rw [e]; exact sizeLine_lt hz) ?_
      rw [e]
      exact P.now sub ⟨_, rfl⟩
    · cases hf
  · rename_i x
    split at hf
    · rename_i hz
      cases hf
      obtain ⟨v, rfl, t, rfl⟩ := hv.one
      exact PySem.P.len_str (by have := sizeLine_lt hz; omega) (P.now sub ⟨_, rfl⟩)
    · cases hf
  · cases hf
def fAbs : List D → Option D
  | [.int a] => some (.int (if a < 0 then -a else a))
  | _ => none
theorem PrimOK.abs : PrimOK I k (.builtin "abs") fAbs := by
  intro A g s ds vs d Q E hA sub gl hf hv P
  unfold fAbs at hf
  split at hf
  · cases hf
    obtain ⟨v, rfl, t, rfl⟩ := hv.one
    exact call_abs_int fun u tk => P.now sub ⟨_, rfl⟩
  · cases hf
def fMax : List D → Option D
  | [.int a, .int b] => some (.int (if b > a then b else a))
  | _ => none
theorem PrimOK.max : PrimOK I k (.builtin "max") fMax := by
  intro A g s ds vs d Q E hA sub gl hf hv P
  unfold fMax at hf
  split at hf
  · cases hf
    obtain ⟨v, v', rfl, ⟨t, rfl⟩, t', rfl⟩ := hv.two
    refine max_two_ints hA.1 fun h' tk hk => ?_
    split
    · rename_i hc; exact P _ _ _ hk ⟨t', by rw [if_pos hc]⟩
    · rename_i hc; exact P _ _ _ hk ⟨t, by rw [if_neg hc]⟩
  · cases hf
def fMin : List D → Option D
  | [.int a, .int b] => some (.int (if b < a then b else a))
  | _ => none
theorem PrimOK.min : PrimOK I k (.builtin "min") fMin := by
  intro A g s ds vs d Q E hA sub gl hf hv P
  unfold fMin at hf
  split at hf
  · cases hf
    obtain ⟨v, v', rfl, ⟨t, rfl⟩, t', rfl⟩ := hv.two
    refine min_two_ints hA.1 fun h' tk hk => ?_
    split
    · rename_i hc; exact P _ _ _ hk ⟨t', by rw [if_pos hc]⟩
    · rename_i hc; exact P _ _ _ hk ⟨t, by rw [if_neg hc]⟩
  · cases hf
def fRange : List D → Option D
  | [.int a] => some (.rng 0 a 1)
  | [.int a, .int b] => some (.rng a b 1)
  | [.int a, .int b, .int c] => if divOk (b - a) c = true then some (.rng a b c) else none
  | _ => none
theorem PrimOK.range : PrimOK I k (.type "range") fRange := by
  intro A g s ds vs d Q E hA sub gl hf hv P
  unfold fRange at hf
  split at hf
  · cases hf
    obtain ⟨v, rfl, t, rfl⟩ := hv.one
    exact call_range_1 (P.push sub rfl fun g' e k => ⟨_, _, _, _, rfl, e⟩)
  · cases hf
    obtain ⟨v, v', rfl, ⟨t, rfl⟩, t', rfl⟩ := hv.two
    exact call_range_2 (P.push sub rfl fun g' e k => ⟨_, _, _, _, rfl, e⟩)
  · split at hf
    · rename_i hm
      cases hf
      obtain ⟨v, v', v'', rfl, ⟨t, rfl⟩, ⟨t', rfl⟩, t'', rfl⟩ := hv.three
      simp only [divOk, Bool.and_eq_true, decide_eq_true_eq] at hm
      exact call_range_3 hm.1 (P.push sub rfl fun g' e k => ⟨_, _, _, _, rfl, e⟩) (.inl (PyProof.noPylong_of_log2 hm.2))
    · cases hf
  · cases hf
def fTuple : List D → Option D
  | [.lst l] => if l.length ≤ sizeLine then some (.tup l) else none
  | _ => none
theorem PrimOK.tuple : PrimOK I k (.type "tuple") fTuple := by
  intro A g s ds vs d Q E hA sub gl hf hv P
  unfold fTuple at hf
  split at hf
  · split at hf
    · rename_i hz
      cases hf
      obtain ⟨v, rfl, hi⟩ := hv.one
      obtain ⟨a, xs, rfl, hl, hi⟩ := hi.isList sub
      have e := hi.length
      simp only [Array.length_toList] at e
      refine call_tuple_list hl (fun h' hk => ?_) (by omega)
      have q := (P.step (tk := s.toks) hk).newTuple (vs := xs.toList) (tk := s.toks) (ext_in sub hk) (IsL.mono (ext_sub sub) _ hi)
      simpa using q
    · cases hf
  · cases hf

/-- an item -/
def fSubs : D → D → Option D
  | .lst l, .int i => if 0 ≤ i ∧ i < 2 ^ 63 then l[i.toNat]? else none
  | .tup l, .int i => if 0 ≤ i ∧ i < 2 ^ 63 then l[i.toNat]? else none
  | .str x, .int i => if 0 ≤ i ∧ i < 2 ^ 63 then (match x.cps[i.toNat]? with | some c => some (.str ⟨#[c]⟩) | none => none) else none
  | _, _ => none
theorem seqIndex_nat {i : Int} {n : Nat} (h0 : 0 ≤ i) (h1 : i.toNat < n) : seqIndex? i n = some i.toNat := by
  unfold seqIndex?
  have h2 : ¬ i < 0 := by omega
  have h3 : (i : Int) < n := by omega
  simp only [if_neg h2]
  have h4 : (decide (0 ≤ i) && decide (i < (n : Int))) = true := by simp [h0, h3]
  rw [if_pos h4]
theorem subs_ok {A : Around} {g : G} {s : Shared} {x y d : D} {u v : Value} {value slice : Expr} {Q : Value → Shared → Prop} {E : Value → Shared → Prop} (sub : Sub g s.heap.get?) (hx : Is g x u) (hy : Is g y v) (hf : fSubs x y = some d)
    (P : Post g s d Q) (hs : ∀ o i, subscripted slice false o i = operate [o, i] (getItem o i)) : wpAny (model I.prog I.w) A (subscriptTail value slice u v) Q E s := by
  unfold fSubs at hf
  split at hf
  · rename_i l i
    split at hf
    · rename_i hi
      obtain ⟨a, xs, rfl, hl, hL⟩ := hx.isList sub
      obtain ⟨t, rfl⟩ := hy
      obtain ⟨w, hw, hI⟩ := hL.get hf
      exact tail_any hl.typeIs PySem.slot_list_getitem.lookup (wpAny_getItem_list hl hi.1 hi.2 (by simpa using hw) (P.now (tk := s.toks) sub hI)) (hs _ _)
    · cases hf
  · rename_i l i
    split at hf
    · rename_i hi
      obtain ⟨a, xs, rfl, hl, hL⟩ := hx.isTup sub
      obtain ⟨t, rfl⟩ := hy
      obtain ⟨w, hw, hI⟩ := hL.get hf
      have hlt : i.toNat < xs.size := by
        have := (List.getElem?_eq_some_iff.mp hw).1
        simpa using this
      exact tail_any hl.typeIs PyProof.Rows.slot_tuple_getitem.lookup (PyProof.Rows.getItem_tuple hl (by omega) hi.2 (seqIndex_nat hi.1 hlt) (by simpa using hw) (P.now (tk := s.toks) sub hI)) (hs _ _)
    · cases hf
  · rename_i x i
    split at hf
    · rename_i hi
      split at hf
      · rename_i c hc
        cases hf
        obtain ⟨t, rfl⟩ := hx
        obtain ⟨t', rfl⟩ := hy
        have hlt : i.toNat < x.length := by
          have := (Array.getElem?_eq_some_iff.mp hc).1
          exact this
        refine tail_any (typeIs_str s x t) PyProof.Rows.slot_str_getitem.lookup (PySem.P.getItem_str (c := c) ?_ ?_ (P.now sub ⟨_, rfl⟩)) (hs _ _)
        · have h1 : ¬ i < -(2 ^ 63) := by omega
          have h2 : ¬ i ≥ 2 ^ 63 := by omega
          rw [decide_eq_false h1, decide_eq_false h2]; rfl
        · rw [seqIndex_nat hi.1 hlt]; exact hc
      · cases hf
    · cases hf
  · cases hf
theorem EvOK.subs {value slice : Expr} {pos : Pos} {F F' : Ev} (hv : EvOK I k sc ns value F) (hi : EvOK I k sc ns slice F') (hs : ∀ o i, subscripted slice false o i = operate [o, i] (getItem o i)) :
    EvOK I k sc ns (.Subscript value slice pos) (e2 fSubs F F') := by
  intro env A g r s d Q E hS hA V hF P
  obtain ⟨x, y, hx, hy, hf⟩ := e2_some hF
  refine Subscript_ (hv env A g r s x _ E hS hA V hx fun u h₁ tk₁ k₁ hu => ?_)
  refine hi env A _ r _ y _ E hS hA (V.grow k₁) hy fun v h₂ tk₂ k₂ hv => ?_
  have V₂ := (V.grow k₁).grow k₂
  refine subs_ok V₂.sub (Is.mono (ext_sub (V.grow k₁).sub) x hu) hv hf ?_ hs
  exact (P.step k₁).step (s := { s with heap := h₁, toks := tk₁ }) k₂

/-- slices of lists, bounds from 0 on -/
def sliceD (l : List D) (lo hi : Option Int) : List D := (l.drop (lo.getD 0).toNat).take ((hi.getD l.length).toNat - (lo.getD 0).toNat)
theorem IsL.drop {g : G} : ∀ {l : List D} {vs : List Value} (n : Nat), IsL g l vs → IsL g (l.drop n) (vs.drop n)
  | l, vs, 0, h => h
  | [], vs, n + 1, h => by rw [show vs = [] from h]; rfl
  | _ :: ds, _, n + 1, ⟨v, vs', e, _, h⟩ => by rw [e]; exact IsL.drop n h
theorem IsL.take {g : G} : ∀ {l : List D} {vs : List Value} (n : Nat), IsL g l vs → IsL g (l.take n) (vs.take n)
  | l, vs, 0, h => by rw [List.take_zero, List.take_zero]; rfl
  | [], vs, n + 1, h => by rw [show vs = [] from h]; rfl
  | _ :: ds, _, n + 1, ⟨v, vs', e, h', h⟩ => by rw [e]; exact ⟨v, _, rfl, h', IsL.take n h⟩

def fSlo (lo : D) (l : D) : Option D := match lo, l with
  | .int a, .lst l => if 0 ≤ a ∧ l.length ≤ sizeLine then some (.lst (l.drop a.toNat)) else none
  | _, _ => none
def fShi (hi : D) (l : D) : Option D := match hi, l with
  | .int b, .lst l => if 0 ≤ b ∧ l.length ≤ sizeLine then some (.lst (l.take b.toNat)) else none
  | _, _ => none

theorem EvOK.sliceHi {value up : Expr} {p pos : Pos} {F F' : Ev} (hv : EvOK I k sc ns value F) (hu : EvOK I k sc ns up F') (ht : ∀ o r, letTemporaryGo value o r = pure ()) :
    EvOK I k sc ns (.Subscript value (.Slice Option.none (Option.some up) Option.none p) pos) (e2 (fun l b => fShi b l) F F') := by
  intro env A g r s d Q E hS hA V hF P
  obtain ⟨x, y, hx, hy, hf⟩ := e2_some hF
  unfold fShi at hf
  split at hf
  · rename_i b l
    split at hf
    · rename_i hb
      cases hf
      refine wpAny_Subscript_list_slice (hv env A g r s _ _ E hS hA V hx fun u h₁ tk₁ k₁ hu' => ?_) ht
      rw [evalPart_none, evalPart_some]
      refine wpAny_pure (hu env A _ r _ _ _ E hS hA (V.grow k₁) hy fun v h₂ tk₂ k₂ hv' => ?_)
      have V₂ := (V.grow k₁).grow k₂
      obtain ⟨a, xs, rfl, hl, hL⟩ := (Is.mono (ext_sub (V.grow k₁).sub) _ hu').isList V₂.sub
      obtain ⟨t, rfl⟩ := hv'
      have e := hL.length
      simp only [Array.length_toList] at e
      refine ⟨a, xs, Option.none, Option.some b, rfl, hl, by omega, .none, .int b t, ?_⟩
      have eb : (b : Int) = ((b.toNat : Nat) : Int) := by omega
      rw [eb, slicePick_upto']
      have P₂ := (P.step (tk := tk₁) k₁).step (s := { s with heap := h₁, toks := tk₁ }) (tk := tk₂) k₂
      have P₃ := P₂.step (tk := tk₂) (Grow.push h₂ { cls := .type "slice", data := .fields #[.none, .int b t, .none] })
      have q := P₃.newList (vs := xs.toList.take b.toNat) (tk := tk₂) (ext_in V₂.sub (Grow.push _ _)) (IsL.mono (ext_sub V₂.sub) _ (hL.take _))
      rw [← eb]
      have hz := Heap.size_push h₂ { cls := .type "slice", data := .fields #[.none, .int b t, .none] }
      simp only [hz] at q
      exact q
    · cases hf
  · cases hf
theorem EvOK.sliceLo {value low : Expr} {p pos : Pos} {F F' : Ev} (hv : EvOK I k sc ns value F) (hu : EvOK I k sc ns low F') (ht : ∀ o r, letTemporaryGo value o r = pure ()) :
    EvOK I k sc ns (.Subscript value (.Slice (Option.some low) Option.none Option.none p) pos) (e2 (fun l b => fSlo b l) F F') := by
  intro env A g r s d Q E hS hA V hF P
  obtain ⟨x, y, hx, hy, hf⟩ := e2_some hF
  unfold fSlo at hf
  split at hf
  · rename_i b l
    split at hf
    · rename_i hb
      cases hf
      refine wpAny_Subscript_list_slice (hv env A g r s _ _ E hS hA V hx fun u h₁ tk₁ k₁ hu' => ?_) ht
      rw [evalPart_none, evalPart_some]
      refine hu env A _ r _ _ _ E hS hA (V.grow k₁) hy fun v h₂ tk₂ k₂ hv' => wpAny_pure ?_
      have V₂ := (V.grow k₁).grow k₂
      obtain ⟨a, xs, rfl, hl, hL⟩ := (Is.mono (ext_sub (V.grow k₁).sub) _ hu').isList V₂.sub
      obtain ⟨t, rfl⟩ := hv'
      have e := hL.length
      simp only [Array.length_toList] at e
      refine ⟨a, xs, Option.some b, Option.none, rfl, hl, by omega, .int b t, .none, ?_⟩
      have eb : (b : Int) = ((b.toNat : Nat) : Int) := by omega
      rw [eb, slicePick_from']
      have P₂ := (P.step (tk := tk₁) k₁).step (s := { s with heap := h₁, toks := tk₁ }) (tk := tk₂) k₂
      have P₃ := P₂.step (tk := tk₂) (Grow.push h₂ { cls := .type "slice", data := .fields #[.int b t, .none, .none] })
      have q := P₃.newList (vs := xs.toList.drop b.toNat) (tk := tk₂) (ext_in V₂.sub (Grow.push _ _)) (IsL.mono (ext_sub V₂.sub) _ (hL.drop _))
      rw [← eb]
      have hz := Heap.size_push h₂ { cls := .type "slice", data := .fields #[.int b t, .none, .none] }
      simp only [hz] at q
      exact q
    · cases hf
  · cases hf

/-- in, not in: ints among ints -/
def isI : D → Bool
  | .int _ => true
  | _ => false
def hitI (a : Int) : D → Bool
  | .int b => b == a
  | _ => false
theorem IsL.hitI {g : G} {a : Int} : ∀ {l : List D} {vs : List Value}, l.all isI = true → IsL g l vs → (∀ v ∈ vs, ∃ b t, v = Value.int b t) ∧ vs.any (valHitsInt a) = l.any (Mine.hitI a)
  | [], vs, _, h => by rw [show vs = [] from h]; exact ⟨fun v hv => (nomatch hv), rfl⟩
  | d :: ds, _, hl, ⟨v, vs', e, hv, h⟩ => by
    simp only [List.all_cons, Bool.and_eq_true] at hl
    obtain ⟨h1, h2⟩ := IsL.hitI (a := a) hl.2 h
    cases d with
    | int i =>
      obtain ⟨t, rfl⟩ := hv
      subst e
      refine ⟨fun w hw => ?_, ?_⟩
      · rcases List.mem_cons.mp hw with rfl | hw
        · exact ⟨_, _, rfl⟩
        · exact h1 w hw
      · rw [List.any_cons, List.any_cons, h2]; rfl
    | _ => exact absurd hl.1 (by simp [isI])
def isS : D → Bool
  | .str _ => true
  | _ => false
def hitS (a : Str) : D → Bool
  | .str b => b == a
  | _ => false
theorem IsL.hitS {g : G} {a : Str} : ∀ {l : List D} {vs : List Value}, l.all isS = true → IsL g l vs → (∀ v ∈ vs, ∃ b t, v = Value.str b t) ∧ vs.any (valHitsStr a) = l.any (Mine.hitS a)
  | [], vs, _, h => by rw [show vs = [] from h]; exact ⟨fun v hv => (nomatch hv), rfl⟩
  | d :: ds, _, hl, ⟨v, vs', e, hv, h⟩ => by
    simp only [List.all_cons, Bool.and_eq_true] at hl
    obtain ⟨h1, h2⟩ := IsL.hitS (a := a) hl.2 h
    cases d with
    | str i =>
      obtain ⟨t, rfl⟩ := hv
      subst e
      refine ⟨fun w hw => ?_, ?_⟩
      · rcases List.mem_cons.mp hw with rfl | hw
        · exact ⟨_, _, rfl⟩
        · exact h1 w hw
      · rw [List.any_cons, List.any_cons, h2]; rfl
    | _ => exact absurd hl.1 (by simp [isS])

def fIn (neg : Bool) : D → D → Option D
  | .int a, .lst l => if l.all isI = true then some (.bool (neg ^^ l.any (hitI a))) else none
  | .int a, .tup l => if l.all isI = true then some (.bool (neg ^^ l.any (hitI a))) else none
  | .str a, .tup l => if l.all isS = true then some (.bool (neg ^^ l.any (hitS a))) else none
  | _, _ => none
theorem eqAt_int {A : Around} {s : Shared} {y : Value} (h : ∃ b t, y = Value.int b t) (x : Int) (u : Tok) : SeqAt.EqAt A s y (.int x u) (valHitsInt x y) := by
  obtain ⟨b, t, rfl⟩ := h; exact (Carried.int b t).eqAtInt x u
theorem eqAt_str {A : Around} {s : Shared} {y : Value} (h : ∃ b t, y = Value.str b t) (x : Str) (u : Tok) : SeqAt.EqAt A s y (.str x u) (valHitsStr x y) := by
  obtain ⟨b, t, rfl⟩ := h; exact (Carried.str b t).eqAtStr x u
theorem OpOK.isIn : OpOK I k (compareOp .In) (fIn false) := by
  intro A g s x y d u v Q E hA sub gl hx hy hf P
  unfold fIn at hf
  split at hf
  · rename_i a l
    split at hf
    · rename_i hl
      cases hf
      obtain ⟨t, rfl⟩ := hx
      obtain ⟨p, xs, rfl, hp, hL⟩ := hy.isList sub
      obtain ⟨h1, h2⟩ := hL.hitI (a := a) hl
      refine SeqAt.in_listAt (valHitsInt a) hp (fun z hz => eqAt_int (h1 z (by simpa using hz)) a t) (P.now (tk := s.toks) sub ?_)
      have : xs.any (valHitsInt a) = l.any (hitI a) := by rw [← h2]; simp
      rw [this, Bool.false_xor]; rfl
    · cases hf
  · rename_i a l
    split at hf
    · rename_i hl
      cases hf
      obtain ⟨t, rfl⟩ := hx
      obtain ⟨p, xs, rfl, hp, hL⟩ := hy.isTup sub
      obtain ⟨h1, h2⟩ := hL.hitI (a := a) hl
      refine SeqAt.in_tupleAt (valHitsInt a) hp (fun z hz => eqAt_int (h1 z (by simpa using hz)) a t) (P.now (tk := s.toks) sub ?_)
      have : xs.any (valHitsInt a) = l.any (hitI a) := by rw [← h2]; simp
      rw [this, Bool.false_xor]; rfl
    · cases hf
  · rename_i a l
    split at hf
    · rename_i hl
      cases hf
      obtain ⟨t, rfl⟩ := hx
      obtain ⟨p, xs, rfl, hp, hL⟩ := hy.isTup sub
      obtain ⟨h1, h2⟩ := hL.hitS (a := a) hl
      refine SeqAt.in_tupleAt (valHitsStr a) hp (fun z hz => eqAt_str (h1 z (by simpa using hz)) a t) (P.now (tk := s.toks) sub ?_)
      have : xs.any (valHitsStr a) = l.any (hitS a) := by rw [← h2]; simp
      rw [this, Bool.false_xor]; rfl
    · cases hf
  · cases hf
theorem OpOK.notIn : OpOK I k (compareOp .NotIn) (fIn true) := by
  intro A g s x y d u v Q E hA sub gl hx hy hf P
  unfold fIn at hf
  split at hf
  · rename_i a l
    split at hf
    · rename_i hl
      cases hf
      obtain ⟨t, rfl⟩ := hx
      obtain ⟨p, xs, rfl, hp, hL⟩ := hy.isList sub
      obtain ⟨h1, h2⟩ := hL.hitI (a := a) hl
      refine SeqAt.notIn_listAt (valHitsInt a) hp (fun z hz => eqAt_int (h1 z (by simpa using hz)) a t) (P.now (tk := s.toks) sub ?_)
      have : xs.any (valHitsInt a) = l.any (hitI a) := by rw [← h2]; simp
      rw [this, Bool.true_xor]; rfl
    · cases hf
  · rename_i a l
    split at hf
    · rename_i hl
      cases hf
      obtain ⟨t, rfl⟩ := hx
      obtain ⟨p, xs, rfl, hp, hL⟩ := hy.isTup sub
      obtain ⟨h1, h2⟩ := hL.hitI (a := a) hl
      refine SeqAt.notIn_tupleAt (valHitsInt a) hp (fun z hz => eqAt_int (h1 z (by simpa using hz)) a t) (P.now (tk := s.toks) sub ?_)
      have : xs.any (valHitsInt a) = l.any (hitI a) := by rw [← h2]; simp
      rw [this, Bool.true_xor]; rfl
    · cases hf
  · rename_i a l
    split at hf
    · rename_i hl
      cases hf
      obtain ⟨t, rfl⟩ := hx
      obtain ⟨p, xs, rfl, hp, hL⟩ := hy.isTup sub
      obtain ⟨h1, h2⟩ := hL.hitS (a := a) hl
      refine SeqAt.notIn_tupleAt (valHitsStr a) hp (fun z hz => eqAt_str (h1 z (by simpa using hz)) a t) (P.now (tk := s.toks) sub ?_)
      have : xs.any (valHitsStr a) = l.any (hitS a) := by rw [← h2]; simp
      rw [this, Bool.true_xor]; rfl
    · cases hf
  · cases hf
end
end Mine
open PySem PySem.W PyProof.Rows PySem.Spec
set_option linter.unusedVariables false
set_option Elab.async false
set_option maxRecDepth 100000
namespace Mine

/-- the items that a for goes through -/
def rngL (a c : Int) (n : Nat) : List D := (List.range n).map fun (i : Nat) => .int (a + (i : Int) * c)
def itemsOf : D → Option (List D)
  | .lst l => if l.length ≤ sizeLine then some l else none
  | .tup l => if l.length ≤ sizeLine then some l else none
  | .rng a b c => if Builtin.Range.small a b c = true ∧ 0 ≤ Builtin.Range.rangeSize a b c ∧ (Builtin.Range.rangeSize a b c).toNat ≤ sizeLine then some (rngL a c (Builtin.Range.rangeSize a b c).toNat) else none
  | .str x => if x.length ≤ sizeLine then some (x.cps.toList.map fun c => .str ⟨#[c]⟩) else none
  | _ => none

section
variable {I : GI} {k : Nat} {sc : Scope} {ns : List Str}

theorem fresh_none (h : Heap) : h.get? h.objs.size = none := by
  cases q : h.get? h.objs.size with
  | none => rfl
  | some o' => exact absurd (Heap.lt_size q) (Nat.lt_irrefl _)

theorem iter_ok {A : Around} {g : G} {s : Shared} {d : D} {v : Value} {ds : List D} {Q : Value → Shared → Prop} {E : Value → Shared → Prop} (hh : A.handled = none) (sub : Sub g s.heap.get?) (hv : Is g d v) (hi : itemsOf d = some ds)
    (h : ∀ (o : Obj) (fp : List Addr) (P : Nat → Value → Prop) (St : Nat → Heap → Prop), Walks I.prog I.w A s.heap.objs.size fp [s.heap.objs.size] ds.length P St → (∀ i u, P i u → ∃ x, ds[i]? = some x ∧ Is g x u) →
      St 0 (s.heap.push o) → (∀ b ∈ fp, b = s.heap.objs.size ∨ (g b).isSome = true) → ((∀ x, d ≠ .str x) → ∀ i h, St i h → (h.get? s.heap.objs.size).isSome = true) → Q (.ref s.heap.objs.size) { s with heap := s.heap.push o }) : wpAny (model I.prog I.w) A (pyIter v) Q E s := by
  unfold itemsOf at hi
  split at hi
  · rename_i l
    split at hi
    · cases hi
      have hv' := hv
      obtain ⟨a, xs, rfl, hl, hL⟩ := hv.isList sub
      have e := hL.length
      simp only [Array.length_toList] at e
      have hga : (g a).isSome = true := by
        obtain ⟨a', o, vs, n, e1, h1, _⟩ := hv'
        cases e1; rw [h1]; rfl
      refine wpAny_pyIter_list hl ?_
      have hne : a ≠ s.heap.objs.size := by
        intro q
        cases q' : g a with
        | none => rw [q'] at hga; cases hga
        | some o => have := sub _ _ q'; rw [q, fresh_none] at this; cases this
      refine h _ [s.heap.objs.size, a] _ _ (e ▸ Walks.list hh s.heap.objs.size a hne xs) (fun i u hu => ?_) ⟨⟨_, Heap.get?_push_size _ rfl, rfl, rfl⟩, hl.push _⟩ (fun b hb => ?_) fun _ i h st => (by obtain ⟨⟨o, e, _⟩, _⟩ := st; rw [e]; rfl)
      · have hlt : i < ds.length := by
          have := (Array.getElem?_eq_some_iff.mp hu).1
          omega
        obtain ⟨w, hw, hI⟩ := hL.get (List.getElem?_eq_getElem hlt)
        have : xs[i]? = some w := by simpa using hw
        rw [hu] at this; cases this
        exact ⟨_, List.getElem?_eq_getElem hlt, hI⟩
      · rcases List.mem_cons.mp hb with rfl | hb
        · exact .inl rfl
        · rw [List.mem_singleton.mp hb]; exact .inr hga
    · cases hi
  · rename_i l
    split at hi
    · cases hi
      have hv' := hv
      obtain ⟨a, xs, rfl, hl, hL⟩ := hv.isTup sub
      have e := hL.length
      simp only [Array.length_toList] at e
      have hga : (g a).isSome = true := by
        obtain ⟨a', o, vs, n, e1, h1, _⟩ := hv'
        cases e1; rw [h1]; rfl
      have hl' : s.heap.IsTuple a xs := hl
      refine wpAny_pyIter_tuple hl' ?_
      have hne : a ≠ s.heap.objs.size := by
        intro q
        cases q' : g a with
        | none => rw [q'] at hga; cases hga
        | some o => have := sub _ _ q'; rw [q, fresh_none] at this; cases this
      refine h _ [s.heap.objs.size, a] _ _ (e ▸ Walks.tuple hh s.heap.objs.size a hne xs) (fun i u hu => ?_) ⟨⟨_, Heap.get?_push_size _ rfl, rfl, rfl⟩, hl'.at fun o e => Heap.get?_push_of_some _ e⟩ (fun b hb => ?_) fun _ i h st => (by obtain ⟨⟨o, e, _⟩, _⟩ := st; rw [e]; rfl)
      · have hlt : i < ds.length := by
          have := (Array.getElem?_eq_some_iff.mp hu).1
          omega
        obtain ⟨w, hw, hI⟩ := hL.get (List.getElem?_eq_getElem hlt)
        have : xs[i]? = some w := by simpa using hw
        rw [hu] at this; cases this
        exact ⟨_, List.getElem?_eq_getElem hlt, hI⟩
      · rcases List.mem_cons.mp hb with rfl | hb
        · exact .inl rfl
        · rw [List.mem_singleton.mp hb]; exact .inr hga
    · cases hi
  · rename_i a b c
    split at hi
    · rename_i hz
      cases hi
      obtain ⟨r, t, u, w, rfl, hr⟩ := hv
      refine wpAny_pyIter_range (sub _ _ hr) hz.1 ?_
      have el : (rngL a c (Builtin.Range.rangeSize a b c).toNat).length = (Builtin.Range.rangeSize a b c).toNat := by simp [rngL]
      have W : Walks I.prog I.w A s.heap.objs.size [s.heap.objs.size] [s.heap.objs.size] (Builtin.Range.rangeSize a b c).toNat (fun i v => i < (Builtin.Range.rangeSize a b c).toNat ∧ ∃ t, v = .int (a + i * c) t)
        (fun i h => IsRangeIter h s.heap.objs.size (a + (i : Nat) * c) (((Builtin.Range.rangeSize a b c).toNat : Int) - (i : Nat)) c) := (Walks.range hh _ a c _).bound
      refine h _ [s.heap.objs.size] _ _ (el.symm ▸ W) (fun i v hv => ?_) ?_ (fun b hb => .inl (List.mem_singleton.mp hb)) fun _ i h st => (by have e : h.get? _ = some _ := st; rw [e]; rfl)
      · obtain ⟨hlt, t', rfl⟩ := hv
        rw [el] at hlt
        exact ⟨.int (a + i * c), by simp only [rngL, List.getElem?_map, List.getElem?_range hlt, Option.map_some], ⟨_, rfl⟩⟩
      · have e0 : ((Builtin.Range.rangeSize a b c).toNat : Int) = Builtin.Range.rangeSize a b c := by omega
        have e1 : a + ((0 : Nat) : Int) * c = a := by simp
        have e2 : ((Builtin.Range.rangeSize a b c).toNat : Int) - ((0 : Nat) : Int) = Builtin.Range.rangeSize a b c := by simpa using e0
        show IsRangeIter _ _ (a + ((0 : Nat) : Int) * c) (((rngL a c (Builtin.Range.rangeSize a b c).toNat).length : Int) - ((0 : Nat) : Int)) _
        rw [el, e1, e2]
        exact Heap.get?_push_size _ rfl
    · cases hi
  · rename_i x
    split at hi
    · cases hi
      obtain ⟨t, rfl⟩ := hv
      refine wpAny_pyIter_str fun o St hW hst => ?_
      have el : (x.cps.toList.map fun c => D.str ⟨#[c]⟩).length = x.cps.size := by simp
      refine h o [s.heap.objs.size] _ St (el.symm ▸ hW A hh) (fun i u hu => ?_) hst (fun b hb => .inl (List.mem_singleton.mp hb)) fun hne => absurd rfl (hne _)
      obtain ⟨c, w, hc, rfl⟩ := hu
      exact ⟨.str ⟨#[c]⟩, by simp [hc], ⟨_, rfl⟩⟩
    · cases hi
  · cases hi

/-- a flat value's datum -/
def dv : Value → Option D
  | .none => some .none
  | .bool b => some (.bool b)
  | .int i _ => some (.int i)
  | .str x _ => some (.str x)
  | _ => none
theorem Is.dv {g : G} {d : D} {v : Value} (hf : Mine.flat d = true) (h : Is g d v) : Mine.dv v = some d := by
  cases d <;> simp only [Mine.flat, Bool.false_eq_true] at hf
  · rw [show v = .none from h]; rfl
  · rename_i b; rw [show v = .bool b from h]; rfl
  · obtain ⟨t, rfl⟩ := h; rfl
  · obtain ⟨t, rfl⟩ := h; rfl

def maskR : List Bool → R → R
  | true :: ms, x :: r => x :: maskR ms r
  | false :: ms, _ :: r => Option.none :: maskR ms r
  | _, _ => []
theorem maskR_get : ∀ {ms : List Bool} {r : R} {i : Nat} {d : D}, (maskR ms r)[i]? = some (some d) → ms[i]? = some true ∧ r[i]? = some (some d)
  | true :: ms, x :: r, 0, d, h => by simpa [maskR] using h
  | true :: ms, x :: r, i + 1, d, h => by
    have := maskR_get (ms := ms) (r := r) (i := i) (d := d) (by simpa [maskR] using h)
    simpa using this
  | false :: ms, x :: r, 0, d, h => by simp [maskR] at h
  | false :: ms, x :: r, i + 1, d, h => by
    have := maskR_get (ms := ms) (r := r) (i := i) (d := d) (by simpa [maskR] using h)
    simpa using this
  | [], r, i, d, h => by simp [maskR] at h
  | _ :: _, [], i, d, h => by simp [maskR] at h

def relabelS (scope sc : Scope) : Scope := { scope with names := scope.names.map fun (n, k) => if (k == .free && sc.kind == .function && sc.names.lookup n == some .cell) then (n, .cell) else (n, k) }

theorem closure_ok {M : Model} {env : Env} (scope : Scope) (h : ∀ y ∈ scope.names, y.2 = .free → (env.cells.lookup y.1).isSome = true) :
    ∃ cl : List (Str × Addr), closureFor scope env = pure cl ∧ ∀ y ∈ scope.names, y.2 = .free → cl.lookup y.1 = env.cells.lookup y.1 := by
  have go : ∀ (names : List (Str × NameKind)) (acc : List (Str × Addr)), (∀ y ∈ names, y.2 = .free → (env.cells.lookup y.1).isSome = true) →
      (∀ y c, acc.lookup y = some c → env.cells.lookup y = some c) →
      ∃ cl : List (Str × Addr), forIn (m := Sem) names acc (fun (x : Str × NameKind) (r : List (Str × Addr)) => if (x.2 == NameKind.free) = true then do let a ← cellOf env x.1; pure (ForInStep.yield ((x.1, a) :: r)) else do pure PUnit.unit; pure (ForInStep.yield r)) = pure cl ∧
        (∀ y ∈ names, y.2 = .free → cl.lookup y.1 = env.cells.lookup y.1) ∧ (∀ y c, acc.lookup y = some c → cl.lookup y = some c) ∧ (∀ y c, cl.lookup y = some c → env.cells.lookup y = some c) := by
    intro names
    induction names with
    | nil => intro acc _ ha; exact ⟨acc, rfl, fun y hy => (nomatch hy), fun _ _ e => e, ha⟩
    | cons x r ih =>
      intro acc hn ha
      obtain ⟨n, kd⟩ := x
      rw [List.forIn_cons]
      by_cases hk : kd = .free
      · subst hk
        have hs := hn (n, .free) (.head _) rfl
        obtain ⟨c, hc⟩ := Option.isSome_iff_exists.mp hs
        have e : cellOf env n = pure c := by unfold cellOf; rw [hc]
        obtain ⟨cl, e1, e2, e3, e4⟩ := ih ((n, c) :: acc) (fun y hy => hn y (.tail _ hy)) (fun y c' hy => by
          rw [List.lookup_cons] at hy
          cases q : y == n with
          | true => rw [q] at hy; cases hy; rw [beq_iff_eq.mp q]; exact hc
          | false => rw [q] at hy; exact ha y c' hy)
        refine ⟨cl, ?_, fun y hy hf => ?_, fun y c' hy => ?_, e4⟩
        · show (if (NameKind.free == NameKind.free) = true then (do let a ← cellOf env n; pure (ForInStep.yield ((n, a) :: acc)) : Sem _) else _) >>= _ = _
          have hb : (NameKind.free == NameKind.free) = true := rfl
          rw [hb]
          show ((cellOf env n >>= fun a => pure (ForInStep.yield ((n, a) :: acc))) >>= _) = _
          rw [e]; exact e1
        · rcases List.mem_cons.mp hy with rfl | hy
          · rw [e3 n c (by rw [List.lookup_cons]; simp), hc]
          · exact e2 y hy hf
        · by_cases q : y = n
          · subst q
            have h1 := e3 y c (by rw [List.lookup_cons]; simp)
            rw [h1]
            have := ha y c' hy
            rw [hc] at this; exact this
          · refine e3 y c' ?_
            rw [List.lookup_cons, show (y == n) = false from by simpa using q]; exact hy
      · obtain ⟨cl, e1, e2, e3, e4⟩ := ih acc (fun y hy => hn y (.tail _ hy)) ha
        refine ⟨cl, ?_, fun y hy hf => ?_, e3, e4⟩
        · have hb : (kd == NameKind.free) = false := by simpa using hk
          show (if (kd == NameKind.free) = true then (do let a ← cellOf env n; pure (ForInStep.yield ((n, a) :: acc)) : Sem _) else _) >>= _ = _
          rw [hb]; exact e1
        · rcases List.mem_cons.mp hy with rfl | hy
          · exact absurd hf hk
          · exact e2 y hy hf
  obtain ⟨cl, e1, e2, _, _⟩ := go scope.names [] h (fun y c hy => by cases hy)
  refine ⟨cl, ?_, e2⟩
  unfold closureFor
  have q := congrArg (fun t : Sem (List (Str × Addr)) => t >>= fun cs => pure cs) e1
  exact q
end
end Mine
open PySem PySem.W PyProof.Rows PySem.Spec
set_option linter.unusedVariables false
set_option Elab.async false
set_option maxRecDepth 100000
namespace Mine

def compL (elt : Ev) (tst : Tr) (r : R) : List D → Option (List D)
  | [] => some []
  | x :: xs => if flat x = true then (match tst (some x :: r) with
    | some true => (match elt (some x :: r) with
      | some y => if flat y = true then (match compL elt tst r xs with | some l => some (y :: l) | none => none) else none
      | none => none)
    | some false => compL elt tst r xs
    | none => none) else none

theorem compL_all {elt : Ev} {tst : Tr} {r : R} : ∀ {ds out : List D} {i : Nat} {x : D}, compL elt tst r ds = some out → ds[i]? = some x →
    flat x = true ∧ ∃ b, tst (some x :: r) = some b ∧ (b = true → ∃ y, elt (some x :: r) = some y ∧ flat y = true)
  | d :: ds, out, i, x, h, hx => by
    unfold compL at h
    split at h
    · rename_i hfl
      split at h
      · rename_i ht
        split at h
        · rename_i y hy
          split at h
          · rename_i hfy
            split at h
            · rename_i l hl
              cases i with
              | zero => simp at hx; subst hx; exact ⟨hfl, true, ht, fun _ => ⟨y, hy, hfy⟩⟩
              | succ i => exact compL_all hl (by simpa using hx)
            · cases h
          · cases h
        · cases h
      · rename_i ht
        cases i with
        | zero => simp at hx; subst hx; exact ⟨hfl, false, ht, fun e => by cases e⟩
        | succ i => exact compL_all h (by simpa using hx)
      · cases h
    · cases h

def g0 : G := fun _ => none
theorem g0_sub (g : G) : Sub g0 g := fun _ _ e => by cases e
theorem isL_of_get {g : G} : ∀ {ds : List D} {vs : List Value}, vs.length = ds.length → (∀ (j : Nat) (v : Value), vs[j]? = some v → ∃ x, ds[j]? = some x ∧ Is g x v) → IsL g ds vs
  | [], [], _, _ => rfl
  | [], _ :: _, h, _ => by cases h
  | _ :: _, [], h, _ => by cases h
  | d :: ds, v :: vs, h, hg => by
    obtain ⟨x, hx, hi⟩ := hg 0 v rfl
    simp at hx; subst hx
    exact ⟨v, vs, rfl, hi, isL_of_get (by simpa using h) fun j u hu => by
      obtain ⟨x, hx, hi⟩ := hg (j + 1) u (by simpa using hu)
      exact ⟨x, by simpa using hx, hi⟩⟩

def compP (tst : Tr) (r : R) (v : Value) : Bool := match dv v with
  | some x => (match tst (some x :: r) with | some true => true | _ => false)
  | none => false
def compF (elt : Ev) (r : R) (v y : Value) : Prop := ∃ x d, dv v = some x ∧ elt (some x :: r) = some d ∧ flat d = true ∧ Is g0 d y

theorem comp_out {g : G} {elt : Ev} {tst : Tr} {r : R} : ∀ {ds out : List D} {vs ys : List Value}, compL elt tst r ds = some out → IsL g ds vs → Paired (compF elt r) (vs.filter (compP tst r)) ys → IsL g0 out ys
  | [], out, vs, ys, h, hL, hp => by
    rw [show vs = [] from hL] at hp
    simp only [compL, Option.some.injEq] at h
    subst h
    cases hp; rfl
  | d :: ds, out, _, ys, h, ⟨v, vs', e, hv, hL⟩, hp => by
    subst e
    unfold compL at h
    split at h
    · rename_i hfl
      have hd := hv.dv hfl
      split at h
      · rename_i ht
        have hP : compP tst r v = true := by unfold compP; rw [hd]; simp only [ht]
        rw [List.filter_cons, hP, if_pos rfl] at hp
        split at h
        · rename_i y hy
          split at h
          · rename_i hfy
            split at h
            · rename_i l hl
              cases h
              cases hp with
              | cons hF hp' =>
                obtain ⟨x, d', hx, hd', _, hi⟩ := hF
                rw [hd] at hx; cases hx
                rw [hy] at hd'; cases hd'
                exact ⟨_, _, rfl, hi, comp_out hl hL hp'⟩
            · cases h
          · cases h
        · cases h
      · rename_i ht
        have hP : compP tst r v = false := by unfold compP; rw [hd]; simp only [ht]
        rw [List.filter_cons, hP] at hp
        exact comp_out h hL hp
      · cases h
    · cases h

def eComp (elt : Ev) (tst : Tr) (iter : Ev) : Ev := fun r => match iter r with
  | some d => (match itemsOf d with
    | some ds => (match compL elt tst r ds with
      | some out => some (.lst out)
      | none => none)
    | none => none)
  | none => none
theorem eComp_some {elt : Ev} {tst : Tr} {iter : Ev} {r : R} {d : D} (h : eComp elt tst iter r = some d) :
    ∃ di ds out, iter r = some di ∧ itemsOf di = some ds ∧ compL elt tst r ds = some out ∧ d = .lst out := by
  unfold eComp at h
  split at h
  · rename_i di hdi
    split at h
    · rename_i ds hds
      split at h
      · rename_i out ho; cases h; exact ⟨_, _, _, hdi, hds, ho, rfl⟩
      · cases h
    · cases h
  · cases h

section
variable {I : GI} {k : Nat} {sc : Scope} {ns : List Str}

def tTrue : Tr := fun _ => some true
/-- the tests of a comprehension: none or one -/
def TestsOK (I : GI) (k : Nat) (sc : Scope) (ns : List Str) (ifs : List Expr) (F : Tr) : Prop := (ifs = [] ∧ F = tTrue) ∨ ∃ c, ifs = [c] ∧ TrOK I k sc ns c F
theorem TestsOK.nil : TestsOK I k sc ns [] tTrue := .inl ⟨rfl, rfl⟩
theorem TestsOK.one {c : Expr} {F : Tr} (h : TrOK I k sc ns c F) : TestsOK I k sc ns [c] F := .inr ⟨c, rfl, h⟩

structure CompS (sc scope : Scope) (ns : List Str) (x : Str) : Prop where
  cell : ∀ y ∈ scope.names, y.2 ≠ .cell
  kind : scope.kind = .function
  okind : sc.kind = .function
  names : ∀ y ∈ scope.names, y.2 = .local → scope.names.lookup y.1 = some .local
  local_ : scope.names.lookup x = some .local
  free : ∀ y ∈ scope.names, y.2 = .free → sc.names.lookup y.1 = some .cell
  fresh : ∀ y ∈ ns, (relabelS scope sc).names.lookup y ≠ some .local

theorem relabel_cell {sc : Scope} : ∀ {names : List (Str × NameKind)} {y : Str}, (∀ z ∈ names, z.2 ≠ .cell) →
    (names.map fun (n, k) => if (k == NameKind.free && sc.kind == .function && sc.names.lookup n == some .cell) then (n, NameKind.cell) else (n, k)).lookup y = some .cell → (y, .free) ∈ names ∧ sc.names.lookup y = some .cell
  | [], y, _, h => by simp at h
  | (n, kd) :: r, y, hc, h => by
    rw [List.map_cons] at h
    by_cases hb : (kd == NameKind.free && sc.kind == .function && sc.names.lookup n == some .cell) = true
    · simp only [hb, if_true] at h
      rw [List.lookup_cons] at h
      cases q : y == n with
      | true =>
        have := beq_iff_eq.mp q; subst this
        simp only [Bool.and_eq_true, beq_iff_eq] at hb
        exact ⟨by rw [show kd = .free from hb.1.1]; exact .head _, hb.2⟩
      | false =>
        rw [q] at h
        obtain ⟨a, b⟩ := relabel_cell (fun z hz => hc z (.tail _ hz)) h
        exact ⟨.tail _ a, b⟩
    · simp only [hb] at h
      simp only [Bool.false_eq_true, if_false] at h
      rw [List.lookup_cons] at h
      cases q : y == n with
      | true =>
        rw [q] at h
        exact absurd (Option.some.inj h) (hc (n, kd) (.head _))
      | false =>
        rw [q] at h
        obtain ⟨a, b⟩ := relabel_cell (fun z hz => hc z (.tail _ hz)) h
        exact ⟨.tail _ a, b⟩

theorem lookup_mem {α : Type} {l : List (Str × α)} {n : Str} {c : α} (h : l.lookup n = some c) : (n, c) ∈ l := mem_of_lookup h

/-- the frame of a comprehension, seen from within -/
theorem inner_view {env : Env} {g : G} {r : R} {h₀ h : Heap} {scope : Scope} {cl : List (Str × Addr)} {C : Addr} {x : Str} {v : Value} {xd : D} {m : Str → Option Value} (V : View I env ns g r h₀) (hS : EnvS sc env)
    (cS : CompS sc scope ns x) (hcl : ∀ y ∈ scope.names, y.2 = .free → cl.lookup y.1 = env.cells.lookup y.1) (k₀ : Grow h₀ h) (hn : h.Ns C m) (hm : m x = some v) (hv : Is g xd v) :
    EnvS (relabelS scope sc) (compEnvC scope cl C env) ∧ View I (compEnvC scope cl C env) (x :: ns) g (some xd :: r) h := by
  have er : relabel scope env = relabelS scope sc := by
    unfold relabel relabelS Env.kindOf; rw [hS.scope]
  have free_of : ∀ y, (relabelS scope sc).names.lookup y = some .cell → cl.lookup y = env.cells.lookup y ∧ sc.names.lookup y = some .cell := fun y hy => by
    obtain ⟨a, b⟩ := relabel_cell cS.cell hy
    exact ⟨hcl (y, .free) a rfl, b⟩
  refine ⟨⟨er, hS.globals, hS.builtins, fun y hy => ?_⟩, ⟨fun b o e => k₀ b o (V.sub b o e), I.grow V.gl k₀, fun i y d hy hk hd => ?_⟩⟩
  · obtain ⟨a, b⟩ := free_of y hy
    show (cl.lookup y).isSome = true
    rw [a]; exact hS.cells y b
  · cases i with
    | zero =>
      simp only [List.getElem?_cons_zero, Option.some.injEq] at hy hd
      subst hy hd
      refine ⟨v, hv, .inl ⟨?_, m, hn, hm⟩⟩
      show (relabel scope env).names.lookup x = _
      exact lookup_relabel_local cS.local_
    | succ i =>
      simp only [List.getElem?_cons_succ] at hy hd
      have hk' : (relabelS scope sc).names.lookup y = some .local ∨ (relabelS scope sc).names.lookup y = some .cell := by
        rw [← er]; exact hk
      have hc : (relabelS scope sc).names.lookup y = some .cell := by
        rcases hk' with h | h
        · exact absurd h (cS.fresh y (List.mem_of_getElem? hy))
        · exact h
      obtain ⟨a, b⟩ := free_of y hc
      obtain ⟨v', hi, hh⟩ := V.var i y d hy (.inr (by unfold Env.kindOf; rw [hS.scope]; exact b)) hd
      refine ⟨v', hi, .inr ⟨?_, ?_⟩⟩
      · show (relabel scope env).names.lookup y = _
        rw [er]; exact hc
      · rcases hh with ⟨hl, _⟩ | ⟨_, c, hc', hv'⟩
        · have : env.kindOf y = some .cell := by unfold Env.kindOf; rw [hS.scope]; exact b
          rw [this] at hl; cases hl
        · exact ⟨c, by show cl.lookup y = _; rw [a]; exact hc', hv'.keeps k₀⟩

theorem comp_core {A : Around} {env : Env} {g : G} {r : R} {s : Shared} {d : D} {xv : Value} {ds out : List D} {scope : Scope} {x : Str} {elt : Expr} {ifs : List Expr} {F : Ev} {T : Tr} {cl : List (Str × Addr)}
    {Q : Value → Shared → Prop} {E : Value → Shared → Prop} (hS : EnvS sc env) (hA : AOK k A) (cS : CompS sc scope ns x) (V : View I env ns g r s.heap) (hcl : ∀ y ∈ scope.names, y.2 = .free → cl.lookup y.1 = env.cells.lookup y.1)
    (he : EvOK I k (relabelS scope sc) (x :: ns) elt F) (ht : TestsOK I k (relabelS scope sc) (x :: ns) ifs T) (hv : Is g d xv) (hi : itemsOf d = some ds) (hc : compL F T r ds = some out) (hz : ds.length ≤ sizeLine)
    (h : ∀ (o : Obj) (fp : List Addr) (P : Nat → Value → Prop) (St : Nat → Heap → Prop), Walks I.prog I.w A s.heap.objs.size fp [s.heap.objs.size] ds.length P St → St 0 (s.heap.push o) → (∀ b ∈ fp, b < (s.heap.push o).objs.size) →
      QuietOnC I.prog I.w A env scope cl x ifs elt [s.heap.objs.size] P (compP T r) (compF F r) { s with heap := s.heap.push o } →
      (∀ vs ys : List Value, vs.length = ds.length → (∀ (j : Nat) (v : Value), vs[j]? = some v → P j v) → Paired (compF F r) (vs.filter (compP T r)) ys → IsL g0 out ys) → Q (.ref s.heap.objs.size) { s with heap := s.heap.push o }) :
    wpAny (model I.prog I.w) A (pyIter xv) Q E s := by
  refine iter_ok hA.1 V.sub hv hi fun o fp P St W hP hst hfp _ => h o fp P St W hst (fun b hb => ?_) ?_ fun vs ys hlen hPv hp => ?_
  · rw [Heap.size_push]
    rcases hfp b hb with rfl | hb
    · exact Nat.lt_succ_self _
    · obtain ⟨o', ho'⟩ := Option.isSome_iff_exists.mp hb
      exact Nat.lt_succ_of_lt (Heap.lt_size (V.sub _ _ ho'))
  · have up : ∀ {h' : Heap}, (∀ b o', b ∉ [s.heap.objs.size] → (s.heap.push o).get? b = some o' → h'.get? b = some o') → Grow s.heap h' := fun hk b o' e =>
      hk b o' (by rw [List.mem_singleton]; exact Nat.ne_of_lt (Heap.lt_size e)) (Heap.get?_push_of_some _ e)
    refine ⟨fun C i v s₃ m₃ E' _ hPi hn hm hk _ => ?_, fun C i v s₃ m₃ E' _ hPi hp hn hm hk _ => ?_⟩
    · obtain ⟨xd, hx, hI⟩ := hP i v hPi
      obtain ⟨hfl, b, hb, _⟩ := compL_all hc hx
      have hd := hI.dv hfl
      obtain ⟨hS', V'⟩ := inner_view V hS cS hcl (up hk) hn hm hI
      have hpv : compP T r v = b := by
        unfold compP; rw [hd]; simp only [hb]; cases b <;> rfl
      rcases ht with ⟨rfl, rfl⟩ | ⟨c, rfl, hT⟩
      · cases hb
        exact wpAny_tests_nil ⟨hpv.symm, ⟨s₃.heap, s₃.toks, rfl, fun _ _ e => e⟩⟩
      · exact wpAny_tests_one (hT _ A g _ s₃ b _ E' hS' hA V' hb fun h' tk kk => ⟨hpv.symm, ⟨h', tk, rfl, kk⟩⟩)
    · obtain ⟨xd, hx, hI⟩ := hP i v hPi
      obtain ⟨hfl, b, hb, hy⟩ := compL_all hc hx
      have hd := hI.dv hfl
      obtain ⟨hS', V'⟩ := inner_view V hS cS hcl (up hk) hn hm hI
      have hpv : b = true := by
        unfold compP at hp; rw [hd] at hp; simp only [hb] at hp; cases b
        · cases hp
        · rfl
      obtain ⟨y, hy, hfy⟩ := hy hpv
      exact he _ A g _ s₃ y _ E' hS' hA V' hy fun w h' tk kk hw => ⟨⟨xd, y, hd, hy, hfy, hw.flat hfy⟩, ⟨h', tk, rfl, kk⟩⟩
  · exact comp_out hc (isL_of_get hlen fun j v hv => hP j v (hPv j v hv)) hp

theorem itemsOf_len {d : D} {ds : List D} (h : itemsOf d = some ds) : ds.length ≤ sizeLine := by
  unfold itemsOf at h
  split at h
  · split at h
    · cases h; assumption
    · cases h
  · split at h
    · cases h; assumption
    · cases h
  · split at h
    · rename_i hz; cases h; simpa [rngL] using hz.2.2
    · cases h
  · split at h
    · cases h; rw [List.length_map, Array.length_toList]; assumption
    · cases h
  · cases h

theorem EvOK.comp {elt iter : Expr} {ifs : List Expr} {x : Str} {px pos : Pos} {scope : Scope} {F Fi : Ev} {T : Tr} (cS : CompS sc scope ns x) (hi : EvOK I k sc ns iter Fi)
    (he : EvOK I k (relabelS scope sc) (x :: ns) elt F) (ht : TestsOK I k (relabelS scope sc) (x :: ns) ifs T) (hs : ∀ env x, foldedSetIterable iter env x = pure x) :
    EvOK I k sc ns (.ListComp elt [⟨.Name x px, iter, ifs, 0⟩] scope pos) (eComp F T Fi) := by
  intro env A g r s d Q E hS hA V hF P
  obtain ⟨di, ds, out, h1, h2, h3, rfl⟩ := eComp_some hF
  obtain ⟨cl, e1, e2⟩ := closure_ok (M := model I.prog I.w) (env := env) scope fun y hy hf => hS.cells _ (cS.free y hy hf)
  refine wpAny_ListComp_free (compP T r) (compF F r) e1 cS.cell cS.kind cS.names cS.local_ (hi env A g r s di _ E hS hA V h1 fun xv h₁ tk₁ k₁ hv => ?_) (hs env)
  refine comp_core (s := { s with heap := h₁, toks := tk₁ }) hS hA cS (V.grow k₁) e2 he ht hv h2 h3 (itemsOf_len h2) fun o fp Pp St W hst hfp hq hout => ?_
  refine ⟨_, fp, _, _, Pp, St, rfl, W, itemsOf_len h2, hst, hfp, hq, fun D h' tk ys vs hD hl hpl hlen hPv hp hk => ?_⟩
  have kk : Grow s.heap h' := fun b o' e => hk b o' (by rw [List.mem_singleton]; exact Nat.ne_of_lt (Heap.lt_size (k₁ b o' e))) (Heap.get?_push_of_some _ (k₁ b o' e))
  refine P _ h' tk kk ?_
  obtain ⟨n, hn⟩ := hpl
  refine ⟨D, { cls := .type "list", data := .seq ys n }, ys, n, rfl, ?_, rfl, rfl, IsL.mono (g0_sub _) _ (hout vs ys.toList hlen hPv hp)⟩
  have hDs : s.heap.get? D = none := by
    cases q : s.heap.get? D with
    | none => rfl
    | some o' =>
      have := Heap.get?_push_of_some o (k₁ _ _ q)
      rw [hD] at this; cases this
  rw [ext_new hDs]; exact hn
end
end Mine
open PySem PySem.W PyProof.Rows PySem.Spec
set_option linter.unusedVariables false
set_option Elab.async false
set_option maxRecDepth 100000
namespace Mine

inductive Slot where
  | unb
  | imm (d : D)
  | mt (l : List D)
abbrev St := List Slot
def rH : Slot → Option D
  | .imm d => some d
  | _ => none
def rF : Slot → Option D
  | .imm d => some d
  | .mt l => some (.lst l)
  | .unb => none
def rdH (σ : St) : R := σ.map rH
def rdF (σ : St) : R := σ.map rF

def lobj (vs : Array Value) (n : Nat) : Obj := { cls := .type "list", data := .seq vs n }

structure Owned (env : Env) (g fix : G) (h : Heap) (a : Addr) (l : List D) : Prop where
  obj : ∃ vs n, h.get? a = some (lobj vs n) ∧ IsL g l vs.toList
  off : fix a = none
  loc : a ≠ env.locals
  cel : ∀ n c, env.cells.lookup n = some c → a ≠ c

/-- the frame at hand: g what the names' data rest on, fix what nothing changes -/
structure SR (I : GI) (env : Env) (ns : List Str) (own : Nat → Addr) (g fix : G) (σ : St) (h : Heap) : Prop where
  gfix : Sub g fix
  sub : Sub fix h.get?
  base : ∃ h₀, I.Gl h₀ ∧ Sub h₀.get? fix
  frame : ∃ m, h.Ns env.locals m
  fixL : fix env.locals = none
  cells : ∀ n c, env.cells.lookup n = some c → (∃ v, h.IsCell c v) ∧ fix c = none ∧ c ≠ env.locals
  apart : ∀ n n' c, env.cells.lookup n = some c → env.cells.lookup n' = some c → n = n'
  imm : ∀ (i : Nat) (x : Str) (d : D), ns[i]? = some x → σ[i]? = some (.imm d) → ∃ v, Is g d v ∧ Holds env h x v
  mtd : ∀ (i : Nat) (x : Str) (l : List D), ns[i]? = some x → σ[i]? = some (.mt l) → Holds env h x (.ref (own i)) ∧ Owned env g fix h (own i) l
  inj : ∀ (i j : Nat) (l l' : List D), σ[i]? = some (.mt l) → σ[j]? = some (.mt l') → own i = own j → i = j

section
variable {I : GI} {k : Nat} {sc : Scope} {ns : List Str} {env : Env} {own : Nat → Addr} {g fix : G} {σ : St} {h : Heap}

theorem SR.gl (S : SR I env ns own g fix σ h) : I.Gl h := let ⟨h₀, a, b⟩ := S.base; I.grow a fun i o e => S.sub i o (b i o e)

theorem rdH_get {σ : St} {i : Nat} {d : D} (h : (rdH σ)[i]? = some (some d)) : σ[i]? = some (.imm d) := by
  unfold rdH at h
  rw [List.getElem?_map] at h
  cases q : σ[i]? with
  | none => rw [q] at h; simp at h
  | some sl =>
    rw [q] at h
    cases sl <;> simp [rH] at h
    rw [h]
theorem rdF_get {σ : St} {i : Nat} {d : D} (h : (rdF σ)[i]? = some (some d)) : σ[i]? = some (.imm d) ∨ ∃ l, d = .lst l ∧ σ[i]? = some (.mt l) := by
  unfold rdF at h
  rw [List.getElem?_map] at h
  cases q : σ[i]? with
  | none => rw [q] at h; simp at h
  | some sl =>
    rw [q] at h
    cases sl <;> simp [rF] at h
    · rw [h]; exact .inl rfl
    · exact .inr ⟨_, h.symm, rfl⟩

theorem SR.viewH (S : SR I env ns own g fix σ h) : View I env ns g (rdH σ) h where
  sub := S.gfix.trans S.sub
  gl := S.gl
  var := fun i x d hx _ hd => S.imm i x d hx (rdH_get hd)
theorem SR.viewF (S : SR I env ns own g fix σ h) : View I env ns h.get? (rdF σ) h where
  sub := Sub.refl _
  gl := S.gl
  var := fun i x d hx _ hd => by
    rcases rdF_get hd with q | ⟨l, rfl, q⟩
    · obtain ⟨v, a, b⟩ := S.imm i x d hx q
      exact ⟨v, Is.mono (S.gfix.trans S.sub) d a, b⟩
    · obtain ⟨a, b⟩ := S.mtd i x l hx q
      obtain ⟨vs, n, h1, h2⟩ := b.obj
      exact ⟨_, ⟨own i, _, vs, n, rfl, h1, rfl, rfl, IsL.mono (S.gfix.trans S.sub) l h2⟩, a⟩

/-- the heap grows: what is new may be leant on -/
theorem ext_mono {g g' : G} {h h' : Heap} (s : Sub g g') : Sub (ext g h h') (ext g' h h') := fun b o e => by
  cases q : h.get? b with
  | none => rw [ext_new q] at e ⊢; exact e
  | some o' => rw [ext_old q] at e ⊢; exact s b o e
theorem IsCell.live {h : Heap} {c : Addr} {v : Option Value} (x : h.IsCell c v) : ∃ o, h.get? c = some o := let ⟨o, a, _⟩ := x; ⟨o, a⟩
theorem SR.grow (S : SR I env ns own g fix σ h) {h' : Heap} (kk : Grow h h') : SR I env ns own (ext g h h') (ext fix h h') σ h' where
  gfix := ext_mono S.gfix
  sub := ext_in S.sub kk
  base := let ⟨h₀, a, b⟩ := S.base; ⟨h₀, a, b.trans (ext_sub S.sub)⟩
  frame := let ⟨m, a⟩ := S.frame; ⟨m, a.keeps kk⟩
  fixL := by
    obtain ⟨m, o, _, _, e, _⟩ := S.frame
    rw [ext_old e]; exact S.fixL
  cells := fun n c hc => by
    obtain ⟨⟨v, a⟩, b, d⟩ := S.cells n c hc
    obtain ⟨o, e⟩ := IsCell.live a
    exact ⟨⟨v, a.keeps kk⟩, by rw [ext_old e]; exact b, d⟩
  apart := S.apart
  imm := fun i x d hx hd => let ⟨v, a, b⟩ := S.imm i x d hx hd; ⟨v, Is.mono (ext_sub (S.gfix.trans S.sub)) d a, b.grow kk⟩
  mtd := fun i x l hx hd => by
    obtain ⟨a, b⟩ := S.mtd i x l hx hd
    obtain ⟨vs, n, h1, h2⟩ := b.obj
    exact ⟨a.grow kk, ⟨⟨vs, n, kk _ _ h1, IsL.mono (ext_sub (S.gfix.trans S.sub)) l h2⟩, by rw [ext_old h1]; exact b.off, b.loc, b.cel⟩⟩
  inj := S.inj
/-- the heap grows: nothing new is leant on -/
theorem SR.keep (S : SR I env ns own g fix σ h) {h' : Heap} (kk : Grow h h') : SR I env ns own g fix σ h' where
  gfix := S.gfix
  sub := fun b o e => kk b o (S.sub b o e)
  base := S.base
  frame := let ⟨m, a⟩ := S.frame; ⟨m, a.keeps kk⟩
  fixL := S.fixL
  cells := fun n c hc => let ⟨⟨v, a⟩, b, d⟩ := S.cells n c hc; ⟨⟨v, a.keeps kk⟩, b, d⟩
  apart := S.apart
  imm := fun i x d hx hd => let ⟨v, a, b⟩ := S.imm i x d hx hd; ⟨v, a, b.grow kk⟩
  mtd := fun i x l hx hd => by
    obtain ⟨a, b⟩ := S.mtd i x l hx hd
    obtain ⟨vs, n, h1, h2⟩ := b.obj
    exact ⟨a.grow kk, ⟨⟨vs, n, kk _ _ h1, h2⟩, b.off, b.loc, b.cel⟩⟩
  inj := S.inj

/-- what a step leaves -/
structure After (g fix g' fix' : G) : Prop where
  gg : Sub g g'
  ff : Sub fix fix'
  new : ∀ b o, g' b = some o → g b = some o ∨ fix b = none
theorem Sub.none {g g' : G} (s : Sub g g') {b : Addr} (h : g' b = none) : g b = none := by
  cases q : g b with
  | none => rfl
  | some o => rw [s b o q] at h; cases h
theorem After.refl (g fix : G) : After g fix g fix := ⟨Sub.refl _, Sub.refl _, fun _ _ e => .inl e⟩
theorem After.trans {g fix g₁ fix₁ g₂ fix₂ : G} (x : After g fix g₁ fix₁) (y : After g₁ fix₁ g₂ fix₂) : After g fix g₂ fix₂ :=
  { gg := x.gg.trans y.gg, ff := x.ff.trans y.ff, new := fun b o e => by
      rcases y.new b o e with q | q
      · exact x.new b o q
      · exact .inr (x.ff.none q) }
theorem After.grow {g fix : G} {h h' : Heap} (sg : Sub g h.get?) (sf : Sub fix h.get?) : After g fix (ext g h h') (ext fix h h') :=
  { gg := ext_sub sg, ff := ext_sub sf,
    new := fun b o e => by
      cases q : h.get? b with
      | none => exact .inr (sf.none q)
      | some o' => rw [ext_old q] at e; exact .inl e }

theorem Ns.func {h : Heap} {a : Addr} {m m' : Str → Option Value} (x : h.Ns a m) (y : h.Ns a m') : m = m' := by
  obtain ⟨o, es, ep, h1, h2, _, h4⟩ := x
  obtain ⟨o', es', ep', h1', h2', _, h4'⟩ := y
  rw [h1] at h1'; cases h1'
  rw [h2] at h2'; cases h2'
  funext z; rw [← h4, ← h4']

/-- a name is stored: a change of one place -/
theorem SR.change (S : SR I env ns own g fix σ h) (nd : ns.Nodup) {h' : Heap} {i : Nat} {x : Str} {a : Addr} {sl : Slot} {own' : Nat → Addr} (hx : ns[i]? = some x) (hs : Heap.SameBut a h h') (hfa : fix a = none)
    (hfr : ∃ m, h'.Ns env.locals m) (hce : ∀ n c, env.cells.lookup n = some c → ∃ v, h'.IsCell c v)
    (hoth : ∀ y v, y ≠ x → Holds env h y v → Holds env h' y v)
    (hna : ∀ j l, σ[j]? = some (.mt l) → own j ≠ a)
    (ho : ∀ j, j ≠ i → own' j = own j)
    (himm : ∀ d, sl = .imm d → ∃ v, Is g d v ∧ Holds env h' x v) (hmut : ∀ l, sl = .mt l → Holds env h' x (.ref (own' i)) ∧ Owned env g fix h' (own' i) l ∧ ∀ j l', j ≠ i → σ[j]? = some (.mt l') → own j ≠ own' i) :
    SR I env ns own' g fix (σ.set i sl) h' ∧ After g fix g fix := by
  have sub' : Sub fix h'.get? := fun b o e => by
    have hb : b ≠ a := fun q => by rw [q, hfa] at e; cases e
    rw [hs.2 b hb]; exact S.sub b o e
  have idx : ∀ j y, j ≠ i → ns[j]? = some y → y ≠ x := fun j y hj hy q => by
    subst q
    obtain ⟨l1, e1⟩ := List.getElem?_eq_some_iff.mp hy
    obtain ⟨l2, e2⟩ := List.getElem?_eq_some_iff.mp hx
    exact hj ((List.getElem_inj nd).mp (e1.trans e2.symm))
  have hin : i < σ.length ∨ σ.length ≤ i := by omega
  refine ⟨⟨S.gfix, sub', S.base, hfr, S.fixL, fun n c hc => ⟨hce n c hc, (S.cells n c hc).2⟩, S.apart, fun j y d hy hd => ?_, fun j y l hy hd => ?_, fun j j' l l' hj hj' e => ?_⟩, After.refl _ _⟩
  · by_cases hj : j = i
    · subst hj
      rw [hx] at hy; cases hy
      rw [List.getElem?_set] at hd
      simp only [if_true] at hd
      split at hd
      · exact himm d (by simpa using hd)
      · cases hd
    · rw [List.getElem?_set_ne (Ne.symm hj)] at hd
      obtain ⟨v, p, q⟩ := S.imm j y d hy hd
      exact ⟨v, p, hoth y v (idx j y hj hy) q⟩
  · by_cases hj : j = i
    · subst hj
      rw [hx] at hy; cases hy
      rw [List.getElem?_set] at hd
      simp only [if_true] at hd
      split at hd
      · obtain ⟨p, q, _⟩ := hmut l (by simpa using hd)
        exact ⟨p, q⟩
      · cases hd
    · rw [List.getElem?_set_ne (Ne.symm hj)] at hd
      obtain ⟨p, q⟩ := S.mtd j y l hy hd
      obtain ⟨vs, n, h1, h2⟩ := q.obj
      rw [ho j hj]
      exact ⟨hoth y _ (idx j y hj hy) p, ⟨⟨vs, n, (hs.2 _ (hna j l hd)).trans h1, h2⟩, q.off, q.loc, q.cel⟩⟩
  · by_cases h1 : j = i
    · by_cases h2 : j' = i
      · rw [h1, h2]
      · exfalso
        subst h1
        rw [List.getElem?_set] at hj
        simp only [if_true] at hj
        split at hj
        · obtain ⟨_, _, r⟩ := hmut l (by simpa using hj)
          rw [List.getElem?_set_ne (Ne.symm h2)] at hj'
          exact r j' l' h2 hj' (by rw [← ho j' h2]; exact e.symm)
        · cases hj
    · by_cases h2 : j' = i
      · exfalso
        subst h2
        rw [List.getElem?_set] at hj'
        simp only [if_true] at hj'
        split at hj'
        · obtain ⟨_, _, r⟩ := hmut l' (by simpa using hj')
          rw [List.getElem?_set_ne (Ne.symm h1)] at hj
          exact r j l h1 hj (by rw [← ho j h1]; exact e)
        · cases hj'
      · rw [List.getElem?_set_ne (Ne.symm h1)] at hj
        rw [List.getElem?_set_ne (Ne.symm h2)] at hj'
        rw [ho j h1, ho j' h2] at e
        exact S.inj j j' l l' hj hj' e

/-- storeName, of a local or a cell -/
theorem SR.store {M : Model} {A : Around} {s : Shared} {E : Value → Shared → Prop} {Q : Unit → Shared → Prop} (S : SR I env ns own g fix σ s.heap) (nd : ns.Nodup) (hS : EnvS sc env) (hk : sc.kind = .function) {i : Nat} {x : Str} {v : Value} {sl : Slot} {own' : Nat → Addr} (hx : ns[i]? = some x)
    (hkind : sc.names.lookup x = some .local ∨ sc.names.lookup x = some .cell)
    (ho : ∀ j, j ≠ i → own' j = own j)
    (himm : ∀ d, sl = .imm d → Is g d v) (hmut : ∀ l, sl = .mt l → v = .ref (own' i) ∧ Owned env g fix s.heap (own' i) l ∧ ∀ j l', j ≠ i → σ[j]? = some (.mt l') → own j ≠ own' i)
    (hown : ∀ j l, σ[j]? = some (.mt l) → own j ≠ env.locals ∧ ∀ n c, env.cells.lookup n = some c → own j ≠ c)
    (hQ : ∀ h' tk, SR I env ns own' g fix (σ.set i sl) h' → After g fix g fix → Q () { s with heap := h', toks := tk }) : wpAny M A (storeName env x v) Q E s := by
  obtain ⟨m, hm⟩ := S.frame
  rcases hkind with hl | hc
  · have hl' : env.kindOf x = some .local := by unfold Env.kindOf; rw [hS.scope]; exact hl
    refine wpAny_storeName_local hl' hm (fun h' hn hs => ?_) (by rw [hS.scope, hk]; rfl)
    have cel' : ∀ n c w, env.cells.lookup n = some c → s.heap.IsCell c w → h'.IsCell c w := fun n c w hc hw => hw.sameBut hs (S.cells n c hc).2.2
    have hh : Holds env h' x v := .inl ⟨hl', _, hn, by simp⟩
    obtain ⟨a, b⟩ := S.change nd (h' := h') (sl := sl) (own' := own') hx hs S.fixL ⟨_, hn⟩ (fun n c hc => let ⟨⟨w, a⟩, _⟩ := S.cells n c hc; ⟨w, cel' n c w hc a⟩)
      (fun y w hy hw => by
        rcases hw with ⟨p, m', hm', q⟩ | ⟨p, c, hc, q⟩
        · rw [Ns.func hm' hm] at q
          exact .inl ⟨p, _, hn, by simp only [if_neg hy]; exact q⟩
        · exact .inr ⟨p, c, hc, cel' y c _ hc q⟩)
      (fun j l hj => (hown j l hj).1) ho (fun d hd => ⟨v, himm d hd, hh⟩)
      (fun l hl => by
        obtain ⟨p, q, r⟩ := hmut l hl
        obtain ⟨vs, n, h1, h2⟩ := q.obj
        exact ⟨p ▸ hh, ⟨⟨vs, n, (hs.2 _ q.loc).trans h1, h2⟩, q.off, q.loc, q.cel⟩, r⟩)
    exact hQ h' _ a b
  · have hc' : env.kindOf x = some .cell := by unfold Env.kindOf; rw [hS.scope]; exact hc
    obtain ⟨c, hcl⟩ := Option.isSome_iff_exists.mp (hS.cells x hc)
    obtain ⟨⟨w₀, hw₀⟩, hfc, hcL⟩ := S.cells x c hcl
    refine wpAny_storeName_cell (hS.scope ▸ hk) hc' hcl hw₀ fun h' hv hs => ?_
    have hn : h'.Ns env.locals m := hm.sameBut hs (Ne.symm hcL)
    have cel' : ∀ n c' w, n ≠ x → env.cells.lookup n = some c' → s.heap.IsCell c' w → h'.IsCell c' w := fun n c' w hne hc2 hw => hw.sameBut hs fun q => hne (S.apart n x c' hc2 (q ▸ hcl))
    have hh : Holds env h' x v := .inr ⟨hc', c, hcl, hv⟩
    obtain ⟨a, b⟩ := S.change nd (h' := h') (sl := sl) (own' := own') hx hs hfc ⟨_, hn⟩
      (fun n c' hc2 => by
        by_cases hne : n = x
        · subst hne; rw [hcl] at hc2; cases hc2; exact ⟨_, hv⟩
        · obtain ⟨⟨w, a⟩, _⟩ := S.cells n c' hc2; exact ⟨w, cel' n c' w hne hc2 a⟩)
      (fun y w hy hw => by
        rcases hw with ⟨p, m', hm', q⟩ | ⟨p, c', hc2, q⟩
        · exact .inl ⟨p, _, hm'.sameBut hs (Ne.symm hcL), q⟩
        · exact .inr ⟨p, c', hc2, cel' y c' _ hy hc2 q⟩)
      (fun j l hj => (hown j l hj).2 x c hcl) ho (fun d hd => ⟨v, himm d hd, hh⟩)
      (fun l hl => by
        obtain ⟨p, q, r⟩ := hmut l hl
        obtain ⟨vs, n, h1, h2⟩ := q.obj
        exact ⟨p ▸ hh, ⟨⟨vs, n, (hs.2 _ (q.cel x c hcl)).trans h1, h2⟩, q.off, q.loc, q.cel⟩, r⟩)
    exact hQ h' s.toks a b

end
end Mine
open PySem PySem.W PyProof.Rows PySem.Spec
set_option linter.unusedVariables false
set_option Elab.async false
set_option maxRecDepth 100000
namespace Mine

inductive Fl where
  | next
  | cont
  | ret (d : D)

def FlOK (g fix : G) (h : Heap) : Fl → Flow → Prop
  | .next, f => f = .next
  | .cont, f => f = .cont
  | .ret d, f => ∃ v gR, f = .ret v ∧ Is gR d v ∧ Sub gR h.get? ∧ ∀ b o, gR b = some o → g b = some o ∨ fix b = none

abbrev Run := Nat → St → Option (St × Fl)
def RunOK (I : GI) (k : Nat) (sc : Scope) (ns : List Str) (t : Env → Sem Flow) (F : Run) : Prop :=
  ∀ (env : Env) (A : Around) (own : Nat → Addr) (g fix : G) (σ : St) (s : Shared) (fuel : Nat) (σ' : St) (fl : Fl) (Q : Flow → Shared → Prop) (E : Value → Shared → Prop),
    EnvS sc env → AOK k A → SR I env ns own g fix σ s.heap → F fuel σ = some (σ', fl) →
    (∀ own' g' fix' h' tk f, SR I env ns own' g' fix' σ' h' → After g fix g' fix' → FlOK g' fix' h' fl f → Q f { s with heap := h', toks := tk }) → wpAny (model I.prog I.w) A (t env) Q E s

structure ScS (sc : Scope) (ns : List Str) : Prop where
  kind : sc.kind = .function
  nd : ns.Nodup
  names : ∀ x ∈ ns, sc.names.lookup x = some .local ∨ sc.names.lookup x = some .cell

section
variable {I : GI} {k : Nat} {sc : Scope} {ns : List Str}

open Classical in
/-- the view that also sees the lists that are changed -/
noncomputable def gO (own : Nat → Addr) (g : G) (σ : St) (h : Heap) : G := fun b => if ∃ i l, σ[i]? = some (.mt l) ∧ own i = b then h.get? b else g b
section
variable {env : Env} {own : Nat → Addr} {g fix : G} {σ : St} {h : Heap}
theorem gO_in (S : SR I env ns own g fix σ h) : Sub (gO own g σ h) h.get? := fun b o e => by
  unfold gO at e
  split at e
  · exact e
  · exact S.sub b o (S.gfix b o e)
theorem gO_sub (S : SR I env ns own g fix σ h) (hl : σ.length ≤ ns.length) : Sub g (gO own g σ h) := fun b o e => by
  unfold gO
  split
  · exact S.sub b o (S.gfix b o e)
  · exact e
theorem gO_new (S : SR I env ns own g fix σ h) (hl : σ.length ≤ ns.length) : ∀ b o, gO own g σ h b = some o → g b = some o ∨ fix b = none := fun b o e => by
  unfold gO at e
  split at e
  · rename_i hx
    obtain ⟨i, l, hi, rfl⟩ := hx
    have hlt : i < ns.length := Nat.lt_of_lt_of_le (List.getElem?_eq_some_iff.mp hi).1 hl
    exact .inr (S.mtd i ns[i] l (List.getElem?_eq_getElem hlt) hi).2.off
  · exact .inl e
theorem SR.viewO (S : SR I env ns own g fix σ h) (hl : σ.length ≤ ns.length) : View I env ns (gO own g σ h) (rdF σ) h where
  sub := gO_in S
  gl := S.gl
  var := fun i x d hx _ hd => by
    rcases rdF_get hd with q | ⟨l, rfl, q⟩
    · obtain ⟨v, a, b⟩ := S.imm i x d hx q
      exact ⟨v, Is.mono (gO_sub S hl) d a, b⟩
    · obtain ⟨a, b⟩ := S.mtd i x l hx q
      obtain ⟨vs, n, h1, h2⟩ := b.obj
      have e : gO own g σ h (own i) = some (lobj vs n) := by
        unfold gO; rw [if_pos ⟨i, l, q, rfl⟩]; exact h1
      exact ⟨_, ⟨own i, _, vs, n, rfl, e, rfl, rfl, IsL.mono (gO_sub S hl) l h2⟩, a⟩
end

/-- execs -/
def rNil : Run := fun _ σ => some (σ, .next)
def rSeq (F Fs : Run) : Run := fun fuel σ => match F fuel σ with
  | some (σ₁, .next) => Fs fuel σ₁
  | r => r
theorem RunOK.nil : RunOK I k sc ns (execs []) rNil := by
  intro env A own g fix σ s fuel σ' fl Q E hS hA S hF P
  cases hF
  exact wpAny_execs_nil (P own g fix s.heap s.toks _ S (After.refl _ _) rfl)
theorem RunOK.cons {st : Stmt} {rest : List Stmt} {F Fs : Run} (h : RunOK I k sc ns (exec st) F) (hs : RunOK I k sc ns (execs rest) Fs) : RunOK I k sc ns (execs (st :: rest)) (rSeq F Fs) := by
  intro env A own g fix σ s fuel σ' fl Q E hS hA S hF P
  unfold rSeq at hF
  refine wpAny_execs_cons ?_
  split at hF
  · rename_i σ₁ h1
    refine h env A own g fix σ s fuel σ₁ .next _ E hS hA S h1 fun own₁ g₁ fix₁ h₁ tk₁ f S₁ A₁ hf => ?_
    rw [show f = .next from hf]
    exact hs env A own₁ g₁ fix₁ σ₁ _ fuel σ' fl Q E hS hA S₁ hF fun own₂ g₂ fix₂ h₂ tk₂ f₂ S₂ A₂ hf₂ => P own₂ g₂ fix₂ h₂ tk₂ f₂ S₂ (A₁.trans A₂) hf₂
  · rename_i hne
    refine h env A own g fix σ s fuel σ' fl _ E hS hA S hF fun own₁ g₁ fix₁ h₁ tk₁ f S₁ A₁ hf => ?_
    have q := P own₁ g₁ fix₁ h₁ tk₁ f S₁ A₁ hf
    cases fl with
    | next => exact absurd hF (hne σ')
    | cont => rw [show f = .cont from hf] at q ⊢; exact q
    | ret d => obtain ⟨v, gR, rfl, _⟩ := hf; exact q

/-- a value that may be kept: the changed lists are unseen, or it bears no reference -/
def evS (F : Ev) (σ : St) : Option D := match F (rdH σ) with
  | some d => some d
  | none => match F (rdF σ) with
    | some d => if flat d = true then some d else none
    | none => none
theorem evS_ok {env : Env} {A : Around} {own : Nat → Addr} {g fix : G} {σ : St} {s : Shared} {e : Expr} {F : Ev} {d : D} {Q : Value → Shared → Prop} {E : Value → Shared → Prop} (hS : EnvS sc env) (hA : AOK k A)
    (S : SR I env ns own g fix σ s.heap) (h : EvOK I k sc ns e F) (hF : evS F σ = some d)
    (P : ∀ v h' tk, SR I env ns own (ext g s.heap h') (ext fix s.heap h') σ h' → After g fix (ext g s.heap h') (ext fix s.heap h') → Is (ext g s.heap h') d v → Q v { s with heap := h', toks := tk }) : wpAny (model I.prog I.w) A (eval e env) Q E s := by
  have go : ∀ {h' : Heap}, Grow s.heap h' → SR I env ns own (ext g s.heap h') (ext fix s.heap h') σ h' ∧ After g fix (ext g s.heap h') (ext fix s.heap h') := fun kk =>
    ⟨S.grow kk, After.grow (S.gfix.trans S.sub) S.sub⟩
  unfold evS at hF
  split at hF
  · rename_i d' hd
    cases hF
    exact h env A g (rdH σ) s d Q E hS hA S.viewH hd fun v h' tk kk hv => P v h' tk (go kk).1 (go kk).2 hv
  · split at hF
    · rename_i d' hd
      split at hF
      · rename_i hfl
        cases hF
        exact h env A _ (rdF σ) s d Q E hS hA S.viewF hd fun v h' tk kk hv => P v h' tk (go kk).1 (go kk).2 (hv.flat hfl)
      · cases hF
    · cases hF

theorem SR.ownOff {env : Env} {own : Nat → Addr} {g fix : G} {σ : St} {h : Heap} (S : SR I env ns own g fix σ h) (hl : σ.length ≤ ns.length) : ∀ j l, σ[j]? = some (.mt l) → own j ≠ env.locals ∧ ∀ n c, env.cells.lookup n = some c → own j ≠ c := fun j l hj => by
  have hlt : j < ns.length := Nat.lt_of_lt_of_le (List.getElem?_eq_some_iff.mp hj).1 hl
  have q := (S.mtd j ns[j] l (List.getElem?_eq_getElem hlt) hj).2
  exact ⟨q.loc, q.cel⟩

/-- a name is stored, an immutable datum -/
theorem store_imm {env : Env} {A : Around} {own : Nat → Addr} {g fix : G} {σ : St} {s : Shared} {x : Str} {i : Nat} {v : Value} {d : D} {Q : Unit → Shared → Prop} {E : Value → Shared → Prop} (hc : ScS sc ns) (hS : EnvS sc env)
    (S : SR I env ns own g fix σ s.heap) (hl : σ.length ≤ ns.length) (hx : ns[i]? = some x) (hd : Is g d v)
    (P : ∀ h' tk, SR I env ns own g fix (σ.set i (.imm d)) h' → Q () { s with heap := h', toks := tk }) : wpAny (model I.prog I.w) A (storeName env x v) Q E s :=
  S.store hc.nd hS hc.kind hx (hc.names x (List.mem_of_getElem? hx)) (fun _ _ => rfl) (fun d' e => by cases e; exact hd) (fun l e => by cases e) (S.ownOff hl) fun h' tk S' _ => P h' tk S'

def rAsg (i : Nat) (F : Ev) : Run := fun _ σ => if σ.length ≤ i then none else match evS F σ with
  | some d => some (σ.set i (.imm d), .next)
  | none => none
/-- the frame's length holds on: a check that the reader makes -/
def lenOk (n : Nat) (F : Run) : Run := fun fuel σ => if σ.length = n then F fuel σ else none

theorem RunOK.asg {x : Str} {px pos : Pos} {e : Expr} {i : Nat} {F : Ev} (hc : ScS sc ns) (hx : ns[i]? = some x) (h : EvOK I k sc ns e F) (hs : ∀ env, swapsWith e (some (.Name x px)) pos.line env = pure false) :
    RunOK I k sc ns (exec (.Assign [.Name x px] e pos)) (lenOk ns.length (rAsg i F)) := by
  intro env A own g fix σ s fuel σ' fl Q E hS hA S hF P
  unfold lenOk at hF
  split at hF
  · rename_i hlen
    unfold rAsg at hF
    split at hF
    · cases hF
    · split at hF
      · rename_i d hd
        cases hF
        refine wpAny_Assign_Name (evS_ok hS hA S h hd fun v h₁ tk₁ S₁ A₁ hv => ?_) (hs env)
        exact store_imm hc hS S₁ (Nat.le_of_eq hlen) hx hv fun h₂ tk₂ S₂ => P own _ _ h₂ tk₂ _ S₂ A₁ rfl
      · cases hF
  · cases hF

def rRet (F : Ev) : Run := fun _ σ => match F (rdH σ) with
  | some d => some (σ, .ret d)
  | none => match F (rdF σ) with
    | some d => some (σ, .ret d)
    | none => none
theorem RunOK.ret {e : Expr} {pos : Pos} {F : Ev} (h : EvOK I k sc ns e F) : RunOK I k sc ns (exec (.Return (some e) pos)) (lenOk ns.length (rRet F)) := by
  intro env A own g fix σ s fuel σ' fl Q E hS hA S hF P
  unfold lenOk at hF
  split at hF
  · rename_i hlen
    unfold rRet at hF
    split at hF
    · rename_i d hd
      cases hF
      refine wpAny_Return_some (h env A g (rdH σ) s d _ E hS hA S.viewH hd fun v h' tk kk hv => ?_)
      have S' := S.grow kk
      exact P own _ _ h' tk _ S' (After.grow (S.gfix.trans S.sub) S.sub) ⟨v, _, rfl, hv, S'.gfix.trans S'.sub, fun b o e => .inl e⟩
    · split at hF
      · rename_i d hd
        cases hF
        have hl := Nat.le_of_eq hlen
        refine wpAny_Return_some (h env A _ (rdF σ) s d _ E hS hA (S.viewO hl) hd fun v h' tk kk hv => ?_)
        have S' := S.grow kk
        refine P own _ _ h' tk _ S' (After.grow (S.gfix.trans S.sub) S.sub) ⟨v, _, rfl, hv, ext_in (gO_in S) kk, fun b o e => ?_⟩
        cases q : s.heap.get? b with
        | none => rw [ext_new q] at e ⊢; exact .inl e
        | some o' =>
          rw [ext_old q] at e ⊢
          rcases gO_new S hl b o e with p | p
          · exact .inl p
          · exact .inr (by rw [ext_old q]; exact p)
      · cases hF
  · cases hF
theorem RunOK.ret0 {pos : Pos} : RunOK I k sc ns (exec (.Return none pos)) (fun _ σ => some (σ, .ret .none)) := by
  intro env A own g fix σ s fuel σ' fl Q E hS hA S hF P
  cases hF
  exact wpAny_Return_none (P own g fix s.heap s.toks _ S (After.refl _ _) ⟨.none, g0, rfl, rfl, g0_sub _, fun b o e => by cases e⟩)
theorem RunOK.cont {pos : Pos} : RunOK I k sc ns (exec (.Continue pos)) (fun _ σ => some (σ, .cont)) := by
  intro env A own g fix σ s fuel σ' fl Q E hS hA S hF P
  cases hF
  exact wpAny_Continue (P own g fix s.heap s.toks _ S (After.refl _ _) rfl)
theorem RunOK.pass {pos : Pos} : RunOK I k sc ns (exec (.Pass pos)) rNil := by
  intro env A own g fix σ s fuel σ' fl Q E hS hA S hF P
  cases hF
  exact wpAny_Pass (P own g fix s.heap s.toks _ S (After.refl _ _) rfl)

def rIf (T : Tr) (F F' : Run) : Run := fun fuel σ => match T (rdF σ) with
  | some true => F fuel σ
  | some false => F' fuel σ
  | none => none
theorem RunOK.ifS {test : Expr} {body orelse : List Stmt} {pos : Pos} {T : Tr} {F F' : Run} (ht : TrOK I k sc ns test T) (hb : RunOK I k sc ns (execs body) F) (ho : RunOK I k sc ns (execs orelse) F') :
    RunOK I k sc ns (exec (.If test body orelse pos)) (rIf T F F') := by
  intro env A own g fix σ s fuel σ' fl Q E hS hA S hF P
  unfold rIf at hF
  split at hF
  · rename_i hT
    refine wpAny_If (ht env A _ (rdF σ) s true _ E hS hA S.viewF hT fun h₁ tk₁ kk => ?_)
    exact hb env A own _ _ σ _ fuel σ' fl Q E hS hA (S.grow kk) hF fun own₂ g₂ fix₂ h₂ tk₂ f₂ S₂ A₂ hf₂ => P own₂ g₂ fix₂ h₂ tk₂ f₂ S₂ ((After.grow (S.gfix.trans S.sub) S.sub).trans A₂) hf₂
  · rename_i hT
    refine wpAny_If (ht env A _ (rdF σ) s false _ E hS hA S.viewF hT fun h₁ tk₁ kk => ?_)
    exact ho env A own _ _ σ _ fuel σ' fl Q E hS hA (S.grow kk) hF fun own₂ g₂ fix₂ h₂ tk₂ f₂ S₂ A₂ hf₂ => P own₂ g₂ fix₂ h₂ tk₂ f₂ S₂ ((After.grow (S.gfix.trans S.sub) S.sub).trans A₂) hf₂
  · cases hF

/-- while -/
def whileL (T : Tr) (body : St → Option (St × Fl)) : Nat → St → Option (St × Fl)
  | 0, _ => none
  | n + 1, σ => match T (rdF σ) with
    | some true => (match body σ with
      | some (σ', .next) => whileL T body n σ'
      | some (σ', .cont) => whileL T body n σ'
      | some (σ', .ret d) => some (σ', .ret d)
      | none => none)
    | some false => some (σ, .next)
    | none => none
def rWhile (T : Tr) (F : Run) : Run := fun fuel σ => whileL T (F fuel) fuel σ
theorem RunOK.whileS {test : Expr} {body : List Stmt} {pos : Pos} {T : Tr} {F : Run} (ht : TrOK I k sc ns test T) (hb : RunOK I k sc ns (execs body) F) : RunOK I k sc ns (exec (.While test body [] pos)) (rWhile T F) := by
  intro env A own g fix σ s fuel σ' fl Q E hS hA S hF P
  unfold rWhile at hF
  refine wpAny_While (codeAny_whileLoop (fun n s' => ∃ own₁ g₁ fix₁ σ₁ h₁ tk₁, s' = { s with heap := h₁, toks := tk₁ } ∧ SR I env ns own₁ g₁ fix₁ σ₁ h₁ ∧ After g fix g₁ fix₁ ∧ whileL T (F fuel) n σ₁ = some (σ', fl)) ?_ fuel
    ⟨own, g, fix, σ, s.heap, s.toks, rfl, S, After.refl _ _, hF⟩)
  rintro n s' ⟨own₁, g₁, fix₁, σ₁, h₁, tk₁, rfl, S₁, A₁, hW⟩
  cases n with
  | zero => cases hW
  | succ n =>
    unfold whileL at hW
    split at hW
    · rename_i hT
      refine ht env A _ (rdF σ₁) _ true _ _ hS hA S₁.viewF hT fun h₂ tk₂ kk => ?_
      have S₂ := S₁.grow kk
      have A₂ := A₁.trans (After.grow (S₁.gfix.trans S₁.sub) S₁.sub (h' := h₂))
      simp only [if_true]
      split at hW
      · rename_i σ₂ hB
        refine hb env A own₁ _ _ σ₁ _ fuel σ₂ .next _ _ hS hA S₂ hB fun own₃ g₃ fix₃ h₃ tk₃ f₃ S₃ A₃ hf₃ => ?_
        rw [show f₃ = .next from hf₃]
        exact ⟨n, Nat.lt_succ_self n, own₃, g₃, fix₃, σ₂, h₃, tk₃, rfl, S₃, A₂.trans A₃, hW⟩
      · rename_i σ₂ hB
        refine hb env A own₁ _ _ σ₁ _ fuel σ₂ .cont _ _ hS hA S₂ hB fun own₃ g₃ fix₃ h₃ tk₃ f₃ S₃ A₃ hf₃ => ?_
        rw [show f₃ = .cont from hf₃]
        exact ⟨n, Nat.lt_succ_self n, own₃, g₃, fix₃, σ₂, h₃, tk₃, rfl, S₃, A₂.trans A₃, hW⟩
      · rename_i σ₂ d hB
        cases hW
        refine hb env A own₁ _ _ σ₁ _ fuel _ (.ret d) _ _ hS hA S₂ hB fun own₃ g₃ fix₃ h₃ tk₃ f₃ S₃ A₃ hf₃ => ?_
        have q := P own₃ g₃ fix₃ h₃ tk₃ f₃ S₃ (A₂.trans A₃) hf₃
        obtain ⟨v, gR, rfl, _⟩ := hf₃
        exact q
      · cases hW
    · rename_i hT
      cases hW
      refine ht env A _ (rdF _) _ false _ _ hS hA S₁.viewF hT fun h₂ tk₂ kk => ?_
      simp only [Bool.false_eq_true, if_false]
      exact wpAny_execs_nil (P own₁ _ _ h₂ tk₂ _ (S₁.grow kk) (A₁.trans (After.grow (S₁.gfix.trans S₁.sub) S₁.sub)) rfl)
    · cases hW
end
end Mine
open PySem PySem.W PyProof.Rows PySem.Spec
set_option linter.unusedVariables false
set_option Elab.async false
set_option maxRecDepth 100000
namespace Mine
section
variable {I : GI} {k : Nat} {sc : Scope} {ns : List Str}

/-- x op= e, ints -/
def IOpOK (I : GI) (k : Nat) (op : Operator) (f : D → D → Option D) : Prop :=
  ∀ (A : Around) (s : Shared) (g : G) (x y d : D) (u v : Value) (Q : Value → Shared → Prop) (E : Value → Shared → Prop),
    AOK k A → Is g x u → Is g y v → f x y = some d → (∀ v' tk, Is g d v' → Q v' { s with toks := tk }) → wpAny (model I.prog I.w) A (inplaceOp op u v) Q E s
def fAddI : D → D → Option D
  | .int a, .int b => some (.int (a + b))
  | _, _ => none
theorem IOpOK.add : IOpOK I k .Add fAddI := by
  intro A s g x y d u v Q E hA hx hy hf P
  unfold fAddI at hf
  split at hf
  · obtain ⟨t, rfl⟩ := hx
    obtain ⟨t', rfl⟩ := hy
    cases hf
    exact PySem.P.iadd_int (P _ _ ⟨_, rfl⟩)
  · cases hf
theorem IOpOK.sub : IOpOK I k .Sub fSub := by
  intro A s g x y d u v Q E hA hx hy hf P
  unfold fSub at hf
  split at hf
  · obtain ⟨t, rfl⟩ := hx
    obtain ⟨t', rfl⟩ := hy
    cases hf
    exact PySem.P.isub_int (P _ _ ⟨_, rfl⟩)
  · cases hf
theorem IOpOK.mul : IOpOK I k .Mult fMul := by
  intro A s g x y d u v Q E hA hx hy hf P
  unfold fMul at hf
  split at hf
  · obtain ⟨t, rfl⟩ := hx
    obtain ⟨t', rfl⟩ := hy
    split at hf
    · rename_i hm
      cases hf
      exact PySem.P.imul_int (P _ _ ⟨_, rfl⟩) (mulOk_ok hm)
    · cases hf
  · cases hf
theorem IOpOK.div : IOpOK I k .FloorDiv fDiv := by
  intro A s g x y d u v Q E hA hx hy hf P
  unfold fDiv at hf
  split at hf
  · obtain ⟨t, rfl⟩ := hx
    obtain ⟨t', rfl⟩ := hy
    split at hf
    · rename_i hm
      cases hf
      simp only [divOk, Bool.and_eq_true, decide_eq_true_eq] at hm
      exact ifloordiv_int hm.1 (P _ _ ⟨_, rfl⟩) (.inl (PyProof.noPylong_of_log2 hm.2))
    · cases hf
  · cases hf
theorem IOpOK.mod : IOpOK I k .Mod fMod := by
  intro A s g x y d u v Q E hA hx hy hf P
  unfold fMod at hf
  split at hf
  · obtain ⟨t, rfl⟩ := hx
    obtain ⟨t', rfl⟩ := hy
    split at hf
    · rename_i hm
      cases hf
      exact imod_int hm (P _ _ ⟨_, rfl⟩)
    · cases hf
  · cases hf

theorem loadName_ok {env : Env} {A : Around} {s : Shared} {x : Str} {v : Value} {Q : Value → Shared → Prop} {E : Value → Shared → Prop} (hS : EnvS sc env) (hk : sc.kind = .function) (hv : Holds env s.heap x v) (q : Q v s) :
    wpAny (model I.prog I.w) A (loadName env x) Q E s := by
  rcases hv with ⟨hl, m, hn, hm⟩ | ⟨hl, c, hc, hv⟩
  · exact wpAny_loadName_local (hS.scope ▸ hk) hl hn hm q
  · exact wpAny_loadName_cell (hS.scope ▸ hk) hl hc hv q

def rAug (i : Nat) (f : D → D → Option D) (F : Ev) : Run := fun _ σ => match σ[i]? with
  | some (.imm x) => (match evS F σ with
    | some y => (match f x y with
      | some z => some (σ.set i (.imm z), .next)
      | none => none)
    | none => none)
  | _ => none
theorem RunOK.aug {x : Str} {px pos : Pos} {op : Operator} {e : Expr} {i : Nat} {f : D → D → Option D} {F : Ev} (hc : ScS sc ns) (hx : ns[i]? = some x) (h : EvOK I k sc ns e F) (ho : IOpOK I k op f) :
    RunOK I k sc ns (exec (.AugAssign (.Name x px) op e pos)) (lenOk ns.length (rAug i f F)) := by
  intro env A own g fix σ s fuel σ' fl Q E hS hA S hF P
  unfold lenOk at hF
  split at hF
  · rename_i hlen
    unfold rAug at hF
    split at hF
    · rename_i xd hxd
      split at hF
      · rename_i y hy
        split at hF
        · rename_i z hz
          cases hF
          obtain ⟨vx, hi, hh⟩ := S.imm i x xd hx hxd
          refine wpAny_AugAssign_Name (loadName_ok hS hc.kind hh (evS_ok hS hA S h hy fun v h₁ tk₁ S₁ A₁ hv => ?_))
          refine ho A _ _ xd y z vx v _ E hA (Is.mono A₁.gg xd hi) hv hz fun v' tk₂ hv' => ?_
          exact store_imm (s := { s with heap := h₁, toks := tk₂ }) hc hS S₁ (Nat.le_of_eq hlen) hx hv' fun h₂ tk₂ S₂ => P own _ _ h₂ tk₂ _ S₂ A₁ rfl
        · cases hF
      · cases hF
    · cases hF
  · cases hF

/-- several names at once -/
inductive NamesAre : List Expr → List Str → Prop
  | nil : NamesAre [] []
  | cons {x : Str} {p : Pos} {r : List Expr} {xs : List Str} : NamesAre r xs → NamesAre (.Name x p :: r) (x :: xs)
def setAll : List Nat → List D → St → St
  | i :: is, d :: ds, σ => setAll is ds (σ.set i (.imm d))
  | _, _, σ => σ
theorem setAll_length : ∀ (is : List Nat) (ds : List D) (σ : St), (setAll is ds σ).length = σ.length
  | [], _, _ => rfl
  | _ :: _, [], _ => rfl
  | i :: is, d :: ds, σ => by rw [setAll, setAll_length is ds]; exact List.length_set

theorem storeAll {env : Env} {A : Around} {g fix : G} {own : Nat → Addr} {E : Value → Shared → Prop} (hc : ScS sc ns) (hS : EnvS sc env) (tgt : Str → Value → Sem Unit)
    (ht : ∀ x v s (Q : Unit → Shared → Prop), wpAny (model I.prog I.w) A (storeName env x v) Q E s → wpAny (model I.prog I.w) A (tgt x v) Q E s) :
    ∀ (xs : List Str) (is : List Nat) (ds : List D) (vs : List Value) (σ : St) (s : Shared) (Q : Unit → Shared → Prop), SR I env ns own g fix σ s.heap → σ.length ≤ ns.length → is.map (ns[·]?) = xs.map some → ds.length = is.length → IsL g ds vs →
      (∀ h' tk, SR I env ns own g fix (setAll is ds σ) h' → Q () { s with heap := h', toks := tk }) → wpAny (model I.prog I.w) A (assignInOrder (xs.map tgt) vs) Q E s
  | [], [], [], vs, σ, s, Q, S, hl, hx, hd, hv, P => by
    rw [show vs = [] from hv]
    exact wpAny_pure (P s.heap s.toks S)
  | [], _ :: _, _, _, _, _, _, _, _, hx, _, _, _ => by simp at hx
  | _ :: _, [], _, _, _, _, _, _, _, hx, _, _, _ => by simp at hx
  | [], [], _ :: _, _, _, _, _, _, _, _, hd, _, _ => by simp at hd
  | _ :: _, _ :: _, [], _, _, _, _, _, _, _, hd, _, _ => by simp at hd
  | x :: xs, i :: is, d :: ds, vs, σ, s, Q, S, hl, hx, hd, ⟨v, vs', e, hv, hvs⟩, P => by
    simp only [List.map_cons, List.cons.injEq] at hx
    rw [e, List.map_cons]
    show wpAny _ _ (do holding vs' (tgt x v); assignInOrder (xs.map tgt) vs') _ _ _
    refine wpAny_bind (wpAny_holding (ht x v s _ (store_imm hc hS S hl hx.1 hv fun h₁ tk₁ S₁ => ?_)))
    exact storeAll hc hS tgt ht xs is ds vs' _ _ Q S₁ (by rw [List.length_set]; exact hl) hx.2 (by simpa using hd) hvs fun h₂ tk₂ S₂ => P h₂ tk₂ S₂

theorem storeAllP {env : Env} {A : Around} {g fix : G} {own : Nat → Addr} {E : Value → Shared → Prop} (hc : ScS sc ns) (hS : EnvS sc env) :
    ∀ (ps : List (Str × Pos)) (is : List Nat) (ds : List D) (vs : List Value) (σ : St) (s : Shared) (Q : Unit → Shared → Prop), SR I env ns own g fix σ s.heap → σ.length ≤ ns.length → is.map (ns[·]?) = (ps.map (·.1)).map some → ds.length = is.length → IsL g ds vs →
      (∀ h' tk, SR I env ns own g fix (setAll is ds σ) h' → Q () { s with heap := h', toks := tk }) → wpAny (model I.prog I.w) A (assignInOrder (ps.map fun q => assign (.Name q.1 q.2) env) vs) Q E s
  | [], [], [], vs, σ, s, Q, S, hl, hx, hd, hv, P => by
    rw [show vs = [] from hv]
    exact wpAny_pure (P s.heap s.toks S)
  | [], _ :: _, _, _, _, _, _, _, _, hx, _, _, _ => by simp at hx
  | _ :: _, [], _, _, _, _, _, _, _, hx, _, _, _ => by simp at hx
  | [], [], _ :: _, _, _, _, _, _, _, _, hd, _, _ => by simp at hd
  | _ :: _, _ :: _, [], _, _, _, _, _, _, _, hd, _, _ => by simp at hd
  | q :: ps, i :: is, d :: ds, vs, σ, s, Q, S, hl, hx, hd, ⟨v, vs', e, hv, hvs⟩, P => by
    simp only [List.map_cons, List.cons.injEq] at hx
    rw [e, List.map_cons]
    show wpAny _ _ (do holding vs' (assign (.Name q.1 q.2) env v); assignInOrder (ps.map fun q => assign (.Name q.1 q.2) env) vs') _ _ _
    refine wpAny_bind (wpAny_holding (PyProof.Rows.assign_Name (store_imm hc hS S hl hx.1 hv fun h₁ tk₁ S₁ => ?_)))
    exact storeAllP hc hS ps is ds vs' _ _ Q S₁ (by rw [List.length_set]; exact hl) hx.2 (by simpa using hd) hvs fun h₂ tk₂ S₂ => P h₂ tk₂ S₂

def rTup (is : List Nat) (rev : Bool) (F : Ev) : Run := fun _ σ => match evS F σ with
  | some (.tup ds) => if ds.length = is.length then some (if rev = true then setAll is.reverse ds.reverse σ else setAll is ds σ, .next) else none
  | _ => none

theorem assignEach_names {env : Env} : ∀ {elts : List Expr} {xs : List Str}, NamesAre elts xs → ∃ ps : List (Str × Pos), (assignEach elts env).map (·.2) = ps.map (fun q => assign (.Name q.1 q.2) env) ∧ ps.map (·.1) = xs ∧ (assignEach elts env).findIdx? (·.1) = none ∧ (assignEach elts env).length = xs.length
  | _, _, .nil => ⟨[], rfl, rfl, rfl, rfl⟩
  | _, _, .cons (x := x) (p := p) (r := r) h => by
    obtain ⟨ps, h1, h2, h3, h4⟩ := assignEach_names (env := env) h
    have e : assignEach (.Name x p :: r) env = (false, assign (.Name x p) env) :: assignEach r env := rfl
    refine ⟨(x, p) :: ps, ?_, by simp [h2], ?_, ?_⟩
    · rw [e, List.map_cons, h1]; rfl
    · rw [e, List.findIdx?_cons, h3]; rfl
    · rw [e, List.length_cons, h4]; rfl

theorem IsL.reverse {g : G} : ∀ {l : List D} {vs : List Value}, IsL g l vs → IsL g l.reverse vs.reverse
  | [], vs, h => by rw [show vs = [] from h]; rfl
  | d :: ds, _, ⟨v, vs', e, hv, h⟩ => by
    rw [e, List.reverse_cons, List.reverse_cons]
    exact IsL.append (IsL.reverse h) ⟨v, [], rfl, hv, rfl⟩

theorem RunOK.tupS {elts : List Expr} {kk : Nat} {tpos pos : Pos} {e : Expr} {xs : List Str} {is : List Nat} {F : Ev} (hc : ScS sc ns) (hn : NamesAre elts xs) (hx : is.map (ns[·]?) = xs.map some) (h : EvOK I k sc ns e F)
    (hs : ∀ env, swapsWithSole [.Tuple elts kk tpos] e pos.line env = pure false) (hw : ∀ env : Env, env.scope = sc → swappedStores [.Tuple elts kk tpos] e env = pure (some xs)) :
    RunOK I k sc ns (exec (.Assign [.Tuple elts kk tpos] e pos)) (lenOk ns.length (rTup is true F)) := by
  intro env A own g fix σ s fuel σ' fl Q E hS hA S hF P
  unfold lenOk at hF
  split at hF
  · rename_i hlen
    unfold rTup at hF
    split at hF
    · rename_i ds hds
      split at hF
      · rename_i hl
        simp only [if_true] at hF
        cases hF
        refine Assign_Tuple_swapped (evS_ok hS hA S h hds fun v h₁ tk₁ S₁ A₁ hv => ?_) (hs env) (hw env hS.scope)
        obtain ⟨a, vs, rfl, ht, hL⟩ := hv.isTup (S₁.gfix.trans S₁.sub)
        have el : xs.length = is.length := by have := congrArg List.length hx; simpa using this.symm
        have e1 := hL.length
        simp only [Array.length_toList] at e1
        have en : xs.length = vs.size := by omega
        rw [en]
        refine PyProof.Rows.unpackItems_tuple hA.1 ht fun h₂ he => ?_
        have kk2 : Grow h₁ h₂ := fun b o q => he b o (Nat.ne_of_lt (Heap.lt_size q)) q
        have S₂ := S₁.keep kk2
        refine storeAll hc hS (fun x v => bindName env x v) (fun x v s Q q => bindName_ q) xs.reverse is.reverse ds.reverse vs.toList.reverse σ _ _ S₂ (Nat.le_of_eq hlen) (by rw [List.map_reverse, List.map_reverse, hx]) (by simp [hl]) hL.reverse ?_
        exact fun h₃ tk₃ S₃ => P own _ _ h₃ tk₃ _ S₃ A₁ rfl
      · cases hF
    · cases hF
  · cases hF
theorem RunOK.tupP {elts : List Expr} {kk : Nat} {tpos pos : Pos} {e : Expr} {xs : List Str} {is : List Nat} {F : Ev} (hc : ScS sc ns) (hn : NamesAre elts xs) (hx : is.map (ns[·]?) = xs.map some) (h : EvOK I k sc ns e F)
    (hs : ∀ env, swapsWithSole [.Tuple elts kk tpos] e pos.line env = pure false) (hw : ∀ env : Env, env.scope = sc → swappedStores [.Tuple elts kk tpos] e env = pure none) :
    RunOK I k sc ns (exec (.Assign [.Tuple elts kk tpos] e pos)) (lenOk ns.length (rTup is false F)) := by
  intro env A own g fix σ s fuel σ' fl Q E hS hA S hF P
  unfold lenOk at hF
  split at hF
  · rename_i hlen
    unfold rTup at hF
    split at hF
    · rename_i ds hds
      split at hF
      · rename_i hl
        simp only [Bool.false_eq_true, if_false] at hF
        cases hF
        refine Assign_Tuple (evS_ok hS hA S h hds fun v h₁ tk₁ S₁ A₁ hv => ?_) (hs env) (hw env hS.scope)
        obtain ⟨a, vs, rfl, ht, hL⟩ := hv.isTup (S₁.gfix.trans S₁.sub)
        have el : xs.length = is.length := by have := congrArg List.length hx; simpa using this.symm
        have e1 := hL.length
        simp only [Array.length_toList] at e1
        have en : xs.length = vs.size := by omega
        obtain ⟨ps, q1, q2, q3, q4⟩ := assignEach_names (env := env) hn
        show wpAny _ _ (do standAt tpos; unpack (.ref a) (assignEach elts env)) _ _ _
        refine wpAny_bind (wpAny_standAt ?_)
        unfold unpack
        rw [q1, q3, q4, en]
        refine wpAny_bind (wpAny_holding (PyProof.Rows.unpackItems_tuple hA.1 ht fun h₂ he => ?_))
        have kk2 : Grow h₁ h₂ := fun b o q => he b o (Nat.ne_of_lt (Heap.lt_size q)) q
        have S₂ := S₁.keep kk2
        subst q2
        exact storeAllP hc hS ps is ds vs.toList σ _ _ S₂ (Nat.le_of_eq hlen) hx hl hL fun h₃ tk₃ S₃ => P own _ _ h₃ tk₃ _ S₃ A₁ rfl
      · cases hF
    · cases hF
  · cases hF
end
end Mine
open PySem PySem.W PyProof.Rows PySem.Spec
set_option linter.unusedVariables false
set_option Elab.async false
set_option maxRecDepth 100000
namespace Mine
section
variable {I : GI} {k : Nat} {sc : Scope} {ns : List Str}

/-- for; the frame's length is a check that the reader makes -/
def forL (n j : Nat) (body : St → Option (St × Fl)) : List D → St → Option (St × Fl)
  | [], σ => some (σ, .next)
  | d :: ds, σ => if σ.length = n then (match body (σ.set j (.imm d)) with
    | some (σ', .next) => forL n j body ds σ'
    | some (σ', .cont) => forL n j body ds σ'
    | some (σ', .ret r) => some (σ', .ret r)
    | none => none) else none

def isStr : D → Bool
  | .str _ => true
  | _ => false

def fixI (fix : G) (h : Heap) (i : Addr) : G := fun b => if b = i then h.get? b else fix b
def dropI (fix : G) (i : Addr) : G := fun b => if b = i then none else fix b

theorem SR.iterstep {env : Env} {own : Nat → Addr} {g fix : G} {σ : St} {h h₁ : Heap} {i : Addr} (S : SR I env ns own g fix σ h) (hk : ∀ b o, b ≠ i → h.get? b = some o → h₁.get? b = some o) (hf : fix i = none)
    (hL : env.locals ≠ i) (hC : ∀ n c, env.cells.lookup n = some c → c ≠ i) (hO : ∀ (j : Nat) (x : Str) (l : List D), ns[j]? = some x → σ[j]? = some (.mt l) → own j ≠ i) : SR I env ns own g (fixI fix h₁ i) σ h₁ := by
  have sf : Sub fix (fixI fix h₁ i) := fun b o e => by
    unfold fixI
    split
    · rename_i q; rw [q, hf] at e; cases e
    · exact e
  have none_ : ∀ b, b ≠ i → fix b = none → fixI fix h₁ i b = none := fun b hb e => by unfold fixI; rw [if_neg hb]; exact e
  have holds : ∀ x v, Holds env h x v → Holds env h₁ x v := fun x v hv => by
    rcases hv with ⟨p, m, ⟨o, es, ep, e, r⟩, q⟩ | ⟨p, c, hc, o, e, q⟩
    · exact .inl ⟨p, m, ⟨o, es, ep, hk _ _ hL e, r⟩, q⟩
    · exact .inr ⟨p, c, hc, o, hk _ _ (hC _ _ hc) e, q⟩
  exact {
    gfix := S.gfix.trans sf
    sub := fun b o e => by
      unfold fixI at e
      split at e
      · exact e
      · rename_i q; exact hk b o q (S.sub b o e)
    base := let ⟨h₀, a, b⟩ := S.base; ⟨h₀, a, b.trans sf⟩
    frame := let ⟨m, o, es, ep, e, r⟩ := S.frame; ⟨m, o, es, ep, hk _ _ hL e, r⟩
    fixL := none_ _ hL S.fixL
    cells := fun n c hc => let ⟨⟨v, o, e, q⟩, a, b⟩ := S.cells n c hc; ⟨⟨v, o, hk _ _ (hC _ _ hc) e, q⟩, none_ _ (hC _ _ hc) a, b⟩
    apart := S.apart
    imm := fun j x d hx hd => let ⟨v, a, b⟩ := S.imm j x d hx hd; ⟨v, a, holds x v b⟩
    mtd := fun j x l hx hd => by
      obtain ⟨a, b⟩ := S.mtd j x l hx hd
      obtain ⟨vs, n, h1, h2⟩ := b.obj
      have ho := hO j x l hx hd
      exact ⟨holds x _ a, ⟨⟨vs, n, hk _ _ ho h1, h2⟩, none_ _ ho b.off, b.loc, b.cel⟩⟩
    inj := S.inj }

theorem SR.drop {env : Env} {own : Nat → Addr} {g fix fix₀ : G} {σ : St} {h : Heap} {i : Addr} (S : SR I env ns own g fix σ h) (hg : g i = none) (h0 : ∃ h₀, I.Gl h₀ ∧ Sub h₀.get? fix₀) (hf : Sub fix₀ fix) (hi : fix₀ i = none) :
    SR I env ns own g (dropI fix i) σ h := by
  have none_ : ∀ b, fix b = none → dropI fix i b = none := fun b e => by
    unfold dropI; split
    · rfl
    · exact e
  have sub0 : Sub fix₀ (dropI fix i) := fun b o e => by
    unfold dropI
    split
    · rename_i q; rw [q, hi] at e; cases e
    · exact hf b o e
  exact {
    gfix := fun b o e => by
      unfold dropI
      split
      · rename_i q; rw [q, hg] at e; cases e
      · exact S.gfix b o e
    sub := fun b o e => by
      unfold dropI at e
      split at e
      · cases e
      · exact S.sub b o e
    base := let ⟨h₀, a, b⟩ := h0; ⟨h₀, a, b.trans sub0⟩
    frame := S.frame
    fixL := none_ _ S.fixL
    cells := fun n c hc => let ⟨a, b, d⟩ := S.cells n c hc; ⟨a, none_ _ b, d⟩
    apart := S.apart
    imm := S.imm
    mtd := fun j x l hx hd => let ⟨a, b⟩ := S.mtd j x l hx hd; ⟨a, ⟨b.obj, none_ _ b.off, b.loc, b.cel⟩⟩
    inj := S.inj }

/-- the loop itself, from an iterable's value on -/
theorem for_core {env : Env} {A : Around} {own : Nat → Addr} {g fix : G} {σ : St} {s : Shared} {fuel : Nat} {σ' : St} {fl : Fl} {Q : Flow → Shared → Prop} {E : Value → Shared → Prop} {x : Str} {px : Pos} {j : Nat} {body : List Stmt} {F : Run} {d : D} {xv : Value} {ds : List D} {n : Nat}
    (hc : ScS sc ns) (hx : ns[j]? = some x) (hb : RunOK I k sc ns (execs body) F) (hn : n = ns.length) (hS : EnvS sc env) (hA : AOK k A) (S : SR I env ns own g fix σ s.heap) (hv : Is g d xv) (hi : itemsOf d = some ds) (hne : isStr d = false)
    (hF : forL n j (F fuel) ds σ = some (σ', fl))
    (P : ∀ own' g' fix' h' tk f, SR I env ns own' g' fix' σ' h' → After g fix g' fix' → FlOK g' fix' h' fl f → Q f { s with heap := h', toks := tk }) :
    wpAny (model I.prog I.w) A (pyIter xv) (fun it s₂ => codeAny (model I.prog I.w) A (.forLoop (.Name x px) it body [] env) (fun r s' => match r with | .ok f => Q f s' | .error e => cameBackBy (model I.prog I.w) A env E e s') s₂) E s := by
  refine iter_ok hA.1 (S.gfix.trans S.sub) hv hi fun o fp Pr St₁ W hP hst hfp hlive => ?_
  generalize hI : s.heap.objs.size = It at *
  have hlive := hlive (fun y q => by rw [q] at hne; cases hne)
  have hnone : s.heap.get? It = none := by rw [← hI]; exact fresh_none _
  have gIt : g It = none := (S.gfix.trans S.sub).none hnone
  have fIt : fix It = none := S.sub.none hnone
  have hL0 : env.locals ≠ It := fun q => by
    obtain ⟨m, o', es, ep, e, r⟩ := S.frame
    rw [q, hnone] at e; cases e
  have hC0 : ∀ n c, env.cells.lookup n = some c → c ≠ It := fun n c hc q => by
    obtain ⟨⟨v, o', e, r⟩, _⟩ := S.cells n c hc
    rw [q, hnone] at e; cases e
  have hO0 : ∀ (j : Nat) (x : Str) (l : List D), ns[j]? = some x → σ[j]? = some (.mt l) → own j ≠ It := fun j x l hx hd q => by
    obtain ⟨_, b⟩ := S.mtd j x l hx hd
    obtain ⟨vs, n, h1, _⟩ := b.obj
    rw [q, hnone] at h1; cases h1
  have S0 : SR I env ns own g fix σ (s.heap.push o) := S.keep (Grow.push _ _)
  obtain ⟨h₀, gl₀, sub₀⟩ := S.base
  refine codeAny_forLoop (fun m s' => ∃ own₁ g₁ fix₁ σ₁ h₁ tk₁ i rest, s' = { s with heap := h₁, toks := tk₁ } ∧ SR I env ns own₁ g₁ fix₁ σ₁ h₁ ∧ After g fix g₁ fix₁ ∧ St₁ i h₁ ∧ fix₁ It = none ∧
      (∀ (j : Nat) (x : Str) (l : List D), ns[j]? = some x → σ₁[j]? = some (.mt l) → own₁ j ≠ It) ∧ ds = ds.take i ++ rest ∧ i ≤ ds.length ∧ rest = ds.drop i ∧ m = rest.length ∧ forL n j (F fuel) rest σ₁ = some (σ', fl)) ?_ ds.length
    ⟨own, g, fix, σ, _, s.toks, 0, ds, rfl, S0, After.refl _ _, hst, fIt, hO0, by simp, Nat.zero_le _, by simp, rfl, hF⟩
  rintro m s' ⟨own₁, g₁, fix₁, σ₁, h₁, tk₁, i, rest, rfl, S₁, A₁, hst₁, hf₁, hO₁, hds, hile, hrest, rfl, hW⟩
  cases hr : rest with
  | nil =>
    have hie : i = ds.length := by
      have := congrArg List.length hrest
      rw [hr, List.length_drop, List.length_nil] at this
      omega
    refine W.done _ _ _ (hie ▸ hst₁) fun h₂ tk₂ hk₂ => ?_
    have S₂ : SR I env ns own₁ g₁ (fixI fix₁ h₂ It) σ₁ h₂ := S₁.iterstep (fun b o' hb e => hk₂ b o' (by simpa using hb) e) hf₁ hL0 hC0 hO₁
    rw [hr] at hW
    simp only [forL, Option.some.injEq, Prod.mk.injEq] at hW
    obtain ⟨rfl, rfl⟩ := hW
    have sf : Sub fix₁ (fixI fix₁ h₂ It) := fun b o' e => by
      unfold fixI
      split
      · rename_i q; rw [q, hf₁] at e; cases e
      · exact e
    exact wpAny_execs_nil (P own₁ g₁ _ h₂ tk₂ _ S₂ (A₁.trans ⟨Sub.refl _, sf, fun _ _ e => .inl e⟩) rfl)
  | cons d' rest' =>
    have hlt : i < ds.length := by
      have := congrArg List.length hrest
      rw [hr, List.length_drop, List.length_cons] at this
      omega
    have hd' : ds[i]? = some d' := by
      have : (ds.drop i)[0]? = some d' := by rw [← hrest, hr]; rfl
      rw [List.getElem?_drop] at this
      simpa using this
    have hrest' : rest' = ds.drop (i + 1) := by
      have : rest' = (ds.drop i).drop 1 := by rw [← hrest, hr]; rfl
      rw [this, List.drop_drop]
    refine W.item i _ _ _ hlt hst₁ fun v h₂ tk₂ hPv hst₂ hk₂ => ?_
    have S₂ : SR I env ns own₁ g₁ (fixI fix₁ h₂ It) σ₁ h₂ := S₁.iterstep (fun b o' hb e => hk₂ b o' (by simpa using hb) e) hf₁ hL0 hC0 hO₁
    obtain ⟨xd, hxd, hI2⟩ := hP i v hPv
    rw [hd'] at hxd; cases hxd
    have sf : Sub fix₁ (fixI fix₁ h₂ It) := fun b o' e => by
      unfold fixI
      split
      · rename_i q; rw [q, hf₁] at e; cases e
      · exact e
    have hliv : ∃ o', fixI fix₁ h₂ It It = some o' := by
      have := hlive (i + 1) h₂ hst₂
      obtain ⟨o', e⟩ := Option.isSome_iff_exists.mp this
      exact ⟨o', by unfold fixI; rw [if_pos rfl]; exact e⟩
    rw [hr] at hW
    unfold forL at hW
    by_cases hlen₁ : σ₁.length = n
    case neg => rw [if_neg hlen₁] at hW; cases hW
    rw [if_pos hlen₁] at hW
    refine wpAny_assign_Name (store_imm (s := { s with heap := h₂, toks := tk₂ }) hc hS S₂ (by omega) hx (Is.mono A₁.gg d' hI2) fun h₃ tk₃ S₃ => ?_)
    have body : ∀ σ₄ fl₄ (Q' : Flow → Shared → Prop) (E' : Value → Shared → Prop), F fuel (σ₁.set j (.imm d')) = some (σ₄, fl₄) →
        (∀ own₄ g₄ fix₄ h₄ tk₄ f, SR I env ns own₄ g₄ fix₄ σ₄ h₄ → After g₁ (fixI fix₁ h₂ It) g₄ fix₄ → FlOK g₄ fix₄ h₄ fl₄ f → Q' f { s with heap := h₄, toks := tk₄ }) →
        wpAny (model I.prog I.w) A (execs body env) Q' E' { s with heap := h₃, toks := tk₃ } := fun σ₄ fl₄ Q' E' hq hQ => hb env A own₁ g₁ _ _ _ fuel σ₄ fl₄ Q' E' hS hA S₃ hq hQ
    have again : ∀ {own₄ g₄ fix₄ σ₄ h₄}, SR I env ns own₄ g₄ fix₄ σ₄ h₄ → After g₁ (fixI fix₁ h₂ It) g₄ fix₄ →
        SR I env ns own₄ g₄ (dropI fix₄ It) σ₄ h₄ ∧ After g fix g₄ (dropI fix₄ It) ∧ St₁ (i + 1) h₄ ∧ dropI fix₄ It It = none ∧ (∀ (j : Nat) (x : Str) (l : List D), ns[j]? = some x → σ₄[j]? = some (.mt l) → own₄ j ≠ It) := fun {own₄ g₄ fix₄ σ₄ h₄} S₄ A₄ => by
      obtain ⟨o', ho'⟩ := hliv
      have g4 : g₄ It = none := by
        cases q : g₄ It with
        | none => rfl
        | some o2 =>
          rcases A₄.new It o2 q with p | p
          · have := S₂.gfix.trans S₂.sub It o2 p
            have q1 : g₁ It = none := by
              cases q2 : g₁ It with
              | none => rfl
              | some o3 =>
                rcases A₁.new It o3 q2 with p3 | p3
                · rw [gIt] at p3; cases p3
                · have := S₁.gfix It o3 q2; rw [hf₁] at this; cases this
            rw [q1] at p; cases p
          · rw [ho'] at p; cases p
      refine ⟨S₄.drop (fix₀ := fix₁) g4 S₁.base (sf.trans A₄.ff) hf₁, ⟨A₁.gg.trans A₄.gg, ?_, ?_⟩, ?_, by unfold dropI; rw [if_pos rfl], fun j x l hx hd q => ?_⟩
      · intro b o2 e
        unfold dropI
        split
        · rename_i q; rw [q, fIt] at e; cases e
        · exact A₄.ff b o2 (sf b o2 (A₁.ff b o2 e))
      · intro b o2 e
        rcases A₄.new b o2 e with p | p
        · exact A₁.new b o2 p
        · exact .inr (A₁.ff.none (sf.none p))
      · refine W.frame (i + 1) h₂ h₄ hst₂ fun b hb o2 e => ?_
        have e' : fixI fix₁ h₂ It b = some o2 := by
          unfold fixI
          split
          · exact e
          · rename_i hbI
            rcases hfp b hb with q | q
            · exact absurd q hbI
            · obtain ⟨o3, q⟩ := Option.isSome_iff_exists.mp q
              have := A₁.ff b o3 (S.gfix b o3 q)
              have q2 := S₂.sub b o3 (sf b o3 this)
              rw [e] at q2; cases q2
              exact this
        exact S₄.sub b o2 (A₄.ff b o2 e')
      · have := (S₄.mtd j x l hx hd).2.off
        rw [q] at this
        have := A₄.ff.none this
        rw [ho'] at this; cases this
    split at hW
    · rename_i σ₄ hq
      refine body σ₄ .next _ _ hq fun own₄ g₄ fix₄ h₄ tk₄ f S₄ A₄ hf => ?_
      rw [show f = .next from hf]
      obtain ⟨a1, a2, a3, a4, a5⟩ := again S₄ A₄
      exact ⟨rest'.length, by simp, own₄, g₄, _, σ₄, h₄, tk₄, i + 1, rest', rfl, a1, a2, a3, a4, a5, by rw [hrest', List.take_append_drop], hlt, hrest', rfl, hW⟩
    · rename_i σ₄ hq
      refine body σ₄ .cont _ _ hq fun own₄ g₄ fix₄ h₄ tk₄ f S₄ A₄ hf => ?_
      rw [show f = .cont from hf]
      obtain ⟨a1, a2, a3, a4, a5⟩ := again S₄ A₄
      exact ⟨rest'.length, by simp, own₄, g₄, _, σ₄, h₄, tk₄, i + 1, rest', rfl, a1, a2, a3, a4, a5, by rw [hrest', List.take_append_drop], hlt, hrest', rfl, hW⟩
    · rename_i σ₄ dr hq
      cases hW
      refine body _ (.ret dr) _ _ hq fun own₄ g₄ fix₄ h₄ tk₄ f S₄ A₄ hf => ?_
      obtain ⟨a1, a2, a3, a4, a5⟩ := again S₄ A₄
      have q := P own₄ g₄ _ h₄ tk₄ f S₄ (A₁.trans (After.trans ⟨Sub.refl _, sf, fun _ _ e => .inl e⟩ A₄)) hf
      obtain ⟨v', gR, rfl, _⟩ := hf
      exact q
    · cases hW

def rFor (n j : Nat) (F : Ev) (B : Run) : Run := fun fuel σ => match F (rdH σ) with
  | some d => if isStr d = true then none else (match itemsOf d with
    | some ds => forL n j (B fuel) ds σ
    | none => none)
  | none => none
theorem RunOK.forS {x : Str} {px pos : Pos} {e : Expr} {j : Nat} {body : List Stmt} {F : Ev} {B : Run} (hc : ScS sc ns) (hx : ns[j]? = some x) (he : EvOK I k sc ns e F) (hb : RunOK I k sc ns (execs body) B) (hs : ∀ env x, foldedSetIterable e env x = pure x) :
    RunOK I k sc ns (exec (.For (.Name x px) e body [] pos)) (rFor ns.length j F B) := by
  intro env A own g fix σ s fuel σ' fl Q E hS hA S hF P
  unfold rFor at hF
  split at hF
  · rename_i d hd
    split at hF
    · cases hF
    · rename_i hns
      split at hF
      · rename_i ds hds
        refine wpAny_For (he env A g (rdH σ) s d _ E hS hA S.viewH hd fun v h₁ tk₁ kk hv => ?_) (hs env)
        have A₁ := After.grow (S.gfix.trans S.sub) S.sub (h' := h₁)
        exact for_core (s := { s with heap := h₁, toks := tk₁ }) hc hx hb rfl hS hA (S.grow kk) hv hds (by simpa using hns) hF fun own₂ g₂ fix₂ h₂ tk₂ f₂ S₂ A₂ hf₂ => P own₂ g₂ fix₂ h₂ tk₂ f₂ S₂ (A₁.trans A₂) hf₂
      · cases hF
  · cases hF

/-- a changed list that is gone through: from here on it is not changed any more -/
theorem SR.freeze {env : Env} {own : Nat → Addr} {g fix : G} {σ : St} {h : Heap} {i : Nat} {x : Str} {l : List D} (S : SR I env ns own g fix σ h) (hl : σ.length ≤ ns.length) (hx : ns[i]? = some x) (hi : σ[i]? = some (.mt l)) :
    ∃ g' fix', SR I env ns own g' fix' (σ.set i (.imm (.lst l))) h ∧ After g fix g' fix' ∧ Is g' (.lst l) (.ref (own i)) ∧ Holds env h x (.ref (own i)) := by
  obtain ⟨hh, ho⟩ := S.mtd i x l hx hi
  obtain ⟨vs, n, h1, h2⟩ := ho.obj
  have gi : g (own i) = none := S.gfix.none ho.off
  let up : G → G := fun f b => if b = own i then h.get? b else f b
  have sg : ∀ {f : G}, f (own i) = none → Sub f (up f) := fun {f} hf b o e => by
    show (if b = own i then _ else _) = _
    split
    · rename_i q; rw [q, hf] at e; cases e
    · exact e
  have none_ : ∀ b, b ≠ own i → fix b = none → up fix b = none := fun b hb e => by
    show (if b = own i then _ else _) = _
    rw [if_neg hb]; exact e
  have hI : Is (up g) (.lst l) (.ref (own i)) := ⟨own i, _, vs, n, rfl, by show (if own i = own i then _ else _) = _; rw [if_pos rfl]; exact h1, rfl, rfl, IsL.mono (sg gi) l h2⟩
  have hset : ∀ (j : Nat) (sl : Slot), j ≠ i → (σ.set i (.imm (.lst l)))[j]? = some sl → σ[j]? = some sl := fun j sl hj e => by rwa [List.getElem?_set_ne (Ne.symm hj)] at e
  have hself : ∀ (l' : List D), (σ.set i (.imm (.lst l)))[i]? ≠ some (.mt l') := fun l' e => by
    rw [List.getElem?_set] at e
    simp only [if_true] at e
    split at e <;> cases e
  refine ⟨up g, up fix, ?_, ⟨sg gi, sg ho.off, fun b o e => ?_⟩, hI, hh⟩
  · exact {
      gfix := fun b o e => by
        change (if b = own i then _ else _) = _ at e
        show (if b = own i then _ else _) = _
        split at e
        · rename_i q; rw [if_pos q]; exact e
        · rename_i q; rw [if_neg q]; exact S.gfix b o e
      sub := fun b o e => by
        change (if b = own i then _ else _) = _ at e
        split at e
        · exact e
        · exact S.sub b o e
      base := let ⟨h₀, a, b⟩ := S.base; ⟨h₀, a, b.trans (sg ho.off)⟩
      frame := S.frame
      fixL := none_ _ (Ne.symm ho.loc) S.fixL
      cells := fun n c hc => let ⟨a, b, d⟩ := S.cells n c hc; ⟨a, none_ _ (Ne.symm (ho.cel n c hc)) b, d⟩
      apart := S.apart
      imm := fun j y d hy hd => by
        by_cases hj : j = i
        · subst hj
          rw [hx] at hy; cases hy
          rw [List.getElem?_set] at hd
          simp only [if_true] at hd
          split at hd
          · simp only [Option.some.injEq, Slot.imm.injEq] at hd
            subst hd
            exact ⟨_, hI, hh⟩
          · cases hd
        · obtain ⟨v, a, b⟩ := S.imm j y d hy (hset j _ hj hd)
          exact ⟨v, Is.mono (sg gi) d a, b⟩
      mtd := fun j y l' hy hd => by
        by_cases hj : j = i
        · subst hj; exact absurd hd (hself l')
        · have hd' := hset j _ hj hd
          obtain ⟨a, b⟩ := S.mtd j y l' hy hd'
          obtain ⟨vs', n', h1', h2'⟩ := b.obj
          have hne : own j ≠ own i := fun q => hj (S.inj j i l' l hd' hi q)
          exact ⟨a, ⟨⟨vs', n', h1', IsL.mono (sg gi) l' h2'⟩, none_ _ hne b.off, b.loc, b.cel⟩⟩
      inj := fun j j' l1 l2 h1 h2 e => by
        by_cases hj : j = i
        · subst hj; exact absurd h1 (hself l1)
        · by_cases hj' : j' = i
          · subst hj'; exact absurd h2 (hself l2)
          · exact S.inj j j' l1 l2 (hset j _ hj h1) (hset j' _ hj' h2) e }
  · change (if b = own i then _ else _) = _ at e
    split at e
    · rename_i q; rw [q]; exact .inr ho.off
    · exact .inl e

def rForM (n j i : Nat) (B : Run) : Run := fun fuel σ => if σ.length = n then (match σ[i]? with
  | some (.mt l) => if l.length ≤ sizeLine then forL n j (B fuel) l (σ.set i (.imm (.lst l))) else none
  | _ => none) else none
theorem RunOK.forM {x y : Str} {px py pos : Pos} {i j : Nat} {body : List Stmt} {B : Run} (hc : ScS sc ns) (hx : ns[j]? = some x) (hy : ns[i]? = some y) (hd : (y == ("__debug__" : Str)) = false) (hb : RunOK I k sc ns (execs body) B)
    (hs : ∀ env x, foldedSetIterable (.Name y py) env x = pure x) :
    RunOK I k sc ns (exec (.For (.Name x px) (.Name y py) body [] pos)) (rForM ns.length j i B) := by
  intro env A own g fix σ s fuel σ' fl Q E hS hA S hF P
  unfold rForM at hF
  split at hF
  · rename_i hlen
    split at hF
    · rename_i l hl
      split at hF
      · rename_i hz
        obtain ⟨g', fix', S', A', hI, hh⟩ := S.freeze (Nat.le_of_eq hlen) hy hl
        refine wpAny_For (wpAny_Name (loadName_ok hS hc.kind hh ?_) hd) (hs env)
        have hi : itemsOf (.lst l) = some l := by simp only [itemsOf, if_pos hz]
        exact for_core hc hx hb rfl hS hA S' hI hi rfl hF fun own₂ g₂ fix₂ h₂ tk₂ f₂ S₂ A₂ hf₂ => P own₂ g₂ fix₂ h₂ tk₂ f₂ S₂ (A'.trans A₂) hf₂
      · cases hF
    · cases hF
  · cases hF
end
end Mine
open PySem PySem.W PyProof.Rows PySem.Spec
set_option linter.unusedVariables false
set_option Elab.async false
set_option maxRecDepth 100000
namespace Mine
section
variable {I : GI} {k : Nat} {sc : Scope} {ns : List Str}

/-- chains of two comparisons -/
def e3c (f f' : D → D → Option D) (F G H : Ev) : Ev := fun r => match F r with
  | some x => (match G r with
    | some y => (match f x y with
      | some c => (match fTruth c with
        | some true => (match H r with
          | some z => f' y z
          | none => none)
        | some false => some c
        | none => none)
      | none => none)
    | none => none)
  | none => none
theorem EvOK.chain {l m r : Expr} {op op' : CmpOp} {pos : Pos} {F G H : Ev} {f f' : D → D → Option D} (hl : EvOK I k sc ns l F) (hm : EvOK I k sc ns m G) (hr : EvOK I k sc ns r H) (ho : OpOK I k (compareOp op) f) (ho' : OpOK I k (compareOp op') f')
    (he : lastMarks [op, op'] [m, r] = false) : EvOK I k sc ns (.Compare l [op, op'] [m, r] pos) (e3c f f' F G H) := by
  intro env A g rr s d Q E hS hA V hF P
  unfold e3c at hF
  split at hF
  · rename_i x hx
    split at hF
    · rename_i y hy
      split at hF
      · rename_i c hc
        show wpAny _ _ (do compareChain pos (← eval l env) [op, op'] (markedEach [op, op'] [m, r] (evalEach [m, r] env))) _ _ _
        rw [markedEach_of_false _ _ _ he]
        refine wpAny_bind (hl env A g rr s x _ E hS hA V hx fun u h₁ tk₁ k₁ hu => ?_)
        have V₁ := V.grow k₁
        show wpAny _ _ (do
          let rv ← holding [u] (eval m env)
          standAt pos
          let c ← holding [u, rv] (compareOp op u rv)
          release [u, rv] [c]
          if ← holding [c, rv] (truthy c) then compareChain pos rv [op'] [eval r env] else pure c) _ _ _
        refine wpAny_bind (wpAny_holding (hm env A _ rr _ y _ E hS hA V₁ hy fun v h₂ tk₂ k₂ hv => wpAny_bind (wpAny_standAt (wpAny_bind (wpAny_holding ?_)))))
        have V₂ := V₁.grow k₂
        refine ho A _ _ x y c u v _ E hA V₂.sub V₂.gl (Is.mono (ext_sub V₁.sub) x hu) hv hc fun w h₃ tk₃ k₃ hw => ?_
        have V₃ := V₂.grow k₃
        have P₃ := ((P.step (tk := tk₁) k₁).step (tk := tk₂) k₂).step (tk := tk₃) k₃
        refine wpAny_bind ?_
        have rel : ∀ {Q' : Unit → Shared → Prop} {s' : Shared}, Q' () s' → wpAny (model I.prog I.w) A (release [u, v] [w]) Q' E s' := fun {Q' s'} q Γ p hΓ => by
          rw [Sem.wp_release]; exact q
        refine rel (wpAny_bind (wpAny_holding ?_))
        split at hF
        · rename_i ht
          split at hF
          · rename_i z hz
            refine truth_ok (s := { s with heap := h₃, toks := tk₃ }) V₃.sub hw ht fun tk => ?_
            simp only [if_true]
            show wpAny _ _ (do
              let rv ← holding [v] (eval r env)
              standAt pos
              operate [v, rv] (compareOp op' v rv)) _ _ _
            refine wpAny_bind (wpAny_holding (hr env A _ rr _ z _ E hS hA V₃ hz fun v' h₄ tk₄ k₄ hv' => wpAny_bind (wpAny_standAt (wpAny_operating ?_))))
            have V₄ := V₃.grow k₄
            exact ho' A _ _ y z d v v' _ E hA V₄.sub V₄.gl (Is.mono (ext_sub V₃.sub) y (Is.mono (ext_sub V₂.sub) y hv)) hv' hF (P₃.step (s := { s with heap := h₃, toks := tk₃ }) k₄)
          · cases hF
        · rename_i ht
          cases hF
          refine truth_ok (s := { s with heap := h₃, toks := tk₃ }) V₃.sub hw ht fun tk => ?_
          simp only [Bool.false_eq_true, if_false]
          exact wpAny_pure (P₃.now (s := { s with heap := h₃, toks := tk₃ }) V₃.sub hw)
        · cases hF
      · cases hF
    · cases hF
  · cases hF
theorem TrOK.chain {l m r : Expr} {op op' : CmpOp} {pos : Pos} {F G H : Ev} {f f' : D → D → Option D} (hl : EvOK I k sc ns l F) (hm : EvOK I k sc ns m G) (hr : EvOK I k sc ns r H) (ho : OpOK I k (compareOp op) f) (ho' : OpOK I k (compareOp op') f')
    (he : lastMarks [op, op'] [m, r] = false) : TrOK I k sc ns (.Compare l [op, op'] [m, r] pos) (tOf (e3c f f' F G H)) := by
  intro env A g rr s b Q E hS hA V hF P
  unfold tOf at hF
  split at hF
  · rename_i d hd
    unfold e3c at hd
    split at hd
    · rename_i x hx
      split at hd
      · rename_i y hy
        split at hd
        · rename_i c hc
          refine isTrue_chain (hl env A g rr s x _ E hS hA V hx fun u h₁ tk₁ k₁ hu => ?_) he
          have V₁ := V.grow k₁
          refine test_link (hm env A _ rr _ y _ E hS hA V₁ hy fun v h₂ tk₂ k₂ hv => ?_)
          have V₂ := V₁.grow k₂
          refine ho A _ _ x y c u v _ E hA V₂.sub V₂.gl (Is.mono (ext_sub V₁.sub) x hu) hv hc fun w h₃ tk₃ k₃ hw => ?_
          have V₃ := V₂.grow k₃
          split at hd
          · rename_i ht
            split at hd
            · rename_i z hz
              refine truth_ok (s := { s with heap := h₃, toks := tk₃ }) V₃.sub hw ht fun tk => ?_
              simp only [if_true]
              refine test_last (hr env A _ rr _ z _ E hS hA V₃ hz fun v' h₄ tk₄ k₄ hv' => ?_)
              have V₄ := V₃.grow k₄
              refine ho' A _ _ y z d v v' _ E hA V₄.sub V₄.gl (Is.mono (ext_sub V₃.sub) y (Is.mono (ext_sub V₂.sub) y hv)) hv' hd fun w' h₅ tk₅ k₅ hw' => ?_
              exact truth_ok (s := { s with heap := h₅, toks := tk₅ }) (V₄.grow k₅).sub hw' hF fun tk => P _ _ ((((k₁.trans k₂).trans k₃).trans k₄).trans k₅)
            · cases hd
          · rename_i ht
            cases hd
            rw [ht] at hF
            cases hF
            refine truth_ok (s := { s with heap := h₃, toks := tk₃ }) V₃.sub hw ht fun tk => ?_
            simp only [Bool.false_eq_true, if_false]
            exact P _ _ ((k₁.trans k₂).trans k₃)
          · cases hd
        · cases hd
      · cases hd
    · cases hd
  · cases hF

/-- a new list that will be changed -/
theorem store_new {env : Env} {A : Around} {own : Nat → Addr} {g fix : G} {σ : St} {s : Shared} {x : Str} {i : Nat} {vs : Array Value} {l : List D} {Q : Unit → Shared → Prop} {E : Value → Shared → Prop} (hc : ScS sc ns) (hS : EnvS sc env)
    (S : SR I env ns own g fix σ s.heap) (hl : σ.length ≤ ns.length) (hx : ns[i]? = some x) (hd : IsL g l vs.toList)
    (P : ∀ own' h' tk, SR I env ns own' g fix (σ.set i (.mt l)) h' → Q () { s with heap := h', toks := tk }) :
    wpAny (model I.prog I.w) A (storeName env x (.ref s.heap.objs.size)) Q E { s with heap := s.heap.push (lobj vs 0) } := by
  have kk : Grow s.heap (s.heap.push (lobj vs 0)) := Grow.push _ _
  have S₁ := S.keep kk
  have hn := fresh_none s.heap
  have hlt : ∀ {b : Addr} {o : Obj}, s.heap.get? b = some o → b ≠ s.heap.objs.size := fun e q => by rw [q, hn] at e; cases e
  have hown : ∀ j l', σ[j]? = some (.mt l') → own j ≠ s.heap.objs.size := fun j l' hj => by
    have hlt' : j < ns.length := Nat.lt_of_lt_of_le (List.getElem?_eq_some_iff.mp hj).1 hl
    obtain ⟨vs', n', h1, _⟩ := (S.mtd j ns[j] l' (List.getElem?_eq_getElem hlt') hj).2.obj
    exact hlt h1
  refine S₁.store (s := { s with heap := s.heap.push (lobj vs 0) }) hc.nd hS hc.kind (sl := .mt l) (own' := fun j => if j = i then s.heap.objs.size else own j) hx (hc.names x (List.mem_of_getElem? hx)) (fun j hj => by simp only [if_neg hj]) (fun d e => by cases e) (fun l' e => ?_) (S₁.ownOff hl) fun h' tk S' _ => P _ h' tk S'
  cases e
  show _ = Value.ref (if i = i then _ else _) ∧ Owned _ _ _ _ (if i = i then _ else _) _ ∧ (∀ j l', _ → _ → own j ≠ (if i = i then _ else _))
  rw [if_pos rfl]
  refine ⟨rfl, ⟨⟨vs, 0, Heap.get?_push_size _ rfl, hd⟩, S.sub.none hn, fun q => ?_, fun n c hc q => ?_⟩, fun j l' _ hj => hown j l' hj⟩
  · obtain ⟨m, o, _, _, e, _⟩ := S.frame
    exact hlt e q.symm
  · obtain ⟨⟨v, o, e, _⟩, _⟩ := S.cells n c hc
    exact hlt e q.symm

/-- x = [..], a list that will be changed -/
def evsS (Fs : Evs) (σ : St) : Option (List D) := Fs (rdH σ)
def rNew (i : Nat) (Fs : Evs) : Run := fun _ σ => match evsS Fs σ with
  | some ds => if ds.length ≤ sizeLine then some (σ.set i (.mt ds), .next) else none
  | none => none
theorem RunOK.new {x : Str} {px pos lpos : Pos} {es : List Expr} {i : Nat} {Fs : Evs} (hc : ScS sc ns) (hx : ns[i]? = some x) (h : EvsOK I k sc ns es Fs) (hs : ∀ env, swapsWith (.List es lpos) (some (.Name x px)) pos.line env = pure false) :
    RunOK I k sc ns (exec (.Assign [.Name x px] (.List es lpos) pos)) (lenOk ns.length (rNew i Fs)) := by
  intro env A own g fix σ s fuel σ' fl Q E hS hA S hF P
  unfold lenOk at hF
  split at hF
  · rename_i hlen
    unfold rNew at hF
    split at hF
    · rename_i ds hds
      split at hF
      · rename_i hz
        cases hF
        refine wpAny_Assign_Name (wpAny_List (h env A g (rdH σ) s ds lpos _ E hS hA S.viewH hds fun vs h₁ tk₁ kk hvs => ⟨by rw [hvs.length]; exact hz, ?_⟩)) (hs env)
        exact store_new (s := { s with heap := h₁, toks := tk₁ }) (vs := vs.toArray) hc hS (S.grow kk) (Nat.le_of_eq hlen) hx (by simpa using hvs) fun own' h₂ tk₂ S₂ => P own' _ _ h₂ tk₂ _ S₂ (After.grow (S.gfix.trans S.sub) S.sub) rfl
      · cases hF
    · cases hF
  · cases hF

/-- x = [.. for ..] on one row: the store is exchanged with the comprehension's end -/
theorem comp_assign {env : Env} {A : Around} {own : Nat → Addr} {g fix : G} {σ : St} {s : Shared} {x y : Str} {i : Nat} {elt iter : Expr} {ifs : List Expr} {px py pos spos : Pos} {scope : Scope} {F Fi : Ev} {T : Tr} {di : D} {ds out : List D} {Q : Flow → Shared → Prop} {E : Value → Shared → Prop}
    (hc : ScS sc ns) (hy : ns[i]? = some y) (hyl : sc.names.lookup y = some .local) (hS : EnvS sc env) (hA : AOK k A) (S : SR I env ns own g fix σ s.heap) (hl : σ.length ≤ ns.length)
    (cS : CompS sc scope ns x) (hi : EvOK I k sc ns iter Fi) (he : EvOK I k (relabelS scope sc) (x :: ns) elt F) (ht : TestsOK I k (relabelS scope sc) (x :: ns) ifs T) (hs : ∀ env x, foldedSetIterable iter env x = pure x)
    (hsw : swapsWith (.ListComp elt [⟨.Name x px, iter, ifs, 0⟩] scope pos) (some (.Name y py)) spos.line env = pure true)
    (h1 : Fi (rdH σ) = some di) (h2 : itemsOf di = some ds) (h3 : compL F T (rdH σ) ds = some out) (sl : Slot) (hsl : sl = .imm (.lst out) ∨ sl = .mt out)
    (P : ∀ own' g' fix' h' tk, SR I env ns own' g' fix' (σ.set i sl) h' → After g fix g' fix' → Q .next { s with heap := h', toks := tk }) :
    wpAny (model I.prog I.w) A (exec (.Assign [.Name y py] (.ListComp elt [⟨.Name x px, iter, ifs, 0⟩] scope pos) spos) env) Q E s := by
  obtain ⟨cl, e1, e2⟩ := closure_ok (M := model I.prog I.w) (env := env) scope fun y hy hf => hS.cells _ (cS.free y hy hf)
  have hkl : env.kindOf y = some .local := by unfold Env.kindOf; rw [hS.scope]; exact hyl
  refine wpAny_Assign_ListComp_free (compP T (rdH σ)) (compF F (rdH σ)) hsw e1 cS.cell cS.kind cS.names cS.local_ hkl (by rw [hS.scope, hc.kind]; rfl) (hi env A g (rdH σ) s di _ E hS hA S.viewH h1 fun xv h₁ tk₁ k₁ hv => ?_) (hs env)
  have S₁ := S.grow k₁
  have A₁ := After.grow (S.gfix.trans S.sub) S.sub (h' := h₁)
  refine comp_core (s := { s with heap := h₁, toks := tk₁ }) hS hA cS S₁.viewH e2 he ht hv h2 h3 (itemsOf_len h2) fun o fp Pp St W hst hfp hq hout => ?_
  have S₂ := S₁.keep (Grow.push h₁ o)
  obtain ⟨m, hm⟩ := S₂.frame
  have hnone := fresh_none h₁
  have hL0 : env.locals ≠ h₁.objs.size := fun q => by
    obtain ⟨m, o', es, ep, e, r⟩ := S₁.frame
    rw [q, hnone] at e; cases e
  refine ⟨_, fp, _, _, Pp, St, m, rfl, W, itemsOf_len h2, hst, hfp, by simpa using hL0, hm, hq, fun D h' tk ys vs hD hl' hpl hlen hPv hp hns hk => ?_⟩
  have hout' := hout vs ys.toList hlen hPv hp
  obtain ⟨n, hn⟩ := hpl
  have hD1 : h₁.get? D = Option.none := by
    cases q : h₁.get? D with
    | none => rfl
    | some o' => have := Heap.get?_push_of_some o q; rw [hD] at this; cases this
  have hkeep : ∀ b o', b ≠ env.locals → h₁.get? b = some o' → h'.get? b = some o' := fun b o' hb e => hk b o' hb (by rw [List.mem_singleton]; exact Nat.ne_of_lt (Heap.lt_size e)) (Heap.get?_push_of_some _ e)
  -- the frame behind it
  have hh : Holds env h' y (.ref D) := .inl ⟨hkl, _, hns, by simp⟩
  have hoth : ∀ z v, z ≠ y → Holds env h₁ z v → Holds env h' z v := fun z v hz hv => by
    rcases hv with ⟨p, m', hm', q⟩ | ⟨p, c, hc2, o', e, q⟩
    · have := Ns.func (hm'.keeps (Grow.push h₁ o)) hm
      rw [this] at q
      exact .inl ⟨p, _, hns, by simp only [if_neg hz]; exact q⟩
    · exact .inr ⟨p, c, hc2, o', hkeep _ _ (S₁.cells z c hc2).2.2 e, q⟩
  have idx : ∀ j z, j ≠ i → ns[j]? = some z → z ≠ y := fun j z hj hz q => by
    subst q
    obtain ⟨l1, e1⟩ := List.getElem?_eq_some_iff.mp hz
    obtain ⟨l2, e2⟩ := List.getElem?_eq_some_iff.mp hy
    exact hj ((List.getElem_inj hc.nd).mp (e1.trans e2.symm))
  have live : ∀ {b : Addr} {o' : Obj}, h₁.get? b = some o' → b ≠ D := fun e q => by rw [q, hD1] at e; cases e
  -- the two ways: the new list is leant on, or changed
  let up : G → G := fun f b => if b = D then h'.get? b else f b
  have sup : ∀ {f : G}, f D = Option.none → Sub f (up f) := fun {f} hf b o e => by
    show (if b = D then _ else _) = _
    split
    · rename_i q; rw [q, hf] at e; cases e
    · exact e
  have gD := (S₁.gfix.trans S₁.sub).none hD1
  have fD := S₁.sub.none hD1
  have set_ne : ∀ (j : Nat) (s' : Slot), j ≠ i → (σ.set i sl)[j]? = some s' → σ[j]? = some s' := fun j s' hj e => by rwa [List.getElem?_set_ne (Ne.symm hj)] at e
  have set_eq : ∀ (s' : Slot), (σ.set i sl)[i]? = some s' → s' = sl := fun s' e => by
    rw [List.getElem?_set] at e
    simp only [if_true] at e
    split at e
    · exact (Option.some.inj e).symm
    · cases e
  have subh : Sub (ext fix s.heap h₁) h'.get? := fun b o' e => hkeep b o' (fun q => by rw [q, S₁.fixL] at e; cases e) (S₁.sub b o' e)
  have cells' : ∀ n c, env.cells.lookup n = some c → (∃ v, h'.IsCell c v) ∧ ext fix s.heap h₁ c = Option.none ∧ c ≠ env.locals := fun n c hc2 => by
    obtain ⟨⟨v, o', e, q⟩, a, b⟩ := S₁.cells n c hc2
    exact ⟨⟨v, o', hkeep _ _ b e, q⟩, a, b⟩
  rcases hsl with rfl | rfl
  · have none_ : ∀ b, b ≠ D → ext fix s.heap h₁ b = Option.none → up (ext fix s.heap h₁) b = Option.none := fun b hb e => by
      show (if b = D then _ else _) = _
      rw [if_neg hb]; exact e
    have hI : Is (up (ext g s.heap h₁)) (.lst out) (.ref D) := ⟨D, _, ys, n, rfl, by show (if D = D then _ else _) = _; rw [if_pos rfl]; exact hn, rfl, rfl, IsL.mono (g0_sub _) _ hout'⟩
    refine P own (up (ext g s.heap h₁)) (up (ext fix s.heap h₁)) h' tk ?_ (A₁.trans ⟨sup gD, sup fD, fun b o' e => ?_⟩)
    · exact {
        gfix := fun b o' e => by
          change (if b = D then _ else _) = _ at e
          show (if b = D then _ else _) = _
          split at e
          · rename_i q; rw [if_pos q]; exact e
          · rename_i q; rw [if_neg q]; exact S₁.gfix b o' e
        sub := fun b o' e => by
          change (if b = D then _ else _) = _ at e
          split at e
          · exact e
          · exact subh b o' e
        base := let ⟨h₀, a, b⟩ := S₁.base; ⟨h₀, a, b.trans (sup fD)⟩
        frame := ⟨_, hns⟩
        fixL := none_ _ (by obtain ⟨m, o', _, _, e, _⟩ := S₁.frame; exact live e) S₁.fixL
        cells := fun n c hc2 => let ⟨a, b, d⟩ := cells' n c hc2; ⟨a, none_ _ (by obtain ⟨⟨v, o', e, _⟩, _⟩ := S₁.cells n c hc2; exact live e) b, d⟩
        apart := S₁.apart
        imm := fun j z d hz hd => by
          by_cases hj : j = i
          · subst hj
            rw [hy] at hz; cases hz
            have := set_eq _ hd
            cases this
            exact ⟨_, hI, hh⟩
          · obtain ⟨v, a, b⟩ := S₁.imm j z d hz (set_ne j _ hj hd)
            exact ⟨v, Is.mono (sup gD) d a, hoth z v (idx j z hj hz) b⟩
        mtd := fun j z l hz hd => by
          by_cases hj : j = i
          · subst hj; have := set_eq _ hd; cases this
          · obtain ⟨a, b⟩ := S₁.mtd j z l hz (set_ne j _ hj hd)
            obtain ⟨vs', n', p1, p2⟩ := b.obj
            exact ⟨hoth z _ (idx j z hj hz) a, ⟨⟨vs', n', hkeep _ _ b.loc p1, IsL.mono (sup gD) l p2⟩, none_ _ (live p1) b.off, b.loc, b.cel⟩⟩
        inj := fun j j' l l' p p' e => by
          by_cases hj : j = i
          · subst hj; have := set_eq _ p; cases this
          · by_cases hj' : j' = i
            · subst hj'; have := set_eq _ p'; cases this
            · exact S₁.inj j j' l l' (set_ne j _ hj p) (set_ne j' _ hj' p') e }
    · change (if b = D then _ else _) = _ at e
      split at e
      · rename_i q; rw [q]; exact .inr fD
      · exact .inl e
  · refine P (fun j => if j = i then D else own j) (ext g s.heap h₁) (ext fix s.heap h₁) h' tk ?_ A₁
    have hn' : h'.get? D = some (lobj ys n) := hn
    exact {
      gfix := S₁.gfix
      sub := subh
      base := S₁.base
      frame := ⟨_, hns⟩
      fixL := S₁.fixL
      cells := cells'
      apart := S₁.apart
      imm := fun j z d hz hd => by
        by_cases hj : j = i
        · subst hj; have := set_eq _ hd; cases this
        · obtain ⟨v, a, b⟩ := S₁.imm j z d hz (set_ne j _ hj hd)
          exact ⟨v, a, hoth z v (idx j z hj hz) b⟩
      mtd := fun j z l hz hd => by
        by_cases hj : j = i
        · subst hj
          rw [hy] at hz; cases hz
          have := set_eq _ hd
          cases this
          simp only [if_true]
          refine ⟨hh, ⟨⟨ys, n, hn', IsL.mono (g0_sub _) _ hout'⟩, fD, ?_, fun n c hc2 => ?_⟩⟩
          · obtain ⟨m, o', _, _, e, _⟩ := S₁.frame; exact fun q => live e q.symm
          · obtain ⟨⟨v, o', e, _⟩, _⟩ := S₁.cells n c hc2; exact fun q => live e q.symm
        · simp only [if_neg hj]
          obtain ⟨a, b⟩ := S₁.mtd j z l hz (set_ne j _ hj hd)
          obtain ⟨vs', n', p1, p2⟩ := b.obj
          exact ⟨hoth z _ (idx j z hj hz) a, ⟨⟨vs', n', hkeep _ _ b.loc p1, p2⟩, b.off, b.loc, b.cel⟩⟩
      inj := fun j j' l l' p p' e => by
        have ownD : ∀ q l2, q ≠ i → (σ.set i (.mt out))[q]? = some (.mt l2) → own q ≠ D := fun q l2 hq e2 => by
          have h2 := set_ne q _ hq e2
          have hlt' : q < ns.length := Nat.lt_of_lt_of_le (List.getElem?_eq_some_iff.mp h2).1 hl
          obtain ⟨vs', n', p1, _⟩ := (S₁.mtd q ns[q] l2 (List.getElem?_eq_getElem hlt') h2).2.obj
          exact live p1
        by_cases hj : j = i
        · by_cases hj' : j' = i
          · rw [hj, hj']
          · simp only [if_pos hj, if_neg hj'] at e
            exact absurd e.symm (ownD j' l' hj' p')
        · by_cases hj' : j' = i
          · simp only [if_pos hj', if_neg hj] at e
            exact absurd e (ownD j l hj p)
          · simp only [if_neg hj, if_neg hj'] at e
            exact S₁.inj j j' l l' (set_ne j _ hj p) (set_ne j' _ hj' p') e }

def rComp (i : Nat) (mt : Bool) (F : Ev) (T : Tr) (Fi : Ev) : Run := fun _ σ => match eComp F T Fi (rdH σ) with
  | some (.lst out) => some (σ.set i (if mt = true then .mt out else .imm (.lst out)), .next)
  | _ => none
theorem RunOK.compS {x y : Str} {i : Nat} {mt : Bool} {elt iter : Expr} {ifs : List Expr} {px py pos spos : Pos} {scope : Scope} {F Fi : Ev} {T : Tr}
    (hc : ScS sc ns) (hy : ns[i]? = some y) (hyl : sc.names.lookup y = some .local) (cS : CompS sc scope ns x) (hi : EvOK I k sc ns iter Fi) (he : EvOK I k (relabelS scope sc) (x :: ns) elt F) (ht : TestsOK I k (relabelS scope sc) (x :: ns) ifs T)
    (hs : ∀ env x, foldedSetIterable iter env x = pure x) (hsw : ∀ env : Env, env.scope = sc → swapsWith (.ListComp elt [⟨.Name x px, iter, ifs, 0⟩] scope pos) (some (.Name y py)) spos.line env = pure true) :
    RunOK I k sc ns (exec (.Assign [.Name y py] (.ListComp elt [⟨.Name x px, iter, ifs, 0⟩] scope pos) spos)) (lenOk ns.length (rComp i mt F T Fi)) := by
  intro env A own g fix σ s fuel σ' fl Q E hS hA S hF P
  unfold lenOk at hF
  split at hF
  · rename_i hlen
    unfold rComp at hF
    split at hF
    · rename_i out ho
      cases hF
      obtain ⟨di, ds, out', h1, h2, h3, e⟩ := eComp_some ho
      cases e
      exact comp_assign hc hy hyl hS hA S (Nat.le_of_eq hlen) cS hi he ht hs (hsw env hS.scope) h1 h2 h3 _ (by cases mt <;> simp) fun own' g' fix' h' tk S' A' => P own' g' fix' h' tk _ S' A' rfl
    · cases hF
  · cases hF
end
end Mine
open PySem PySem.W PyProof.Rows PySem.Spec
set_option linter.unusedVariables false
set_option Elab.async false
set_option maxRecDepth 100000
namespace Mine
section
variable {I : GI} {k : Nat} {sc : Scope} {ns : List Str}

theorem SR.mutate {env : Env} {own : Nat → Addr} {g fix : G} {σ : St} {h h' : Heap} {i : Nat} {x : Str} {l l' : List D} {vs' : Array Value} {n' : Nat} (S : SR I env ns own g fix σ h) (hl : σ.length ≤ ns.length) (hx : ns[i]? = some x) (hi : σ[i]? = some (.mt l))
    (hs : Heap.SameBut (own i) h h') (ho : h'.get? (own i) = some (lobj vs' n')) (hL : IsL g l' vs'.toList) : SR I env ns own g fix (σ.set i (.mt l')) h' := by
  obtain ⟨hh, hO⟩ := S.mtd i x l hx hi
  have keep : ∀ b o, b ≠ own i → h.get? b = some o → h'.get? b = some o := fun b o hb e => (hs.2 b hb).trans e
  have holds : ∀ z v, Holds env h z v → Holds env h' z v := fun z v hv => by
    rcases hv with ⟨p, m, ⟨o, es, ep, e, r⟩, q⟩ | ⟨p, c, hc, o, e, q⟩
    · exact .inl ⟨p, m, ⟨o, es, ep, keep _ _ (Ne.symm hO.loc) e, r⟩, q⟩
    · exact .inr ⟨p, c, hc, o, keep _ _ (Ne.symm (hO.cel z c hc)) e, q⟩
  have set_ne : ∀ (j : Nat) (s' : Slot), j ≠ i → (σ.set i (.mt l'))[j]? = some s' → σ[j]? = some s' := fun j s' hj e => by rwa [List.getElem?_set_ne (Ne.symm hj)] at e
  have set_eq : ∀ (s' : Slot), (σ.set i (.mt l'))[i]? = some s' → s' = .mt l' := fun s' e => by
    rw [List.getElem?_set] at e
    simp only [if_true] at e
    split at e
    · exact (Option.some.inj e).symm
    · cases e
  have back : ∀ (j : Nat) (l1 : List D), (σ.set i (.mt l'))[j]? = some (.mt l1) → ∃ l2, σ[j]? = some (.mt l2) := fun j l1 e => by
    by_cases hj : j = i
    · exact ⟨l, by rw [hj]; exact hi⟩
    · exact ⟨l1, set_ne j _ hj e⟩
  exact {
    gfix := S.gfix
    sub := fun b o e => keep b o (fun q => by rw [q, hO.off] at e; cases e) (S.sub b o e)
    base := S.base
    frame := let ⟨m, o, es, ep, e, r⟩ := S.frame; ⟨m, o, es, ep, keep _ _ (Ne.symm hO.loc) e, r⟩
    fixL := S.fixL
    cells := fun n c hc => let ⟨⟨v, o, e, q⟩, a, b⟩ := S.cells n c hc; ⟨⟨v, o, keep _ _ (Ne.symm (hO.cel n c hc)) e, q⟩, a, b⟩
    apart := S.apart
    imm := fun j z d hz hd => by
      by_cases hj : j = i
      · subst hj; have := set_eq _ hd; cases this
      · obtain ⟨v, a, b⟩ := S.imm j z d hz (set_ne j _ hj hd)
        exact ⟨v, a, holds z v b⟩
    mtd := fun j z l1 hz hd => by
      by_cases hj : j = i
      · subst hj
        rw [hx] at hz; cases hz
        have := set_eq _ hd; cases this
        exact ⟨holds _ _ hh, ⟨⟨vs', n', ho, hL⟩, hO.off, hO.loc, hO.cel⟩⟩
      · have hd' := set_ne j _ hj hd
        obtain ⟨a, b⟩ := S.mtd j z l1 hz hd'
        obtain ⟨vs, n, p1, p2⟩ := b.obj
        exact ⟨holds _ _ a, ⟨⟨vs, n, keep _ _ (fun q => hj (S.inj j i l1 l hd' hi q)) p1, p2⟩, b.off, b.loc, b.cel⟩⟩
    inj := fun j j' l1 l2 p p' e => by
      obtain ⟨m1, q1⟩ := back j l1 p
      obtain ⟨m2, q2⟩ := back j' l2 p'
      exact S.inj j j' m1 m2 q1 q2 e }

def rApp (i : Nat) (F : Ev) : Run := fun _ σ => match σ[i]? with
  | some (.mt l) => if l.length ≤ sizeLine then (match evS F σ with
    | some d => some (σ.set i (.mt (l ++ [d])), .next)
    | none => none) else none
  | _ => none
theorem interactive_fun {env : Env} (hS : EnvS sc env) (hk : sc.kind = .function) : interactive env = false := by
  unfold interactive
  rw [hS.scope, hk]; rfl
theorem RunOK.app {x : Str} {px apos cpos pos : Pos} {i : Nat} {e : Expr} {F : Ev} {pl : Env → Sem Bool} (hc : ScS sc ns) (hx : ns[i]? = some x) (hd : (x == ("__debug__" : Str)) = false) (h : EvOK I k sc ns e F)
    (hst : ∀ env, starEach [e] env = (false, eval e env) :: starEach [] env)
    (he : ∀ env, eval (.Call (.Attribute (.Name x px) "append" apos) [e] [] cpos) env = (do
      let ov ← eval (.Name x px) env
      standAt apos.atName
      let (f, first) ← holding [ov] (getMethod ov "append" (pl env))
      callWith cpos f first (backTo cpos (starEach [e] env)) []))
    (hs : ∀ env, swapsWith (.Call (.Attribute (.Name x px) "append" apos) [e] [] cpos) none pos.line env = pure false) :
    RunOK I k sc ns (exec (.Expr (.Call (.Attribute (.Name x px) "append" apos) [e] [] cpos) pos)) (lenOk ns.length (rApp i F)) := by
  intro env A own g fix σ s fuel σ' fl Q E hS hA S hF P
  unfold lenOk at hF
  split at hF
  · rename_i hlen
    unfold rApp at hF
    split at hF
    · rename_i l hl
      split at hF
      · rename_i hz
        split at hF
        · rename_i d hdd
          cases hF
          obtain ⟨hh, hO⟩ := S.mtd i x l hx hl
          obtain ⟨vs, n, p1, p2⟩ := hO.obj
          refine wpAny_Expr ?_ (interactive_fun hS hc.kind) (hs env)
          refine MethodCall_ (pl := pl env) (wpAny_Name (loadName_ok hS hc.kind hh ?_) hd) (he env)
          refine Calls.getMethod_list_append p1 rfl rfl ?_
          refine callWith_method1 (args_cons (evS_ok hS hA S h hdd fun v h₁ tk₁ S₁ A₁ hv => args_nil ?_) (hst env)) (hst env) rfl
          obtain ⟨hh₁, hO₁⟩ := S₁.mtd i x l hx hl
          obtain ⟨vs₁, n₁, q1, q2⟩ := hO₁.obj
          have el := q2.length
          simp only [Array.length_toList] at el
          refine wpAny_list_append_plain (items := vs₁) ⟨n₁, q1⟩ (fun h₂ hp hsb => ?_) (by omega)
          obtain ⟨n₂, hp⟩ := hp
          have S₂ := S₁.mutate (Nat.le_of_eq hlen) hx hl hsb hp (l' := l ++ [d]) (by rw [Array.toList_push]; exact IsL.append q2 ⟨v, [], rfl, hv, rfl⟩)
          exact P own _ _ h₂ tk₁ _ S₂ A₁ rfl
        · cases hF
      · cases hF
    · cases hF
  · cases hF

/-- x[i] = v -/
theorem setItem_plain {A : Around} {s : Shared} {l : Addr} {vs : Array Value} {n : Nat} {kx : Int} {t : Tok} {v : Value} {Q : Unit → Shared → Prop} {E : Value → Shared → Prop} (ho : s.heap.get? l = some (lobj vs n))
    (h0 : 0 ≤ kx) (hfit : kx < 2 ^ 63) (hn : kx < vs.size)
    (hQ : ∀ h', h'.get? l = some (lobj (vs.setIfInBounds kx.toNat v) n) → Heap.SameBut l s.heap h' → Q () { s with heap := h' }) :
    wpAny (model I.prog I.w) A (setItem (.ref l) (.int kx t) v) Q E s := by
  have hl : s.heap.IsList l vs := ⟨_, ho, rfl, n, rfl⟩
  unfold setItem
  try with_reducible refine wpAny_holding ?_
  first | refine wpAny_bind (wpAny_pure ?_) | skip
  refine wpAny_bind (wpAny_sequenceKey hl.typeIs (by decide) ?_)
  refine wpAny_bind (wpAny_callSpecial?_slot (name := Str.ofString "__setitem__") hl.typeIs slot_list_setitem
    (wpAny_call_entry slot_list_setitem hl.typeIs entry_list_setitem ?_ (args_list_setitem _ _ _)))
  show wpAny _ _ (Builtin.List.listSubscript? (.int kx t) >>= _) _ _ s
  refine wpAny_bind (wpAny_listSubscript_int (fitsIndex_of h0 hfit) ?_)
  clear hfit
  obtain ⟨j, rfl⟩ := Int.eq_ofNat_of_zero_le h0
  have hj : j < vs.size := by omega
  have hx' : vs[j]? = some vs[j] := Array.getElem?_eq_getElem hj
  show wpAny _ _ ((seqItemAt l j >>= fun r => pure (r.map (j, ·))) >>= _) _ _ s
  refine wpAny_bind (wpAny_bind (wpAny_seqItemAt ho rfl (wpAny_pure ?_)))
  rw [hx']
  show wpAny _ _ (setSeqItemAt l j v >>= _) _ _ s
  have em : Obj.mapSeq (·.setIfInBounds j v) (lobj vs n) = lobj (vs.setIfInBounds j v) n := by simp [Obj.mapSeq, lobj]
  have hfin : (s.heap.update l (Obj.mapSeq (·.setIfInBounds j v))).get? l = some (lobj (vs.setIfInBounds j v) n) := by
    rw [Heap.get?_update_self _ ho (by rw [em]; rfl), em]
  refine wpAny_bind (wpAny_setSeqItemAt ho rfl ?_)
  first
    | exact wpAny_bind (wpAny_pure (wpAny_pure ⟨.none, rfl, wpAny_pure (hQ _ hfin (Heap.SameBut.update ..))⟩))
    | exact wpAny_pure ⟨.none, rfl, wpAny_pure (hQ _ hfin (Heap.SameBut.update ..))⟩

theorem IsL.set {g : G} {d : D} {v : Value} (hv : Is g d v) : ∀ {l : List D} {vs : List Value} (n : Nat), IsL g l vs → IsL g (l.set n d) (vs.set n v)
  | [], vs, n, h => by rw [show vs = [] from h]; cases n <;> rfl
  | _ :: ds, _, 0, ⟨w, vs', e, hw, h⟩ => by rw [e]; exact ⟨v, vs', rfl, hv, h⟩
  | _ :: ds, _, n + 1, ⟨w, vs', e, hw, h⟩ => by rw [e]; exact ⟨w, _, rfl, hw, IsL.set hv n h⟩

def rPut (i : Nat) (Fi F : Ev) : Run := fun _ σ => match σ[i]? with
  | some (.mt l) => (match evS F σ with
    | some d => (match evS Fi σ with
      | some (.int j) => if 0 ≤ j ∧ j < 2 ^ 63 ∧ j < l.length then some (σ.set i (.mt (l.set j.toNat d)), .next) else none
      | _ => none)
    | none => none)
  | _ => none
theorem RunOK.put {x : Str} {px spos pos : Pos} {i : Nat} {ei e : Expr} {Fi F : Ev} (hc : ScS sc ns) (hx : ns[i]? = some x) (hd : (x == ("__debug__" : Str)) = false) (h : EvOK I k sc ns e F) (hi : EvOK I k sc ns ei Fi)
    (hs : ∀ env, swapsWith e (some (.Subscript (.Name x px) ei spos)) pos.line env = pure false) :
    RunOK I k sc ns (exec (.Assign [.Subscript (.Name x px) ei spos] e pos)) (lenOk ns.length (rPut i Fi F)) := by
  intro env A own g fix σ s fuel σ' fl Q E hS hA S hF P
  unfold lenOk at hF
  split at hF
  · rename_i hlen
    unfold rPut at hF
    split at hF
    · rename_i l hl
      split at hF
      · rename_i d hdd
        split at hF
        · rename_i j hj
          split at hF
          · rename_i hb
            cases hF
            refine wpAny_Assign_Subscript (evS_ok hS hA S h hdd fun v h₁ tk₁ S₁ A₁ hv => ?_) (hs env)
            obtain ⟨hh₁, hO₁⟩ := S₁.mtd i x l hx hl
            refine wpAny_Name (loadName_ok hS hc.kind hh₁ ?_) hd
            refine evS_ok (s := { s with heap := h₁, toks := tk₁ }) hS hA S₁ hi hj fun vi h₂ tk₂ S₂ A₂ hvi => ?_
            obtain ⟨t, rfl⟩ := hvi
            obtain ⟨hh₂, hO₂⟩ := S₂.mtd i x l hx hl
            obtain ⟨vs, n, p1, p2⟩ := hO₂.obj
            have el := p2.length
            simp only [Array.length_toList] at el
            refine setItem_plain (s := { s with heap := h₂, toks := tk₂ }) p1 hb.1 hb.2.1 (by omega) fun h₃ p3 hsb => ?_
            have S₃ := S₂.mutate (Nat.le_of_eq hlen) hx hl hsb p3 (l' := l.set j.toNat d) (by rw [Array.toList_setIfInBounds]; exact IsL.set (Is.mono A₂.gg d hv) _ p2)
            exact P own _ _ h₃ tk₂ _ S₃ (A₁.trans A₂) rfl
          · cases hF
        · cases hF
      · cases hF
    · cases hF
  · cases hF

/-- a def of the text: what its body means is what a call of it means -/
structure FnAt (I : GI) (x : Str) (params : Arguments) (body : List Stmt) (sc : Scope) : Prop where
  at_ : ∃ a, I.mg x = some (.ref a) ∧ ∀ h, I.Gl h → ∃ o pm code doc, h.get? a = some o ∧ o.data = .func (Calls.docDef x params body sc pm code doc) ∧ h.CodeRec code x

theorem bindL_off {kindOf : Str → Option NameKind} {z : Str} : ∀ {l : List (Str × Value)} {m : Str → Option Value}, (∀ p ∈ l, p.1 ≠ z) → bindL kindOf l m z = m z
  | [], _, _ => rfl
  | (n, v) :: r, m, h => by
    unfold bindL
    rw [bindL_off fun p hp => h p (.tail _ hp)]
    have hn : z ≠ n := Ne.symm (h (n, v) (.head _))
    split
    · exact if_neg hn
    · rfl
theorem bindC_off {kindOf : Str → Option NameKind} {z : Str} : ∀ {l : List (Str × Value)} {m : Str → Option Value}, (∀ p ∈ l, p.1 ≠ z) → bindC kindOf l m z = m z
  | [], _, _ => rfl
  | (n, v) :: r, m, h => by
    unfold bindC
    rw [bindC_off fun p hp => h p (.tail _ hp)]
    have hn : z ≠ n := Ne.symm (h (n, v) (.head _))
    split
    · rfl
    · exact if_neg hn
theorem bindL_get {kindOf : Str → Option NameKind} : ∀ {xs : List Str} {vs : List Value} {m : Str → Option Value} {i : Nat} {x : Str} {v : Value}, xs.Nodup → xs[i]? = some x → vs[i]? = some v → kindOf x = some .local → bindL kindOf (xs.zip vs) m x = some v
  | y :: xs, u :: vs, m, 0, x, v, nd, hx, hv, hk => by
    simp only [List.getElem?_cons_zero, Option.some.injEq] at hx hv
    subst hx hv
    rw [List.zip_cons_cons, bindL, if_pos hk, bindL_off]
    · simp
    · intro p hp q
      have := (List.of_mem_zip (a := p.1) (b := p.2) hp).1
      exact (List.nodup_cons.mp nd).1 (q ▸ this)
  | y :: xs, u :: vs, m, i + 1, x, v, nd, hx, hv, hk => by
    rw [List.zip_cons_cons, bindL]
    exact bindL_get (i := i) (List.nodup_cons.mp nd).2 (by simpa using hx) (by simpa using hv) hk
  | [], _, _, i, _, _, _, hx, _, _ => by simp at hx
  | _ :: _, [], _, i, _, _, _, _, hv, _ => by simp at hv
theorem bindC_get {kindOf : Str → Option NameKind} : ∀ {xs : List Str} {vs : List Value} {m : Str → Option Value} {i : Nat} {x : Str} {v : Value}, xs.Nodup → xs[i]? = some x → vs[i]? = some v → kindOf x ≠ some .local → bindC kindOf (xs.zip vs) m x = some v
  | y :: xs, u :: vs, m, 0, x, v, nd, hx, hv, hk => by
    simp only [List.getElem?_cons_zero, Option.some.injEq] at hx hv
    subst hx hv
    rw [List.zip_cons_cons, bindC, if_neg hk, bindC_off]
    · simp
    · intro p hp q
      have := (List.of_mem_zip (a := p.1) (b := p.2) hp).1
      exact (List.nodup_cons.mp nd).1 (q ▸ this)
  | y :: xs, u :: vs, m, i + 1, x, v, nd, hx, hv, hk => by
    rw [List.zip_cons_cons, bindC]
    exact bindC_get (i := i) (List.nodup_cons.mp nd).2 (by simpa using hx) (by simpa using hv) hk
  | [], _, _, i, _, _, _, hx, _, _ => by simp at hx
  | _ :: _, [], _, i, _, _, _, _, hv, _ => by simp at hv

/-- the slots at the start: the arguments, then names without a value -/
def startSt (ds : List D) (n : Nat) : St := ds.map Slot.imm ++ List.replicate (n - ds.length) .unb
def callF (n : Nat) (F : Run) (fuel : Nat) (ds : List D) : Option D := match F fuel (startSt ds n) with
  | some (_, .ret d) => some d
  | some (_, .next) => some .none
  | _ => none

theorem startSt_get {ds : List D} {n i : Nat} {sl : Slot} (h : (startSt ds n)[i]? = some sl) : sl = .unb ∨ ∃ d, ds[i]? = some d ∧ sl = .imm d := by
  unfold startSt at h
  by_cases hi : i < (ds.map Slot.imm).length
  · rw [List.getElem?_append_left hi, List.getElem?_map] at h
    cases q : ds[i]? with
    | none => rw [q] at h; cases h
    | some d => rw [q] at h; exact .inr ⟨d, rfl, (Option.some.inj h).symm⟩
  · rw [List.getElem?_append_right (by omega), List.getElem?_replicate] at h
    split at h
    · exact .inl (Option.some.inj h).symm
    · cases h

theorem cellsFrom_some' {x : Str} : ∀ (names : List (Str × NameKind)) (n : Nat) (acc : List (Str × Addr)), names.lookup x = some .cell → ((cellsFrom n names acc).lookup x).isSome = true := fun names n acc h =>
  cellsFrom_some names n acc (.inl h)

theorem FunOK.def {x : Str} {params : Arguments} {body : List Stmt} {m : Nat} {F : Run} {F' : List D → Option D} (hat : FnAt I x params body sc) (hc : ScS sc ns) (hm : m ≤ ns.length)
    (hbind : ∀ pm cd doc vs, vs.length = m → bindArgs (Calls.docDef x params body sc pm cd doc) ⟨vs, []⟩ = pure ((ns.take m).zip vs)) (hco : sc.isCoroutine = false) (hgen : sc.isGenerator = false)
    (hr : RunOK I k sc ns (execs body) F) (hF : ∀ ds d, F' ds = some d → ds.length = m ∧ ∃ fuel, callF ns.length F fuel ds = some d) : FunOK I (k + 1) x F' := by
  obtain ⟨a, hmg, hgl⟩ := hat.at_
  refine ⟨.ref a, .inl hmg, fun h hG => ?_, ?_⟩
  · obtain ⟨o, pm, code, doc, ho, hd, _⟩ := hgl h hG
    refine ⟨.frame, .inl rfl, (Looks.ld (part := none) ho).andThen ?_⟩
    rw [hd]; exact Looks.now
  · intro A g s ds vs d Q E hA sub gl hf hv P
    obtain ⟨hlen, fuel, hcall⟩ := hF ds d hf
    obtain ⟨o, pm, code, doc, ho, hd, hcd⟩ := hgl s.heap gl
    have hvl : vs.length = m := by rw [hv.length, hlen]
    refine wpAny_call (codeAny_call_cells (fd := Calls.docDef x params body sc pm code doc) (binds := (ns.take m).zip vs) (by have := hA.2.1; omega) ho hd (I.nolimit gl) hcd rfl (hbind pm code doc vs hvl) rfl ?_ ?_ hco hgen hc.kind)
    · intro y hy
      have hmem := List.mem_of_mem_take (List.of_mem_zip (a := y.1) (b := y.2) hy).1
      rcases hc.names y.1 hmem with h | h
      · exact .inl h
      · exact .inr ⟨h, cellsFrom_some' _ _ _ h⟩
    · intro s₁ X
      generalize he : callEnvC (Calls.docDef x params body sc pm code doc) s.heap.objs.size a = env at X
      have esc : env.scope = sc := by rw [← he]; rfl
      have eloc : env.locals = s.heap.objs.size := by rw [← he]; rfl
      have hS : EnvS sc env := ⟨esc, by rw [← he]; rfl, by rw [← he]; rfl, fun y hy => by rw [← he]; exact cellsFrom_some' _ _ _ hy⟩
      obtain ⟨h₁, tk₁, rfl⟩ := X.toInCall.same
      have hkeep : Grow s.heap h₁ := X.toInCall.keep
      have hnone := fresh_none s.heap
      have above : ∀ n c, env.cells.lookup n = some c → s.heap.get? c = none ∧ c ≠ env.locals := fun n c hc2 => by
        have := X.above n c (mem_of_lookup hc2)
        rw [eloc] at this ⊢
        refine ⟨?_, Nat.ne_of_gt this⟩
        cases q : s.heap.get? c with
        | none => rfl
        | some o' => exact absurd (Heap.lt_size q) (Nat.not_lt.mpr (Nat.le_of_lt this))
      have S : SR I env ns (fun _ => 0) g s.heap.get? (startSt ds ns.length) h₁ := {
        gfix := sub
        sub := hkeep
        base := ⟨s.heap, gl, Sub.refl _⟩
        frame := ⟨_, X.toInCall.ns⟩
        fixL := by rw [eloc]; exact hnone
        cells := fun n c hc2 => ⟨⟨_, X.cell n c hc2⟩, (above n c hc2).1, (above n c hc2).2⟩
        apart := fun n n' c h1 h2 => name_of_addr X.apart (mem_of_lookup h1) (mem_of_lookup h2)
        imm := fun i y d' hy hd' => by
          rcases startSt_get hd' with q | ⟨d2, q, e⟩
          · cases q
          · cases e
            obtain ⟨v, hv1, hv2⟩ := hv.get q
            refine ⟨v, hv2, ?_⟩
            have hi : i < m := by
              have := (List.getElem?_eq_some_iff.mp q).1
              omega
            have hy' : (ns.take m)[i]? = some y := by rw [List.getElem?_take_of_lt hi]; exact hy
            have nd' : (ns.take m).Nodup := List.Nodup.sublist (List.take_sublist m ns) hc.nd
            rcases hc.names y (List.mem_of_getElem? hy) with h | h
            · have hk : env.kindOf y = some .local := by unfold Env.kindOf; rw [esc]; exact h
              exact .inl ⟨hk, _, X.toInCall.ns, bindL_get nd' hy' hv1 hk⟩
            · have hk : env.kindOf y = some .cell := by unfold Env.kindOf; rw [esc]; exact h
              obtain ⟨c, hc2⟩ := Option.isSome_iff_exists.mp (hS.cells y h)
              have := X.cell y c hc2
              rw [bindC_get nd' hy' hv1 (by rw [hk]; exact fun q => by cases q)] at this
              exact .inr ⟨hk, c, hc2, this⟩
        mtd := fun i y l hy hd' => by
          rcases startSt_get hd' with q | ⟨d2, q, e⟩
          · cases q
          · cases e
        inj := fun i j l l' hd' _ _ => by
          rcases startSt_get hd' with q | ⟨d2, q, e⟩
          · cases q
          · cases e }
      have fin : ∀ {own' : Nat → Addr} {g' fix' : G} {σ' : St} {h' : Heap} {v : Value} {gR : G} {d : D}, SR I env ns own' g' fix' σ' h' → After g s.heap.get? g' fix' → Is gR d v → Sub gR h'.get? → (∀ b o, gR b = some o → g' b = some o ∨ fix' b = none) →
          Grow s.heap h' ∧ Is (ext g s.heap h') d v := fun {own' g' fix' σ' h' v gR d} S' A' hI hsub hnew => by
        refine ⟨fun b o e => S'.sub b o (A'.ff b o e), Is.mono (fun b o e => ?_) d hI⟩
        have old : s.heap.get? b = none → ext g s.heap h' b = some o := fun q => by rw [ext_new q]; exact hsub b o e
        rcases hnew b o e with p | p
        · rcases A'.new b o p with r | r
          · have q := sub b o r
            rw [ext_old q]; exact r
          · exact old r
        · exact old (A'.ff.none p)
      unfold callF at hcall
      have hA' : AOK k (A.deeper env) := hA.deeper
      split at hcall
      · rename_i σ' d' hrun
        cases hcall
        refine hr env _ _ g _ _ _ fuel σ' (.ret d) _ _ hS hA' S hrun fun own' g' fix' h' tk f S' A' hf => ?_
        obtain ⟨v, gR, rfl, hI, hsub, hnew⟩ := hf
        obtain ⟨p, q⟩ := fin S' A' hI hsub hnew
        exact P v h' tk p q
      · rename_i σ' hrun
        cases hcall
        refine hr env _ _ g _ _ _ fuel σ' .next _ _ hS hA' S hrun fun own' g' fix' h' tk f S' A' hf => ?_
        rw [show f = .next from hf]
        obtain ⟨p, q⟩ := fin (v := .none) (gR := g0) (d := .none) S' A' rfl (g0_sub _) (fun b o e => by cases e)
        exact P _ h' tk p q
      · cases hcall
end
end Mine
open PySem PySem.W PyProof.Rows PySem.Spec
set_option linter.unusedVariables false
set_option Elab.async false
set_option maxRecDepth 100000
namespace Mine

/-- the facts of a top, as the reader wants them -/
def giOf (prog : Program) (w : World) (mg mb : Str → Option Value) (p : Program) (loose : List Str) (mean : ExcName → Option Value) (K : Frag) (hboot : ∀ x : Str, x ≠ "__name__" → mb x = bootBuiltins x) : GI where
  prog := prog
  w := w
  mg := mg
  mb := mb
  Gl := fun h => Top p loose mean mg mb h ∧ K.In h
  grow := fun ⟨a, b⟩ k => ⟨a.keeps k, b.keeps k⟩
  g := fun h => h.1.g
  b := fun h => h.1.b
  nolimit := fun h => h.1.nolimit
  boot := hboot

theorem fnAt_of {prog : Program} {w : World} {mg mb : Str → Option Value} {p : Program} {loose : List Str} {mean : ExcName → Option Value} {K : Frag} {hboot : ∀ x : Str, x ≠ "__name__" → mb x = bootBuiltins x} {h₀ : Heap} (T : Top p loose mean mg mb h₀) {d : DefRec} {i : Nat} (hd : (recsOf p)[i]? = some d) :
    FnAt (giOf prog w mg mb p loose mean K hboot) d.name d.params d.body d.scope := by
  have hm : d ∈ recsOf p := List.mem_of_getElem? hd
  obtain ⟨a, _, _, _, _, ha, _⟩ := T.fn d hm
  refine ⟨a, ha, fun h hg => ?_⟩
  obtain ⟨a', o, pm, code, doc, ha', ho, hdt, hc⟩ := hg.1.fn d hm
  have e : a = a' := by
    have : some (Value.ref a) = some (Value.ref a') := ha.symm.trans ha'
    cases this; rfl
  subst e
  exact ⟨o, pm, code, doc, ho, hdt, hc⟩

theorem free_of {mg mb : Str → Option Value} {p : Program} {loose : List Str} {mean : ExcName → Option Value} {K : Frag} {h₀ : Heap} (T : Top p loose mean mg mb h₀) (X : K.In h₀) {x : Str} (e : nsIn K mainGlobals x = some none) : mg x = none := mg_none_of X T.g e

def intsD (ns : List Int) : List D := ns.map .int
theorem isL_ints {g : G} : ∀ {vs : List Value} {ns : List Int}, IntsAre vs ns → IsL g (intsD ns) vs
  | _, _, .nil => rfl
  | _, _, .cons n t r => ⟨_, _, rfl, ⟨t, rfl⟩, isL_ints r⟩

/-- the law's own call -/
theorem law_end {prog : Program} {w : World} {mg mb : Str → Option Value} {p : Program} {loose : List Str} {mean : ExcName → Option Value} {K : Frag} {hboot : ∀ x : Str, x ≠ "__name__" → mb x = bootBuiltins x} {s₁ : Shared} {x : Str} {fa l : Addr} {vs : List Value} {ns : List Int}
    {F : List D → Option D} {Q E : Value → Shared → Prop} (T : Top p loose mean mg mb s₁.heap) (X : K.In s₁.heap) (hmg : mg x = some (.ref fa)) (hF : FunOK (giOf prog w mg mb p loose mean K hboot) 20 x F) (hl : s₁.heap.IsList l vs.toArray) (hi : IntsAre vs ns)
    (hr : F [.lst (intsD ns)] = some (.bool true)) (hQ : ∀ h' tk, Grow s₁.heap h' → Q (.bool true) { s₁ with heap := h', toks := tk }) : wpAny (model prog w) callerA (call (.ref fa) [.ref l]) Q E s₁ := by
  obtain ⟨f, hn, _, hp⟩ := hF.ok
  have ef : f = .ref fa := by
    rcases hn with h | ⟨h, _⟩
    · have : mg x = some f := h
      rw [hmg] at this; cases this; rfl
    · have : mg x = none := h
      rw [hmg] at this; cases this
  subst ef
  obtain ⟨o, ho, hc, n, hd⟩ := hl
  refine hp callerA s₁.heap.get? s₁ [.lst (intsD ns)] [.ref l] (.bool true) Q E ⟨rfl, by decide, by decide⟩ (Sub.refl _) ⟨T, X⟩ hr ⟨_, [], rfl, ⟨l, o, vs.toArray, n, rfl, ho, hc, hd, by simpa using isL_ints hi⟩, rfl⟩ fun v h' tk kk hv => ?_
  rw [show v = .bool true from hv]
  exact hQ h' tk kk
end Mine

namespace Mine
def idx : List Str → Str → Option Nat
  | [], _ => none
  | y :: r, x => match y == x with
    | true => some 0
    | false => match idx r x with
      | some i => some (i + 1)
      | none => none
theorem idx_get : ∀ {ns : List Str} {x : Str} {i : Nat}, idx ns x = some i → ns[i]? = some x
  | y :: r, x, i, h => by
    unfold idx at h
    split at h
    · rename_i e
      cases h
      rw [beq_iff_eq.mp e]; rfl
    · split at h
      · rename_i j hj
        cases h
        simpa using idx_get hj
      · cases h
def idxs (ns : List Str) : List Str → Option (List Nat)
  | [] => some []
  | x :: r => match idx ns x with
    | some i => match idxs ns r with
      | some l => some (i :: l)
      | none => none
    | none => none
theorem idxs_get {ns : List Str} : ∀ {xs : List Str} {is : List Nat}, idxs ns xs = some is → is.map (ns[·]?) = xs.map some
  | [], is, h => by cases h; rfl
  | x :: r, is, h => by
    unfold idxs at h
    split at h
    · rename_i i hi
      split at h
      · rename_i l hl
        cases h
        rw [List.map_cons, List.map_cons, idx_get hi, idxs_get hl]
      · cases h
    · cases h
section
variable {I : GI} {k : Nat} {sc : Scope} {ns : List Str}
theorem vis_of {sc : Scope} {x : Str} (h : (sc.names.lookup x == some .local || sc.names.lookup x == some .cell) = true) : sc.names.lookup x = some .local ∨ sc.names.lookup x = some .cell := by
  simpa using h
theorem EvOK.v {x : Str} {pos : Pos} {i : Nat} (hx : idx ns x = some i) (hk : sc.kind = .function) (hd : (x == ("__debug__" : Str)) = false) (hn : (sc.names.lookup x == some .local || sc.names.lookup x == some .cell) = true) : EvOK I k sc ns (.Name x pos) (eVar i) :=
  EvOK.var hk (idx_get hx) hd (vis_of hn)
theorem RunOK.asg' {x : Str} {px pos : Pos} {e : Expr} {i : Nat} {F : Ev} (hx : idx ns x = some i) (hs : ∀ env, swapsWith e (some (.Name x px)) pos.line env = pure false) (hc : ScS sc ns) (h : EvOK I k sc ns e F) :
    RunOK I k sc ns (exec (.Assign [.Name x px] e pos)) (lenOk ns.length (rAsg i F)) := RunOK.asg hc (idx_get hx) h hs
theorem RunOK.aug' {x : Str} {px pos : Pos} {op : Operator} {e : Expr} {i : Nat} {f : D → D → Option D} {F : Ev} (hx : idx ns x = some i) (hc : ScS sc ns) (h : EvOK I k sc ns e F) (ho : IOpOK I k op f) :
    RunOK I k sc ns (exec (.AugAssign (.Name x px) op e pos)) (lenOk ns.length (rAug i f F)) := RunOK.aug hc (idx_get hx) h ho
theorem RunOK.for' {x : Str} {px pos : Pos} {e : Expr} {j : Nat} {body : List Stmt} {F : Ev} {B : Run} (hx : idx ns x = some j) (hs : ∀ env x, foldedSetIterable e env x = pure x) (hc : ScS sc ns) (he : EvOK I k sc ns e F) (hb : RunOK I k sc ns (execs body) B) :
    RunOK I k sc ns (exec (.For (.Name x px) e body [] pos)) (rFor ns.length j F B) := RunOK.forS hc (idx_get hx) he hb hs
theorem RunOK.forM' {x y : Str} {px py pos : Pos} {i j : Nat} {body : List Stmt} {B : Run} (hx : idx ns x = some j) (hy : idx ns y = some i) (hd : (y == ("__debug__" : Str)) = false) (hs : ∀ env x, foldedSetIterable (.Name y py) env x = pure x) (hc : ScS sc ns) (hb : RunOK I k sc ns (execs body) B) :
    RunOK I k sc ns (exec (.For (.Name x px) (.Name y py) body [] pos)) (rForM ns.length j i B) := RunOK.forM hc (idx_get hx) (idx_get hy) hd hb hs
theorem RunOK.tupS' {elts : List Expr} {kk : Nat} {tpos pos : Pos} {e : Expr} {xs : List Str} {is : List Nat} {F : Ev} (hn : NamesAre elts xs) (hw : ∀ env : Env, env.scope = sc → swappedStores [.Tuple elts kk tpos] e env = pure (some xs)) (hx : idxs ns xs = some is)
    (hs : ∀ env, swapsWithSole [.Tuple elts kk tpos] e pos.line env = pure false) (hc : ScS sc ns) (h : EvOK I k sc ns e F) :
    RunOK I k sc ns (exec (.Assign [.Tuple elts kk tpos] e pos)) (lenOk ns.length (rTup is true F)) := RunOK.tupS hc hn (idxs_get hx) h hs hw
theorem RunOK.tupP' {elts : List Expr} {kk : Nat} {tpos pos : Pos} {e : Expr} {xs : List Str} {is : List Nat} {F : Ev} (hn : NamesAre elts xs) (hw : ∀ env : Env, env.scope = sc → swappedStores [.Tuple elts kk tpos] e env = pure none) (hx : idxs ns xs = some is)
    (hs : ∀ env, swapsWithSole [.Tuple elts kk tpos] e pos.line env = pure false) (hc : ScS sc ns) (h : EvOK I k sc ns e F) :
    RunOK I k sc ns (exec (.Assign [.Tuple elts kk tpos] e pos)) (lenOk ns.length (rTup is false F)) := RunOK.tupP hc hn (idxs_get hx) h hs hw
theorem RunOK.new' {x : Str} {px pos lpos : Pos} {es : List Expr} {i : Nat} {Fs : Evs} (hx : idx ns x = some i) (hs : ∀ env, swapsWith (.List es lpos) (some (.Name x px)) pos.line env = pure false) (hc : ScS sc ns) (h : EvsOK I k sc ns es Fs) :
    RunOK I k sc ns (exec (.Assign [.Name x px] (.List es lpos) pos)) (lenOk ns.length (rNew i Fs)) := RunOK.new hc (idx_get hx) h hs
theorem RunOK.comp' {x y : Str} {i : Nat} (mt : Bool) {elt iter : Expr} {ifs : List Expr} {px py pos spos : Pos} {scope : Scope} {F Fi : Ev} {T : Tr} (hy : idx ns y = some i) (hsw : ∀ env : Env, env.scope = sc → swapsWith (.ListComp elt [⟨.Name x px, iter, ifs, 0⟩] scope pos) (some (.Name y py)) spos.line env = pure true)
    (hyl : sc.names.lookup y = some .local) (hs : ∀ env x, foldedSetIterable iter env x = pure x) (hc : ScS sc ns) (cS : CompS sc scope ns x) (hi : EvOK I k sc ns iter Fi) (he : EvOK I k (relabelS scope sc) (x :: ns) elt F) (ht : TestsOK I k (relabelS scope sc) (x :: ns) ifs T) :
    RunOK I k sc ns (exec (.Assign [.Name y py] (.ListComp elt [⟨.Name x px, iter, ifs, 0⟩] scope pos) spos)) (lenOk ns.length (rComp i mt F T Fi)) := RunOK.compS hc (idx_get hy) hyl cS hi he ht hs hsw
theorem RunOK.app' {x : Str} {px apos cpos pos : Pos} {i : Nat} {e : Expr} {F : Ev} {pl : Env → Sem Bool} (hx : idx ns x = some i) (hd : (x == ("__debug__" : Str)) = false)
    (hst : ∀ env, starEach [e] env = (false, eval e env) :: starEach [] env)
    (he : ∀ env, eval (.Call (.Attribute (.Name x px) "append" apos) [e] [] cpos) env = (do
      let ov ← eval (.Name x px) env
      standAt apos.atName
      let (f, first) ← holding [ov] (getMethod ov "append" (pl env))
      callWith cpos f first (backTo cpos (starEach [e] env)) []))
    (hs : ∀ env, swapsWith (.Call (.Attribute (.Name x px) "append" apos) [e] [] cpos) none pos.line env = pure false) (hc : ScS sc ns) (h : EvOK I k sc ns e F) :
    RunOK I k sc ns (exec (.Expr (.Call (.Attribute (.Name x px) "append" apos) [e] [] cpos) pos)) (lenOk ns.length (rApp i F)) := RunOK.app hc (idx_get hx) hd h hst he hs
theorem RunOK.put' {x : Str} {px spos pos : Pos} {i : Nat} {ei e : Expr} {Fi F : Ev} (hx : idx ns x = some i) (hd : (x == ("__debug__" : Str)) = false) (hs : ∀ env, swapsWith e (some (.Subscript (.Name x px) ei spos)) pos.line env = pure false) (hc : ScS sc ns) (h : EvOK I k sc ns e F) (hi : EvOK I k sc ns ei Fi) :
    RunOK I k sc ns (exec (.Assign [.Subscript (.Name x px) ei spos] e pos)) (lenOk ns.length (rPut i Fi F)) := RunOK.put hc (idx_get hx) hd h hi hs
theorem EvOK.call' {x : Str} {px pos : Pos} {args : List Expr} {F : List D → Option D} {Fs : Evs} (hx : sc.names.lookup x = some .globalImplicit) (hk : sc.kind = .function) (hd : (x == ("__debug__" : Str)) = false) (hp : ∀ env, (backTo pos (starEach args env)).any (·.1) = false) (hne : args.isEmpty = false)
    (hs : ∀ env, ∃ t rest, backTo pos (starEach args env) = (false, t) :: rest) (hf : FunOK I k x F) (ha : EvsOK I k sc ns args Fs) :
    EvOK I k sc ns (.Call (.Name x px) args [] pos) (eCall F Fs) := EvOK.call hf ha hk hx hd hp hne hs
end
end Mine
open PySem PySem.W PyProof.Rows PySem.Spec
set_option linter.unusedVariables false
set_option Elab.async false
set_option maxRecDepth 100000
namespace Mine
def fnF (m n : Nat) (F : Run) (N : Nat) : List D → Option D := fun ds => if ds.length = m then callF n F N ds else none

def HatI (I : GI) (p : Program) : Prop := ∀ (i : Nat) (d : DefRec), (recsOf p)[i]? = some d → FnAt I d.name d.params d.body d.scope

theorem FunOK.of {I : GI} {p : Program} {k m i : Nat} (N : Nat) {d : DefRec} {ns : List Str} {F : Run} (hat : HatI I p) (hd : (recsOf p)[i]? = some d) (hc : ScS d.scope ns) (hm : m ≤ ns.length)
    (hbind : ∀ pm cd doc vs, vs.length = m → bindArgs (Calls.docDef d.name d.params d.body d.scope pm cd doc) ⟨vs, []⟩ = pure ((ns.take m).zip vs)) (hco : d.scope.isCoroutine = false) (hgen : d.scope.isGenerator = false)
    (hr : RunOK I k d.scope ns (execs d.body) F) : FunOK I (k + 1) d.name (fnF m ns.length F N) :=
  FunOK.def (hat i d hd) hc hm hbind hco hgen hr fun ds r h => by
    unfold fnF at h
    split at h
    · rename_i hl; exact ⟨hl, N, h⟩
    · cases h

/-- at most n binary digits -/
def Bd (n : Nat) (a : Int) : Prop := a.natAbs < 2 ^ n
theorem Bd.mono {m n : Nat} {a : Int} (h : Bd m a) (l : m ≤ n) : Bd n a := Nat.lt_of_lt_of_le h (Nat.pow_le_pow_right (by decide) l)
theorem Bd.neg {n : Nat} {a : Int} (h : Bd n a) : Bd n (-a) := by unfold Bd; rw [Int.natAbs_neg]; exact h
theorem Bd.mul {m n : Nat} {a b : Int} (h : Bd m a) (h' : Bd n b) : Bd (m + n) (a * b) := by
  unfold Bd at *
  rw [Int.natAbs_mul, Nat.pow_add]
  exact Nat.mul_lt_mul_of_lt_of_lt h h'
theorem Bd.add {n : Nat} {a b : Int} (h : Bd n a) (h' : Bd n b) : Bd (n + 1) (a + b) := by
  unfold Bd at *
  have := Int.natAbs_add_le a b
  rw [Nat.pow_succ]; omega
theorem Bd.sub {n : Nat} {a b : Int} (h : Bd n a) (h' : Bd n b) : Bd (n + 1) (a - b) := by
  rw [Int.sub_eq_add_neg]; exact h.add h'.neg
theorem Bd.one {n : Nat} : Bd (n + 1) 1 := by
  unfold Bd
  have : 1 < 2 ^ (n + 1) := Nat.one_lt_two_pow (by omega)
  exact this
theorem Bd.zero {n : Nat} : Bd n 0 := by
  unfold Bd
  exact Nat.two_pow_pos n
theorem Bd.pow {n : Nat} {a : Int} (h : Bd n a) : ∀ k : Nat, Bd (n * k + 1) (a ^ k)
  | 0 => by rw [Int.pow_zero]; exact Bd.one
  | k + 1 => by
    rw [Int.pow_succ]
    have := (Bd.pow h k).mul h
    exact this.mono (by rw [Nat.mul_succ]; omega)
theorem intBits_le {n : Nat} {a : Int} (h : Bd n a) : Builtin.Int.intBits a ≤ n := by
  unfold Builtin.Int.intBits
  unfold Bd at h
  split
  · omega
  · rename_i q
    have q' : a.natAbs ≠ 0 := by
      intro e
      exact q (by rw [Int.natAbs_eq_zero.mp e]; rfl)
    have := (Nat.log2_lt q').mpr h
    omega
theorem mulOk_bd {m n : Nat} {a b : Int} (h : Bd m a) (h' : Bd n b) (l : m + n ≤ 100000000) : mulOk a b = true := by
  have h1 := intBits_le h
  have h2 := intBits_le h'
  have : Builtin.Int.intTooBig (Builtin.Int.intBits a + Builtin.Int.intBits b) = false := by
    unfold Builtin.Int.intTooBig
    rw [decide_eq_false_iff_not]
    have : (bitsLine : Int) ≥ 134217728 := by decide
    omega
  unfold mulOk
  rw [this, Bool.and_false]; rfl
theorem divOk_bd {n : Nat} {a b : Int} (h0 : b ≠ 0) (h : Bd n b) (l : n ≤ 9000) : divOk a b = true := by
  unfold divOk
  have : b.natAbs.log2 < 9000 := by
    have := (Nat.log2_lt (by omega : b.natAbs ≠ 0)).mpr h
    omega
  simp [h0, this]
theorem powOk_bd {n k : Nat} {a : Int} (h : Bd n a) (l : n * k ≤ 100000000) : powOk a k = true := by
  have h1 := intBits_le h
  unfold powOk
  have : (Builtin.Int.intBits a : Int) * (k : Int) ≤ 2 ^ 27 := by
    have := Nat.mul_le_mul_right k h1
    have e : (Builtin.Int.intBits a : Int) * (k : Int) = ((Builtin.Int.intBits a * k : Nat) : Int) := by simp
    rw [e]
    have : (2:Int)^27 = 134217728 := by decide
    omega
  rw [Bool.and_eq_true, decide_eq_true_eq, decide_eq_true_eq]
  exact ⟨by omega, this⟩
/-- a run of ints, multiplied up -/
def prodI (l : List Int) : Int := l.foldl (· * ·) 1
theorem foldl_mul (l : List Int) : ∀ z : Int, l.foldl (· * ·) z = z * prodI l := by
  induction l with
  | nil => intro z; simp [prodI]
  | cons x r ih => intro z; rw [List.foldl_cons, ih, show prodI (x :: r) = r.foldl (· * ·) (1 * x) from rfl, ih (1 * x), Int.one_mul, Int.mul_assoc]
theorem prodI_nil : prodI [] = 1 := rfl
theorem prodI_cons (x : Int) (r : List Int) : prodI (x :: r) = x * prodI r := by rw [show prodI (x :: r) = r.foldl (· * ·) (1 * x) from rfl, foldl_mul, Int.one_mul]
theorem prodI_append (l r : List Int) : prodI (l ++ r) = prodI l * prodI r := by
  induction l with
  | nil => simp [prodI_nil]
  | cons x l ih => rw [List.cons_append, prodI_cons, ih, prodI_cons, Int.mul_assoc]
theorem Bd.prod {m : Nat} : ∀ {l : List Int}, (∀ x ∈ l, Bd m x) → Bd (m * l.length + 1) (prodI l)
  | [], _ => Bd.one
  | x :: r, h => by
    rw [prodI_cons]
    have := (h x (.head _)).mul (Bd.prod (l := r) fun y hy => h y (.tail _ hy))
    exact this.mono (by rw [List.length_cons, Nat.mul_succ]; omega)

theorem intsD_cons (x : Int) (l : List Int) : intsD (x :: l) = .int x :: intsD l := rfl
theorem intsD_length (l : List Int) : (intsD l).length = l.length := by simp [intsD]
theorem sizeLine_ge : 10000 ≤ sizeLine := by rw [sizeLine_eq]; decide
theorem items_lst {l : List D} (h : l.length ≤ 10000) : itemsOf (.lst l) = some l := by
  show (if l.length ≤ sizeLine then some l else none) = some l
  rw [if_pos (Nat.le_trans h sizeLine_ge)]
theorem items_tup {l : List D} (h : l.length ≤ 10000) : itemsOf (.tup l) = some l := by
  show (if l.length ≤ sizeLine then some l else none) = some l
  rw [if_pos (Nat.le_trans h sizeLine_ge)]

def upI (a : Int) (n : Nat) : List Int := (List.range n).map fun (i : Nat) => a + (i : Int)
def stepI (a c : Int) (n : Nat) : List Int := (List.range n).map fun (i : Nat) => a + (i : Int) * c
theorem upI_succ (a : Int) (n : Nat) : upI a (n + 1) = a :: upI (a + 1) n := by
  unfold upI
  rw [List.range_succ_eq_map, List.map_cons, List.map_map]
  refine congr (congrArg _ (by simp)) (List.map_congr_left fun i _ => ?_)
  simp only [Function.comp]; omega
theorem upI_last (a : Int) (n : Nat) : upI a (n + 1) = upI a n ++ [a + (n : Int)] := by
  unfold upI
  rw [List.range_succ, List.map_append]; rfl
theorem upI_length (a : Int) (n : Nat) : (upI a n).length = n := by simp [upI]
theorem mem_upI {a x : Int} {n : Nat} : x ∈ upI a n ↔ a ≤ x ∧ x < a + n := by
  unfold upI
  rw [List.mem_map]
  constructor
  · rintro ⟨i, hi, rfl⟩
    rw [List.mem_range] at hi; omega
  · rintro ⟨h1, h2⟩
    exact ⟨(x - a).toNat, by rw [List.mem_range]; omega, by omega⟩
theorem rngL_step (a c : Int) (n : Nat) : rngL a c n = intsD (stepI a c n) := by
  unfold rngL intsD stepI
  rw [List.map_map]; rfl
theorem stepI_one (a : Int) (n : Nat) : stepI a 1 n = upI a n := by
  unfold stepI upI
  exact List.map_congr_left fun i _ => by omega
theorem fitsL {a : Int} (h : -(10:Int)^15 ≤ a) (h' : a ≤ 10^15) : Builtin.Range.rangeFitsLong a = true := by
  unfold Builtin.Range.rangeFitsLong
  have : (10:Int)^15 = 1000000000000000 := by decide
  have : (2:Int)^63 = 9223372036854775808 := by decide
  simp only [Bool.and_eq_true, decide_eq_true_eq]
  omega
theorem items_step {a b c : Int} {n : Nat} (hc : 0 < c) (ha : -(10:Int)^6 ≤ a) (ha' : a ≤ 10^6) (hb : -(10:Int)^6 ≤ b) (hb' : b ≤ 10^6) (hc' : c ≤ 10^6) (hn : n ≤ 10000) (hs : Builtin.Range.rangeSize a b c = n) : itemsOf (.rng a b c) = some (intsD (stepI a c n)) := by
  have h6 : (10:Int)^6 = 1000000 := by decide
  have h15 : (10:Int)^15 = 1000000000000000 := by decide
  have hsm : Builtin.Range.small a b c = true := by
    unfold Builtin.Range.small
    rw [hs, fitsL (by omega) (by omega), fitsL (by omega) (by omega), fitsL (by omega) (by omega), fitsL (by omega) (by omega), if_pos hc, fitsL (by omega) (by omega)]
    simp
  show (if Builtin.Range.small a b c = true ∧ 0 ≤ Builtin.Range.rangeSize a b c ∧ (Builtin.Range.rangeSize a b c).toNat ≤ sizeLine then some (rngL a c (Builtin.Range.rangeSize a b c).toNat) else none) = _
  have := sizeLine_ge
  rw [hs, if_pos ⟨hsm, by omega, by omega⟩, rngL_step]
  simp
theorem items_rng {a b : Int} (ha : -(10:Int)^6 ≤ a) (ha' : a ≤ 10^6) (hb : -(10:Int)^6 ≤ b) (hb' : b ≤ 10^6) (hn : (b - a).toNat ≤ 10000) : itemsOf (.rng a b 1) = some (intsD (upI a (b - a).toNat)) := by
  rw [← stepI_one]
  refine items_step (by decide) ha ha' hb hb' (by decide) hn ?_
  unfold Builtin.Range.rangeSize
  rw [if_pos (by decide)]
  split <;> omega

theorem isStr_lst {l : List D} : isStr (.lst l) = false := rfl
theorem isStr_tup {l : List D} : isStr (.tup l) = false := rfl
theorem isStr_rng {a b c : Int} : isStr (.rng a b c) = false := rfl
theorem fLen_ints {l : List Int} (h : l.length ≤ 10000) : fLen [.lst (intsD l)] = some (.int (l.length : Int)) := by
  show (if (intsD l).length ≤ sizeLine then some (D.int ((intsD l).length : Int)) else none) = _
  have := sizeLine_ge
  rw [intsD_length, if_pos (by omega)]
theorem fShi_ints {l : List Int} {n : Nat} (h : l.length ≤ 10000) : fShi (.int (n : Int)) (.lst (intsD l)) = some (.lst (intsD (l.take n))) := by
  show (if 0 ≤ (n : Int) ∧ (intsD l).length ≤ sizeLine then some (D.lst ((intsD l).take (n : Int).toNat)) else none) = _
  have := sizeLine_ge
  rw [intsD_length, if_pos ⟨by omega, by omega⟩, Int.toNat_natCast]
  simp [intsD, List.map_take]
theorem fSlo_ints {l : List Int} {n : Nat} (h : l.length ≤ 10000) : fSlo (.int (n : Int)) (.lst (intsD l)) = some (.lst (intsD (l.drop n))) := by
  show (if 0 ≤ (n : Int) ∧ (intsD l).length ≤ sizeLine then some (D.lst ((intsD l).drop (n : Int).toNat)) else none) = _
  have := sizeLine_ge
  rw [intsD_length, if_pos ⟨by omega, by omega⟩, Int.toNat_natCast]
  simp [intsD, List.map_drop]
theorem fSubs_ints {l : List Int} {n : Nat} {x : Int} (h : l[n]? = some x) (hn : n ≤ 10000) : fSubs (.lst (intsD l)) (.int (n : Int)) = some (.int x) := by
  have : (2:Int)^63 = 9223372036854775808 := by decide
  have c : 0 ≤ (n : Int) ∧ (n : Int) < 2 ^ 63 := ⟨by omega, by omega⟩
  unfold fSubs
  simp only [c, and_self, if_true, Int.toNat_natCast, intsD, List.getElem?_map, h]; rfl
theorem fTuple_ints {l : List D} (h : l.length ≤ 10000) : fTuple [.lst l] = some (.tup l) := by
  show (if l.length ≤ sizeLine then some (D.tup l) else none) = _
  rw [if_pos (Nat.le_trans h sizeLine_ge)]
theorem fIn_ints {a : Int} {l : List Int} {neg : Bool} : fIn neg (.int a) (.lst (intsD l)) = some (.bool (neg ^^ l.contains a)) := by
  show (if (intsD l).all isI = true then some (D.bool (neg ^^ (intsD l).any (hitI a))) else none) = _
  have h1 : (intsD l).all isI = true := by
    rw [List.all_eq_true]
    intro x hx
    obtain ⟨y, _, rfl⟩ := List.mem_map.mp hx
    rfl
  have h2 : (intsD l).any (hitI a) = l.contains a := by
    induction l with
    | nil => rfl
    | cons x r ih =>
      have ih' := ih (by rw [List.all_eq_true]; intro y hy; obtain ⟨z, _, rfl⟩ := List.mem_map.mp hy; rfl)
      rw [intsD_cons, List.any_cons, ih', List.contains_cons, show hitI a (.int x) = (x == a) from rfl, Bool.beq_comm]
  rw [if_pos h1, h2]
/-- the laws' draws -/
def oneI (ns : List Int) (p : Nat) : Int := match ns[p]? with
  | some x => x
  | none => 9973 * ((p : Int) + 1) * ((p : Int) + 1) + 389 * (p : Int) + 25
def signI (ns : List Int) (p : Nat) (w : Int) : Int := if oneI ns p < 0 then -((-oneI ns p).fmod w) else (oneI ns p).fmod w
theorem Bd.ofNat {n : Nat} {a : Int} (h0 : 0 ≤ a) (h : a < 2 ^ n) : Bd n a := by
  unfold Bd
  have : ((a.natAbs : Nat) : Int) < ((2 ^ n : Nat) : Int) := by rw [Int.natAbs_of_nonneg h0]; simpa using h
  exact Int.ofNat_lt.mp this
theorem Bd.fmod {n : Nat} {a w : Int} (h0 : 0 < w) (h : w ≤ 2 ^ n) : Bd n (a.fmod w) := by
  have h1 := Int.fmod_nonneg_of_pos a h0
  have h2 := Int.fmod_lt_of_pos a h0
  exact Bd.ofNat h1 (by omega)
theorem Bd.sign {n : Nat} {ns : List Int} {p : Nat} {w : Int} (h0 : 0 < w) (h : w ≤ 2 ^ n) : Bd n (signI ns p w) := by
  unfold signI
  split
  · exact (Bd.fmod h0 h).neg
  · exact Bd.fmod h0 h
def asInt : Option D → Option Int
  | some (.int i) => some i
  | _ => none
theorem asInt_eq {o : Option D} {i : Int} (h : asInt o = some i) : o = some (.int i) := by
  unfold asInt at h
  split at h
  · cases h; rfl
  · cases h
def asIntL : List D → Option (List Int)
  | [] => some []
  | .int i :: r => match asIntL r with
    | some l => some (i :: l)
    | none => none
  | _ => none
theorem asIntL_eq : ∀ {l : List D} {r : List Int}, asIntL l = some r → l = intsD r
  | [], r, h => by cases h; rfl
  | d :: l, r, h => by
    unfold asIntL at h
    split at h
    · rename_i e; cases e
    · rename_i i r' e
      cases e
      split at h
      · rename_i q hq
        cases h
        rw [asIntL_eq hq]; rfl
      · cases h
    · cases h
def asInts : Option D → Option (List Int)
  | some (.lst l) => asIntL l
  | _ => none
theorem asInts_eq {o : Option D} {l : List Int} (h : asInts o = some l) : o = some (.lst (intsD l)) := by
  unfold asInts at h
  split at h
  · rw [asIntL_eq h]
  · cases h
theorem mulOk_sm {a b : Int} (h1 : -(2:Int)^60 < a) (h2 : a < 2^60) : mulOk a b = true := by
  have h : Bd 60 a := by
    unfold Bd
    have : (2:Int)^60 = 1152921504606846976 := by decide
    have : (2:Nat)^60 = 1152921504606846976 := by decide
    omega
  have h1 := intBits_le h
  have : decide (Builtin.Int.intBits a > shortFactorBits) = false := by
    rw [decide_eq_false_iff_not]
    have : shortFactorBits = 64 := rfl
    omega
  unfold mulOk
  rw [this]; rfl
end Mine
open PySem PySem.W PyProof.Rows PySem.Spec
set_option linter.unusedVariables false
set_option Elab.async false
set_option maxRecDepth 100000
namespace Mine
/-! what a run gives, backwards from what is wanted -/
def RW (F : Run) (N : Nat) (σ : St) (P : St → Fl → Prop) : Prop := ∃ σ' fl, F N σ = some (σ', fl) ∧ P σ' fl
def EW (F : Ev) (r : R) (Q : D → Prop) : Prop := ∃ d, F r = some d ∧ Q d
def EsW (F : Evs) (r : R) (Q : List D → Prop) : Prop := ∃ d, F r = some d ∧ Q d
def TW (T : Tr) (r : R) (Q : Bool → Prop) : Prop := ∃ b, T r = some b ∧ Q b
def CW (f : List D → Option D) (ds : List D) (Q : D → Prop) : Prop := ∃ d, f ds = some d ∧ Q d
def OW (f : D → D → Option D) (x y : D) (Q : D → Prop) : Prop := ∃ d, f x y = some d ∧ Q d
def UW (f : D → Option D) (x : D) (Q : D → Prop) : Prop := ∃ d, f x = some d ∧ Q d
def SW (F : Ev) (σ : St) (Q : D → Prop) : Prop := ∃ d, evS F σ = some d ∧ Q d
def SK (Fs : Run) (N : Nat) (P : St → Fl → Prop) (σ : St) : Fl → Prop
  | .next => RW Fs N σ P
  | fl => P σ fl
def CK (Q : D → Prop) (σ : St) : Fl → Prop
  | .next => Q .none
  | .ret d => Q d
  | .cont => False
def IfK (b : Bool) (p q : Prop) : Prop := match b with
  | true => p
  | false => q
def NotK (b : Bool) (Q : Bool → Prop) : Prop := Q (!b)
def TruthK (x : D) (K : Bool → Prop) : Prop := ∃ b, fTruth x = some b ∧ K b
def PutAt (σ : St) (i : Nat) (s : Slot) (K : St → Prop) : Prop := i < σ.length ∧ K (σ.set i s)
def TupK (is : List Nat) (rev : Bool) (d : D) (σ : St) (K : St → Prop) : Prop := ∃ ds, d = .tup ds ∧ ds.length = is.length ∧ K (if rev = true then setAll is.reverse ds.reverse σ else setAll is ds σ)
def TpK (ds : List D) (Q : D → Prop) : Prop := ds.length ≤ sizeLine ∧ Q (.tup ds)
def LsK (ds : List D) (Q : D → Prop) : Prop := ds.length ≤ sizeLine ∧ Q (.lst ds)
def LW (n j : Nat) (B : Run) (N : Nat) (ds : List D) (σ : St) (P : St → Fl → Prop) : Prop := ∃ σ' fl, forL n j (B N) ds σ = some (σ', fl) ∧ P σ' fl
def ForK (d : D) (n j : Nat) (B : Run) (N : Nat) (σ : St) (P : St → Fl → Prop) : Prop := ∃ ds, isStr d = false ∧ itemsOf d = some ds ∧ LW n j B N ds σ P
def WW (T : Tr) (B : Run) (N fuel : Nat) (σ : St) (P : St → Fl → Prop) : Prop := ∃ σ' fl, whileL T (B N) fuel σ = some (σ', fl) ∧ P σ' fl
def CompK (elt : Ev) (tst : Tr) (r : R) (d : D) (Q : D → Prop) : Prop := ∃ ds out, itemsOf d = some ds ∧ compL elt tst r ds = some out ∧ Q (.lst out)
def LK (P : St → Fl → Prop) (K : St → Prop) (σ : St) : Fl → Prop
  | .ret d => P σ (.ret d)
  | _ => K σ
def StartsAt (ds : List D) (n : Nat) (σ : St) : Prop := startSt ds n = σ

section
variable {F Fs F' B : Run} {N n i j m : Nat} {σ σ' : St} {P : St → Fl → Prop} {E G H : Ev} {r : R} {Q : D → Prop} {T T' : Tr} {es : Evs} {d x y : D} {ds : List D} {K : St → Prop}
theorem StartsAt.nil : StartsAt [] 0 [] := rfl
theorem StartsAt.unb (h : StartsAt [] n σ) : StartsAt [] (n + 1) (.unb :: σ) := by
  unfold StartsAt at *; rw [← h]; rfl
theorem StartsAt.cons (h : StartsAt ds n σ) : StartsAt (d :: ds) (n + 1) (.imm d :: σ) := by
  unfold StartsAt at *; rw [← h]
  simp [startSt]
theorem CW.fn (hs : StartsAt ds n σ) (hl : ds.length = m) (h : RW F N σ (CK Q)) : CW (fnF m n F N) ds Q := by
  obtain ⟨σ', fl, e, p⟩ := h
  rw [← show startSt ds n = σ from hs] at e
  unfold CW fnF callF
  rw [if_pos hl, e]
  cases fl with
  | next => exact ⟨_, rfl, p⟩
  | ret d => exact ⟨_, rfl, p⟩
  | cont => exact p.elim
theorem CK.ret (h : Q d) : CK Q σ (.ret d) := h
theorem CK.next (h : Q .none) : CK Q σ .next := h
theorem CW.of {f : List D → Option D} (h : f ds = some d) (k : Q d) : CW f ds Q := ⟨d, h, k⟩
theorem CW.eq {f : List D → Option D} (h : CW f ds (fun z => z = d)) : f ds = some d := by
  obtain ⟨z, e, q⟩ := h; rw [e, q]
theorem OW.of {f : D → D → Option D} (h : f x y = some d) (k : Q d) : OW f x y Q := ⟨d, h, k⟩
theorem UW.of {f : D → Option D} (h : f x = some d) (k : Q d) : UW f x Q := ⟨d, h, k⟩
theorem RW.nil (h : P σ .next) : RW rNil N σ P := ⟨_, _, rfl, h⟩
theorem RW.seq (h : RW F N σ (SK Fs N P)) : RW (rSeq F Fs) N σ P := by
  obtain ⟨σ', fl, e, p⟩ := h
  unfold RW rSeq
  rw [e]
  cases fl with
  | next => exact p
  | ret d => exact ⟨_, _, rfl, p⟩
  | cont => exact ⟨_, _, rfl, p⟩
theorem SK.next (h : RW Fs N σ P) : SK Fs N P σ .next := h
theorem SK.ret (h : P σ (.ret d)) : SK Fs N P σ (.ret d) := h
theorem SK.cont (h : P σ .cont) : SK Fs N P σ .cont := h
theorem LK.next (h : K σ) : LK P K σ .next := h
theorem LK.cont (h : K σ) : LK P K σ .cont := h
theorem LK.ret (h : P σ (.ret d)) : LK P K σ (.ret d) := h
theorem RW.lenOk (hl : σ.length = n) (h : RW F N σ P) : RW (lenOk n F) N σ P := by
  obtain ⟨σ', fl, e, p⟩ := h
  exact ⟨σ', fl, by unfold Mine.lenOk; rw [if_pos hl]; exact e, p⟩
theorem SW.of (h : EW E (rdH σ) Q) : SW E σ Q := by
  obtain ⟨d, e, q⟩ := h
  exact ⟨d, by unfold evS; rw [e], q⟩
theorem PutAt.z {s t : Slot} (h : K (s :: σ)) : PutAt (t :: σ) 0 s K := ⟨by simp, h⟩
theorem PutAt.s {s t : Slot} (h : PutAt σ i s (fun r => K (t :: r))) : PutAt (t :: σ) (i + 1) s K := ⟨by have := h.1; simp; exact this, h.2⟩
theorem RW.asg (h : SW E σ fun d => PutAt σ i (.imm d) fun σ' => P σ' .next) : RW (rAsg i E) N σ P := by
  obtain ⟨d, e, hi, p⟩ := h
  refine ⟨_, _, ?_, p⟩
  unfold rAsg
  rw [if_neg (by omega), e]
theorem RW.ret (h : EW E (rdH σ) fun d => P σ (.ret d)) : RW (rRet E) N σ P := by
  obtain ⟨d, e, p⟩ := h
  exact ⟨_, _, by unfold rRet; rw [e], p⟩
theorem RW.if (h : TW T (rdF σ) fun b => IfK b (RW F N σ P) (RW F' N σ P)) : RW (rIf T F F') N σ P := by
  obtain ⟨b, e, p⟩ := h
  unfold RW rIf
  rw [e]
  cases b <;> exact p
theorem IfK.t {p q : Prop} (h : p) : IfK true p q := h
theorem IfK.f {p q : Prop} (h : q) : IfK false p q := h
theorem IfK.decT {c p q : Prop} [Decidable c] (hc : c) (h : p) : IfK (decide c) p q := by rw [decide_eq_true hc]; exact h
theorem IfK.decF {c p q : Prop} [Decidable c] (hc : ¬ c) (h : q) : IfK (decide c) p q := by rw [decide_eq_false hc]; exact h
theorem IfK.dec {c p q : Prop} [Decidable c] (h : c → p) (h' : ¬ c → q) : IfK (decide c) p q := by
  by_cases hc : c
  · exact IfK.decT hc (h hc)
  · exact IfK.decF hc (h' hc)
theorem IfK.cases {b : Bool} {p q : Prop} (h : b = true → p) (h' : b = false → q) : IfK b p q := by
  cases b
  · exact h' rfl
  · exact h rfl
theorem NotK.t {Q : Bool → Prop} (h : Q false) : NotK true Q := h
theorem NotK.f {Q : Bool → Prop} (h : Q true) : NotK false Q := h
theorem NotK.dec {c : Prop} [Decidable c] {Q : Bool → Prop} (h : Q (decide (¬ c))) : NotK (decide c) Q := by
  unfold NotK; rw [← decide_not]; exact h
theorem TruthK.bool {b : Bool} {K : Bool → Prop} (h : K b) : TruthK (.bool b) K := ⟨_, rfl, h⟩
theorem TruthK.none {K : Bool → Prop} (h : K false) : TruthK .none K := ⟨_, rfl, h⟩
theorem TruthK.int {a : Int} {K : Bool → Prop} (h : K (decide (a ≠ 0))) : TruthK (.int a) K := by
  refine ⟨_, rfl, ?_⟩
  have : (a != 0) = decide (a ≠ 0) := by
    by_cases q : a = 0 <;> simp [q]
  rw [this]; exact h
theorem TruthK.lst {l : List D} {K : Bool → Prop} (hl : l.length ≤ 10000) (h : K (!l.isEmpty)) : TruthK (.lst l) K := by
  refine ⟨_, ?_, h⟩
  show (if l.length ≤ sizeLine then some (!l.isEmpty) else Option.none) = _
  rw [if_pos (Nat.le_trans hl sizeLine_ge)]
theorem RW.aug {f : D → D → Option D} (hx : σ[i]? = some (.imm x)) (h : SW E σ fun y => OW f x y fun z => PutAt σ i (.imm z) fun σ' => P σ' .next) : RW (rAug i f E) N σ P := by
  obtain ⟨y, e, z, e', hi, p⟩ := h
  exact ⟨_, _, by unfold rAug; rw [hx]; simp only [e, e'], p⟩
theorem RW.tup {is : List Nat} {rev : Bool} (h : SW E σ fun d => TupK is rev d σ fun σ' => P σ' .next) : RW (rTup is rev E) N σ P := by
  obtain ⟨d, e, ds, rfl, hl, p⟩ := h
  exact ⟨_, _, by unfold rTup; rw [e]; simp only [hl, if_true], p⟩
theorem PutAt.val {s : Slot} (h : PutAt σ i s K) : K (σ.set i s) := h.2
theorem TupK.two_t {a b : D} {i j : Nat} (h : PutAt σ j (.imm b) fun σ' => PutAt σ' i (.imm a) K) : TupK [i, j] true (.tup [a, b]) σ K := ⟨_, rfl, rfl, h.2.2⟩
theorem TupK.two_f {a b : D} {i j : Nat} (h : PutAt σ i (.imm a) fun σ' => PutAt σ' j (.imm b) K) : TupK [i, j] false (.tup [a, b]) σ K := ⟨_, rfl, rfl, h.2.2⟩
theorem TupK.three_t {a b c : D} {i j k : Nat} (h : PutAt σ k (.imm c) fun σ' => PutAt σ' j (.imm b) fun σ' => PutAt σ' i (.imm a) K) : TupK [i, j, k] true (.tup [a, b, c]) σ K := ⟨_, rfl, rfl, h.2.2.2⟩
theorem TupK.three_f {a b c : D} {i j k : Nat} (h : PutAt σ i (.imm a) fun σ' => PutAt σ' j (.imm b) fun σ' => PutAt σ' k (.imm c) K) : TupK [i, j, k] false (.tup [a, b, c]) σ K := ⟨_, rfl, rfl, h.2.2.2⟩
theorem TupK.four_f {a b c e : D} {i j k l : Nat} (h : PutAt σ i (.imm a) fun σ' => PutAt σ' j (.imm b) fun σ' => PutAt σ' k (.imm c) fun σ' => PutAt σ' l (.imm e) K) : TupK [i, j, k, l] false (.tup [a, b, c, e]) σ K := ⟨_, rfl, rfl, h.2.2.2.2⟩
theorem RW.for (h : EW E (rdH σ) fun d => ForK d n j B N σ P) : RW (rFor n j E B) N σ P := by
  obtain ⟨d, e, ds, h1, h2, σ', fl, h3, p⟩ := h
  refine ⟨σ', fl, ?_, p⟩
  unfold rFor
  simp only [e, h1, h2, Bool.false_eq_true, if_false, h3]
theorem ForK.of (h1 : isStr d = false) (h2 : itemsOf d = some ds) (h : LW n j B N ds σ P) : ForK d n j B N σ P := ⟨ds, h1, h2, h⟩
theorem LW.nil (h : P σ .next) : LW n j B N [] σ P := ⟨_, _, rfl, h⟩
theorem LW.cons (hl : σ.length = n) (h : PutAt σ j (.imm d) fun σ₁ => RW B N σ₁ (LK P fun σ' => LW n j B N ds σ' P)) : LW n j B N (d :: ds) σ P := by
  obtain ⟨hj, σ', fl, e, p⟩ := h
  unfold LW forL
  rw [if_pos hl, e]
  cases fl with
  | next => exact p
  | cont => exact p
  | ret d => exact ⟨_, _, rfl, p⟩
theorem LW.inv (Inv : List D → St → Prop) (h0 : Inv ds σ) (hs : ∀ d ds σ, Inv (d :: ds) σ → σ.length = n ∧ PutAt σ j (.imm d) fun σ₁ => RW B N σ₁ (LK P (Inv ds))) (hP : ∀ σ', Inv [] σ' → P σ' .next) : LW n j B N ds σ P := by
  induction ds generalizing σ with
  | nil => exact LW.nil (hP _ h0)
  | cons d ds ih =>
    obtain ⟨hl, hj, σ', fl, e, p⟩ := hs d ds σ h0
    refine LW.cons hl ⟨hj, σ', fl, e, ?_⟩
    cases fl with
    | next => exact ih p
    | cont => exact ih p
    | ret d => exact p
theorem RW.while (h : WW T B N N σ P) : RW (rWhile T B) N σ P := h
theorem WW.inv (Inv : Nat → St → Prop) {k fuel : Nat} (h0 : Inv k σ) (hk : k < fuel) (hs : ∀ k σ, Inv k σ → TW T (rdF σ) fun b => IfK b (RW B N σ (LK P fun σ' => ∃ k', k' < k ∧ Inv k' σ')) (P σ .next)) : WW T B N fuel σ P := by
  induction fuel generalizing k σ with
  | zero => omega
  | succ fuel ih =>
    obtain ⟨b, e, p⟩ := hs k σ h0
    unfold WW whileL
    rw [e]
    cases b with
    | false => exact ⟨_, _, rfl, p⟩
    | true =>
      obtain ⟨σ', fl, e', p'⟩ := p
      simp only [e']
      cases fl with
      | next => obtain ⟨k', hk', hi⟩ := p'; exact ih hi (by omega)
      | cont => obtain ⟨k', hk', hi⟩ := p'; exact ih hi (by omega)
      | ret d => exact ⟨_, _, rfl, p'⟩
theorem EW.var (h : r[i]? = some (some d)) (k : Q d) : EW (eVar i) r Q := ⟨d, by unfold eVar; rw [h], k⟩
theorem EW.cst (k : Q d) : EW (eCst d) r Q := ⟨d, rfl, k⟩
theorem EW.e1 {f : D → Option D} (h : EW E r fun x => UW f x Q) : EW (e1 f E) r Q := by
  obtain ⟨x, e, d, e', q⟩ := h
  exact ⟨d, by unfold Mine.e1; rw [e]; exact e', q⟩
theorem EW.e2 {f : D → D → Option D} (h : EW E r fun x => EW G r fun y => OW f x y Q) : EW (e2 f E G) r Q := by
  obtain ⟨x, e, y, e', d, e'', q⟩ := h
  exact ⟨d, by unfold Mine.e2; rw [e]; simp only [e', e''], q⟩
theorem EW.call {f : List D → Option D} (h : EsW es r fun ds => CW f ds Q) : EW (eCall f es) r Q := by
  obtain ⟨ds, e, d, e', q⟩ := h
  exact ⟨d, by unfold eCall; rw [e]; exact e', q⟩
theorem EsW.nil {Q : List D → Prop} (k : Q []) : EsW es0 r Q := ⟨[], rfl, k⟩
theorem EsW.cons {Q : List D → Prop} (h : EW E r fun d => EsW es r fun ds => Q (d :: ds)) : EsW (esC E es) r Q := by
  obtain ⟨d, e, ds, e', q⟩ := h
  exact ⟨_, by unfold esC; rw [e]; simp only [e'], q⟩
theorem EW.tup (h : EsW es r fun ds => TpK ds Q) : EW (eTup es) r Q := by
  obtain ⟨ds, e, hl, q⟩ := h
  exact ⟨_, by unfold eTup; rw [e]; simp only [hl, if_true], q⟩
theorem EW.lst (h : EsW es r fun ds => LsK ds Q) : EW (eLst es) r Q := by
  obtain ⟨ds, e, hl, q⟩ := h
  exact ⟨_, by unfold eLst; rw [e]; simp only [hl, if_true], q⟩
theorem TpK.mk (h : ds.length ≤ 10000) (k : Q (.tup ds)) : TpK ds Q := ⟨Nat.le_trans h sizeLine_ge, k⟩
theorem LsK.mk (h : ds.length ≤ 10000) (k : Q (.lst ds)) : LsK ds Q := ⟨Nat.le_trans h sizeLine_ge, k⟩
theorem EW.not (h : EW E r fun x => TruthK x fun b => NotK b fun c => Q (.bool c)) : EW (eNot E) r Q := by
  obtain ⟨x, e, b, e', q⟩ := h
  exact ⟨_, by unfold eNot; rw [e]; simp only [e'], q⟩
theorem EW.and (h : EW E r fun x => TruthK x fun b => IfK b (EW G r Q) (Q x)) : EW (eAnd E G) r Q := by
  obtain ⟨x, e, b, e', q⟩ := h
  unfold EW eAnd
  rw [e]; simp only [e']
  cases b
  · exact ⟨_, rfl, q⟩
  · exact q
theorem EW.or (h : EW E r fun x => TruthK x fun b => IfK b (Q x) (EW G r Q)) : EW (eOr E G) r Q := by
  obtain ⟨x, e, b, e', q⟩ := h
  unfold EW eOr
  rw [e]; simp only [e']
  cases b
  · exact q
  · exact ⟨_, rfl, q⟩
theorem EW.e3c {f f' : D → D → Option D} (h : EW E r fun x => EW G r fun y => OW f x y fun c => TruthK c fun b => IfK b (EW H r fun z => OW f' y z Q) (Q c)) : EW (e3c f f' E G H) r Q := by
  obtain ⟨x, e, y, e1, c, e2, b, e3, q⟩ := h
  unfold EW Mine.e3c
  rw [e]; simp only [e1, e2, e3]
  cases b
  · exact ⟨_, rfl, q⟩
  · obtain ⟨z, e4, d, e5, q⟩ := q
    exact ⟨d, by simp only [e4, e5], q⟩
theorem EW.comp (h : EW G r fun d => CompK E T r d Q) : EW (eComp E T G) r Q := by
  obtain ⟨d, e, ds, out, h1, h2, q⟩ := h
  exact ⟨_, by unfold eComp; rw [e]; simp only [h1, h2], q⟩
theorem TW.tOf {Q : Bool → Prop} (h : EW E r fun x => TruthK x Q) : TW (tOf E) r Q := by
  obtain ⟨x, e, b, e', q⟩ := h
  exact ⟨b, by unfold Mine.tOf; rw [e]; exact e', q⟩
theorem TW.not {Q : Bool → Prop} (h : TW T r fun b => NotK b Q) : TW (tNot T) r Q := by
  obtain ⟨b, e, q⟩ := h
  exact ⟨!b, by unfold tNot; rw [e], q⟩
theorem TW.and {Q : Bool → Prop} (h : TW T r fun b => IfK b (TW T' r Q) (Q false)) : TW (tAnd T T') r Q := by
  obtain ⟨b, e, q⟩ := h
  unfold TW tAnd
  rw [e]
  cases b
  · exact ⟨_, rfl, q⟩
  · exact q
theorem TW.or {Q : Bool → Prop} (h : TW T r fun b => IfK b (Q true) (TW T' r Q)) : TW (tOr T T') r Q := by
  obtain ⟨b, e, q⟩ := h
  unfold TW tOr
  rw [e]
  cases b
  · exact q
  · exact ⟨_, rfl, q⟩
section ops
variable {a b : Int}
theorem OW.add (k : Q (.int (a + b))) : OW fAdd (.int a) (.int b) Q := ⟨_, rfl, k⟩
theorem OW.addI (k : Q (.int (a + b))) : OW fAddI (.int a) (.int b) Q := ⟨_, rfl, k⟩
theorem OW.addL {l l' : List D} (h : l.length + l'.length ≤ 10000) (k : Q (.lst (l ++ l'))) : OW fAdd (.lst l) (.lst l') Q := ⟨_, by
  show (if l.length + l'.length ≤ sizeLine then some (D.lst (l ++ l')) else none) = _
  rw [if_pos (Nat.le_trans h sizeLine_ge)], k⟩
theorem OW.sub (k : Q (.int (a - b))) : OW fSub (.int a) (.int b) Q := ⟨_, rfl, k⟩
theorem OW.mul (h : mulOk a b = true) (k : Q (.int (a * b))) : OW fMul (.int a) (.int b) Q := ⟨_, by simp only [fMul]; rw [if_pos h], k⟩
theorem OW.div (h : divOk a b = true) (k : Q (.int (a.fdiv b))) : OW fDiv (.int a) (.int b) Q := ⟨_, by simp only [fDiv]; rw [if_pos h], k⟩
theorem OW.mod (h : b ≠ 0) (k : Q (.int (a.fmod b))) : OW fMod (.int a) (.int b) Q := ⟨_, by simp only [fMod]; rw [if_pos h], k⟩
theorem OW.pow (h : powOk a b = true) (k : Q (.int (a ^ b.toNat))) : OW fPow (.int a) (.int b) Q := ⟨_, by simp only [fPow]; rw [if_pos h], k⟩
theorem OW.and (k : Q (.int (Builtin.bitAnd a b))) : OW fAnd (.int a) (.int b) Q := ⟨_, rfl, k⟩
theorem OW.ord {f : Int → Int → Bool} (k : Q (.bool (f a b))) : OW (fOrd f) (.int a) (.int b) Q := ⟨_, rfl, k⟩
theorem OW.eq (k : Q (.bool (decide (a = b)))) : OW fEq (.int a) (.int b) Q := ⟨_, rfl, by
  have : (a == b) = decide (a = b) := by by_cases q : a = b <;> simp [q]
  rw [this]; exact k⟩
theorem OW.ne (k : Q (.bool (decide (a ≠ b)))) : OW fNe (.int a) (.int b) Q := ⟨_, rfl, by
  have : (a != b) = decide (a ≠ b) := by by_cases q : a = b <;> simp [q]
  rw [this]; exact k⟩
theorem UW.neg (k : Q (.int (-a))) : UW fNeg (.int a) Q := ⟨_, rfl, k⟩
theorem CW.abs (k : Q (.int (if a < 0 then -a else a))) : CW fAbs [.int a] Q := ⟨_, rfl, k⟩
theorem CW.max (k : Q (.int (if b > a then b else a))) : CW fMax [.int a, .int b] Q := ⟨_, rfl, k⟩
theorem CW.min (k : Q (.int (if b < a then b else a))) : CW fMin [.int a, .int b] Q := ⟨_, rfl, k⟩
theorem CW.range1 (k : Q (.rng 0 a 1)) : CW fRange [.int a] Q := ⟨_, rfl, k⟩
theorem CW.range2 (k : Q (.rng a b 1)) : CW fRange [.int a, .int b] Q := ⟨_, rfl, k⟩
theorem CW.range3 {c : Int} (h : divOk (b - a) c = true) (k : Q (.rng a b c)) : CW fRange [.int a, .int b, .int c] Q := ⟨_, by simp only [fRange]; rw [if_pos h], k⟩
end ops
/-- a comprehension over plain data -/
theorem compL_map {p : D → Bool} {g : D → D} : ∀ {ds : List D}, (∀ x ∈ ds, flat x = true ∧ T (some x :: r) = some (p x) ∧ (p x = true → E (some x :: r) = some (g x) ∧ flat (g x) = true)) → compL E T r ds = some ((ds.filter p).map g)
  | [], _ => rfl
  | x :: ds, h => by
    obtain ⟨h1, h2, h3⟩ := h x (.head _)
    have ih := compL_map (ds := ds) fun y hy => h y (.tail _ hy)
    unfold compL
    rw [if_pos h1, h2]
    cases q : p x with
    | false => simp only [List.filter_cons, q]; exact ih
    | true =>
      obtain ⟨h4, h5⟩ := h3 q
      simp only [h4, h5, if_true, ih, List.filter_cons, q, List.map_cons]
theorem CompK.ints {l : List Int} {p : Int → Bool} {g : Int → Int} (hi : itemsOf d = some (intsD l)) (h : ∀ x ∈ l, TW T (some (.int x) :: r) (fun b => b = p x) ∧ (p x = true → EW E (some (.int x) :: r) fun z => z = .int (g x))) (k : Q (.lst (intsD ((l.filter p).map g)))) : CompK E T r d Q := by
  refine ⟨_, _, hi, compL_map (p := fun z => match z with | .int x => p x | _ => true) (g := fun z => match z with | .int x => .int (g x) | _ => z) ?_, ?_⟩
  · intro x hx
    obtain ⟨y, hy, rfl⟩ := List.mem_map.mp hx
    obtain ⟨⟨b, e, rfl⟩, h2⟩ := h y hy
    refine ⟨rfl, e, fun q => ?_⟩
    obtain ⟨z, e', rfl⟩ := h2 q
    exact ⟨e', rfl⟩
  · have : ((intsD l).filter (fun z => match z with | .int x => p x | _ => true)).map (fun z => match z with | .int x => D.int (g x) | _ => z) = intsD ((l.filter p).map g) := by
      clear hi h k
      induction l with
      | nil => rfl
      | cons x l ih =>
        rw [intsD_cons, List.filter_cons, List.filter_cons]
        by_cases q : p x = true
        · simp only [q, if_true, List.map_cons, ih, intsD_cons]
        · simp only [Bool.not_eq_true] at q
          simp only [q, Bool.false_eq_true, if_false, ih]
    rw [this]; exact k
theorem filter_true {α : Type} : ∀ (l : List α), l.filter (fun _ => true) = l
  | [] => rfl
  | x :: l => by rw [List.filter_cons, if_pos rfl, filter_true l]
theorem CompK.map {l : List Int} {g : Int → Int} (hi : itemsOf d = some (intsD l)) (h : ∀ x ∈ l, EW E (some (.int x) :: r) fun z => z = .int (g x)) (k : Q (.lst (intsD (l.map g)))) : CompK E tTrue r d Q :=
  CompK.ints (p := fun _ => true) (g := g) hi (fun x hx => ⟨⟨_, rfl, rfl⟩, fun _ => h x hx⟩) (by rw [filter_true]; exact k)
def LstK (d : D) (K : List D → Prop) : Prop := ∃ l, d = .lst l ∧ K l
theorem LstK.mk {l : List D} {K : List D → Prop} (h : K l) : LstK (.lst l) K := ⟨l, rfl, h⟩
theorem RW.compI (h : EW (eComp E T G) (rdH σ) fun d => LstK d fun l => PutAt σ i (.imm (.lst l)) fun σ' => P σ' .next) : RW (rComp i false E T G) N σ P := by
  obtain ⟨d, e, l, rfl, hi, p⟩ := h
  exact ⟨_, _, by unfold rComp; rw [e]; rfl, p⟩
theorem RW.compM (h : EW (eComp E T G) (rdH σ) fun d => LstK d fun l => PutAt σ i (.mt l) fun σ' => P σ' .next) : RW (rComp i true E T G) N σ P := by
  obtain ⟨d, e, l, rfl, hi, p⟩ := h
  exact ⟨_, _, by unfold rComp; rw [e]; rfl, p⟩
theorem TW.c {b : Bool} {Q : Bool → Prop} (h : Q b) : TW (fun _ => some b) r Q := ⟨b, rfl, h⟩
theorem RW.mid (M : St → Prop) (h : RW F N σ fun σ' fl => fl = .next ∧ M σ') (k : ∀ σ', M σ' → P σ' .next) : RW F N σ P := by
  obtain ⟨σ', fl, e, rfl, hm⟩ := h
  exact ⟨σ', _, e, k _ hm⟩
theorem prodI_zero : ∀ {l : List Int}, 0 ∈ l → prodI l = 0
  | x :: r, h => by
    rw [prodI_cons]
    rcases List.mem_cons.mp h with e | e
    · rw [← e, Int.zero_mul]
    · rw [prodI_zero e, Int.mul_zero]
theorem prodI_ne : ∀ {l : List Int}, 0 ∉ l → prodI l ≠ 0
  | [], _ => by decide
  | x :: r, h => by
    rw [prodI_cons]
    have h1 : x ≠ 0 := fun e => h (by rw [e]; exact .head _)
    have h2 := prodI_ne (l := r) fun e => h (.tail _ e)
    exact Int.mul_ne_zero h1 h2
end
end Mine
open PySem PySem.W PyProof.Rows PySem.Spec
set_option linter.unusedVariables false
set_option Elab.async false
set_option maxRecDepth 100000
namespace Mine
/-! greatest common parts -/
theorem gcd_fmod {a b : Int} (ha : 0 ≤ a) (hb : 0 < b) : Int.gcd b (a.fmod b) = Int.gcd a b := by
  rw [Int.fmod_eq_emod_of_nonneg a (by omega)]
  obtain ⟨m, rfl⟩ := Int.eq_ofNat_of_zero_le ha
  obtain ⟨n, rfl⟩ := Int.eq_ofNat_of_zero_le (by omega : 0 ≤ b)
  have : (m : Int) % (n : Int) = ((m % n : Nat) : Int) := by simp
  rw [this]
  show Nat.gcd n (m % n) = Nat.gcd m n
  rw [Nat.gcd_comm n, ← Nat.gcd_rec, Nat.gcd_comm]
def absI (a : Int) : Int := if a < 0 then -a else a
theorem absI_eq (a : Int) : absI a = (a.natAbs : Int) := by unfold absI; split <;> omega
/-- what Euclid's road keeps, for a row of numbers that starts at 0 -/
theorem gcd_row (f : Nat → Nat) (h0 : f 0 = 0) (hs : ∀ m n, Nat.gcd (f m) (f (m + n)) = Nat.gcd (f m) (f n)) : ∀ (k m n : Nat), m + n ≤ k → Nat.gcd (f m) (f n) = f (Nat.gcd m n) := by
  intro k
  induction k with
  | zero =>
    intro m n h
    have hm : m = 0 := by omega
    have hn : n = 0 := by omega
    subst hm; subst hn
    simp [h0]
  | succ k ih =>
    intro m n h
    rcases Nat.eq_zero_or_pos m with rfl | hm
    · rw [h0, Nat.gcd_zero_left, Nat.gcd_zero_left]
    rcases Nat.eq_zero_or_pos n with rfl | hn
    · rw [h0, Nat.gcd_zero_right, Nat.gcd_zero_right]
    rcases Nat.le_total m n with h1 | h1
    · obtain ⟨d, rfl⟩ := Nat.le.dest h1
      rw [hs, ih m d (by omega), Nat.gcd_self_add_right]
    · obtain ⟨d, rfl⟩ := Nat.le.dest h1
      rw [Nat.gcd_comm, hs, ih n d (by omega), Nat.gcd_comm (n + d), Nat.gcd_self_add_right]
def fibN : Nat → Nat
  | 0 => 0
  | 1 => 1
  | n + 2 => fibN n + fibN (n + 1)
theorem fib_add : ∀ (m n : Nat), fibN (m + n + 1) = fibN m * fibN n + fibN (m + 1) * fibN (n + 1)
  | 0, n => by simp [fibN]
  | m + 1, n => by
    have h := fib_add m (n + 1)
    have e1 : m + 1 + n + 1 = m + (n + 1) + 1 := by omega
    rw [e1, h]
    have e2 : fibN (n + 1 + 1) = fibN n + fibN (n + 1) := rfl
    have e3 : fibN (m + 1 + 1) = fibN m + fibN (m + 1) := rfl
    rw [e2, e3, Nat.mul_add, Nat.add_mul]
    omega
theorem fib_cop : ∀ n, Nat.gcd (fibN n) (fibN (n + 1)) = 1
  | 0 => rfl
  | n + 1 => by
    have e : fibN (n + 1 + 1) = fibN n + fibN (n + 1) := rfl
    rw [e, Nat.gcd_add_self_right, Nat.gcd_comm]
    exact fib_cop n
theorem fib_step (m n : Nat) : Nat.gcd (fibN m) (fibN (m + n)) = Nat.gcd (fibN m) (fibN n) := by
  cases m with
  | zero => simp [fibN]
  | succ m =>
    have h := fib_add m n
    rw [show m + 1 + n = m + n + 1 by omega, h]
    cases n with
    | zero => simp [fibN]
    | succ n =>
      rw [Nat.mul_comm (fibN (m + 1)), Nat.gcd_add_mul_right_right]
      exact Nat.Coprime.gcd_mul_left_cancel_right _ (fib_cop m)
theorem fib_gcd (m n : Nat) : Nat.gcd (fibN m) (fibN n) = fibN (Nat.gcd m n) := gcd_row fibN rfl fib_step _ m n (Nat.le_refl _)
theorem mers_step (m n : Nat) : Nat.gcd (2 ^ m - 1) (2 ^ (m + n) - 1) = Nat.gcd (2 ^ m - 1) (2 ^ n - 1) := by
  have p1 := Nat.two_pow_pos m
  have p2 := Nat.two_pow_pos n
  have e : 2 ^ (m + n) - 1 = (2 ^ n - 1) + (2 ^ m - 1) * 2 ^ n := by
    rw [Nat.sub_mul, Nat.one_mul, Nat.pow_add]
    have : 2 ^ n ≤ 2 ^ m * 2 ^ n := Nat.le_mul_of_pos_left _ p1
    omega
  rw [e, Nat.gcd_add_mul_left_right]
theorem mers_gcd (m n : Nat) : Nat.gcd (2 ^ m - 1) (2 ^ n - 1) = 2 ^ Nat.gcd m n - 1 := gcd_row (fun k => 2 ^ k - 1) rfl mers_step _ m n (Nat.le_refl _)
theorem fib_lt : ∀ n, fibN n < 2 ^ n ∧ fibN (n + 1) < 2 ^ (n + 1)
  | 0 => by decide
  | n + 1 => by
    obtain ⟨h1, h2⟩ := fib_lt n
    refine ⟨h2, ?_⟩
    have e : fibN (n + 1 + 1) = fibN n + fibN (n + 1) := rfl
    have := Nat.two_pow_pos n
    rw [e, Nat.pow_succ, Nat.pow_succ] at *
    omega
/-- one turn of halving -/
theorem gcd_even_even {a b : Nat} (ha : a % 2 = 0) (hb : b % 2 = 0) : Nat.gcd a b = 2 * Nat.gcd (a / 2) (b / 2) := by
  rw [← Nat.gcd_mul_left, show 2 * (a / 2) = a by omega, show 2 * (b / 2) = b by omega]
theorem gcd_even_odd {a b : Nat} (ha : a % 2 = 0) (hb : b % 2 = 1) : Nat.gcd a b = Nat.gcd (a / 2) b := by
  have h : Nat.Coprime 2 b := by
    unfold Nat.Coprime
    rw [Nat.gcd_rec, hb]; rfl
  have := Nat.Coprime.gcd_mul_left_cancel (a / 2) h
  rw [show 2 * (a / 2) = a by omega] at this
  exact this
theorem gcd_sub_self {a b : Nat} (h : b ≤ a) : Nat.gcd (a - b) b = Nat.gcd a b := by
  obtain ⟨d, rfl⟩ := Nat.le.dest h
  rw [show b + d - b = d by omega, Nat.add_comm, Nat.gcd_add_self_left]
theorem fAbs_nat (a : Int) : fAbs [.int a] = some (.int (a.natAbs : Int)) := by
  show some (D.int (absI a)) = _
  rw [absI_eq]
theorem fmod_nat (m n : Nat) : (m : Int).fmod (n : Int) = ((m % n : Nat) : Int) := by
  rw [Int.fmod_eq_emod_of_nonneg _ (by omega)]; simp
theorem fdiv_nat (m n : Nat) : (m : Int).fdiv (n : Int) = ((m / n : Nat) : Int) := by
  rw [Int.fdiv_eq_ediv_of_nonneg _ (by omega)]; simp
end Mine
open PySem PySem.W PyProof.Rows PySem.Spec
set_option linter.unusedVariables false
set_option Elab.async false
set_option maxRecDepth 100000
namespace Mine
section
variable {F Fs F' B : Run} {N n i j m : Nat} {σ σ' : St} {P : St → Fl → Prop} {E G H : Ev} {r : R} {Q : D → Prop} {T T' : Tr} {es : Evs} {d x y : D} {ds : List D} {K : St → Prop}
theorem RW.retF (h0 : E (rdH σ) = none) (h : EW E (rdF σ) fun d => P σ (.ret d)) : RW (rRet E) N σ P := by
  obtain ⟨d, e, p⟩ := h
  exact ⟨_, _, by unfold rRet; rw [h0]; simp only [e], p⟩
theorem RW.new (h : EsW es (rdH σ) fun ds => ds.length ≤ 10000 ∧ PutAt σ i (.mt ds) fun σ' => P σ' .next) : RW (rNew i es) N σ P := by
  obtain ⟨ds, e, hl, hi, p⟩ := h
  exact ⟨_, _, by unfold rNew evsS; rw [e]; simp only [Nat.le_trans hl sizeLine_ge, if_true], p⟩
theorem RW.app {l : List D} (hx : σ[i]? = some (.mt l)) (hl : l.length ≤ 10000) (h : SW E σ fun d => PutAt σ i (.mt (l ++ [d])) fun σ' => P σ' .next) : RW (rApp i E) N σ P := by
  obtain ⟨d, e, hi, p⟩ := h
  exact ⟨_, _, by unfold rApp; rw [hx]; simp only [Nat.le_trans hl sizeLine_ge, if_true, e], p⟩
def PutK (σ : St) (i : Nat) (l : List D) (z d : D) (K : St → Prop) : Prop := ∃ j : Nat, z = .int (j : Int) ∧ j < l.length ∧ l.length ≤ 10000 ∧ PutAt σ i (.mt (l.set j d)) K
theorem RW.put {l : List D} (hx : σ[i]? = some (.mt l)) (h : SW E σ fun d => SW G σ fun z => PutK σ i l z d fun σ' => P σ' .next) : RW (rPut i G E) N σ P := by
  obtain ⟨d, e, z, e', k, rfl, hk, hl, hi, p⟩ := h
  refine ⟨_, _, ?_, p⟩
  unfold rPut
  rw [hx]
  have : (2:Int)^63 = 9223372036854775808 := by decide
  have c : 0 ≤ (k : Int) ∧ (k : Int) < 2 ^ 63 ∧ (k : Int) < l.length := ⟨by omega, by omega, by omega⟩
  simp only [e, e', c, and_self, if_true, Int.toNat_natCast]
theorem RW.forM {l : List D} (hx : σ[i]? = some (.mt l)) (hl : l.length ≤ 10000) (hn : σ.length = n) (h : PutAt σ i (.imm (.lst l)) fun σ' => LW n j B N l σ' P) : RW (rForM n j i B) N σ P := by
  obtain ⟨hi, σ', fl, e, p⟩ := h
  exact ⟨_, _, by unfold rForM; rw [if_pos hn, hx]; simp only [Nat.le_trans hl sizeLine_ge, if_true]; exact e, p⟩
theorem TruthK.lstE {l : List D} {K : Bool → Prop} (h : l = []) (k : K false) : TruthK (.lst l) K := by
  subst h; exact TruthK.lst (by decide) k
theorem TruthK.lstN {l : List D} {K : Bool → Prop} (h : l ≠ []) (hl : l.length ≤ 10000) (k : K true) : TruthK (.lst l) K := by
  refine TruthK.lst hl ?_
  cases l with
  | nil => exact absurd rfl h
  | cons a b => exact k
theorem SW.frz (h0 : E (rdH σ) = none) (h : EW E (rdF σ) fun d => flat d = true ∧ Q d) : SW E σ Q := by
  obtain ⟨d, e, hf, q⟩ := h
  exact ⟨d, by unfold evS; rw [h0]; simp only [e, hf, if_true], q⟩
end
/-- the primes as the programs build them -/
def natI (l : List Nat) : List Int := l.map fun (n : Nat) => (n : Int)
theorem natI_cons (n : Nat) (l : List Nat) : natI (n :: l) = (n : Int) :: natI l := rfl
theorem natI_length (l : List Nat) : (natI l).length = l.length := by simp [natI]
theorem mem_natI {x : Int} {l : List Nat} : x ∈ natI l ↔ ∃ n ∈ l, x = (n : Int) := by
  unfold natI; rw [List.mem_map]
  exact ⟨fun ⟨a, b, c⟩ => ⟨a, b, c.symm⟩, fun ⟨a, b, c⟩ => ⟨a, b, c.symm⟩⟩
def pgT (n p : Nat) : Bool := decide (p * p ≤ n) && decide (n % p = 0)
def pgS (l : List Nat) (n : Nat) : List Nat := if (l.filter (pgT n)).isEmpty = true then l ++ [n] else l
def pgR : Nat → List Nat
  | 0 => []
  | k + 1 => pgS (pgR k) (k + 2)
theorem pgR_mem : ∀ {k x : Nat}, x ∈ pgR k → 2 ≤ x ∧ x ≤ k + 1
  | k + 1, x, h => by
    rw [pgR, pgS] at h
    split at h
    · rcases List.mem_append.mp h with h | h
      · have := pgR_mem h; omega
      · have : x = k + 2 := by simpa using h
        omega
    · have := pgR_mem h; omega
theorem pgR_length : ∀ k, (pgR k).length ≤ k
  | 0 => Nat.le_refl 0
  | k + 1 => by
    have := pgR_length k
    rw [pgR, pgS]
    split
    · rw [List.length_append]; simp; exact this
    · omega
theorem filter_natI (p : Int → Bool) (l : List Nat) : (natI l).filter p = natI (l.filter fun n => p (n : Int)) := by
  induction l with
  | nil => rfl
  | cons a l ih =>
    rw [natI_cons, List.filter_cons, List.filter_cons, ih]
    split <;> rfl
theorem fSubs_at {l : List D} {n : Nat} {x : D} (h : l[n]? = some x) (hn : n ≤ 10000) : fSubs (.lst l) (.int (n : Int)) = some x := by
  have : (2:Int)^63 = 9223372036854775808 := by decide
  have c : 0 ≤ (n : Int) ∧ (n : Int) < 2 ^ 63 := ⟨by omega, by omega⟩
  unfold fSubs
  simp only [c, and_self, if_true, Int.toNat_natCast, h]
theorem CompK.const {l : List D} {e : D} {r : R} {d : D} {Q : D → Prop} (hi : itemsOf d = some l) (hl : ∀ x ∈ l, flat x = true) (hf : flat e = true) (k : Q (.lst (List.replicate l.length e))) : CompK (eCst e) tTrue r d Q := by
  refine ⟨_, _, hi, compL_map (p := fun _ => true) (g := fun _ => e) (fun x hx => ⟨hl x hx, rfl, fun _ => ⟨rfl, hf⟩⟩), ?_⟩
  rw [filter_true, List.map_const']; exact k
theorem intsD_flat {l : List Int} : ∀ x ∈ intsD l, flat x = true := by
  intro x hx
  obtain ⟨y, _, rfl⟩ := List.mem_map.mp hx; rfl
theorem Bd.sm {x : Int} (h : -1000 ≤ x) (h' : x ≤ 1000) : Bd 10 x := by
  unfold Bd
  have : (2:Nat) ^ 10 = 1024 := by decide
  omega
end Mine
open PySem PySem.W PyProof.Rows PySem.Spec
set_option linter.unusedVariables false
set_option Elab.async false
set_option maxRecDepth 100000
namespace Mine
def prodN : List Nat → Nat
  | [] => 1
  | p :: r => p * prodN r
theorem prodI_natI : ∀ l : List Nat, prodI (natI l) = (prodN l : Int)
  | [] => rfl
  | p :: r => by rw [natI_cons, prodI_cons, prodI_natI r, prodN, Int.natCast_mul]
def copL : List Nat → Bool
  | [] => true
  | p :: r => decide (Nat.gcd p (prodN r) = 1) && copL r
def primB (p : Nat) : Prop := ∀ d, d ∣ p → d = 1 ∨ d = p
theorem gcd_prod {m : Nat} : ∀ {l : List Nat}, copL l = true → (∀ p ∈ l, primB p) → Nat.gcd (prodN l) m = prodN (l.filter fun p => decide (m % p = 0))
  | [], _, _ => by simp [prodN]
  | p :: r, hc, hp => by
    rw [copL, Bool.and_eq_true, decide_eq_true_eq] at hc
    have ih := gcd_prod (m := m) hc.2 fun q hq => hp q (.tail _ hq)
    rw [prodN, Nat.gcd_comm, Nat.Coprime.gcd_mul m hc.1, Nat.gcd_comm m, Nat.gcd_comm m, ih, List.filter_cons]
    rcases hp p (.head _) (Nat.gcd p m) (Nat.gcd_dvd_left p m) with h | h
    · by_cases q : m % p = 0
      · have : Nat.gcd p m = p := Nat.gcd_eq_left (Nat.dvd_of_mod_eq_zero q)
        have p1 : p = 1 := by omega
        rw [if_pos (decide_eq_true q), h, prodN, p1]
      · rw [if_neg (by simpa using q), h, Nat.one_mul]
    · have q : m % p = 0 := Nat.mod_eq_zero_of_dvd (by rw [← h]; exact Nat.gcd_dvd_right p m)
      rw [if_pos (decide_eq_true q), h, prodN]
theorem pgR_cop_key : (List.range 89).all (fun t => copL (pgR t)) = true := by decide +kernel
theorem pgR_prime_key : (pgR 88).all (fun p => (List.range 91).all fun d => decide (d = 1) || decide (d = p) || decide (p % d ≠ 0)) = true := by decide +kernel
theorem pgR_cop {t : Nat} (h : t ≤ 88) : copL (pgR t) = true := by
  have := pgR_cop_key
  rw [List.all_eq_true] at this
  exact this t (List.mem_range.mpr (by omega))
theorem pgR_mono {t x : Nat} : ∀ {k : Nat}, x ∈ pgR t → x ∈ pgR (t + k)
  | 0, h => h
  | k + 1, h => by
    have := pgR_mono (k := k) h
    rw [show t + (k + 1) = (t + k) + 1 by omega, pgR, pgS]
    split
    · exact List.mem_append.mpr (.inl this)
    · exact this
theorem pgR_88 {t x : Nat} (ht : t ≤ 88) (h : x ∈ pgR t) : x ∈ pgR 88 := by
  have := pgR_mono (k := 88 - t) h
  rwa [show t + (88 - t) = 88 by omega] at this
theorem pgR_prime {t p : Nat} (ht : t ≤ 88) (h : p ∈ pgR t) : primB p := by
  intro d hd
  have hm := pgR_mem (pgR_88 ht h)
  have key := pgR_prime_key
  rw [List.all_eq_true] at key
  have k1 := key p (pgR_88 ht h)
  rw [List.all_eq_true] at k1
  have dl : d ≤ p := Nat.le_of_dvd (by omega) hd
  have k2 := k1 d (List.mem_range.mpr (by omega))
  rw [Bool.or_eq_true, Bool.or_eq_true, decide_eq_true_eq, decide_eq_true_eq, decide_eq_true_eq] at k2
  rcases k2 with (h | h) | h
  · exact .inl h
  · exact .inr h
  · exact absurd (Nat.mod_eq_zero_of_dvd hd) h
theorem gcd_pg {t : Nat} (ht : t ≤ 88) (n : Int) : ((Int.gcd (prodI (natI (pgR t))) n : Nat) : Int) = prodI ((natI (pgR t)).filter fun x => decide (n.fmod x = 0)) := by
  rw [prodI_natI, filter_natI, prodI_natI]
  have e : (pgR t).filter (fun (p : Nat) => decide (n.fmod (p : Int) = 0)) = (pgR t).filter fun p => decide (n.natAbs % p = 0) := by
    refine List.filter_congr fun p hp => ?_
    have hm := pgR_mem hp
    congr 1
    apply propext
    rw [Int.fmod_eq_emod_of_nonneg _ (by omega), ← Int.dvd_iff_emod_eq_zero, Int.ofNat_dvd_left, Nat.dvd_iff_mod_eq_zero]
  rw [e, ← gcd_prod (pgR_cop ht) fun p hp => pgR_prime ht hp]
  rfl
theorem fac_key : (List.range 51).all (fun a => (pgR 88).all fun p => decide ((prodI (upI 1 a)).fmod (p : Int) = 0 ↔ p ≤ a)) = true := by decide +kernel
theorem fac_filter {t a : Nat} (ht : t ≤ 88) (ha : a ≤ 50) : (natI (pgR t)).filter (fun x => decide ((prodI (upI 1 a)).fmod x = 0)) = (natI (pgR t)).filter fun x => decide (x ≤ (a : Int)) := by
  refine List.filter_congr fun x hx => ?_
  obtain ⟨p, hp, rfl⟩ := mem_natI.mp hx
  have key := fac_key
  rw [List.all_eq_true] at key
  have k1 := key a (List.mem_range.mpr (by omega))
  rw [List.all_eq_true] at k1
  have k2 := of_decide_eq_true (k1 p (pgR_88 ht hp))
  congr 1
  apply propext
  rw [k2]; omega
def legN (p : Nat) : Nat → Nat → Nat
  | _, 0 => 0
  | x, k + 1 => x / p + legN p (x / p) k
theorem legN_le (p : Nat) : ∀ k x, legN p x k ≤ k * x
  | 0, x => by simp [legN]
  | k + 1, x => by
    have h1 := Nat.div_le_self x p
    have h2 := legN_le p k (x / p)
    have h3 := Nat.mul_le_mul_left k h1
    rw [legN, Nat.succ_mul]; omega
theorem leg_key : (List.range 51).all (fun a => decide (prodI (upI 1 a) = prodI ((natI (pgR (a + 1 - 2))).map fun x => x ^ (legN x.toNat a 6)))) = true := by decide +kernel
theorem leg_fac {a : Nat} (ha : a ≤ 50) : prodI (upI 1 a) = prodI ((natI (pgR (a + 1 - 2))).map fun x => x ^ (legN x.toNat a 6)) := by
  have key := leg_key
  rw [List.all_eq_true] at key
  exact of_decide_eq_true (key a (List.mem_range.mpr (by omega)))
end Mine
open PySem PySem.W PyProof.Rows PySem.Spec
set_option linter.unusedVariables false
set_option linter.unusedSimpArgs false
set_option Elab.async false
set_option maxRecDepth 100000
open_top Mine.hd for PySem.Challenge.rw_yt0001_02
namespace Mine
set_option maxHeartbeats 4000000
local macro_rules | `(tactic| ktr_rel) => `(tactic| (show (_ : Prop)); first
  | with_reducible exact OpOK.add
  | with_reducible exact OpOK.sub
  | with_reducible exact OpOK.mul
  | with_reducible exact OpOK.div
  | with_reducible exact OpOK.mod
  | with_reducible exact OpOK.pow
  | with_reducible exact OpOK.and
  | with_reducible exact OpOK.lt
  | with_reducible exact OpOK.le
  | with_reducible exact OpOK.gt
  | with_reducible exact OpOK.ge
  | with_reducible exact OpOK.eq
  | with_reducible exact OpOK.ne
  | with_reducible exact OpOK.isIn
  | with_reducible exact OpOK.notIn
  | with_reducible exact IOpOK.add
  | with_reducible exact IOpOK.sub
  | with_reducible exact IOpOK.mul
  | with_reducible exact IOpOK.div
  | with_reducible exact IOpOK.mod
  | with_reducible exact EvOK.cint
  | with_reducible exact EvOK.cstr
  | with_reducible exact EvOK.cbool
  | with_reducible exact EvOK.cnone
  | (with_reducible refine' EvOK.v (by with_unfolding_all exact rfl) (by with_unfolding_all exact rfl) (by with_unfolding_all exact rfl) (by with_unfolding_all exact rfl))
  | (with_reducible refine' EvOK.bin ?_ ?_ ?_)
  | (with_reducible refine' EvOK.cmp ?_ ?_ ?_ (by with_unfolding_all exact rfl))
  | (with_reducible refine' EvOK.chain ?_ ?_ ?_ ?_ ?_ (by with_unfolding_all exact rfl))
  | (with_reducible refine' EvOK.neg ?_)
  | (with_reducible refine' EvOK.not ?_)
  | (with_reducible refine' EvOK.bool1 ?_)
  | (with_reducible refine' EvOK.and ?_ ?_)
  | (with_reducible refine' EvOK.or ?_ ?_)
  | (with_reducible refine' EvOK.tup ?_)
  | (with_reducible refine' EvOK.lst ?_)
  | (with_reducible refine' EvOK.call' (by with_unfolding_all exact rfl) (by with_unfolding_all exact rfl) (by with_unfolding_all exact rfl) (by with_unfolding_all exact fun _ => rfl) (by with_unfolding_all exact rfl) (by with_unfolding_all exact fun _ => ⟨_, _, rfl⟩) (by with_unfolding_all first | assumption | exact FunOK.le (by assumption) (by decide)) ?_)
  | (with_reducible refine' EvOK.sliceHi ?_ ?_ (by with_unfolding_all exact fun _ _ => rfl))
  | (with_reducible refine' EvOK.sliceLo ?_ ?_ (by with_unfolding_all exact fun _ _ => rfl))
  | (with_reducible refine' EvOK.subs ?_ ?_ (by with_unfolding_all exact fun _ _ => rfl))
  | (with_reducible refine' EvOK.comp (by with_unfolding_all exact ⟨by decide, rfl, rfl, by decide, rfl, by decide, by decide⟩) ?_ ?_ ?_ (by with_unfolding_all exact fun _ _ => rfl))
  | with_reducible exact EvsOK.nil
  | (with_reducible refine' EvsOK.cons ?_ ?_ (by with_unfolding_all exact fun _ => rfl))
  | with_reducible exact TestsOK.nil
  | (with_reducible refine' TestsOK.one ?_)
  | (with_reducible refine' TrOK.cmp ?_ ?_ ?_ (by with_unfolding_all exact rfl))
  | (with_reducible refine' TrOK.chain ?_ ?_ ?_ ?_ ?_ (by with_unfolding_all exact rfl))
  | (with_reducible refine' TrOK.not ?_)
  | with_reducible exact TrOK.and0
  | with_reducible exact TrOK.or0
  | (with_reducible refine' TrOK.and ?_ ?_)
  | (with_reducible refine' TrOK.or ?_ ?_)
  | (with_reducible refine' TrOK.plain ?_ (by with_unfolding_all exact fun _ _ => rfl))
  | with_reducible exact RunOK.nil
  | (with_reducible refine' RunOK.cons ?_ ?_)
  | with_reducible exact RunOK.ret0
  | with_reducible exact RunOK.cont
  | (with_reducible refine' RunOK.ret ?_)
  | (with_reducible refine' RunOK.ifS ?_ ?_ ?_)
  | (with_reducible refine' RunOK.whileS ?_ ?_)
  | (with_reducible refine' RunOK.comp' false (by with_unfolding_all exact rfl) (by with_unfolding_all exact fun env h => by cases env; cases h; rfl) (by with_unfolding_all exact rfl) (by with_unfolding_all exact fun _ _ => rfl) (by with_unfolding_all exact ⟨rfl, by decide, by decide⟩) (by with_unfolding_all exact ⟨by decide, rfl, rfl, by decide, rfl, by decide, by decide⟩) ?_ ?_ ?_)
  | (with_reducible refine' RunOK.asg' (by with_unfolding_all exact rfl) (by with_unfolding_all exact fun _ => rfl) (by with_unfolding_all exact ⟨rfl, by decide, by decide⟩) ?_)
  | (with_reducible refine' RunOK.aug' (by with_unfolding_all exact rfl) (by with_unfolding_all exact ⟨rfl, by decide, by decide⟩) ?_ ?_)
  | (with_reducible refine' RunOK.for' (by with_unfolding_all exact rfl) (by with_unfolding_all exact fun _ _ => rfl) (by with_unfolding_all exact ⟨rfl, by decide, by decide⟩) ?_ ?_)
  | (with_reducible refine' RunOK.app' (by with_unfolding_all exact rfl) (by with_unfolding_all exact rfl) (by with_unfolding_all exact fun _ => rfl) (by with_unfolding_all exact fun _ => rfl) (by with_unfolding_all exact fun _ => rfl) (by with_unfolding_all exact ⟨rfl, by decide, by decide⟩) ?_)
  | (with_reducible refine' RunOK.put' (by with_unfolding_all exact rfl) (by with_unfolding_all exact rfl) (by with_unfolding_all exact fun _ => rfl) (by with_unfolding_all exact ⟨rfl, by decide, by decide⟩) ?_ ?_)
  | (with_reducible refine' RunOK.tupS' (by with_unfolding_all first | exact .cons (.cons .nil) | exact .cons (.cons (.cons .nil)) | exact .cons (.cons (.cons (.cons .nil)))) (by with_unfolding_all exact fun env h => by cases env; cases h; rfl) (by with_unfolding_all exact rfl) (by with_unfolding_all exact fun _ => rfl) (by with_unfolding_all exact ⟨rfl, by decide, by decide⟩) ?_)
  | (with_reducible refine' RunOK.tupP' (by with_unfolding_all first | exact .cons (.cons .nil) | exact .cons (.cons (.cons .nil)) | exact .cons (.cons (.cons (.cons .nil)))) (by with_unfolding_all exact fun env h => by cases env; cases h; rfl) (by with_unfolding_all exact rfl) (by with_unfolding_all exact fun _ => rfl) (by with_unfolding_all exact ⟨rfl, by decide, by decide⟩) ?_)
  | fail "no rule")
local macro_rules | `(tactic| kct_strs) => `(tactic| (show (_ : Prop)); first
  | with_reducible exact OpOK.add
  | with_reducible exact OpOK.sub
  | with_reducible exact OpOK.mul
  | with_reducible exact OpOK.div
  | with_reducible exact OpOK.mod
  | with_reducible exact OpOK.pow
  | with_reducible exact OpOK.and
  | with_reducible exact OpOK.lt
  | with_reducible exact OpOK.le
  | with_reducible exact OpOK.gt
  | with_reducible exact OpOK.ge
  | with_reducible exact OpOK.eq
  | with_reducible exact OpOK.ne
  | with_reducible exact OpOK.isIn
  | with_reducible exact OpOK.notIn
  | with_reducible exact IOpOK.add
  | with_reducible exact IOpOK.sub
  | with_reducible exact IOpOK.mul
  | with_reducible exact IOpOK.div
  | with_reducible exact IOpOK.mod
  | with_reducible exact EvOK.cint
  | with_reducible exact EvOK.cstr
  | with_reducible exact EvOK.cbool
  | with_reducible exact EvOK.cnone
  | (with_reducible refine' EvOK.v (by with_unfolding_all exact rfl) (by with_unfolding_all exact rfl) (by with_unfolding_all exact rfl) (by with_unfolding_all exact rfl))
  | (with_reducible refine' EvOK.bin ?_ ?_ ?_)
  | (with_reducible refine' EvOK.cmp ?_ ?_ ?_ (by with_unfolding_all exact rfl))
  | (with_reducible refine' EvOK.chain ?_ ?_ ?_ ?_ ?_ (by with_unfolding_all exact rfl))
  | (with_reducible refine' EvOK.neg ?_)
  | (with_reducible refine' EvOK.not ?_)
  | (with_reducible refine' EvOK.bool1 ?_)
  | (with_reducible refine' EvOK.and ?_ ?_)
  | (with_reducible refine' EvOK.or ?_ ?_)
  | (with_reducible refine' EvOK.tup ?_)
  | (with_reducible refine' EvOK.lst ?_)
  | (with_reducible refine' EvOK.call' (by with_unfolding_all exact rfl) (by with_unfolding_all exact rfl) (by with_unfolding_all exact rfl) (by with_unfolding_all exact fun _ => rfl) (by with_unfolding_all exact rfl) (by with_unfolding_all exact fun _ => ⟨_, _, rfl⟩) (by with_unfolding_all first | assumption | exact FunOK.le (by assumption) (by decide)) ?_)
  | (with_reducible refine' EvOK.sliceHi ?_ ?_ (by with_unfolding_all exact fun _ _ => rfl))
  | (with_reducible refine' EvOK.sliceLo ?_ ?_ (by with_unfolding_all exact fun _ _ => rfl))
  | (with_reducible refine' EvOK.subs ?_ ?_ (by with_unfolding_all exact fun _ _ => rfl))
  | (with_reducible refine' EvOK.comp (by with_unfolding_all exact ⟨by decide, rfl, rfl, by decide, rfl, by decide, by decide⟩) ?_ ?_ ?_ (by with_unfolding_all exact fun _ _ => rfl))
  | with_reducible exact EvsOK.nil
  | (with_reducible refine' EvsOK.cons ?_ ?_ (by with_unfolding_all exact fun _ => rfl))
  | with_reducible exact TestsOK.nil
  | (with_reducible refine' TestsOK.one ?_)
  | (with_reducible refine' TrOK.cmp ?_ ?_ ?_ (by with_unfolding_all exact rfl))
  | (with_reducible refine' TrOK.chain ?_ ?_ ?_ ?_ ?_ (by with_unfolding_all exact rfl))
  | (with_reducible refine' TrOK.not ?_)
  | with_reducible exact TrOK.and0
  | with_reducible exact TrOK.or0
  | (with_reducible refine' TrOK.and ?_ ?_)
  | (with_reducible refine' TrOK.or ?_ ?_)
  | (with_reducible refine' TrOK.plain ?_ (by with_unfolding_all exact fun _ _ => rfl))
  | with_reducible exact RunOK.nil
  | (with_reducible refine' RunOK.cons ?_ ?_)
  | with_reducible exact RunOK.ret0
  | with_reducible exact RunOK.cont
  | (with_reducible refine' RunOK.ret ?_)
  | (with_reducible refine' RunOK.ifS ?_ ?_ ?_)
  | (with_reducible refine' RunOK.whileS ?_ ?_)
  | (with_reducible refine' RunOK.new' (by with_unfolding_all exact rfl) (by with_unfolding_all exact fun _ => rfl) (by with_unfolding_all exact ⟨rfl, by decide, by decide⟩) ?_)
  | (with_reducible refine' RunOK.comp' true (by with_unfolding_all exact rfl) (by with_unfolding_all exact fun env h => by cases env; cases h; rfl) (by with_unfolding_all exact rfl) (by with_unfolding_all exact fun _ _ => rfl) (by with_unfolding_all exact ⟨rfl, by decide, by decide⟩) (by with_unfolding_all exact ⟨by decide, rfl, rfl, by decide, rfl, by decide, by decide⟩) ?_ ?_ ?_)
  | (with_reducible refine' RunOK.asg' (by with_unfolding_all exact rfl) (by with_unfolding_all exact fun _ => rfl) (by with_unfolding_all exact ⟨rfl, by decide, by decide⟩) ?_)
  | (with_reducible refine' RunOK.aug' (by with_unfolding_all exact rfl) (by with_unfolding_all exact ⟨rfl, by decide, by decide⟩) ?_ ?_)
  | (with_reducible refine' RunOK.for' (by with_unfolding_all exact rfl) (by with_unfolding_all exact fun _ _ => rfl) (by with_unfolding_all exact ⟨rfl, by decide, by decide⟩) ?_ ?_)
  | (with_reducible refine' RunOK.app' (by with_unfolding_all exact rfl) (by with_unfolding_all exact rfl) (by with_unfolding_all exact fun _ => rfl) (by with_unfolding_all exact fun _ => rfl) (by with_unfolding_all exact fun _ => rfl) (by with_unfolding_all exact ⟨rfl, by decide, by decide⟩) ?_)
  | (with_reducible refine' RunOK.put' (by with_unfolding_all exact rfl) (by with_unfolding_all exact rfl) (by with_unfolding_all exact fun _ => rfl) (by with_unfolding_all exact ⟨rfl, by decide, by decide⟩) ?_ ?_)
  | (with_reducible refine' RunOK.tupS' (by with_unfolding_all first | exact .cons (.cons .nil) | exact .cons (.cons (.cons .nil)) | exact .cons (.cons (.cons (.cons .nil)))) (by with_unfolding_all exact fun env h => by cases env; cases h; rfl) (by with_unfolding_all exact rfl) (by with_unfolding_all exact fun _ => rfl) (by with_unfolding_all exact ⟨rfl, by decide, by decide⟩) ?_)
  | (with_reducible refine' RunOK.tupP' (by with_unfolding_all first | exact .cons (.cons .nil) | exact .cons (.cons (.cons .nil)) | exact .cons (.cons (.cons (.cons .nil)))) (by with_unfolding_all exact fun env h => by cases env; cases h; rfl) (by with_unfolding_all exact rfl) (by with_unfolding_all exact fun _ => rfl) (by with_unfolding_all exact ⟨rfl, by decide, by decide⟩) ?_)
  | fail "no rule")

local macro_rules | `(tactic| kbo_bools) => `(tactic| (fail_if_success (with_reducible refine (?_ : @Eq _ _ _))); first
  | with_reducible refine' CK.ret ?_
  | with_reducible refine' CK.next ?_
  | with_reducible refine' SK.next ?_
  | with_reducible refine' SK.ret ?_
  | with_reducible refine' SK.cont ?_
  | with_reducible refine' LK.next ?_
  | with_reducible refine' LK.ret ?_
  | with_reducible refine' LK.cont ?_
  | with_reducible refine' RW.nil ?_
  | with_reducible refine' RW.seq ?_
  | with_reducible refine' RW.lenOk (by with_unfolding_all exact rfl) ?_
  | with_reducible refine' SW.of ?_
  | with_reducible refine' PutAt.z ?_
  | with_reducible refine' PutAt.s ?_
  | (with_reducible refine (?_ : PutAt _ (0 + 1) _ _)); refine PutAt.s ?_
  | with_reducible refine' RW.retF (E := eVar _) (by with_unfolding_all exact rfl) ?_
  | with_reducible refine' RW.asg ?_
  | with_reducible refine' RW.ret ?_
  | with_reducible refine' RW.if ?_
  | with_reducible refine' RW.tup ?_
  | with_reducible refine' RW.for ?_
  | with_reducible refine' RW.while ?_
  | with_reducible refine' RW.new ?_
  | with_reducible refine' RW.app (by with_unfolding_all exact rfl) (by first | with_reducible assumption | with_unfolding_all exact Nat.le_of_ble_eq_true rfl) ?_
  | with_reducible refine' RW.put (by with_unfolding_all exact rfl) ?_
  | with_reducible refine' RW.aug (by with_unfolding_all exact rfl) ?_
  | with_reducible refine' TupK.two_t ?_
  | with_reducible refine' TupK.two_f ?_
  | with_reducible refine' TupK.three_t ?_
  | with_reducible refine' TupK.three_f ?_
  | with_reducible refine' TupK.four_f ?_
  | with_reducible refine' IfK.t ?_
  | with_reducible refine' IfK.f ?_
  | with_reducible refine' IfK.decT (by first | with_reducible assumption | with_unfolding_all omega) ?_
  | with_reducible refine' IfK.decF (by first | with_reducible assumption | with_unfolding_all omega) ?_
  | with_reducible refine' NotK.t ?_
  | with_reducible refine' NotK.f ?_
  | with_reducible refine' NotK.dec ?_
  | with_reducible refine' TruthK.bool ?_
  | with_reducible refine' TruthK.none ?_
  | with_reducible refine' TruthK.int ?_
  | with_reducible refine' EW.var (by with_unfolding_all exact rfl) ?_
  | with_reducible refine' EW.cst ?_
  | with_reducible refine' EW.e1 ?_
  | with_reducible refine' EW.e2 ?_
  | with_reducible refine' EW.call ?_
  | with_reducible refine' EW.tup ?_
  | with_reducible refine' EW.lst ?_
  | with_reducible refine' EW.not ?_
  | with_reducible refine' EW.and ?_
  | with_reducible refine' EW.or ?_
  | with_reducible refine' EW.e3c ?_
  | with_reducible refine' EW.comp ?_
  | with_reducible refine' EsW.nil ?_
  | with_reducible refine' EsW.cons ?_
  | with_reducible refine' LstK.mk ?_
  | with_reducible refine' RW.compI ?_
  | with_reducible refine' RW.compM ?_
  | with_reducible refine' TW.c ?_
  | with_reducible refine' TpK.mk (by with_unfolding_all exact Nat.le_of_ble_eq_true rfl) ?_
  | with_reducible refine' LsK.mk (by with_unfolding_all exact Nat.le_of_ble_eq_true rfl) ?_
  | with_reducible refine' TW.tOf ?_
  | with_reducible refine' TW.not ?_
  | with_reducible refine' TW.and ?_
  | with_reducible refine' TW.or ?_
  | with_reducible refine' CW.of (by with_reducible assumption) ?_
  | with_reducible refine' OW.of (by with_reducible assumption) ?_
  | with_reducible refine' OW.add ?_
  | with_reducible refine' OW.addI ?_
  | with_reducible refine' OW.sub ?_
  | with_reducible refine' OW.and ?_
  | with_reducible refine' OW.ord ?_
  | with_reducible refine' OW.eq ?_
  | with_reducible refine' OW.ne ?_
  | with_reducible refine' OW.mul (by first | with_reducible assumption | with_unfolding_all exact mulOk_sm (by omega) (by omega)) ?_
  | with_reducible refine' OW.div (by with_reducible assumption) ?_
  | with_reducible refine' OW.mod (by first | with_reducible assumption | with_unfolding_all omega) ?_
  | with_reducible refine' OW.pow (by with_reducible assumption) ?_
  | with_reducible refine' UW.neg ?_
  | with_reducible refine' CW.abs ?_
  | with_reducible refine' CW.max ?_
  | with_reducible refine' CW.min ?_
  | with_reducible refine' CW.range1 ?_
  | with_reducible refine' CW.range2 ?_
  | with_reducible refine' CW.range3 (by with_reducible assumption) ?_
  | with_reducible refine' CW.fn (by with_unfolding_all (repeat (first | exact StartsAt.nil | apply StartsAt.cons | apply StartsAt.unb))) (by with_unfolding_all exact rfl) ?_
  | fail "no rule")

def boolsD (l : List Bool) : List D := l.map .bool
def markB (c : List Bool) (ms : List Int) : List Bool := ms.foldl (fun c m => c.set m.toNat true) c
theorem markB_length (ms : List Int) : ∀ c : List Bool, (markB c ms).length = c.length := by
  induction ms with
  | nil => intro c; rfl
  | cons m ms ih => intro c; rw [show markB c (m :: ms) = markB (c.set m.toNat true) ms from rfl, ih, List.length_set]
def cntN (L d : Nat) : Nat := if 2 * d < L then (L - 2 * d - 1) / d + 1 else 0
def svS (L : Nat) (s : List Bool × List Nat) (d : Nat) : List Bool × List Nat := match s.1[d]? with
  | some false => (markB s.1 (stepI (2 * (d : Int)) d (cntN L d)), s.2 ++ [d])
  | _ => s
def svR (L : Nat) : Nat → List Bool × List Nat
  | 0 => (List.replicate L false, [])
  | t + 1 => svS L (svR L t) (t + 2)
theorem svR_len (L : Nat) : ∀ t, (svR L t).1.length = L ∧ (svR L t).2.length ≤ t
  | 0 => ⟨by simp [svR], by simp [svR]⟩
  | t + 1 => by
    obtain ⟨h1, h2⟩ := svR_len L t
    rw [svR, svS]
    split
    · exact ⟨by rw [markB_length]; exact h1, by rw [List.length_append]; simp; exact h2⟩
    · exact ⟨h1, by omega⟩
theorem svR_key : (List.range 96).all (fun L => decide ((svR L (L - 2)).2 = pgR (L - 2))) = true := by decide +kernel
theorem svR_pg {L : Nat} (h : L ≤ 95) : (svR L (L - 2)).2 = pgR (L - 2) := by
  have := svR_key
  rw [List.all_eq_true] at this
  exact of_decide_eq_true (this L (List.mem_range.mpr (by omega)))
theorem step_lt {L d : Nat} {x : Int} (hd : 0 < d) (h : x ∈ stepI (2 * (d : Int)) d (cntN L d)) : 0 ≤ x ∧ x < (L : Int) := by
  unfold stepI at h
  obtain ⟨i, hi, rfl⟩ := List.mem_map.mp h
  rw [List.mem_range] at hi
  unfold cntN at hi
  split at hi
  · rename_i hl
    have h1 : i ≤ (L - 2 * d - 1) / d := by omega
    have h2 : i * d ≤ L - 2 * d - 1 := Nat.le_trans (Nat.mul_le_mul_right d h1) (Nat.div_mul_le_self _ _)
    have h3 : (i : Int) * (d : Int) = ((i * d : Nat) : Int) := by simp
    rw [h3]
    omega
  · omega
theorem cnt_size {L d : Nat} (hd : 0 < d) : Builtin.Range.rangeSize (2 * (d : Int)) (L : Int) (d : Int) = (cntN L d : Int) := by
  unfold Builtin.Range.rangeSize cntN
  rw [if_pos (by omega)]
  by_cases h : 2 * d < L
  · rw [if_pos (by omega), if_pos h]
    have : (L : Int) - 2 * (d : Int) - 1 = ((L - 2 * d - 1 : Nat) : Int) := by omega
    rw [this]; simp
  · rw [if_neg (by omega), if_neg h]; rfl

theorem ok_gcd {I : GI} (hat : HatI I hd.view_39) (N : Nat) (habs : FunOK I 0 ("abs" : Str) fAbs) : ∃ d, (recsOf hd.view_39)[0]? = some d ∧ d.name = ("gcd" : Str) ∧ ∃ G, FunOK I 1 d.name G ∧
    ∀ (a b : Int), b.natAbs + 1 < N → G [.int a, .int b] = some (.int ((Int.gcd a b : Nat) : Int)) := by
  refine' ⟨_, rfl, rfl, _, FunOK.of N (i := 0) (ns := ["a", "b"]) (m := 2) hat rfl ⟨rfl, by decide, by decide⟩ (by decide) (fun pm cd doc vs h => match vs, h with | [a, b], _ => rfl) rfl rfl ?h, ?g⟩
  case h =>
    dsimp only
    repeat' ktr_rel
  case g =>
    intro a b hN
    have wa : fAbs [.int a] = some (.int (a.natAbs : Int)) := fAbs_nat a
    have wb : fAbs [.int b] = some (.int (b.natAbs : Int)) := fAbs_nat b
    refine CW.eq ?_
    repeat' kbo_bools
    refine WW.inv (fun k σ => ∃ x y : Int, σ = [.imm (.int x), .imm (.int y)] ∧ 0 ≤ x ∧ 0 ≤ y ∧ y ≤ (k : Int) ∧ Int.gcd x y = Int.gcd a b) (k := b.natAbs) ⟨(a.natAbs : Int), (b.natAbs : Int), rfl, by omega, by omega, by omega, rfl⟩ ?_ ?_
    · omega
    · rintro k σ ⟨x, y, rfl, hx, hy, hk, hg⟩
      rcases Int.lt_or_eq_of_le hy with hy' | hy'
      · have y0 : y ≠ 0 := by omega
        repeat' kbo_bools
        have m1 := Int.fmod_nonneg_of_pos x hy'
        have m2 := Int.fmod_lt_of_pos x hy'
        exact ⟨k - 1, by omega, _, _, rfl, hy, m1, by omega, by rw [gcd_fmod hx hy', hg]⟩
      · have y0 : ¬ (y ≠ 0) := by omega
        repeat' kbo_bools
        rw [← hg, ← hy', Int.gcd_zero_right]
        congr 1; omega

theorem ok_primegen {I : GI} (hat : HatI I hd.view_39)  : ∃ d, (recsOf hd.view_39)[1]? = some d ∧ d.name = ("primegen" : Str) ∧ ∃ G, FunOK I 1 d.name G ∧
    ∀ (L : Int), L ≤ 200 → G [.int L] = some (.lst (intsD (natI (pgR (L.toNat - 2))))) := by
  refine' ⟨_, rfl, rfl, _, FunOK.of 1000 (i := 1) (ns := ["limit", "found", "n"]) (m := 1) hat rfl ⟨rfl, by decide, by decide⟩ (by decide) (fun pm cd doc vs h => match vs, h with | [a], _ => rfl) rfl rfl ?h, ?g⟩
  case h =>
    dsimp only
    repeat' kct_strs
  case g =>
    intro L hL
    refine CW.eq ?_
    repeat' kbo_bools
    refine ⟨by decide, ?_⟩
    repeat' kbo_bools
    refine WW.inv (fun k σ => ∃ t : Nat, σ = [.imm (.int L), .mt (intsD (natI (pgR t))), .imm (.int ((t : Int) + 2))] ∧ t + k = L.toNat - 2) (k := L.toNat - 2) ⟨0, rfl, by omega⟩ ?_ ?_
    · omega
    rintro k σ ⟨t, rfl, ht⟩
    have pl := pgR_length t
    have el : (intsD (natI (pgR t))).length ≤ 10000 := by rw [intsD_length, natI_length]; omega
    by_cases c : (t : Int) + 2 < L
    · repeat' kbo_bools
      refine CompK.ints (p := fun x => decide (x * x ≤ (t : Int) + 2) && decide (((t : Int) + 2).fmod x = 0)) (g := fun x => x) (items_lst (by rw [intsD_length, natI_length]; omega)) ?_ ?_
      · intro x hx
        obtain ⟨n, hn, rfl⟩ := mem_natI.mp hx
        have hm := pgR_mem hn
        have x0 : (n : Int) ≠ 0 := by omega
        refine ⟨?_, fun _ => by repeat' kbo_bools
                                rfl⟩
        by_cases c1 : (n : Int) * (n : Int) ≤ (t : Int) + 2 <;> by_cases c2 : ((t : Int) + 2).fmod (n : Int) = 0 <;>
        · repeat' kbo_bools
          simp only [c1, c2, decide_true, decide_false]; rfl
      · rw [List.map_id'', filter_natI]
        · have e : (pgR t).filter (fun (n : Nat) => decide ((n : Int) * (n : Int) ≤ (t : Int) + 2) && decide (((t : Int) + 2).fmod (n : Int) = 0)) = (pgR t).filter (pgT (t + 2)) := by
            refine List.filter_congr fun n hn => ?_
            have hm := pgR_mem hn
            unfold pgT
            have e1 : decide ((n : Int) * (n : Int) ≤ (t : Int) + 2) = decide (n * n ≤ t + 2) := by
              rw [← Int.natCast_mul]; congr 1; apply propext; omega
            have e2 : decide (((t : Int) + 2).fmod (n : Int) = 0) = decide ((t + 2) % n = 0) := by
              rw [show (t : Int) + 2 = ((t + 2 : Nat) : Int) by omega, fmod_nat]; congr 1; apply propext; omega
            rw [e1, e2]
          rw [e]
          by_cases hf : ((pgR t).filter (pgT (t + 2))).isEmpty = true
          · refine TruthK.lstE (by rw [List.isEmpty_iff.mp hf]; rfl) ?_
            repeat' kbo_bools
            refine ⟨k - 1, by omega, t + 1, ?_, by omega⟩
            have : pgR (t + 1) = pgR t ++ [t + 2] := by rw [pgR, pgS, if_pos hf]
            rw [this]
            simp [natI, intsD]
            omega
          · refine TruthK.lstN (fun h => hf (by simpa [intsD, natI] using h)) (by rw [intsD_length, natI_length]; exact Nat.le_trans (List.length_filter_le _ _) (by omega)) ?_
            repeat' kbo_bools
            refine ⟨k - 1, by omega, t + 1, ?_, by omega⟩
            have : pgR (t + 1) = pgR t := by rw [pgR, pgS, if_neg hf]
            rw [this, show (((t + 1 : Nat) : Int) + 2) = (t : Int) + 2 + 1 by omega]
        · intro x; rfl
    · have : t = L.toNat - 2 := by omega
      repeat' kbo_bools
      rw [this]

theorem ok__law_times {I : GI} (hat : HatI I hd.view_39)  : ∃ d, (recsOf hd.view_39)[7]? = some d ∧ d.name = ("_law_times" : Str) ∧ ∃ G, FunOK I 1 d.name G ∧
    ∀ (d : D) (l : List Int) (m : Nat), isStr d = false → itemsOf d = some (intsD l) → (∀ x ∈ l, Bd m x) → m * l.length + 1 + m ≤ 100000000 → G [d] = some (.int (prodI l)) := by
  refine' ⟨_, rfl, rfl, _, FunOK.of 1000 (i := 7) (ns := ["row", "got", "one"]) (m := 1) hat rfl ⟨rfl, by decide, by decide⟩ (by decide) (fun pm cd doc vs h => match vs, h with | [a], _ => rfl) rfl rfl ?h, ?g⟩
  case h =>
    dsimp only
    repeat' ktr_rel
  case g =>
    intro d l m hd hl hm hs
    refine CW.eq ?_
    repeat' kbo_bools
    refine ForK.of hd hl (LW.inv (fun ds σ => ∃ (r : List Int) (n : Nat) (z : Int) (sl : Slot), ds = intsD r ∧ σ = [.imm d, .imm (.int z), sl] ∧ z * prodI r = prodI l ∧ Bd n z ∧ (∀ x ∈ r, Bd m x) ∧ n + m * r.length + m ≤ 100000000) ⟨l, 1, 1, _, rfl, rfl, Int.one_mul _, Bd.one, hm, by omega⟩ ?_ ?_)
    · rintro d' ds σ ⟨r, n, z, sl, e, rfl, hz, hn, hr, hb⟩
      cases r with
      | nil => cases e
      | cons x r =>
        cases e
        rw [List.length_cons, Nat.mul_succ] at hb
        have hm := mulOk_bd (hr x (.head _)) hn (by omega)
        refine ⟨rfl, ?_⟩
        repeat' kbo_bools
        exact ⟨r, m + n, x * z, _, rfl, rfl, by rw [← hz, prodI_cons, Int.mul_comm x z, Int.mul_assoc], (hr x (.head _)).mul hn, fun y hy => hr y (.tail _ hy), by omega⟩
    · rintro σ ⟨r, n, z, sl, e, rfl, hz, hn, hr, hb⟩
      cases r with
      | cons x r => cases e
      | nil =>
        repeat' kbo_bools
        rw [← hz, prodI_nil, Int.mul_one]

theorem ok__law_legendre {I : GI} (hat : HatI I hd.view_39) (hrange : FunOK I 0 ("range" : Str) fRange) : ∃ d, (recsOf hd.view_39)[8]? = some d ∧ d.name = ("_law_legendre" : Str) ∧ ∃ G, FunOK I 1 d.name G ∧
    ∀ (a p : Nat), 0 < p → p ≤ 200 → G [.int (a : Nat), .int (p : Nat)] = some (.int ((legN p a 6 : Nat) : Int)) := by
  refine' ⟨_, rfl, rfl, _, FunOK.of 1000 (i := 8) (ns := ["a", "p", "count", "k"]) (m := 2) hat rfl ⟨rfl, by decide, by decide⟩ (by decide) (fun pm cd doc vs h => match vs, h with | [a, b], _ => rfl) rfl rfl ?h, ?g⟩
  case h =>
    dsimp only
    repeat' ktr_rel
  case g =>
    intro a p hp hp2
    refine CW.eq ?_
    repeat' kbo_bools
    refine ForK.of rfl (items_rng (a := 0) (b := 6) (by omega) (by omega) (by omega) (by omega) (by omega)) (LW.inv (fun ds σ => ∃ (x c : Nat) (sl : Slot), σ = [.imm (.int (x : Nat)), .imm (.int (p : Nat)), .imm (.int (c : Nat)), sl] ∧ c + legN p x ds.length = legN p a 6) ⟨a, 0, _, rfl, by rw [intsD_length, upI_length, Nat.zero_add]; rfl⟩ ?_ ?_)
    · rintro d' ds σ ⟨x, c, sl, rfl, hc⟩
      rw [List.length_cons, legN] at hc
      have dv : divOk (x : Int) (p : Int) = true := divOk_bd (n := 8) (by omega) (by unfold Bd; have : (2:Nat)^8 = 256 := by decide
                                                                                     rw [Int.natAbs_natCast]; omega) (by omega)
      refine ⟨rfl, ?_⟩
      repeat' kbo_bools
      refine ⟨x / p, c + x / p, .imm d', ?_, by omega⟩
      rw [fdiv_nat, Int.natCast_add]
    · rintro σ ⟨x, c, sl, rfl, hc⟩
      repeat' kbo_bools
      rw [← hc]; rfl

theorem ok__law_sieve {I : GI} (hat : HatI I hd.view_39) (hrange : FunOK I 0 ("range" : Str) fRange) : ∃ d, (recsOf hd.view_39)[6]? = some d ∧ d.name = ("_law_sieve" : Str) ∧ ∃ G, FunOK I 1 d.name G ∧
    ∀ (n : Int), -200 ≤ n → n ≤ 95 → G [.int n] = some (.lst (intsD (natI (pgR (n.toNat - 2))))) := by
  refine' ⟨_, rfl, rfl, _, FunOK.of 1000 (i := 6) (ns := ["limit", "crossed", "kept", "d", "m"]) (m := 1) hat rfl ⟨rfl, by decide, by decide⟩ (by decide) (fun pm cd doc vs h => match vs, h with | [a], _ => rfl) rfl rfl ?h, ?g⟩
  case h =>
    dsimp only
    repeat' kct_strs
  case g =>
    intro n hn1 hn
    refine CW.eq ?_
    repeat' kbo_bools
    refine CompK.const (items_rng (a := 0) (b := n) (by omega) (by omega) (by omega) (by omega) (by omega)) intsD_flat rfl ?_
    have el : List.replicate (intsD (upI 0 (n - 0).toNat)).length (D.bool false) = boolsD (svR n.toNat 0).1 := by
      rw [intsD_length, upI_length, svR, boolsD, List.map_replicate]
      rw [show (n - 0).toNat = n.toNat by omega]
    rw [el]
    repeat' kbo_bools
    refine ⟨by decide, ?_⟩
    repeat' kbo_bools
    refine ForK.of rfl (items_rng (a := 2) (b := n) (by omega) (by omega) (by omega) (by omega) (by omega)) (LW.inv (fun ds σ => ∃ (t : Nat) (s1 s2 : Slot), t ≤ n.toNat - 2 ∧ ds = intsD (upI ((t : Int) + 2) (n.toNat - 2 - t)) ∧ σ = [.imm (.int n), .mt (boolsD (svR n.toNat t).1), .mt (intsD (natI (svR n.toNat t).2)), s1, s2]) ⟨0, _, _, by omega, by rw [show (n - 2).toNat = n.toNat - 2 - 0 by omega]; rfl, rfl⟩ ?_ ?_)
    · rintro d ds σ ⟨t, s1, s2, ht, e, rfl⟩
      rcases Nat.lt_or_ge t (n.toNat - 2) with hlt | hge
      · obtain ⟨L, hL⟩ : ∃ L : Nat, n = (L : Int) := ⟨n.toNat, by omega⟩
        subst hL
        rw [Int.toNat_natCast] at *
        obtain ⟨u, hu⟩ : ∃ u, L - 2 - t = u + 1 := ⟨L - 2 - t - 1, by omega⟩
        rw [hu, upI_succ, intsD_cons] at e
        cases e
        obtain ⟨l1, l2⟩ := svR_len L t
        obtain ⟨b, hb⟩ : ∃ b, (svR L t).1[t + 2]? = some b := ⟨_, List.getElem?_eq_getElem (by omega)⟩
        have w1 : fSubs (.lst (boolsD (svR L t).1)) (.int ((t : Int) + 2)) = some (.bool b) := fSubs_at (n := t + 2) (by rw [boolsD, List.getElem?_map, hb]; rfl) (by omega)
        refine ⟨rfl, ?_⟩
        have nx : u = L - 2 - (t + 1) := by omega
        cases b with
        | true =>
          repeat' kbo_bools
          refine ⟨t + 1, .imm (.int ((t : Int) + 2)), s2, by omega, ?_, ?_⟩
          · rw [← nx]; congr 2
          · rw [show svR L (t + 1) = svR L t by rw [svR, svS, hb]]
        | false =>
          have m1 : mulOk 2 ((t : Int) + 2) = true := mulOk_sm (by omega) (by omega)
          have dv : divOk ((L : Int) - 2 * ((t : Int) + 2)) ((t : Int) + 2) = true := divOk_bd (by omega) (Bd.sm (by omega) (by omega)) (by omega)
          have kl : (intsD (natI (svR L t).2)).length ≤ 10000 := by rw [intsD_length, natI_length]; omega
          repeat' kbo_bools
          have cn : cntN L (t + 2) ≤ 200 := by
            unfold cntN
            split
            · have := Nat.div_le_self (L - 2 * (t + 2) - 1) (t + 2)
              omega
            · omega
          have sz := cnt_size (L := L) (d := t + 2) (by omega)
          rw [show (((t + 2 : Nat) : Int)) = (t : Int) + 2 by omega] at sz
          have it := items_step (a := 2 * ((t : Int) + 2)) (b := L) (c := (t : Int) + 2) (n := cntN L (t + 2)) (by omega) (by omega) (by omega) (by omega) (by omega) (by omega) (by omega) sz
          refine ForK.of rfl it (LW.inv (fun ds σ => ∃ (c : List Bool) (ms : List Int) (sl : Slot), ds = intsD ms ∧ σ = [.imm (.int (L : Int)), .mt (boolsD c), .mt (intsD (natI (svR L t).2) ++ [.int ((t : Int) + 2)]), .imm (.int ((t : Int) + 2)), sl] ∧ markB c ms = (svR L (t + 1)).1 ∧ c.length = L ∧ ∀ m ∈ ms, 0 ≤ m ∧ m < (L : Int)) ⟨(svR L t).1, _, _, rfl, rfl, ?_, l1, ?_⟩ ?_ ?_)
          · rw [svR, svS, hb]
            show markB _ _ = markB _ _
            congr 2
          · intro m hm
            exact step_lt (d := t + 2) (by omega) (by rw [show (((t + 2 : Nat) : Int)) = (t : Int) + 2 by omega]; exact hm)
          · rintro d' ds' σ ⟨c, ms, sl, e, rfl, h1, h2, h3⟩
            cases ms with
            | nil => cases e
            | cons x ms =>
              cases e
              have hx := h3 x (.head _)
              refine ⟨rfl, ?_⟩
              repeat' kbo_bools
              refine ⟨x.toNat, by rw [Int.toNat_of_nonneg hx.1], by rw [boolsD, List.length_map]; omega, by rw [boolsD, List.length_map]; omega, ?_⟩
              repeat' kbo_bools
              exact ⟨c.set x.toNat true, ms, .imm (.int x), rfl, by rw [boolsD, boolsD, List.map_set], h1, by rw [List.length_set]; exact h2, fun m hm => h3 m (.tail _ hm)⟩
          · rintro σ ⟨c, ms, sl, e, rfl, h1, h2, h3⟩
            cases ms with
            | cons x ms => cases e
            | nil =>
              repeat' kbo_bools
              refine ⟨t + 1, .imm (.int ((t : Int) + 2)), sl, by omega, ?_, ?_⟩
              · rw [← nx]; congr 2
              · have h1' : c = (svR L (t + 1)).1 := by rw [← h1]; rfl
                have h2' : (svR L (t + 1)).2 = (svR L t).2 ++ [t + 2] := by rw [svR, svS, hb]
                have h3' : intsD (natI ((svR L t).2 ++ [t + 2])) = intsD (natI (svR L t).2) ++ [.int ((t : Int) + 2)] := by
                  unfold intsD natI
                  rw [List.map_append, List.map_append]; rfl
                rw [h2', h3', ← h1']
      · rw [show n.toNat - 2 - t = 0 by omega] at e; cases e
    · rintro σ ⟨t, s1, s2, ht, e, rfl⟩
      have : t = n.toNat - 2 := by
        rcases Nat.lt_or_ge t (n.toNat - 2) with hlt | hge
        · obtain ⟨u, hu⟩ : ∃ u, n.toNat - 2 - t = u + 1 := ⟨n.toNat - 2 - t - 1, by omega⟩
          rw [hu, upI_succ, intsD_cons] at e
          cases e
        · omega
      subst this
      repeat' kbo_bools
      rw [svR_pg (by omega)]

theorem ok__law_one {I : GI} (hat : HatI I hd.view_39) (hlen : FunOK I 0 ("len" : Str) fLen) : ∃ d, (recsOf hd.view_39)[3]? = some d ∧ d.name = ("_law_one" : Str) ∧ ∃ G, FunOK I 1 d.name G ∧
    ∀ (ns : List Int) (p : Nat), ns.length ≤ 63 → p ≤ 100 → G [.lst (intsD ns), .int (p : Nat)] = some (.int (oneI ns p)) := by
  refine' ⟨_, rfl, rfl, _, FunOK.of 1000 (i := 3) (ns := ["script", "place"]) (m := 2) hat rfl ⟨rfl, by decide, by decide⟩ (by decide) (fun pm cd doc vs h => match vs, h with | [a, b], _ => rfl) rfl rfl ?h, ?g⟩
  case h =>
    dsimp only
    repeat' ktr_rel
  case g =>
    intro ns p h1 h2
    have m2 : mulOk (9973 * ((p : Int) + 1)) ((p : Int) + 1) = true := mulOk_sm (by omega) (by omega)
    have w1 := fLen_ints (l := ns) (by omega)
    refine CW.eq ?_
    unfold oneI
    cases q : ns[p]? with
    | some x =>
      have lt : (p : Int) < (ns.length : Int) := by have := (List.getElem?_eq_some_iff.mp q).1; omega
      have w2 := fSubs_ints q (by omega)
      repeat' kbo_bools
      rfl
    | none =>
      have lt : ¬ (p : Int) < (ns.length : Int) := by have := List.getElem?_eq_none_iff.mp q; omega
      repeat' kbo_bools
      rfl

theorem ok__law_draw {I : GI} (hat : HatI I hd.view_39) {f1 : List D → Option D} (h1 : FunOK I 1 ("_law_one" : Str) f1) (s1 : ∀ (ns : List Int) (p : Nat), ns.length ≤ 63 → p ≤ 100 → f1 [.lst (intsD ns), .int (p : Nat)] = some (.int (oneI ns p))) : ∃ d, (recsOf hd.view_39)[4]? = some d ∧ d.name = ("_law_draw" : Str) ∧ ∃ G, FunOK I 2 d.name G ∧
    ∀ (ns : List Int) (p : Nat) (w : Int), ns.length ≤ 63 → p ≤ 100 → w ≠ 0 → G [.lst (intsD ns), .int (p : Nat), .int w] = some (.int ((oneI ns p).fmod w)) := by
  refine' ⟨_, rfl, rfl, _, FunOK.of 1000 (i := 4) (ns := ["script", "place", "width"]) (m := 3) hat rfl ⟨rfl, by decide, by decide⟩ (by decide) (fun pm cd doc vs h => match vs, h with | [a, b, c], _ => rfl) rfl rfl ?h, ?g⟩
  case h =>
    dsimp only
    repeat' ktr_rel
  case g =>
    intro ns p w h2 h3 h4
    have w1 := s1 ns p h2 h3
    refine CW.eq ?_
    repeat' kbo_bools
    rfl

theorem ok__law_signed {I : GI} (hat : HatI I hd.view_39) {f1 : List D → Option D} (h1 : FunOK I 1 ("_law_one" : Str) f1) (s1 : ∀ (ns : List Int) (p : Nat), ns.length ≤ 63 → p ≤ 100 → f1 [.lst (intsD ns), .int (p : Nat)] = some (.int (oneI ns p))) : ∃ d, (recsOf hd.view_39)[5]? = some d ∧ d.name = ("_law_signed" : Str) ∧ ∃ G, FunOK I 2 d.name G ∧
    ∀ (ns : List Int) (p : Nat) (w : Int), ns.length ≤ 63 → p ≤ 100 → w ≠ 0 → G [.lst (intsD ns), .int (p : Nat), .int w] = some (.int (signI ns p w)) := by
  refine' ⟨_, rfl, rfl, _, FunOK.of 1000 (i := 5) (ns := ["script", "place", "width", "one"]) (m := 3) hat rfl ⟨rfl, by decide, by decide⟩ (by decide) (fun pm cd doc vs h => match vs, h with | [a, b, c], _ => rfl) rfl rfl ?h, ?g⟩
  case h =>
    dsimp only
    repeat' ktr_rel
  case g =>
    intro ns p w h2 h3 h4
    have w1 := s1 ns p h2 h3
    refine CW.eq ?_
    unfold signI
    by_cases q : oneI ns p < 0
    all_goals
      repeat' kbo_bools
      simp only [q, if_true, if_false]

theorem ok_iterprod {I : GI} (hat : HatI I hd.view_39)  : ∃ d, (recsOf hd.view_39)[2]? = some d ∧ d.name = ("iterprod" : Str) ∧ ∃ G, FunOK I 1 d.name G ∧
    ∀ (d : D) (l : List Int) (m : Nat), isStr d = false → itemsOf d = some (intsD l) → (∀ x ∈ l, Bd m x) → m * l.length + 1 + m ≤ 100000000 → G [d] = some (.int (prodI l)) := by
  refine' ⟨_, rfl, rfl, _, FunOK.of 1000 (i := 2) (ns := ["l", "z", "x"]) (m := 1) hat rfl ⟨rfl, by decide, by decide⟩ (by decide) (fun pm cd doc vs h => match vs, h with | [a], _ => rfl) rfl rfl ?h, ?g⟩
  case h =>
    dsimp only
    repeat' ktr_rel
  case g =>
    intro d l m hd hl hm hs
    refine CW.eq ?_
    repeat' kbo_bools
    refine ForK.of hd hl (LW.inv (fun ds σ => ∃ (r : List Int) (n : Nat) (z : Int) (sl : Slot), ds = intsD r ∧ σ = [.imm d, .imm (.int z), sl] ∧ z * prodI r = prodI l ∧ Bd n z ∧ (∀ x ∈ r, Bd m x) ∧ n + m * r.length + m ≤ 100000000) ⟨l, 1, 1, _, rfl, rfl, Int.one_mul _, Bd.one, hm, by omega⟩ ?_ ?_)
    · rintro d' ds σ ⟨r, n, z, sl, e, rfl, hz, hn, hr, hb⟩
      cases r with
      | nil => cases e
      | cons x r =>
        cases e
        rw [List.length_cons, Nat.mul_succ] at hb
        have hm := mulOk_bd hn (hr x (.head _)) (by omega)
        refine ⟨rfl, ?_⟩
        repeat' kbo_bools
        exact ⟨r, n + m, z * x, _, rfl, rfl, by rw [← hz, prodI_cons, Int.mul_assoc], hn.mul (hr x (.head _)), fun y hy => hr y (.tail _ hy), by omega⟩
    · rintro σ ⟨r, n, z, sl, e, rfl, hz, hn, hr, hb⟩
      cases r with
      | cons x r => cases e
      | nil =>
        repeat' kbo_bools
        rw [← hz, prodI_nil, Int.mul_one]

theorem ok_law {I : GI} (hat : HatI I hd.view_39) (hrange : FunOK I 0 ("range" : Str) fRange) {f0 f1 f2 f4 f5 f6 f7 f8 : List D → Option D} (h0 : FunOK I 1 ("gcd" : Str) f0) (h1 : FunOK I 1 ("primegen" : Str) f1) (h2 : FunOK I 1 ("iterprod" : Str) f2) (h6 : FunOK I 1 ("_law_sieve" : Str) f6) (h7 : FunOK I 1 ("_law_times" : Str) f7) (h8 : FunOK I 1 ("_law_legendre" : Str) f8) (h4 : FunOK I 2 ("_law_draw" : Str) f4) (h5 : FunOK I 2 ("_law_signed" : Str) f5) (s0 : ∀ (a b : Int), b.natAbs + 1 < 2 ^ 1000 → f0 [.int a, .int b] = some (.int ((Int.gcd a b : Nat) : Int)))(s1 : ∀ (L : Int), L ≤ 200 → f1 [.int L] = some (.lst (intsD (natI (pgR (L.toNat - 2))))))(s2 : ∀ (d : D) (l : List Int) (m : Nat), isStr d = false → itemsOf d = some (intsD l) → (∀ x ∈ l, Bd m x) → m * l.length + 1 + m ≤ 100000000 → f2 [d] = some (.int (prodI l)))(s4 : ∀ (ns : List Int) (p : Nat) (w : Int), ns.length ≤ 63 → p ≤ 100 → w ≠ 0 → f4 [.lst (intsD ns), .int (p : Nat), .int w] = some (.int ((oneI ns p).fmod w)))(s5 : ∀ (ns : List Int) (p : Nat) (w : Int), ns.length ≤ 63 → p ≤ 100 → w ≠ 0 → f5 [.lst (intsD ns), .int (p : Nat), .int w] = some (.int (signI ns p w)))(s6 : ∀ (n : Int), -200 ≤ n → n ≤ 95 → f6 [.int n] = some (.lst (intsD (natI (pgR (n.toNat - 2))))))(s7 : ∀ (d : D) (l : List Int) (m : Nat), isStr d = false → itemsOf d = some (intsD l) → (∀ x ∈ l, Bd m x) → m * l.length + 1 + m ≤ 100000000 → f7 [d] = some (.int (prodI l)))(s8 : ∀ (a p : Nat), 0 < p → p ≤ 200 → f8 [.int (a : Nat), .int (p : Nat)] = some (.int ((legN p a 6 : Nat) : Int))) : ∃ d, (recsOf hd.view_39)[9]? = some d ∧ d.name = ("law" : Str) ∧ ∃ G, FunOK I 3 d.name G ∧
    ∀ (ns : List Int), ns.length ≤ 63 → G [.lst (intsD ns)] = some (.bool true) := by
  refine' ⟨_, rfl, rfl, _, FunOK.of 1000 (i := 9) (ns := ["script", "limit", "n", "a", "low", "whole", "want", "full"]) (m := 1) hat rfl ⟨rfl, by decide, by decide⟩ (by decide) (fun pm cd doc vs h => match vs, h with | [a], _ => rfl) rfl rfl ?h, ?g⟩
  case h =>
    dsimp only
    repeat' ktr_rel
  case g =>
    intro ns hn
    have wp : powOk 10 60 = true := by decide
    have eW : (10:Int) ^ (60:Int).toNat + 7 = 10 ^ 60 + 7 := by decide
    have hW : (0:Int) < (10:Int) ^ (60:Int).toNat + 7 ∧ (10:Int) ^ (60:Int).toNat + 7 ≤ 2 ^ 200 := by rw [eW]; decide
    obtain ⟨W, hWW⟩ : ∃ W, (10:Int) ^ (60:Int).toNat + 7 = W := ⟨_, rfl⟩
    clear eW
    have wn : f5 [.lst (intsD ns), .int 1, .int ((10:Int) ^ (60:Int).toNat + 7)] = some (.int (signI ns 1 W)) := by
      rw [← hWW]; exact s5 ns 1 _ hn (by omega) (by omega)
    rw [hWW] at hW
    have bn : Bd 200 (signI ns 1 W) := Bd.sign hW.1 hW.2
    generalize signI ns 1 W = n at *
    obtain ⟨lim, hl, hl1, hl2⟩ : ∃ lim : Int, (oneI ns 0).fmod 96 - 5 = lim ∧ -5 ≤ lim ∧ lim ≤ 90 := by
      have a1 := Int.fmod_nonneg_of_pos (oneI ns 0) (b := 96) (by omega)
      have a2 := Int.fmod_lt_of_pos (oneI ns 0) (b := 96) (by omega)
      exact ⟨_, rfl, by omega, by omega⟩
    have wl : f4 [.lst (intsD ns), .int 0, .int 96] = some (.int ((oneI ns 0).fmod 96)) := s4 ns 0 _ hn (by omega) (by omega)
    obtain ⟨a, ha, ha2⟩ : ∃ a : Nat, (oneI ns 2).fmod 51 = (a : Int) ∧ a ≤ 50 := by
      have a1 := Int.fmod_nonneg_of_pos (oneI ns 2) (b := 51) (by omega)
      have a2 := Int.fmod_lt_of_pos (oneI ns 2) (b := 51) (by omega)
      exact ⟨((oneI ns 2).fmod 51).toNat, by omega, by omega⟩
    have wa : f4 [.lst (intsD ns), .int 2, .int 51] = some (.int (a : Int)) := by rw [← ha]; exact s4 ns 2 _ hn (by omega) (by omega)
    obtain ⟨t, ht, ht2⟩ : ∃ t, t = lim.toNat - 2 ∧ t ≤ 88 := ⟨_, rfl, by omega⟩
    have wsv := s6 lim (by omega) (by omega)
    have wpg := s1 lim (by omega)
    rw [← ht] at wsv wpg
    have pl := pgR_length t
    have pb : ∀ x ∈ natI (pgR t), Bd 10 x := by
      intro x hx
      obtain ⟨p, hp, rfl⟩ := mem_natI.mp hx
      have := pgR_mem hp
      exact Bd.sm (by omega) (by omega)
    have it : itemsOf (.lst (intsD (natI (pgR t)))) = some (intsD (natI (pgR t))) := items_lst (by rw [intsD_length, natI_length]; omega)
    have wwh := s2 (.lst (intsD (natI (pgR t)))) (natI (pgR t)) 10 rfl it pb (by rw [natI_length]; omega)
    have wti := s7 (.lst (intsD (natI (pgR t)))) (natI (pgR t)) 10 rfl it pb (by rw [natI_length]; omega)
    have flt : ∀ (q : Int → Bool), f7 [.lst (intsD ((natI (pgR t)).filter q))] = some (.int (prodI ((natI (pgR t)).filter q))) := by
      intro q
      have lf := List.length_filter_le q (natI (pgR t))
      rw [natI_length] at lf
      exact s7 _ _ 10 rfl (items_lst (by rw [intsD_length]; omega)) (fun x hx => pb x (List.mem_filter.mp hx).1) (by omega)
    have wf1 := flt fun x => decide (n.fmod x = 0)
    have wf2 := flt fun x => decide (x ≤ (a : Int))
    have bw : Bd 900 (prodI (natI (pgR t))) := by
      have := Bd.prod pb
      rw [natI_length] at this
      exact this.mono (by omega)
    have fits : ∀ {x : Int} {m : Nat}, Bd m x → m ≤ 999 → x.natAbs + 1 < 2 ^ 1000 := by
      intro x m hx hn
      have h1 : x.natAbs < 2 ^ 999 := hx.mono hn
      have h2 : (2:Nat) ^ 1000 = 2 ^ 999 * 2 := by rw [← Nat.pow_succ]
      have h3 : 1 < (2:Nat) ^ 999 := Nat.one_lt_two_pow (Nat.succ_ne_zero 998)
      omega
    have g1 := s0 (prodI (natI (pgR t))) n (fits bn (by omega))
    have g2 := s0 n (prodI (natI (pgR t))) (fits bw (by omega))
    rw [Int.gcd_comm, gcd_pg ht2 n] at g2
    rw [gcd_pg ht2 n] at g1
    have bu : ∀ x ∈ upI 1 a, Bd 10 x := by
      intro x hx
      obtain ⟨q1, q2⟩ := mem_upI.mp hx
      exact Bd.sm (by omega) (by omega)
    have iu : itemsOf (.rng 1 ((a : Int) + 1) 1) = some (intsD (upI 1 a)) := by
      rw [items_rng (by omega) (by omega) (by omega) (by omega) (by omega), show ((a : Int) + 1 - 1).toNat = a by omega]
    have wu := s2 (.rng 1 ((a : Int) + 1) 1) (upI 1 a) 10 rfl iu bu (by rw [upI_length]; omega)
    have wu7 := s7 (.rng 1 ((a : Int) + 1) 1) (upI 1 a) 10 rfl iu bu (by rw [upI_length]; omega)
    have bfu : Bd 900 (prodI (upI 1 a)) := by
      have := Bd.prod bu
      rw [upI_length] at this
      exact this.mono (by omega)
    have g3 := s0 (prodI (natI (pgR t))) (prodI (upI 1 a)) (fits bfu (by omega))
    rw [gcd_pg ht2, fac_filter ht2 ha2] at g3
    have wpa := s1 ((a : Int) + 1) (by omega)
    rw [show ((a : Int) + 1).toNat - 2 = a + 1 - 2 by omega] at wpa
    have pla := pgR_length (a + 1 - 2)
    have ne1 : ¬ (prodI (natI (pgR t)) ≠ prodI (natI (pgR t))) := fun h => h rfl
    have ne2 : ¬ (prodI ((natI (pgR t)).filter fun x => decide (n.fmod x = 0)) ≠ prodI ((natI (pgR t)).filter fun x => decide (n.fmod x = 0))) := fun h => h rfl
    have ne3 : ¬ (prodI (upI 1 a) ≠ prodI (upI 1 a)) := fun h => h rfl
    have bpe : ∀ x ∈ (natI (pgR (a + 1 - 2))).map (fun x => x ^ (legN x.toNat a 6)), Bd 4000 x := by
      intro x hx
      obtain ⟨y, hy, rfl⟩ := List.mem_map.mp hx
      obtain ⟨p, hp, rfl⟩ := mem_natI.mp hy
      have := pgR_mem hp
      have b1 : Bd 10 (p : Int) := Bd.sm (by omega) (by omega)
      have b2 := legN_le (p : Int).toNat 6 a
      have b3 := b1.pow (legN (p : Int).toNat a 6)
      exact b3.mono (by omega)
    have wpe := s2 (.lst (intsD ((natI (pgR (a + 1 - 2))).map fun x => x ^ (legN x.toNat a 6)))) _ 4000 rfl (items_lst (by rw [intsD_length, List.length_map, natI_length]; omega)) bpe (by rw [List.length_map, natI_length]; omega)
    have ne4 : ¬ (prodI (upI 1 a) ≠ prodI ((natI (pgR (a + 1 - 2))).map fun x => x ^ (legN x.toNat a 6))) := fun h => h (leg_fac ha2)
    refine CW.eq ?_
    repeat' kbo_bools
    rw [hl]
    repeat' kbo_bools
    refine CompK.ints (p := fun x => decide (n.fmod x = 0)) (g := fun x => x) it ?_ ?_
    · intro x hx
      obtain ⟨p, hp, rfl⟩ := mem_natI.mp hx
      have hm := pgR_mem hp
      have x0 : (p : Int) ≠ 0 := by omega
      refine ⟨?_, fun _ => by repeat' kbo_bools
                              rfl⟩
      repeat' kbo_bools
      rfl
    rw [List.map_id'' (fun _ => rfl)]
    repeat' kbo_bools
    refine CompK.map (g := fun x => x ^ (legN x.toNat a 6)) (items_lst (by rw [intsD_length, natI_length]; omega)) ?_ ?_
    · intro x hx
      obtain ⟨p, hp, rfl⟩ := mem_natI.mp hx
      have hm := pgR_mem hp
      have w8 := s8 a p (by omega) (by omega)
      have lg := legN_le p 6 a
      have po : powOk (p : Int) ((legN p a 6 : Nat) : Int) = true := powOk_bd (n := 10) (k := legN p a 6) (Bd.sm (by omega) (by omega)) (by omega)
      repeat' kbo_bools
      rw [Int.toNat_natCast, Int.toNat_natCast]
    repeat' kbo_bools
    refine CompK.ints (p := fun x => decide (x ≤ (a : Int))) (g := fun x => x) it ?_ ?_
    · intro x hx
      obtain ⟨p, hp, rfl⟩ := mem_natI.mp hx
      refine ⟨?_, fun _ => by repeat' kbo_bools
                              rfl⟩
      repeat' kbo_bools
      rfl
    rw [List.map_id'' (fun _ => rfl)]
    repeat' kbo_bools
    simp

theorem law_holds {I : GI} (hat : HatI I hd.view_39) (fabs : I.mg ("abs" : Str) = none) (flen : I.mg ("len" : Str) = none) (frange : I.mg ("range" : Str) = none) : ∃ G, FunOK I 3 ("law" : Str) G ∧ ∀ (ns : List Int), ns.length ≤ 63 → G [.lst (intsD ns)] = some (.bool true) := by
  have habs : FunOK I 0 ("abs" : Str) fAbs := FunOK.builtin fabs (by decide) rfl PrimOK.abs
  have hlen : FunOK I 0 ("len" : Str) fLen := FunOK.builtin flen (by decide) rfl PrimOK.len
  have hrange : FunOK I 0 ("range" : Str) fRange := FunOK.type frange (by decide) rfl PrimOK.range
  obtain ⟨d0, _, n0, g0, q0, t0⟩ := ok_gcd hat (2 ^ 1000) habs
  rw [n0] at q0
  obtain ⟨d1, _, n1, g1, q1, t1⟩ := ok_primegen hat
  rw [n1] at q1
  obtain ⟨d2, _, n2, g2, q2, t2⟩ := ok_iterprod hat
  rw [n2] at q2
  obtain ⟨d3, _, n3, g3, q3, t3⟩ := ok__law_one hat hlen
  rw [n3] at q3
  obtain ⟨d4, _, n4, g4, q4, t4⟩ := ok__law_draw hat q3 t3
  rw [n4] at q4
  obtain ⟨d5, _, n5, g5, q5, t5⟩ := ok__law_signed hat q3 t3
  rw [n5] at q5
  obtain ⟨d6, _, n6, g6, q6, t6⟩ := ok__law_sieve hat hrange
  rw [n6] at q6
  obtain ⟨d7, _, n7, g7, q7, t7⟩ := ok__law_times hat
  rw [n7] at q7
  obtain ⟨d8, _, n8, g8, q8, t8⟩ := ok__law_legendre hat hrange
  rw [n8] at q8
  obtain ⟨d9, _, n9, g9, q9, t9⟩ := ok_law hat hrange q0 q1 q2 q6 q7 q8 q4 q5 t0 t1 t2 t4 t5 t6 t7 t8
  rw [n9] at q9
  exact ⟨_, q9, t9⟩
end Mine

theorem PySem.Challenge.cw_yt0001_02_holds : PySem.Challenge.rw_yt0001_02.Holds := by
  refine Mine.hd ?_
  k_fill
  intro w s₀ s₁ mg mb G Y fa o pm cd doc dV kV ho hd hcd hD hmg hg args vals as hpre hlay hrd hwl hlo
  have KX := kIn_of Y
  clear Y ho hd hcd hD
  refine Ground.open G ?_
  intro T B D TE TW
  wrow_args hpre hlay hrd hwl hlo
  rename_i hlen63 _
  obtain ⟨GG, hG, hT⟩ := Mine.law_holds (I := Mine.giOf PySem.Challenge.rw_yt0001_02.row.prog w mg mb Mine.hd.view_39 _ _ _ T.builtins) (fun i d e => Mine.fnAt_of (hboot := T.builtins) T e) (Mine.free_of T KX (by rfl)) (Mine.free_of T KX (by rfl)) (Mine.free_of T KX (by rfl))
  refine Mine.law_end (hboot := T.builtins) T KX hmg (hG.le (by decide)) (by assumption) (by assumption) (hT _ (by omega)) ?_
  intro h' tk hk
  exact GoodW.toG ⟨.inl ⟨.bool true, .bool true, [], rfl, fun _ => rfl, ReadsW.bool true, by wrow_post, unshared_nil⟩, hk, rfl, hg⟩
