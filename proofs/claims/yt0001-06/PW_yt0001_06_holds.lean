import PyProof.Rows.All
import Wide.All
import OpenK.AllK
import Wide.FinOn
import Lean
import PySem.Challenge.RW_yt0001_06
set_option maxRecDepth 100000
open PySem PySem.W PyProof.Rows
set_option Elab.async false
set_option maxRecDepth 100000
namespace Mine

/-- pure data -/
inductive D where
  | none
  | bool (b : Bool)
  | int (i : Int)
  | str (s : Str)
  | tup (l : List D)
  | lst (l : List D)
  | rng (a b c : Int)

noncomputable abbrev G := Addr → Option Obj
noncomputable def Sub (g g' : G) : Prop := ∀ b o, g b = some o → g' b = some o
noncomputable def Grow (h h' : Heap) : Prop := ∀ b o, h.get? b = some o → h'.get? b = some o
noncomputable def ext (g : G) (h h' : Heap) : G := fun b => if (h.get? b).isSome = true then g b else h'.get? b

theorem Sub.refl (g : G) : Sub g g := fun _ _ e => e
theorem Sub.trans {a b c : G} (x : Sub a b) (y : Sub b c) : Sub a c := fun i o e => y i o (x i o e)
theorem Grow.refl (h : Heap) : Grow h h := fun _ _ e => e
theorem Grow.trans {a b c : Heap} (x : Grow a b) (y : Grow b c) : Grow a c := fun i o e => y i o (x i o e)
theorem Grow.push (h : Heap) (o : Obj) : Grow h (h.push o) := fun _ _ e => Heap.get?_push_of_some _ e

theorem ext_old {g : G} {h h' : Heap} {b : Addr} {o : Obj} (e : h.get? b = some o) : ext g h h' b = g b := by
  unfold ext; rw [e]; rfl
theorem ext_new {g : G} {h h' : Heap} {b : Addr} (e : h.get? b = none) : ext g h h' b = h'.get? b := by
  unfold ext; rw [e]; rfl
theorem ext_sub {g : G} {h h' : Heap} (s : Sub g h.get?) : Sub g (ext g h h') := fun b o e => by
  rw [ext_old (s b o e)]; exact e
theorem ext_in {g : G} {h h' : Heap} (s : Sub g h.get?) (k : Grow h h') : Sub (ext g h h') h'.get? := fun b o e => by
  cases q : h.get? b with
  | none => rw [ext_new q] at e; exact e
  | some o' => rw [ext_old q] at e; exact k b o (s b o e)
theorem ext_ext {g : G} {h h₁ h₂ : Heap} (k : Grow h h₁) (k' : Grow h₁ h₂) : ext (ext g h h₁) h₁ h₂ = ext g h h₂ := by
  funext b
  cases q : h.get? b with
  | some o => rw [ext_old (k b o q), ext_old q, ext_old q]
  | none =>
    rw [ext_new q]
    cases q' : h₁.get? b with
    | some o => rw [ext_old q', ext_new q, q', k' b o q']
    | none => rw [ext_new q']
theorem ext_self {g : G} {h : Heap} (s : Sub g h.get?) : ext g h h = g := by
  funext b
  cases q : h.get? b with
  | some o => exact ext_old q
  | none =>
    rw [ext_new q, q]
    cases e : g b with
    | none => rfl
    | some o => rw [s b o e] at q; cases q

mutual
noncomputable def Is (g : G) : D → Value → Prop
  | .none, v => v = .none
  | .bool b, v => v = .bool b
  | .int i, v => ∃ t, v = .int i t
  | .str x, v => ∃ t, v = .str x t
  | .tup l, v => ∃ a o vs n, v = .ref a ∧ g a = some o ∧ o.cls = .type "tuple" ∧ o.data = .seq vs n ∧ IsL g l vs.toList
  | .lst l, v => ∃ a o vs n, v = .ref a ∧ g a = some o ∧ o.cls = .type "list" ∧ o.data = .seq vs n ∧ IsL g l vs.toList
  | .rng a b c, v => ∃ r t u w, v = .ref r ∧ g r = some { cls := .type "range", dict := none, data := .fields #[.int a t, .int b u, .int c w], slots := #[] }
noncomputable def IsL (g : G) : List D → List Value → Prop
  | [], vs => vs = []
  | d :: ds, vs => ∃ v vs', vs = v :: vs' ∧ Is g d v ∧ IsL g ds vs'
end

mutual
theorem Is.mono {g g' : G} (s : Sub g g') : ∀ (d : D) {v : Value}, Is g d v → Is g' d v
  | .none, _, h => h
  | .bool _, _, h => h
  | .int _, _, h => h
  | .str _, _, h => h
  | .tup l, _, ⟨a, o, vs, n, e, h1, h2, h3, h4⟩ => ⟨a, o, vs, n, e, s _ _ h1, h2, h3, IsL.mono s l h4⟩
  | .lst l, _, ⟨a, o, vs, n, e, h1, h2, h3, h4⟩ => ⟨a, o, vs, n, e, s _ _ h1, h2, h3, IsL.mono s l h4⟩
  | .rng _ _ _, _, ⟨r, t, u, w, e, h⟩ => ⟨r, t, u, w, e, s _ _ h⟩
theorem IsL.mono {g g' : G} (s : Sub g g') : ∀ (l : List D) {vs : List Value}, IsL g l vs → IsL g' l vs
  | [], _, h => h
  | d :: ds, _, ⟨v, vs', e, h, h'⟩ => ⟨v, vs', e, Is.mono s d h, IsL.mono s ds h'⟩
end

theorem IsL.length {g : G} : ∀ {l : List D} {vs : List Value}, IsL g l vs → vs.length = l.length
  | [], vs, h => by rw [show vs = [] from h]; rfl
  | _ :: _, _, ⟨_, _, e, _, h⟩ => by rw [e, List.length_cons, List.length_cons, IsL.length h]
theorem IsL.get {g : G} : ∀ {l : List D} {vs : List Value} {i : Nat} {d : D}, IsL g l vs → l[i]? = some d → ∃ v, vs[i]? = some v ∧ Is g d v
  | d :: _, _, 0, d', ⟨v, vs', e, h, _⟩, q => by
    simp at q; subst q; exact ⟨v, by rw [e]; rfl, h⟩
  | _ :: ds, _, i + 1, d', ⟨v, vs', e, _, h⟩, q => by
    simp at q
    obtain ⟨w, hw, hi⟩ := IsL.get h q
    exact ⟨w, by rw [e]; simpa using hw, hi⟩
theorem IsL.append {g : G} : ∀ {l l' : List D} {vs vs' : List Value}, IsL g l vs → IsL g l' vs' → IsL g (l ++ l') (vs ++ vs')
  | [], _, _, _, h, h' => by rw [show _ = [] from h]; exact h'
  | _ :: _, _, _, _, ⟨v, r, e, h, h2⟩, h' => by rw [e]; exact ⟨v, _, rfl, h, IsL.append h2 h'⟩

/-- a value that bears no reference -/
noncomputable def flat : D → Bool
  | .none | .bool _ | .int _ | .str _ => true
  | _ => false
theorem Is.flat {g g' : G} {d : D} {v : Value} (hf : Mine.flat d = true) (h : Is g d v) : Is g' d v := by
  cases d <;> first | exact h | cases hf

structure GI where
  prog : Program
  w : World
  mg : Str → Option Value
  mb : Str → Option Value
  Gl : Heap → Prop
  grow : ∀ {h h'}, Gl h → Grow h h' → Gl h'
  g : ∀ {h}, Gl h → h.Ns mainGlobals mg
  b : ∀ {h}, Gl h → h.Ns builtinsNs mb
  nolimit : ∀ {h}, Gl h → h.NoLimit
  boot : ∀ x : Str, x ≠ "__name__" → mb x = bootBuiltins x

noncomputable abbrev R := List (Option D)
noncomputable abbrev Ev := R → Option D

noncomputable def Holds (env : Env) (h : Heap) (x : Str) (v : Value) : Prop :=
  (env.kindOf x = some .local ∧ ∃ m, h.Ns env.locals m ∧ m x = some v) ∨ (env.kindOf x = some .cell ∧ ∃ c, env.cells.lookup x = some c ∧ h.IsCell c (some v))
theorem Holds.grow {env : Env} {h h' : Heap} {x : Str} {v : Value} (k : Grow h h') : Holds env h x v → Holds env h' x v
  | .inl ⟨a, m, b, c⟩ => .inl ⟨a, m, b.keeps k, c⟩
  | .inr ⟨a, c, b, d⟩ => .inr ⟨a, c, b, d.keeps k⟩

structure View (I : GI) (env : Env) (ns : List Str) (g : G) (r : R) (h : Heap) : Prop where
  sub : Sub g h.get?
  gl : I.Gl h
  var : ∀ (i : Nat) (x : Str) (d : D), ns[i]? = some x → (env.kindOf x = some .local ∨ env.kindOf x = some .cell) → r[i]? = some (some d) → ∃ v, Is g d v ∧ Holds env h x v
theorem View.grow {I : GI} {env : Env} {ns : List Str} {g : G} {r : R} {h h' : Heap} (V : View I env ns g r h) (k : Grow h h') : View I env ns (ext g h h') r h' where
  sub := ext_in V.sub k
  gl := I.grow V.gl k
  var := fun i x d e ek e' => let ⟨v, a, b⟩ := V.var i x d e ek e'; ⟨v, Is.mono (ext_sub V.sub) d a, b.grow k⟩

noncomputable def AOK (k : Nat) (A : Around) : Prop := A.handled = none ∧ A.depth + k < recursionLimit ∧ A.units + 3 * k + 200 < cLine
theorem AOK.deeper {k : Nat} {A : Around} {env : Env} (h : AOK (k + 1) A) : AOK k (A.deeper env) := by
  obtain ⟨a, b, c⟩ := h
  refine ⟨a, ?_, ?_⟩
  · show A.depth + 1 + k < _; omega
  · show A.units + 3 + 3 * k + 200 < _; omega
theorem AOK.le {k k' : Nat} {A : Around} (h : AOK k' A) (l : k ≤ k') : AOK k A := by
  obtain ⟨a, b, c⟩ := h
  exact ⟨a, by omega, by omega⟩

structure EnvS (sc : Scope) (env : Env) : Prop where
  scope : env.scope = sc
  globals : env.globals = mainGlobals
  builtins : env.builtins = builtinsNs
  cells : ∀ x, sc.names.lookup x = some .cell → (env.cells.lookup x).isSome = true

noncomputable def Post (g : G) (s : Shared) (d : D) (Q : Value → Shared → Prop) : Prop :=
  ∀ v h' tk, Grow s.heap h' → Is (ext g s.heap h') d v → Q v { s with heap := h', toks := tk }

theorem Post.now {g : G} {s : Shared} {d : D} {Q : Value → Shared → Prop} {v : Value} {tk : Nat} (P : Post g s d Q) (sub : Sub g s.heap.get?) (h : Is g d v) : Q v { s with toks := tk } :=
  P v s.heap tk (Grow.refl _) (by rw [ext_self sub]; exact h)

/-- an expression's meaning -/
noncomputable def EvOK (I : GI) (k : Nat) (sc : Scope) (ns : List Str) (e : Expr) (F : Ev) : Prop :=
  ∀ (env : Env) (A : Around) (g : G) (r : R) (s : Shared) (d : D) (Q : Value → Shared → Prop) (E : Value → Shared → Prop),
    EnvS sc env → AOK k A → View I env ns g r s.heap → F r = some d → Post g s d Q → wpAny (model I.prog I.w) A (eval e env) Q E s

section
variable {I : GI} {k : Nat} {sc : Scope} {ns : List Str}

/-- the step behind a first part: the rest goes on from a grown heap -/
theorem Post.step {g : G} {s : Shared} {d : D} {Q : Value → Shared → Prop} {h₁ : Heap} {tk : Nat} (P : Post g s d Q) (k₁ : Grow s.heap h₁) :
    Post (ext g s.heap h₁) { s with heap := h₁, toks := tk } d Q := fun v h' tk' k₂ h => P v h' tk' (k₁.trans k₂) (by rw [ext_ext k₁ k₂] at h; exact h)

noncomputable def eVar (i : Nat) : Ev := fun r => match r[i]? with | some (some d) => some d | _ => none
theorem EvOK.var {x : Str} {pos : Pos} {i : Nat} (hk : sc.kind = .function) (hx : ns[i]? = some x) (hd : (x == ("__debug__" : Str)) = false) (hn : sc.names.lookup x = some .local ∨ sc.names.lookup x = some .cell) : EvOK I k sc ns (.Name x pos) (eVar i) := by
  intro env A g r s d Q E hS hA V hF P
  have e : r[i]? = some (some d) := by
    unfold eVar at hF
    split at hF
    · rename_i d' h; cases hF; exact h
    · cases hF
  obtain ⟨v, hi, hv⟩ := V.var i x d hx (by unfold Env.kindOf; rw [hS.scope]; exact hn) e
  refine wpAny_Name ?_ hd
  have q := P.now (tk := s.toks) V.sub hi
  rcases hv with ⟨hl, m, hn, hm⟩ | ⟨hl, c, hc, hv⟩
  · exact wpAny_loadName_local (hS.scope ▸ hk) hl hn hm q
  · exact wpAny_loadName_cell (hS.scope ▸ hk) hl hc hv q

noncomputable def eCst (d : D) : Ev := fun _ => some d
theorem EvOK.cint {i : Int} {kk pos} : EvOK I k sc ns (.Constant (.int i) kk pos) (eCst (.int i)) := by
  intro env A g r s d Q E hS hA V hF P
  cases hF
  exact wpAny_Constant_int (P.now V.sub ⟨_, rfl⟩)
theorem EvOK.cbool {b : Bool} {kk pos} : EvOK I k sc ns (.Constant (.bool b) kk pos) (eCst (.bool b)) := by
  intro env A g r s d Q E hS hA V hF P
  cases hF
  exact wpAny_Constant_bool (P.now (tk := s.toks) V.sub rfl)
/-- two operands, then an operation on values -/
noncomputable def OpOK (I : GI) (k : Nat) (op : Value → Value → Sem Value) (f : D → D → Option D) : Prop :=
  ∀ (A : Around) (g : G) (s : Shared) (x y d : D) (u v : Value) (Q : Value → Shared → Prop) (E : Value → Shared → Prop),
    AOK k A → Sub g s.heap.get? → I.Gl s.heap → Is g x u → Is g y v → f x y = some d → Post g s d Q → wpAny (model I.prog I.w) A (op u v) Q E s

noncomputable def e2 (f : D → D → Option D) (F F' : Ev) : Ev := fun r => match F r with
  | some x => match F' r with
    | some y => f x y
    | none => none
  | none => none
theorem e2_some {f : D → D → Option D} {F F' : Ev} {r : R} {d : D} (h : e2 f F F' r = some d) : ∃ x y, F r = some x ∧ F' r = some y ∧ f x y = some d := by
  unfold e2 at h
  split at h
  · rename_i x hx
    split at h
    · rename_i y hy; exact ⟨x, y, hx, hy, h⟩
    · cases h
  · cases h

theorem EvOK.two {l r : Expr} {F F' : Ev} {op : Value → Value → Sem Value} {f : D → D → Option D} {e : Expr} (hl : EvOK I k sc ns l F) (hr : EvOK I k sc ns r F') (ho : OpOK I k op f)
    (he : ∀ (env : Env) (A : Around) (s : Shared) (Q : Value → Shared → Prop) (E : Value → Shared → Prop), EnvS sc env →
      wpAny (model I.prog I.w) A (eval l env) (fun a s₁ => wpAny (model I.prog I.w) A (eval r env) (fun b s₂ => wpAny (model I.prog I.w) A (op a b) Q E s₂) E s₁) E s → wpAny (model I.prog I.w) A (eval e env) Q E s) :
    EvOK I k sc ns e (e2 f F F') := by
  intro env A g r s d Q E hS hA V hF P
  obtain ⟨x, y, hx, hy, hf⟩ := e2_some hF
  refine he _ _ _ _ _ hS (hl env A g r s x _ E hS hA V hx fun u h₁ tk₁ k₁ hu => ?_)
  refine hr env A _ r _ y _ E hS hA (V.grow k₁) hy fun v h₂ tk₂ k₂ hv => ?_
  have V₂ := (V.grow k₁).grow k₂
  refine ho A _ _ x y d u v Q E hA V₂.sub V₂.gl (Is.mono (ext_sub (V.grow k₁).sub) x hu) hv hf ?_
  exact (P.step k₁).step (s := { s with heap := h₁, toks := tk₁ }) k₂

theorem EvOK.bin {l r : Expr} {op : Operator} {pos : Pos} {F F' : Ev} {f : D → D → Option D} (hl : EvOK I k sc ns l F) (hr : EvOK I k sc ns r F') (ho : OpOK I k (binaryOp op) f) :
    EvOK I k sc ns (.BinOp l op r pos) (e2 f F F') := EvOK.two hl hr ho fun _ _ _ _ _ _ h => wpAny_BinOp h
theorem EvOK.cmp {l r : Expr} {op : CmpOp} {pos : Pos} {F F' : Ev} {f : D → D → Option D} (hl : EvOK I k sc ns l F) (hr : EvOK I k sc ns r F') (ho : OpOK I k (compareOp op) f)
    (hm : behindInMarks op r = false) : EvOK I k sc ns (.Compare l [op] [r] pos) (e2 f F F') := EvOK.two hl hr ho fun _ _ _ _ _ _ h => wpAny_Compare1 h hm

end
end Mine
open PySem PySem.W PyProof.Rows PySem.Spec
set_option linter.unusedVariables false
set_option Elab.async false
set_option maxRecDepth 100000
namespace Mine
section
variable {I : GI} {k : Nat} {sc : Scope} {ns : List Str}

noncomputable def mulOk (a b : Int) : Bool := !(decide (Builtin.Int.intBits a > shortFactorBits) && decide (Builtin.Int.intBits b > shortFactorBits) && Builtin.Int.intTooBig (Builtin.Int.intBits a + Builtin.Int.intBits b))
theorem mulOk_ok {a b : Int} (h : mulOk a b = true) : IntMulOk a b := by
  unfold IntMulOk; intro e; unfold mulOk at h; rw [e] at h; cases h
noncomputable def divOk (a b : Int) : Bool := decide (b ≠ 0) && decide (b.natAbs.log2 < 9000)
noncomputable def powOk (a n : Int) : Bool := decide (0 ≤ n) && decide ((Builtin.Int.intBits a : Int) * n ≤ 2 ^ 27)

theorem Is.isList {g : G} {h : Heap} {l : List D} {v : Value} (s : Sub g h.get?) (i : Is g (.lst l) v) : ∃ a vs, v = .ref a ∧ h.IsList a vs ∧ IsL g l vs.toList := by
  obtain ⟨a, o, vs, n, e, h1, h2, h3, h4⟩ := i
  exact ⟨a, vs, e, ⟨o, s _ _ h1, h2, n, h3⟩, h4⟩
theorem Is.isTup {g : G} {h : Heap} {l : List D} {v : Value} (s : Sub g h.get?) (i : Is g (.tup l) v) : ∃ a vs, v = .ref a ∧ IsTup h a vs ∧ IsL g l vs.toList := by
  obtain ⟨a, o, vs, n, e, h1, h2, h3, h4⟩ := i
  exact ⟨a, vs, e, ⟨o, s _ _ h1, h2, n, h3⟩, h4⟩

/-- a new object behind the heap -/
theorem Post.push {g : G} {s : Shared} {d : D} {Q : Value → Shared → Prop} {o : Obj} {tk : Nat} (P : Post g s d Q) (sub : Sub g s.heap.get?) (hf : o.isFreed = false)
    (h : ∀ g', g' s.heap.objs.size = some o → Sub g g' → Is g' d (.ref s.heap.objs.size)) : Q (.ref s.heap.objs.size) { s with heap := s.heap.push o, toks := tk } := by
  refine P _ _ tk (Grow.push _ _) (h _ ?_ (ext_sub sub))
  have hn : s.heap.get? s.heap.objs.size = none := by
    cases q : s.heap.get? s.heap.objs.size with
    | none => rfl
    | some o' => exact absurd (Heap.lt_size q) (Nat.lt_irrefl _)
  rw [ext_new hn]
  exact Heap.get?_push_size _ hf

theorem Post.newTuple {g : G} {s : Shared} {l : List D} {vs : List Value} {Q : Value → Shared → Prop} {tk : Nat} (P : Post g s (.tup l) Q) (sub : Sub g s.heap.get?) (h : IsL g l vs) :
    Q (.ref s.heap.objs.size) { s with heap := s.heap.push { cls := .type "tuple", data := .seq vs.toArray }, toks := tk } :=
  P.push sub rfl fun g' e k => ⟨_, _, _, _, rfl, e, rfl, rfl, IsL.mono k l h⟩
theorem Post.newList {g : G} {s : Shared} {l : List D} {vs : List Value} {Q : Value → Shared → Prop} {tk : Nat} (P : Post g s (.lst l) Q) (sub : Sub g s.heap.get?) (h : IsL g l vs) :
    Q (.ref s.heap.objs.size) { s with heap := s.heap.push { cls := .type "list", data := .seq vs.toArray }, toks := tk } :=
  P.push sub rfl fun g' e k => ⟨_, _, _, _, rfl, e, rfl, rfl, IsL.mono k l h⟩

noncomputable def fAdd : D → D → Option D
  | .int a, .int b => some (.int (a + b))
  | .str a, .str b => if a.length + b.length ≤ sizeLine then some (.str (a ++ b)) else none
  | .lst a, .lst b => if a.length + b.length ≤ sizeLine then some (.lst (a ++ b)) else none
  | _, _ => none
theorem OpOK.add : OpOK I k (binaryOp .Add) fAdd := by
  intro A g s x y d u v Q E hA sub gl hx hy hf P
  unfold fAdd at hf
  split at hf
  · obtain ⟨t, rfl⟩ := hx
    obtain ⟨t', rfl⟩ := hy
    cases hf
    exact PySem.P.add_int (P.now sub ⟨_, rfl⟩)
  · rename_i a b
    obtain ⟨t, rfl⟩ := hx
    obtain ⟨t', rfl⟩ := hy
    split at hf
    · rename_i hz
      cases hf
      exact SB.add (fun t' k => P.now sub ⟨_, rfl⟩) hz
    · cases hf
  · rename_i a b
    split at hf
    · rename_i hz
      cases hf
      obtain ⟨l, o, vs, n, rfl, h1, h2, h3, h4⟩ := hx
      obtain ⟨l', o', vs', n', rfl, h1', h2', h3', h4'⟩ := hy
      obtain ⟨cls, dd, data, sl⟩ := o
      obtain ⟨cls', dd', data', sl'⟩ := o'
      simp only at h2 h3 h2' h3'
      subst h2 h3 h2' h3'
      have e1 := h4.length
      have e2 := h4'.length
      refine concat_meets ⟨_, sub _ _ h1, rfl⟩ ⟨_, sub _ _ h1', rfl⟩ noFill_list_add seq_list_add PySem.F.slot_list_add PySem.F.entry_list_add (PySem.F.args_list_add_2 _ _)
        (list_addW l l' vs vs' n n' dd dd' sl sl' (by simp only [Array.length_toList] at e1 e2; omega)) ⟨sub _ _ h1, sub _ _ h1', ?_⟩
      have e : vs ++ vs' = (vs.toList ++ vs'.toList).toArray := by simp
      rw [e]
      exact P.newList sub (IsL.append h4 h4')
    · cases hf
  · cases hf

noncomputable def fSub : D → D → Option D
  | .int a, .int b => some (.int (a - b))
  | _, _ => none
theorem OpOK.sub : OpOK I k (binaryOp .Sub) fSub := by
  intro A g s x y d u v Q E hA sub gl hx hy hf P
  unfold fSub at hf
  split at hf
  · obtain ⟨t, rfl⟩ := hx
    obtain ⟨t', rfl⟩ := hy
    cases hf
    exact PySem.P.sub_int (P.now sub ⟨_, rfl⟩)
  · cases hf
noncomputable def fMul : D → D → Option D
  | .int a, .int b => if mulOk a b = true then some (.int (a * b)) else none
  | _, _ => none
theorem OpOK.mul : OpOK I k (binaryOp .Mult) fMul := by
  intro A g s x y d u v Q E hA sub gl hx hy hf P
  unfold fMul at hf
  split at hf
  · obtain ⟨t, rfl⟩ := hx
    obtain ⟨t', rfl⟩ := hy
    split at hf
    · rename_i hm
      cases hf
      exact PySem.P.mul_int (P.now sub ⟨_, rfl⟩) (mulOk_ok hm)
    · cases hf
  · cases hf
noncomputable def fDiv : D → D → Option D
  | .int a, .int b => if divOk a b = true then some (.int (a.fdiv b)) else none
  | _, _ => none
noncomputable def fMod : D → D → Option D
  | .int a, .int b => if b ≠ 0 then some (.int (a.fmod b)) else none
  | _, _ => none
theorem OpOK.mod : OpOK I k (binaryOp .Mod) fMod := by
  intro A g s x y d u v Q E hA sub gl hx hy hf P
  unfold fMod at hf
  split at hf
  · obtain ⟨t, rfl⟩ := hx
    obtain ⟨t', rfl⟩ := hy
    split at hf
    · rename_i hm
      cases hf
      exact mod_int' hm (P.now sub ⟨_, rfl⟩)
    · cases hf
  · cases hf
noncomputable def fPow : D → D → Option D
  | .int a, .int b => if powOk a b = true then some (.int (a ^ b.toNat)) else none
  | _, _ => none
theorem OpOK.pow : OpOK I k (binaryOp .Pow) fPow := by
  intro A g s x y d u v Q E hA sub gl hx hy hf P
  unfold fPow at hf
  split at hf
  · obtain ⟨t, rfl⟩ := hx
    obtain ⟨t', rfl⟩ := hy
    split at hf
    · rename_i hm
      cases hf
      simp only [powOk, Bool.and_eq_true, decide_eq_true_eq] at hm
      exact pow_int hm.1 hm.2 (P.now sub ⟨_, rfl⟩)
    · cases hf
  · cases hf
noncomputable def fAnd : D → D → Option D
  | .int a, .int b => some (.int (Builtin.bitAnd a b))
  | _, _ => none
theorem OpOK.and : OpOK I k (binaryOp .BitAnd) fAnd := by
  intro A g s x y d u v Q E hA sub gl hx hy hf P
  unfold fAnd at hf
  split at hf
  · obtain ⟨t, rfl⟩ := hx
    obtain ⟨t', rfl⟩ := hy
    cases hf
    exact and_int (P.now sub ⟨_, rfl⟩)
  · cases hf

noncomputable def fOrd (f : Int → Int → Bool) : D → D → Option D
  | .int a, .int b => some (.bool (f a b))
  | _, _ => none
theorem OpOK.lt : OpOK I k (compareOp .Lt) (fOrd fun a b => decide (a < b)) := by
  intro A g s x y d u v Q E hA sub gl hx hy hf P
  unfold fOrd at hf
  split at hf
  · obtain ⟨t, rfl⟩ := hx
    obtain ⟨t', rfl⟩ := hy
    cases hf
    exact PySem.P.lt_int (P.now (tk := s.toks) sub rfl)
  · cases hf
theorem OpOK.le : OpOK I k (compareOp .LtE) (fOrd fun a b => decide (a ≤ b)) := by
  intro A g s x y d u v Q E hA sub gl hx hy hf P
  unfold fOrd at hf
  split at hf
  · obtain ⟨t, rfl⟩ := hx
    obtain ⟨t', rfl⟩ := hy
    cases hf
    exact PySem.P.le_int (P.now (tk := s.toks) sub rfl)
  · cases hf
theorem OpOK.gt : OpOK I k (compareOp .Gt) (fOrd fun a b => decide (b < a)) := by
  intro A g s x y d u v Q E hA sub gl hx hy hf P
  unfold fOrd at hf
  split at hf
  · obtain ⟨t, rfl⟩ := hx
    obtain ⟨t', rfl⟩ := hy
    cases hf
    exact PySem.P.gt_int (P.now (tk := s.toks) sub rfl)
  · cases hf
theorem OpOK.ge : OpOK I k (compareOp .GtE) (fOrd fun a b => decide (b ≤ a)) := by
  intro A g s x y d u v Q E hA sub gl hx hy hf P
  unfold fOrd at hf
  split at hf
  · obtain ⟨t, rfl⟩ := hx
    obtain ⟨t', rfl⟩ := hy
    cases hf
    exact PySem.P.ge_int (P.now (tk := s.toks) sub rfl)
  · cases hf

mutual
noncomputable def py : D → PyData
  | .none => .none
  | .bool b => .bool b
  | .int i => .int i
  | .str x => .str x
  | .tup l => .tuple (pyL l)
  | .lst l => .list (pyL l)
  | .rng _ _ _ => .none
noncomputable def pyL : List D → List PyData
  | [] => []
  | d :: r => py d :: pyL r
end
mutual
noncomputable def noRng : D → Bool
  | .none | .bool _ | .int _ | .str _ => true
  | .tup l => noRngL l
  | .lst l => noRngL l
  | .rng _ _ _ => false
noncomputable def noRngL : List D → Bool
  | [] => true
  | d :: r => noRng d && noRngL r
end
mutual
theorem Is.reads {g : G} {h : Heap} (s : Sub g h.get?) (d : D) {v : Value} (hn : noRng d = true) (hi : Is g d v) : ∃ as, Reads h v (py d) as := by
  cases d with
  | none => rw [show v = Value.none from hi]; exact ⟨_, Reads.none⟩
  | bool b => rw [show v = Value.bool b from hi]; exact ⟨_, Reads.bool b⟩
  | int i => obtain ⟨t, e⟩ := hi; rw [e]; exact ⟨_, Reads.int i t⟩
  | str x => obtain ⟨t, e⟩ := hi; rw [e]; exact ⟨_, Reads.str x t⟩
  | tup l =>
    obtain ⟨a, o, vs, n, e, h1, h2, h3, h4⟩ := hi
    obtain ⟨as, q⟩ := IsL.reads s l (by simpa [noRng] using hn) h4
    rw [e, py]
    exact ⟨as, reads_tuple_at (s _ _ h1) h2 h3 (by simpa using q)⟩
  | lst l =>
    obtain ⟨a, o, vs, n, e, h1, h2, h3, h4⟩ := hi
    obtain ⟨as, q⟩ := IsL.reads s l (by simpa [noRng] using hn) h4
    rw [e, py]
    exact ⟨_, reads_list_at (s _ _ h1) h2 h3 (by simpa using q)⟩
  | rng a b c => cases hn
theorem IsL.reads {g : G} {h : Heap} (s : Sub g h.get?) (l : List D) {vs : List Value} (hn : noRngL l = true) (hi : IsL g l vs) : ∃ as, ReadsAll h vs (pyL l) as := by
  cases l with
  | nil => rw [show vs = [] from hi]; exact ⟨_, ReadsAll.nil⟩
  | cons d r =>
    obtain ⟨v, vs', e, h1, h2⟩ := hi
    simp only [noRngL, Bool.and_eq_true] at hn
    obtain ⟨as, q⟩ := Is.reads s d hn.1 h1
    obtain ⟨bs, p⟩ := IsL.reads s r hn.2 h2
    rw [e, pyL]
    exact ⟨_, ReadsAll.cons q p⟩
end

noncomputable def eqOk (x y : D) : Bool := noRng x && noRng y && SeqAt.shaped (py x) && SeqAt.shaped (py y)
noncomputable def fEq : D → D → Option D
  | .int a, .int b => some (.bool (a == b))
  | x, y => if eqOk x y = true then some (.bool (PyData.eqv (py x) (py y))) else none
theorem AOK.u64 {A : Around} (h : AOK k A) : A.units + 64 < cLine := by have := h.2.2; omega
theorem OpOK.eq : OpOK I k (compareOp .Eq) fEq := by
  intro A g s x y d u v Q E hA sub gl hx hy hf P
  unfold fEq at hf
  split at hf
  · obtain ⟨t, rfl⟩ := hx
    obtain ⟨t', rfl⟩ := hy
    cases hf
    exact PySem.P.eq_int (P.now (tk := s.toks) sub rfl)
  · split at hf
    · rename_i he
      cases hf
      simp only [eqOk, Bool.and_eq_true] at he
      obtain ⟨as, ra⟩ := Is.reads sub _ he.1.1.1 hx
      obtain ⟨bs, rb⟩ := Is.reads sub _ he.1.1.2 hy
      exact eq_dataH ra rb he.1.2 he.2 hA.u64 (P.now (tk := s.toks) sub rfl)
    · cases hf
noncomputable def fNe : D → D → Option D
  | .int a, .int b => some (.bool (a != b))
  | x, y => if eqOk x y = true then some (.bool (!PyData.eqv (py x) (py y))) else none
theorem OpOK.ne : OpOK I k (compareOp .NotEq) fNe := by
  intro A g s x y d u v Q E hA sub gl hx hy hf P
  unfold fNe at hf
  split at hf
  · obtain ⟨t, rfl⟩ := hx
    obtain ⟨t', rfl⟩ := hy
    cases hf
    exact PySem.P.ne_int (P.now (tk := s.toks) sub rfl)
  · split at hf
    · rename_i he
      cases hf
      simp only [eqOk, Bool.and_eq_true] at he
      obtain ⟨as, ra⟩ := Is.reads sub _ he.1.1.1 hx
      obtain ⟨bs, rb⟩ := Is.reads sub _ he.1.1.2 hy
      exact ne_dataH ra rb he.1.2 he.2 hA.u64 (P.now (tk := s.toks) sub rfl)
    · cases hf
end
end Mine
open PySem PySem.W PyProof.Rows PySem.Spec
set_option linter.unusedVariables false
set_option Elab.async false
set_option maxRecDepth 100000
namespace Mine
section
variable {I : GI} {k : Nat} {sc : Scope} {ns : List Str}

/-- one operand -/
noncomputable def e1 (f : D → Option D) (F : Ev) : Ev := fun r => match F r with
  | some x => f x
  | none => none
noncomputable def fNeg : D → Option D
  | .int a => some (.int (-a))
  | _ => none
theorem EvOK.neg {x : Expr} {pos : Pos} {F : Ev} (hx : EvOK I k sc ns x F) : EvOK I k sc ns (.UnaryOp .USub x pos) (e1 fNeg F) := by
  intro env A g r s d Q E hS hA V hF P
  unfold e1 at hF
  split at hF
  · rename_i y hy
    unfold fNeg at hF
    split at hF
    · cases hF
      refine UnaryOp_ (hx env A g r s _ _ E hS hA V hy fun v h₁ tk₁ k₁ hv => ?_)
      obtain ⟨t, rfl⟩ := hv
      exact PySem.P.neg_int ((P.step k₁).now (V.grow k₁).sub ⟨_, rfl⟩)
    · cases hF
  · cases hF

/-- truth -/
noncomputable def fTruth : D → Option Bool
  | .none => some false
  | .bool b => some b
  | .int i => some (i != 0)
  | .lst l => if l.length ≤ sizeLine then some (!l.isEmpty) else none
  | _ => none
theorem truth_ok {A : Around} {g : G} {s : Shared} {d : D} {v : Value} {b : Bool} {Q : Bool → Shared → Prop} {E : Value → Shared → Prop} (sub : Sub g s.heap.get?) (h : Is g d v) (hf : fTruth d = some b)
    (hq : ∀ tk, Q b { s with toks := tk }) : wpAny (model I.prog I.w) A (truthy v) Q E s := by
  unfold fTruth at hf
  split at hf
  · cases hf
    rw [show v = .none from h]
    exact truthy_none (hq s.toks)
  · cases hf
    rw [show v = .bool _ from h]
    exact wpAny_truthy_bool (hq s.toks)
  · cases hf
    obtain ⟨t, rfl⟩ := h
    exact PySem.P.truthy_int (hq s.toks)
  · rename_i l
    split at hf
    · rename_i hz
      cases hf
      obtain ⟨a, vs, rfl, hl, hi⟩ := h.isList sub
      have e := hi.length
      have e' : (!vs.isEmpty) = !l.isEmpty := by
        cases l with
        | nil =>
          have : vs.toList = [] := hi
          have : vs = #[] := by simpa using this
          rw [this]; rfl
        | cons x r =>
          simp only [Array.length_toList, List.length_cons] at e
          have h0 : vs.size ≠ 0 := by omega
          simp [Array.isEmpty, h0]
      refine wpAny_truthy_list hl ?_ ?_
      · simp only [Array.length_toList] at e
        have hs : sizeLine = 2 ^ 24 := by rw [sizeLine_eq]
        omega
      · rw [e']; exact hq _
    · cases hf
  · cases hf

noncomputable abbrev Tr := R → Option Bool
noncomputable def TrOK (I : GI) (k : Nat) (sc : Scope) (ns : List Str) (e : Expr) (F : Tr) : Prop :=
  ∀ (env : Env) (A : Around) (g : G) (r : R) (s : Shared) (b : Bool) (Q : Bool → Shared → Prop) (E : Value → Shared → Prop),
    EnvS sc env → AOK k A → View I env ns g r s.heap → F r = some b → (∀ h' tk, Grow s.heap h' → Q b { s with heap := h', toks := tk }) → wpAny (model I.prog I.w) A (isTrue e env (eval e env)) Q E s

noncomputable def tOf (F : Ev) : Tr := fun r => match F r with
  | some x => fTruth x
  | none => none
theorem TrOK.plain {e : Expr} {F : Ev} (h : EvOK I k sc ns e F) (he : ∀ env whole, isTrue e env whole = (do let v ← whole; standAt e.pos; holding [v] (truthy v))) : TrOK I k sc ns e (tOf F) := by
  intro env A g r s b Q E hS hA V hF P
  unfold tOf at hF
  split at hF
  · rename_i x hx
    refine isTrue_plain (h env A g r s x _ E hS hA V hx fun v h₁ tk₁ k₁ hv => ?_) (he _ _)
    exact truth_ok (s := { s with heap := h₁, toks := tk₁ }) (V.grow k₁).sub hv hF fun tk => P _ _ k₁
  · cases hF
theorem TrOK.cmp {l r : Expr} {op : CmpOp} {pos : Pos} {F F' : Ev} {f : D → D → Option D} (hl : EvOK I k sc ns l F) (hr : EvOK I k sc ns r F') (ho : OpOK I k (compareOp op) f)
    (hm : behindInMarks op r = false) : TrOK I k sc ns (.Compare l [op] [r] pos) (tOf (e2 f F F')) := by
  intro env A g rr s b Q E hS hA V hF P
  unfold tOf at hF
  split at hF
  · rename_i d hd
    obtain ⟨x, y, hx, hy, hf⟩ := e2_some hd
    refine wpAny_isTrue_Compare1 (hl env A g rr s x _ E hS hA V hx fun u h₁ tk₁ k₁ hu => ?_) hm
    refine hr env A _ rr _ y _ E hS hA (V.grow k₁) hy fun v h₂ tk₂ k₂ hv => ?_
    have V₂ := (V.grow k₁).grow k₂
    refine ho A _ _ x y d u v _ E hA V₂.sub V₂.gl (Is.mono (ext_sub (V.grow k₁).sub) x hu) hv hf fun c h₃ tk₃ k₃ hc => ?_
    exact truth_ok (s := { s with heap := h₃, toks := tk₃ }) (V₂.grow k₃).sub hc hF fun tk => P _ _ ((k₁.trans k₂).trans k₃)
  · cases hF
noncomputable def tNot (F : Tr) : Tr := fun r => match F r with
  | some b => some (!b)
  | none => none
theorem TrOK.not {x : Expr} {pos : Pos} {F : Tr} (h : TrOK I k sc ns x F) : TrOK I k sc ns (.UnaryOp .Not x pos) (tNot F) := by
  intro env A g r s b Q E hS hA V hF P
  unfold tNot at hF
  split at hF
  · rename_i c hc
    cases hF
    exact isTrue_not (h env A g r s c _ E hS hA V hc P)
  · cases hF
noncomputable def tAnd (F F' : Tr) : Tr := fun r => match F r with
  | some true => F' r
  | some false => some false
  | none => none
noncomputable def tOr (F F' : Tr) : Tr := fun r => match F r with
  | some true => some true
  | some false => F' r
  | none => none
theorem TrOK.and {x : Expr} {rest : List Expr} {pos : Pos} {F F' : Tr} (h : TrOK I k sc ns x F) (h' : TrOK I k sc ns (.BoolOp .And rest pos) F') : TrOK I k sc ns (.BoolOp .And (x :: rest) pos) (tAnd F F') := by
  intro env A g r s b Q E hS hA V hF P
  unfold tAnd at hF
  split at hF
  · rename_i hc
    refine isTrue_and (h env A g r s _ _ E hS hA V hc fun h₁ tk k₁ => ?_)
    exact h' env A _ r _ b Q E hS hA (V.grow k₁) hF fun h₂ tk₂ k₂ => P _ _ (k₁.trans k₂)
  · rename_i hc
    cases hF
    exact isTrue_and (h env A g r s _ _ E hS hA V hc fun h₁ tk k₁ => P _ _ k₁)
  · cases hF
theorem TrOK.and0 {pos : Pos} : TrOK I k sc ns (.BoolOp .And [] pos) (fun _ => some true) := by
  intro env A g r s b Q E hS hA V hF P
  cases hF
  exact isTrue_and_nil (P s.heap s.toks (Grow.refl _))
theorem TrOK.or {x : Expr} {rest : List Expr} {pos : Pos} {F F' : Tr} (h : TrOK I k sc ns x F) (h' : TrOK I k sc ns (.BoolOp .Or rest pos) F') : TrOK I k sc ns (.BoolOp .Or (x :: rest) pos) (tOr F F') := by
  intro env A g r s b Q E hS hA V hF P
  unfold tOr at hF
  split at hF
  · rename_i hc
    cases hF
    exact isTrue_or (h env A g r s _ _ E hS hA V hc fun h₁ tk k₁ => P _ _ k₁)
  · rename_i hc
    refine isTrue_or (h env A g r s _ _ E hS hA V hc fun h₁ tk k₁ => ?_)
    exact h' env A _ r _ b Q E hS hA (V.grow k₁) hF fun h₂ tk₂ k₂ => P _ _ (k₁.trans k₂)
  · cases hF
theorem TrOK.or0 {pos : Pos} : TrOK I k sc ns (.BoolOp .Or [] pos) (fun _ => some false) := by
  intro env A g r s b Q E hS hA V hF P
  cases hF
  exact isTrue_or_nil (P s.heap s.toks (Grow.refl _))

noncomputable def eOr (F F' : Ev) : Ev := fun r => match F r with
  | some x => match fTruth x with
    | some true => some x
    | some false => F' r
    | none => none
  | none => none
theorem EvOK.bool1 {op : BoolOp} {x : Expr} {pos : Pos} {F : Ev} (hx : EvOK I k sc ns x F) : EvOK I k sc ns (.BoolOp op [x] pos) F := fun env A g r s d Q E hS hA V hF P =>
  BoolOp_one (hx env A g r s d Q E hS hA V hF P)
theorem EvOK.or {x y : Expr} {rest : List Expr} {pos : Pos} {F F' : Ev} (hx : EvOK I k sc ns x F) (hy : EvOK I k sc ns (.BoolOp .Or (y :: rest) pos) F') : EvOK I k sc ns (.BoolOp .Or (x :: y :: rest) pos) (eOr F F') := by
  intro env A g r s d Q E hS hA V hF P
  unfold eOr at hF
  split at hF
  · rename_i z hz
    split at hF
    · rename_i hb
      cases hF
      refine BoolOp_or (hx env A g r s _ _ E hS hA V hz fun v h₁ tk₁ k₁ hv => ?_)
      refine truth_ok (s := { s with heap := h₁, toks := tk₁ }) (V.grow k₁).sub hv hb fun tk => ?_
      exact P _ _ _ k₁ hv
    · rename_i hb
      refine BoolOp_or (hx env A g r s z _ E hS hA V hz fun v h₁ tk₁ k₁ hv => ?_)
      refine truth_ok (s := { s with heap := h₁, toks := tk₁ }) (V.grow k₁).sub hv hb fun tk => ?_
      exact hy env A _ r _ d Q E hS hA (V.grow k₁) hF (P.step k₁)
    · cases hF
  · cases hF

/-- rows of expressions -/
noncomputable abbrev Evs := R → Option (List D)
noncomputable def EvsOK (I : GI) (k : Nat) (sc : Scope) (ns : List Str) (es : List Expr) (F : Evs) : Prop :=
  ∀ (env : Env) (A : Around) (g : G) (r : R) (s : Shared) (ds : List D) (pos : Pos) (Q : List Value → Shared → Prop) (E : Value → Shared → Prop),
    EnvS sc env → AOK k A → View I env ns g r s.heap → F r = some ds → (∀ vs h' tk, Grow s.heap h' → IsL (ext g s.heap h') ds vs → Q vs { s with heap := h', toks := tk }) →
    wpAny (model I.prog I.w) A (spliced (backTo pos (starEach es env))) Q E s
noncomputable def es0 : Evs := fun _ => some []
noncomputable def esC (F : Ev) (Fs : Evs) : Evs := fun r => match F r with
  | some d => match Fs r with
    | some ds => some (d :: ds)
    | none => none
  | none => none
theorem EvsOK.nil : EvsOK I k sc ns [] es0 := by
  intro env A g r s ds pos Q E hS hA V hF P
  cases hF
  exact args_nil (P [] s.heap s.toks (Grow.refl _) rfl)
theorem EvsOK.cons {e : Expr} {es : List Expr} {F : Ev} {Fs : Evs} (h : EvOK I k sc ns e F) (hs : EvsOK I k sc ns es Fs) (he : ∀ env, starEach (e :: es) env = (false, eval e env) :: starEach es env) :
    EvsOK I k sc ns (e :: es) (esC F Fs) := by
  intro env A g r s ds pos Q E hS hA V hF P
  unfold esC at hF
  split at hF
  · rename_i d hd
    split at hF
    · rename_i ds' hds
      cases hF
      refine args_cons (h env A g r s d _ E hS hA V hd fun v h₁ tk₁ k₁ hv => ?_) (he env)
      refine hs env A _ r _ ds' pos _ E hS hA (V.grow k₁) hds fun vs h₂ tk₂ k₂ hvs => ?_
      refine P _ _ _ (k₁.trans k₂) ⟨v, vs, rfl, ?_, ?_⟩
      · rw [← ext_ext k₁ k₂]; exact Is.mono (ext_sub (V.grow k₁).sub) d hv
      · rw [← ext_ext k₁ k₂]; exact hvs
    · cases hF
  · cases hF

noncomputable def eTup (Fs : Evs) : Ev := fun r => match Fs r with
  | some ds => if ds.length ≤ sizeLine then some (.tup ds) else none
  | none => none
noncomputable def eLst (Fs : Evs) : Ev := fun r => match Fs r with
  | some ds => if ds.length ≤ sizeLine then some (.lst ds) else none
  | none => none
theorem EvOK.tup {es : List Expr} {kk : Nat} {pos : Pos} {Fs : Evs} (h : EvsOK I k sc ns es Fs) : EvOK I k sc ns (.Tuple es kk pos) (eTup Fs) := by
  intro env A g r s d Q E hS hA V hF P
  unfold eTup at hF
  split at hF
  · rename_i ds hds
    split at hF
    · rename_i hz
      cases hF
      refine wpAny_Tuple (h env A g r s ds pos _ E hS hA V hds fun vs h₁ tk₁ k₁ hvs => ⟨by rw [hvs.length]; exact hz, ?_⟩)
      exact (P.step (tk := tk₁) k₁).newTuple (V.grow k₁).sub hvs
    · cases hF
  · cases hF
theorem EvOK.lst {es : List Expr} {pos : Pos} {Fs : Evs} (h : EvsOK I k sc ns es Fs) : EvOK I k sc ns (.List es pos) (eLst Fs) := by
  intro env A g r s d Q E hS hA V hF P
  unfold eLst at hF
  split at hF
  · rename_i ds hds
    split at hF
    · rename_i hz
      cases hF
      refine wpAny_List (h env A g r s ds pos _ E hS hA V hds fun vs h₁ tk₁ k₁ hvs => ⟨by rw [hvs.length]; exact hz, ?_⟩)
      exact (P.step (tk := tk₁) k₁).newList (V.grow k₁).sub hvs
    · cases hF
  · cases hF

/-- calls -/
noncomputable def PrimOK (I : GI) (k : Nat) (f : Value) (F : List D → Option D) : Prop :=
  ∀ (A : Around) (g : G) (s : Shared) (ds : List D) (vs : List Value) (d : D) (Q : Value → Shared → Prop) (E : Value → Shared → Prop),
    AOK k A → Sub g s.heap.get? → I.Gl s.heap → F ds = some d → IsL g ds vs → Post g s d Q → wpAny (model I.prog I.w) A (call f vs) Q E s
structure FunOK (I : GI) (k : Nat) (x : Str) (F : List D → Option D) : Prop where
  ok : ∃ f, (I.mg x = some f ∨ (I.mg x = none ∧ x ≠ "__name__" ∧ bootBuiltins x = some f)) ∧
    (∀ h, I.Gl h → ∃ kp, (kp = Keeper.frame ∨ kp = Keeper.machine ∨ kp = Keeper.boundFrame) ∧ Looks (model I.prog I.w) h (keeperOf f) kp) ∧ PrimOK I k f F
theorem FunOK.le {k' : Nat} {x : Str} {F : List D → Option D} (h : FunOK I k x F) (l : k ≤ k') : FunOK I k' x F :=
  let ⟨f, a, b, c⟩ := h.ok
  ⟨f, a, b, fun A g s ds vs d Q E hA => c A g s ds vs d Q E (hA.le l)⟩

noncomputable def eCall (F : List D → Option D) (Fs : Evs) : Ev := fun r => match Fs r with
  | some ds => F ds
  | none => none
theorem EvOK.call {x : Str} {px pos : Pos} {args : List Expr} {F : List D → Option D} {Fs : Evs} (hf : FunOK I k x F) (ha : EvsOK I k sc ns args Fs) (hk : sc.kind = .function)
    (hx : sc.names.lookup x = some .globalImplicit) (hd : (x == ("__debug__" : Str)) = false) (hp : ∀ env, (backTo pos (starEach args env)).any (·.1) = false) (hne : args.isEmpty = false)
    (hs : ∀ env, ∃ t rest, backTo pos (starEach args env) = (false, t) :: rest) :
    EvOK I k sc ns (.Call (.Name x px) args [] pos) (eCall F Fs) := by
  intro env A g r s d Q E hS hA V hF P
  unfold eCall at hF
  split at hF
  · rename_i ds hds
    obtain ⟨f, hn, hkp, hcall⟩ := hf.ok
    refine Call_ ?_ rfl
    have go : wpAny (model I.prog I.w) A (callWith pos f [] (backTo pos (starEach args env)) []) Q E s := by
      refine callWith_of (P := I.Gl) (by rw [hp env]; rfl) hkp ?_
      obtain ⟨t, rest, e⟩ := hs env
      rw [e]
      refine Calls.evalArgs_plain ?_
      rw [← e]
      refine ha env A g r s ds pos _ E hS hA V hds fun vs h₁ tk₁ k₁ hvs => ⟨I.grow V.gl k₁, ?_⟩
      exact hcall A _ _ ds vs d Q E hA (V.grow k₁).sub (I.grow V.gl k₁) hF hvs (P.step k₁)
    have hx' : env.kindOf x = some .globalImplicit := by unfold Env.kindOf; rw [hS.scope]; exact hx
    refine Calls.Name_function_global (hS.scope ▸ hk) hx' ?_ hd
    rcases hn with hn | ⟨hn, hne', hb⟩
    · exact Calls.loadGlobal_global (hS.globals ▸ I.g V.gl) hn go
    · exact Calls.loadGlobal_builtin (hS.globals ▸ I.g V.gl) hn (hS.builtins ▸ I.b V.gl) ((I.boot x hne').trans hb) go
  · cases hF

theorem keeper_builtin {M : Model} {id : String} (h : Heap) : ∃ kp, (kp = Keeper.frame ∨ kp = Keeper.machine ∨ kp = Keeper.boundFrame) ∧ Looks M h (keeperOf (.builtin id)) kp := ⟨.machine, .inr (.inl rfl), Looks.of_pure rfl⟩
theorem keeper_type {M : Model} {id : String} (h : Heap) : ∃ kp, (kp = Keeper.frame ∨ kp = Keeper.machine ∨ kp = Keeper.boundFrame) ∧ Looks M h (keeperOf (.type id)) kp := ⟨.machine, .inr (.inl rfl), Looks.of_pure rfl⟩

theorem FunOK.builtin {x : Str} {id : String} {F : List D → Option D} (hm : I.mg x = none) (hn : x ≠ "__name__") (hb : bootBuiltins x = some (.builtin id)) (h : PrimOK I k (.builtin id) F) : FunOK I k x F :=
  ⟨_, .inr ⟨hm, hn, hb⟩, fun h _ => keeper_builtin h, h⟩
theorem FunOK.type {x : Str} {id : String} {F : List D → Option D} (hm : I.mg x = none) (hn : x ≠ "__name__") (hb : bootBuiltins x = some (.type id)) (h : PrimOK I k (.type id) F) : FunOK I k x F :=
  ⟨_, .inr ⟨hm, hn, hb⟩, fun h _ => keeper_type h, h⟩
end
end Mine
open PySem PySem.W PyProof.Rows PySem.Spec
set_option linter.unusedVariables false
set_option Elab.async false
set_option maxRecDepth 100000
namespace Mine
section
variable {I : GI} {k : Nat} {sc : Scope} {ns : List Str}

theorem IsL.one {g : G} {d : D} {vs : List Value} (h : IsL g [d] vs) : ∃ v, vs = [v] ∧ Is g d v := by
  obtain ⟨v, r, e, hv, hr⟩ := h
  exact ⟨v, by rw [e, show r = [] from hr], hv⟩
theorem IsL.two {g : G} {d d' : D} {vs : List Value} (h : IsL g [d, d'] vs) : ∃ v v', vs = [v, v'] ∧ Is g d v ∧ Is g d' v' := by
  obtain ⟨v, r, e, hv, hr⟩ := h
  obtain ⟨v', e', hv'⟩ := hr.one
  exact ⟨v, v', by rw [e, e'], hv, hv'⟩
theorem IsL.three {g : G} {d d' d'' : D} {vs : List Value} (h : IsL g [d, d', d''] vs) : ∃ v v' v'', vs = [v, v', v''] ∧ Is g d v ∧ Is g d' v' ∧ Is g d'' v'' := by
  obtain ⟨v, r, e, hv, hr⟩ := h
  obtain ⟨v', v'', e', hv', hv''⟩ := hr.two
  exact ⟨v, v', v'', by rw [e, e'], hv, hv', hv''⟩

noncomputable def fLen : List D → Option D
  | [.lst l] => if l.length ≤ sizeLine then some (.int l.length) else none
  | [.tup l] => if l.length ≤ sizeLine then some (.int l.length) else none
  | [.str x] => if x.length ≤ sizeLine then some (.int x.length) else none
  | _ => none
theorem sizeLine_lt {n : Nat} (h : n ≤ sizeLine) : (n : Int) < 2 ^ 63 := by rw [sizeLine_eq] at h; omega
theorem PrimOK.len : PrimOK I k (.builtin "len") fLen := by
  intro A g s ds vs d Q E hA sub gl hf hv P
  unfold fLen at hf
  split at hf
  · rename_i l
    split at hf
    · rename_i hz
      cases hf
      obtain ⟨v, rfl, hi⟩ := hv.one
      obtain ⟨a, xs, rfl, hl, hi⟩ := hi.isList sub
      have e := hi.length
      simp only [Array.length_toList] at e
      refine Calls.call_len_list hl (by rw [e]; exact sizeLine_lt hz) ?_
      rw [e]
      exact P.now sub ⟨_, rfl⟩
    · cases hf
  · rename_i l
    split at hf
    · rename_i hz
      cases hf
      obtain ⟨v, rfl, hi⟩ := hv.one
      obtain ⟨a, xs, rfl, hl, hi⟩ := hi.isTup sub
      have e := hi.length
      simp only [Array.length_toList] at e
      refine len_tuple hl (by rw [e]; exact sizeLine_lt hz) ?_
      rw [e]
      exact P.now sub ⟨_, rfl⟩
    · cases hf
  · rename_i x
    split at hf
    · rename_i hz
      cases hf
      obtain ⟨v, rfl, t, rfl⟩ := hv.one
      exact PySem.P.len_str (by have := sizeLine_lt hz; omega) (P.now sub ⟨_, rfl⟩)
    · cases hf
  · cases hf
noncomputable def fAbs : List D → Option D
  | [.int a] => some (.int (if a < 0 then -a else a))
  | _ => none
theorem PrimOK.abs : PrimOK I k (.builtin "abs") fAbs := by
  intro A g s ds vs d Q E hA sub gl hf hv P
  unfold fAbs at hf
  split at hf
  · cases hf
    obtain ⟨v, rfl, t, rfl⟩ := hv.one
    exact call_abs_int fun u tk => P.now sub ⟨_, rfl⟩
  · cases hf
noncomputable def fMax : List D → Option D
  | [.int a, .int b] => some (.int (if b > a then b else a))
  | _ => none
theorem PrimOK.max : PrimOK I k (.builtin "max") fMax := by
  intro A g s ds vs d Q E hA sub gl hf hv P
  unfold fMax at hf
  split at hf
  · cases hf
    obtain ⟨v, v', rfl, ⟨t, rfl⟩, t', rfl⟩ := hv.two
    refine max_two_ints hA.1 fun h' tk hk => ?_
    split
    · rename_i hc; exact P _ _ _ hk ⟨t', by rw [if_pos hc]⟩
    · rename_i hc; exact P _ _ _ hk ⟨t, by rw [if_neg hc]⟩
  · cases hf
noncomputable def fRange : List D → Option D
  | [.int a] => some (.rng 0 a 1)
  | [.int a, .int b] => some (.rng a b 1)
  | [.int a, .int b, .int c] => if divOk (b - a) c = true then some (.rng a b c) else none
  | _ => none
theorem PrimOK.range : PrimOK I k (.type "range") fRange := by
  intro A g s ds vs d Q E hA sub gl hf hv P
  unfold fRange at hf
  split at hf
  · cases hf
    obtain ⟨v, rfl, t, rfl⟩ := hv.one
    exact call_range_1 (P.push sub rfl fun g' e k => ⟨_, _, _, _, rfl, e⟩)
  · cases hf
    obtain ⟨v, v', rfl, ⟨t, rfl⟩, t', rfl⟩ := hv.two
    exact call_range_2 (P.push sub rfl fun g' e k => ⟨_, _, _, _, rfl, e⟩)
  · split at hf
    · rename_i hm
      cases hf
      obtain ⟨v, v', v'', rfl, ⟨t, rfl⟩, ⟨t', rfl⟩, t'', rfl⟩ := hv.three
      simp only [divOk, Bool.and_eq_true, decide_eq_true_eq] at hm
      exact call_range_3 hm.1 (P.push sub rfl fun g' e k => ⟨_, _, _, _, rfl, e⟩) (.inl (PyProof.noPylong_of_log2 hm.2))
    · cases hf
  · cases hf
/-- an item -/
noncomputable def fSubs : D → D → Option D
  | .lst l, .int i => if 0 ≤ i ∧ i < 2 ^ 63 then l[i.toNat]? else none
  | .tup l, .int i => if 0 ≤ i ∧ i < 2 ^ 63 then l[i.toNat]? else none
  | .str x, .int i => if 0 ≤ i ∧ i < 2 ^ 63 then (match x.cps[i.toNat]? with | some c => some (.str ⟨#[c]⟩) | none => none) else none
  | _, _ => none
theorem seqIndex_nat {i : Int} {n : Nat} (h0 : 0 ≤ i) (h1 : i.toNat < n) : seqIndex? i n = some i.toNat := by
  unfold seqIndex?
  have h2 : ¬ i < 0 := by omega
  have h3 : (i : Int) < n := by omega
  simp only [if_neg h2]
  have h4 : (decide (0 ≤ i) && decide (i < (n : Int))) = true := by simp [h0, h3]
  rw [if_pos h4]
theorem subs_ok {A : Around} {g : G} {s : Shared} {x y d : D} {u v : Value} {value slice : Expr} {Q : Value → Shared → Prop} {E : Value → Shared → Prop} (sub : Sub g s.heap.get?) (hx : Is g x u) (hy : Is g y v) (hf : fSubs x y = some d)
    (P : Post g s d Q) (hs : ∀ o i, subscripted slice false o i = operate [o, i] (getItem o i)) : wpAny (model I.prog I.w) A (subscriptTail value slice u v) Q E s := by
  unfold fSubs at hf
  split at hf
  · rename_i l i
    split at hf
    · rename_i hi
      obtain ⟨a, xs, rfl, hl, hL⟩ := hx.isList sub
      obtain ⟨t, rfl⟩ := hy
      obtain ⟨w, hw, hI⟩ := hL.get hf
      exact tail_any hl.typeIs PySem.slot_list_getitem.lookup (wpAny_getItem_list hl hi.1 hi.2 (by simpa using hw) (P.now (tk := s.toks) sub hI)) (hs _ _)
    · cases hf
  · rename_i l i
    split at hf
    · rename_i hi
      obtain ⟨a, xs, rfl, hl, hL⟩ := hx.isTup sub
      obtain ⟨t, rfl⟩ := hy
      obtain ⟨w, hw, hI⟩ := hL.get hf
      have hlt : i.toNat < xs.size := by
        have := (List.getElem?_eq_some_iff.mp hw).1
        simpa using this
      exact tail_any hl.typeIs PyProof.Rows.slot_tuple_getitem.lookup (PyProof.Rows.getItem_tuple hl (by omega) hi.2 (seqIndex_nat hi.1 hlt) (by simpa using hw) (P.now (tk := s.toks) sub hI)) (hs _ _)
    · cases hf
  · rename_i x i
    split at hf
    · rename_i hi
      split at hf
      · rename_i c hc
        cases hf
        obtain ⟨t, rfl⟩ := hx
        obtain ⟨t', rfl⟩ := hy
        have hlt : i.toNat < x.length := by
          have := (Array.getElem?_eq_some_iff.mp hc).1
          exact this
        refine tail_any (typeIs_str s x t) PyProof.Rows.slot_str_getitem.lookup (PySem.P.getItem_str (c := c) ?_ ?_ (P.now sub ⟨_, rfl⟩)) (hs _ _)
        · have h1 : ¬ i < -(2 ^ 63) := by omega
          have h2 : ¬ i ≥ 2 ^ 63 := by omega
          rw [decide_eq_false h1, decide_eq_false h2]; rfl
        · rw [seqIndex_nat hi.1 hlt]; exact hc
      · cases hf
    · cases hf
  · cases hf
theorem EvOK.subs {value slice : Expr} {pos : Pos} {F F' : Ev} (hv : EvOK I k sc ns value F) (hi : EvOK I k sc ns slice F') (hs : ∀ o i, subscripted slice false o i = operate [o, i] (getItem o i)) :
    EvOK I k sc ns (.Subscript value slice pos) (e2 fSubs F F') := by
  intro env A g r s d Q E hS hA V hF P
  obtain ⟨x, y, hx, hy, hf⟩ := e2_some hF
  refine Subscript_ (hv env A g r s x _ E hS hA V hx fun u h₁ tk₁ k₁ hu => ?_)
  refine hi env A _ r _ y _ E hS hA (V.grow k₁) hy fun v h₂ tk₂ k₂ hv => ?_
  have V₂ := (V.grow k₁).grow k₂
  refine subs_ok V₂.sub (Is.mono (ext_sub (V.grow k₁).sub) x hu) hv hf ?_ hs
  exact (P.step k₁).step (s := { s with heap := h₁, toks := tk₁ }) k₂

/-- in, not in: ints among ints -/
noncomputable def isI : D → Bool
  | .int _ => true
  | _ => false
noncomputable def hitI (a : Int) : D → Bool
  | .int b => b == a
  | _ => false
theorem IsL.hitI {g : G} {a : Int} : ∀ {l : List D} {vs : List Value}, l.all isI = true → IsL g l vs → (∀ v ∈ vs, ∃ b t, v = Value.int b t) ∧ vs.any (valHitsInt a) = l.any (Mine.hitI a)
  | [], vs, _, h => by rw [show vs = [] from h]; exact ⟨fun v hv => (nomatch hv), rfl⟩
  | d :: ds, _, hl, ⟨v, vs', e, hv, h⟩ => by
    simp only [List.all_cons, Bool.and_eq_true] at hl
    obtain ⟨h1, h2⟩ := IsL.hitI (a := a) hl.2 h
    cases d with
    | int i =>
      obtain ⟨t, rfl⟩ := hv
      subst e
      refine ⟨fun w hw => ?_, ?_⟩
      · rcases List.mem_cons.mp hw with rfl | hw
        · exact ⟨_, _, rfl⟩
        · exact h1 w hw
      · rw [List.any_cons, List.any_cons, h2]; rfl
    | _ => exact absurd hl.1 (by simp [isI])
noncomputable def isS : D → Bool
  | .str _ => true
  | _ => false
noncomputable def hitS (a : Str) : D → Bool
  | .str b => b == a
  | _ => false
theorem IsL.hitS {g : G} {a : Str} : ∀ {l : List D} {vs : List Value}, l.all isS = true → IsL g l vs → (∀ v ∈ vs, ∃ b t, v = Value.str b t) ∧ vs.any (valHitsStr a) = l.any (Mine.hitS a)
  | [], vs, _, h => by rw [show vs = [] from h]; exact ⟨fun v hv => (nomatch hv), rfl⟩
  | d :: ds, _, hl, ⟨v, vs', e, hv, h⟩ => by
    simp only [List.all_cons, Bool.and_eq_true] at hl
    obtain ⟨h1, h2⟩ := IsL.hitS (a := a) hl.2 h
    cases d with
    | str i =>
      obtain ⟨t, rfl⟩ := hv
      subst e
      refine ⟨fun w hw => ?_, ?_⟩
      · rcases List.mem_cons.mp hw with rfl | hw
        · exact ⟨_, _, rfl⟩
        · exact h1 w hw
      · rw [List.any_cons, List.any_cons, h2]; rfl
    | _ => exact absurd hl.1 (by simp [isS])

noncomputable def fIn (neg : Bool) : D → D → Option D
  | .int a, .lst l => if l.all isI = true then some (.bool (neg ^^ l.any (hitI a))) else none
  | .int a, .tup l => if l.all isI = true then some (.bool (neg ^^ l.any (hitI a))) else none
  | .str a, .tup l => if l.all isS = true then some (.bool (neg ^^ l.any (hitS a))) else none
  | _, _ => none
theorem eqAt_int {A : Around} {s : Shared} {y : Value} (h : ∃ b t, y = Value.int b t) (x : Int) (u : Tok) : SeqAt.EqAt A s y (.int x u) (valHitsInt x y) := by
  obtain ⟨b, t, rfl⟩ := h; exact (Carried.int b t).eqAtInt x u
theorem eqAt_str {A : Around} {s : Shared} {y : Value} (h : ∃ b t, y = Value.str b t) (x : Str) (u : Tok) : SeqAt.EqAt A s y (.str x u) (valHitsStr x y) := by
  obtain ⟨b, t, rfl⟩ := h; exact (Carried.str b t).eqAtStr x u
theorem OpOK.notIn : OpOK I k (compareOp .NotIn) (fIn true) := by
  intro A g s x y d u v Q E hA sub gl hx hy hf P
  unfold fIn at hf
  split at hf
  · rename_i a l
    split at hf
    · rename_i hl
      cases hf
      obtain ⟨t, rfl⟩ := hx
      obtain ⟨p, xs, rfl, hp, hL⟩ := hy.isList sub
      obtain ⟨h1, h2⟩ := hL.hitI (a := a) hl
      refine SeqAt.notIn_listAt (valHitsInt a) hp (fun z hz => eqAt_int (h1 z (by simpa using hz)) a t) (P.now (tk := s.toks) sub ?_)
      have : xs.any (valHitsInt a) = l.any (hitI a) := by rw [← h2]; simp
      rw [this, Bool.true_xor]; rfl
    · cases hf
  · rename_i a l
    split at hf
    · rename_i hl
      cases hf
      obtain ⟨t, rfl⟩ := hx
      obtain ⟨p, xs, rfl, hp, hL⟩ := hy.isTup sub
      obtain ⟨h1, h2⟩ := hL.hitI (a := a) hl
      refine SeqAt.notIn_tupleAt (valHitsInt a) hp (fun z hz => eqAt_int (h1 z (by simpa using hz)) a t) (P.now (tk := s.toks) sub ?_)
      have : xs.any (valHitsInt a) = l.any (hitI a) := by rw [← h2]; simp
      rw [this, Bool.true_xor]; rfl
    · cases hf
  · rename_i a l
    split at hf
    · rename_i hl
      cases hf
      obtain ⟨t, rfl⟩ := hx
      obtain ⟨p, xs, rfl, hp, hL⟩ := hy.isTup sub
      obtain ⟨h1, h2⟩ := hL.hitS (a := a) hl
      refine SeqAt.notIn_tupleAt (valHitsStr a) hp (fun z hz => eqAt_str (h1 z (by simpa using hz)) a t) (P.now (tk := s.toks) sub ?_)
      have : xs.any (valHitsStr a) = l.any (hitS a) := by rw [← h2]; simp
      rw [this, Bool.true_xor]; rfl
    · cases hf
  · cases hf
end
end Mine
open PySem PySem.W PyProof.Rows PySem.Spec
set_option linter.unusedVariables false
set_option Elab.async false
set_option maxRecDepth 100000
namespace Mine

/-- the items that a for goes through -/
noncomputable def rngL (a c : Int) (n : Nat) : List D := (List.range n).map fun (i : Nat) => .int (a + (i : Int) * c)
noncomputable def itemsOf : D → Option (List D)
  | .lst l => if l.length ≤ sizeLine then some l else none
  | .tup l => if l.length ≤ sizeLine then some l else none
  | .rng a b c => if Builtin.Range.small a b c = true ∧ 0 ≤ Builtin.Range.rangeSize a b c ∧ (Builtin.Range.rangeSize a b c).toNat ≤ sizeLine then some (rngL a c (Builtin.Range.rangeSize a b c).toNat) else none
  | .str x => if x.length ≤ sizeLine then some (x.cps.toList.map fun c => .str ⟨#[c]⟩) else none
  | _ => none

section
variable {I : GI} {k : Nat} {sc : Scope} {ns : List Str}

theorem fresh_none (h : Heap) : h.get? h.objs.size = none := by
  cases q : h.get? h.objs.size with
  | none => rfl
  | some o' => exact absurd (Heap.lt_size q) (Nat.lt_irrefl _)

theorem iter_ok {A : Around} {g : G} {s : Shared} {d : D} {v : Value} {ds : List D} {Q : Value → Shared → Prop} {E : Value → Shared → Prop} (hh : A.handled = none) (sub : Sub g s.heap.get?) (hv : Is g d v) (hi : itemsOf d = some ds)
    (h : ∀ (o : Obj) (fp : List Addr) (P : Nat → Value → Prop) (St : Nat → Heap → Prop), Walks I.prog I.w A s.heap.objs.size fp [s.heap.objs.size] ds.length P St → (∀ i u, P i u → ∃ x, ds[i]? = some x ∧ Is g x u) →
      St 0 (s.heap.push o) → (∀ b ∈ fp, b = s.heap.objs.size ∨ (g b).isSome = true) → ((∀ x, d ≠ .str x) → ∀ i h, St i h → (h.get? s.heap.objs.size).isSome = true) → Q (.ref s.heap.objs.size) { s with heap := s.heap.push o }) : wpAny (model I.prog I.w) A (pyIter v) Q E s := by
  unfold itemsOf at hi
  split at hi
  · rename_i l
    split at hi
    · cases hi
      have hv' := hv
      obtain ⟨a, xs, rfl, hl, hL⟩ := hv.isList sub
      have e := hL.length
      simp only [Array.length_toList] at e
      have hga : (g a).isSome = true := by
        obtain ⟨a', o, vs, n, e1, h1, _⟩ := hv'
        cases e1; rw [h1]; rfl
      refine wpAny_pyIter_list hl ?_
      have hne : a ≠ s.heap.objs.size := by
        intro q
        cases q' : g a with
        | none => rw [q'] at hga; cases hga
        | some o => have := sub _ _ q'; rw [q, fresh_none] at this; cases this
      refine h _ [s.heap.objs.size, a] _ _ (e ▸ Walks.list hh s.heap.objs.size a hne xs) (fun i u hu => ?_) ⟨⟨_, Heap.get?_push_size _ rfl, rfl, rfl⟩, hl.push _⟩ (fun b hb => ?_) fun _ i h st => (by obtain ⟨⟨o, e, _⟩, _⟩ := st; rw [e]; rfl)
      · have hlt : i < ds.length := by
          have := (Array.getElem?_eq_some_iff.mp hu).1
          omega
        obtain ⟨w, hw, hI⟩ := hL.get (List.getElem?_eq_getElem hlt)
        have : xs[i]? = some w := by simpa using hw
        rw [hu] at this; cases this
        exact ⟨_, List.getElem?_eq_getElem hlt, hI⟩
      · rcases List.mem_cons.mp hb with rfl | hb
        · exact .inl rfl
        · rw [List.mem_singleton.mp hb]; exact .inr hga
    · cases hi
  · rename_i l
    split at hi
    · cases hi
      have hv' := hv
      obtain ⟨a, xs, rfl, hl, hL⟩ := hv.isTup sub
      have e := hL.length
      simp only [Array.length_toList] at e
      have hga : (g a).isSome = true := by
        obtain ⟨a', o, vs, n, e1, h1, _⟩ := hv'
        cases e1; rw [h1]; rfl
      have hl' : s.heap.IsTuple a xs := hl
      refine wpAny_pyIter_tuple hl' ?_
      have hne : a ≠ s.heap.objs.size := by
        intro q
        cases q' : g a with
        | none => rw [q'] at hga; cases hga
        | some o => have := sub _ _ q'; rw [q, fresh_none] at this; cases this
      refine h _ [s.heap.objs.size, a] _ _ (e ▸ Walks.tuple hh s.heap.objs.size a hne xs) (fun i u hu => ?_) ⟨⟨_, Heap.get?_push_size _ rfl, rfl, rfl⟩, hl'.at fun o e => Heap.get?_push_of_some _ e⟩ (fun b hb => ?_) fun _ i h st => (by obtain ⟨⟨o, e, _⟩, _⟩ := st; rw [e]; rfl)
      · have hlt : i < ds.length := by
          have := (Array.getElem?_eq_some_iff.mp hu).1
          omega
        obtain ⟨w, hw, hI⟩ := hL.get (List.getElem?_eq_getElem hlt)
        have : xs[i]? = some w := by simpa using hw
        rw [hu] at this; cases this
        exact ⟨_, List.getElem?_eq_getElem hlt, hI⟩
      · rcases List.mem_cons.mp hb with rfl | hb
        · exact .inl rfl
        · rw [List.mem_singleton.mp hb]; exact .inr hga
    · cases hi
  · rename_i a b c
    split at hi
    · rename_i hz
      cases hi
      obtain ⟨r, t, u, w, rfl, hr⟩ := hv
      refine wpAny_pyIter_range (sub _ _ hr) hz.1 ?_
      have el : (rngL a c (Builtin.Range.rangeSize a b c).toNat).length = (Builtin.Range.rangeSize a b c).toNat := by simp [rngL]
      have W : Walks I.prog I.w A s.heap.objs.size [s.heap.objs.size] [s.heap.objs.size] (Builtin.Range.rangeSize a b c).toNat (fun i v => i < (Builtin.Range.rangeSize a b c).toNat ∧ ∃ t, v = .int (a + i * c) t)
        (fun i h => IsRangeIter h s.heap.objs.size (a + (i : Nat) * c) (((Builtin.Range.rangeSize a b c).toNat : Int) - (i : Nat)) c) := (Walks.range hh _ a c _).bound
      refine h _ [s.heap.objs.size] _ _ (el.symm ▸ W) (fun i v hv => ?_) ?_ (fun b hb => .inl (List.mem_singleton.mp hb)) fun _ i h st => (by have e : h.get? _ = some _ := st; rw [e]; rfl)
      · obtain ⟨hlt, t', rfl⟩ := hv
        rw [el] at hlt
        exact ⟨.int (a + i * c), by simp only [rngL, List.getElem?_map, List.getElem?_range hlt, Option.map_some], ⟨_, rfl⟩⟩
      · have e0 : ((Builtin.Range.rangeSize a b c).toNat : Int) = Builtin.Range.rangeSize a b c := by omega
        have e1 : a + ((0 : Nat) : Int) * c = a := by simp
        have e2 : ((Builtin.Range.rangeSize a b c).toNat : Int) - ((0 : Nat) : Int) = Builtin.Range.rangeSize a b c := by simpa using e0
        show IsRangeIter _ _ (a + ((0 : Nat) : Int) * c) (((rngL a c (Builtin.Range.rangeSize a b c).toNat).length : Int) - ((0 : Nat) : Int)) _
        rw [el, e1, e2]
        exact Heap.get?_push_size _ rfl
    · cases hi
  · rename_i x
    split at hi
    · cases hi
      obtain ⟨t, rfl⟩ := hv
      refine wpAny_pyIter_str fun o St hW hst => ?_
      have el : (x.cps.toList.map fun c => D.str ⟨#[c]⟩).length = x.cps.size := by simp
      refine h o [s.heap.objs.size] _ St (el.symm ▸ hW A hh) (fun i u hu => ?_) hst (fun b hb => .inl (List.mem_singleton.mp hb)) fun hne => absurd rfl (hne _)
      obtain ⟨c, w, hc, rfl⟩ := hu
      exact ⟨.str ⟨#[c]⟩, by simp [hc], ⟨_, rfl⟩⟩
    · cases hi
  · cases hi

/-- a flat value's datum -/
noncomputable def dv : Value → Option D
  | .none => some .none
  | .bool b => some (.bool b)
  | .int i _ => some (.int i)
  | .str x _ => some (.str x)
  | _ => none
theorem Is.dv {g : G} {d : D} {v : Value} (hf : Mine.flat d = true) (h : Is g d v) : Mine.dv v = some d := by
  cases d <;> simp only [Mine.flat, Bool.false_eq_true] at hf
  · rw [show v = .none from h]; rfl
  · rename_i b; rw [show v = .bool b from h]; rfl
  · obtain ⟨t, rfl⟩ := h; rfl
  · obtain ⟨t, rfl⟩ := h; rfl

noncomputable def relabelS (scope sc : Scope) : Scope := { scope with names := scope.names.map fun (n, k) => if (k == .free && sc.kind == .function && sc.names.lookup n == some .cell) then (n, .cell) else (n, k) }

theorem closure_ok {M : Model} {env : Env} (scope : Scope) (h : ∀ y ∈ scope.names, y.2 = .free → (env.cells.lookup y.1).isSome = true) :
    ∃ cl : List (Str × Addr), closureFor scope env = pure cl ∧ ∀ y ∈ scope.names, y.2 = .free → cl.lookup y.1 = env.cells.lookup y.1 := by
  have go : ∀ (names : List (Str × NameKind)) (acc : List (Str × Addr)), (∀ y ∈ names, y.2 = .free → (env.cells.lookup y.1).isSome = true) →
      (∀ y c, acc.lookup y = some c → env.cells.lookup y = some c) →
      ∃ cl : List (Str × Addr), forIn (m := Sem) names acc (fun (x : Str × NameKind) (r : List (Str × Addr)) => if (x.2 == NameKind.free) = true then do let a ← cellOf env x.1; pure (ForInStep.yield ((x.1, a) :: r)) else do pure PUnit.unit; pure (ForInStep.yield r)) = pure cl ∧
        (∀ y ∈ names, y.2 = .free → cl.lookup y.1 = env.cells.lookup y.1) ∧ (∀ y c, acc.lookup y = some c → cl.lookup y = some c) ∧ (∀ y c, cl.lookup y = some c → env.cells.lookup y = some c) := by
    intro names
    induction names with
    | nil => intro acc _ ha; exact ⟨acc, rfl, fun y hy => (nomatch hy), fun _ _ e => e, ha⟩
    | cons x r ih =>
      intro acc hn ha
      obtain ⟨n, kd⟩ := x
      rw [List.forIn_cons]
      by_cases hk : kd = .free
      · subst hk
        have hs := hn (n, .free) (.head _) rfl
        obtain ⟨c, hc⟩ := Option.isSome_iff_exists.mp hs
        have e : cellOf env n = pure c := by unfold cellOf; rw [hc]
        obtain ⟨cl, e1, e2, e3, e4⟩ := ih ((n, c) :: acc) (fun y hy => hn y (.tail _ hy)) (fun y c' hy => by
          rw [List.lookup_cons] at hy
          cases q : y == n with
          | true => rw [q] at hy; cases hy; rw [beq_iff_eq.mp q]; exact hc
          | false => rw [q] at hy; exact ha y c' hy)
        refine ⟨cl, ?_, fun y hy hf => ?_, fun y c' hy => ?_, e4⟩
        · show (if (NameKind.free == NameKind.free) = true then (do let a ← cellOf env n; pure (ForInStep.yield ((n, a) :: acc)) : Sem _) else _) >>= _ = _
          have hb : (NameKind.free == NameKind.free) = true := rfl
          rw [hb]
          show ((cellOf env n >>= fun a => pure (ForInStep.yield ((n, a) :: acc))) >>= _) = _
          rw [e]; exact e1
        · rcases List.mem_cons.mp hy with rfl | hy
          · rw [e3 n c (by rw [List.lookup_cons]; simp), hc]
          · exact e2 y hy hf
        · by_cases q : y = n
          · subst q
            have h1 := e3 y c (by rw [List.lookup_cons]; simp)
            rw [h1]
            have := ha y c' hy
            rw [hc] at this; exact this
          · refine e3 y c' ?_
            rw [List.lookup_cons, show (y == n) = false from by simpa using q]; exact hy
      · obtain ⟨cl, e1, e2, e3, e4⟩ := ih acc (fun y hy => hn y (.tail _ hy)) ha
        refine ⟨cl, ?_, fun y hy hf => ?_, e3, e4⟩
        · have hb : (kd == NameKind.free) = false := by simpa using hk
          show (if (kd == NameKind.free) = true then (do let a ← cellOf env n; pure (ForInStep.yield ((n, a) :: acc)) : Sem _) else _) >>= _ = _
          rw [hb]; exact e1
        · rcases List.mem_cons.mp hy with rfl | hy
          · exact absurd hf hk
          · exact e2 y hy hf
  obtain ⟨cl, e1, e2, _, _⟩ := go scope.names [] h (fun y c hy => by cases hy)
  refine ⟨cl, ?_, e2⟩
  unfold closureFor
  have q := congrArg (fun t : Sem (List (Str × Addr)) => t >>= fun cs => pure cs) e1
  exact q
end
end Mine
open PySem PySem.W PyProof.Rows PySem.Spec
set_option linter.unusedVariables false
set_option Elab.async false
set_option maxRecDepth 100000
namespace Mine

noncomputable def compL (elt : Ev) (tst : Tr) (r : R) : List D → Option (List D)
  | [] => some []
  | x :: xs => if flat x = true then (match tst (some x :: r) with
    | some true => (match elt (some x :: r) with
      | some y => if flat y = true then (match compL elt tst r xs with | some l => some (y :: l) | none => none) else none
      | none => none)
    | some false => compL elt tst r xs
    | none => none) else none

theorem compL_all {elt : Ev} {tst : Tr} {r : R} : ∀ {ds out : List D} {i : Nat} {x : D}, compL elt tst r ds = some out → ds[i]? = some x →
    flat x = true ∧ ∃ b, tst (some x :: r) = some b ∧ (b = true → ∃ y, elt (some x :: r) = some y ∧ flat y = true)
  | d :: ds, out, i, x, h, hx => by
    unfold compL at h
    split at h
    · rename_i hfl
      split at h
      · rename_i ht
        split at h
        · rename_i y hy
          split at h
          · rename_i hfy
            split at h
            · rename_i l hl
              cases i with
              | zero => simp at hx; subst hx; exact ⟨hfl, true, ht, fun _ => ⟨y, hy, hfy⟩⟩
              | succ i => exact compL_all hl (by simpa using hx)
            · cases h
          · cases h
        · cases h
      · rename_i ht
        cases i with
        | zero => simp at hx; subst hx; exact ⟨hfl, false, ht, fun e => by cases e⟩
        | succ i => exact compL_all h (by simpa using hx)
      · cases h
    · cases h

noncomputable def g0 : G := fun _ => none
theorem g0_sub (g : G) : Sub g0 g := fun _ _ e => by cases e
theorem isL_of_get {g : G} : ∀ {ds : List D} {vs : List Value}, vs.length = ds.length → (∀ (j : Nat) (v : Value), vs[j]? = some v → ∃ x, ds[j]? = some x ∧ Is g x v) → IsL g ds vs
  | [], [], _, _ => rfl
  | [], _ :: _, h, _ => by cases h
  | _ :: _, [], h, _ => by cases h
  | d :: ds, v :: vs, h, hg => by
    obtain ⟨x, hx, hi⟩ := hg 0 v rfl
    simp at hx; subst hx
    exact ⟨v, vs, rfl, hi, isL_of_get (by simpa using h) fun j u hu => by
      obtain ⟨x, hx, hi⟩ := hg (j + 1) u (by simpa using hu)
      exact ⟨x, by simpa using hx, hi⟩⟩

noncomputable def compP (tst : Tr) (r : R) (v : Value) : Bool := match dv v with
  | some x => (match tst (some x :: r) with | some true => true | _ => false)
  | none => false
noncomputable def compF (elt : Ev) (r : R) (v y : Value) : Prop := ∃ x d, dv v = some x ∧ elt (some x :: r) = some d ∧ flat d = true ∧ Is g0 d y

theorem comp_out {g : G} {elt : Ev} {tst : Tr} {r : R} : ∀ {ds out : List D} {vs ys : List Value}, compL elt tst r ds = some out → IsL g ds vs → Paired (compF elt r) (vs.filter (compP tst r)) ys → IsL g0 out ys
  | [], out, vs, ys, h, hL, hp => by
    rw [show vs = [] from hL] at hp
    simp only [compL, Option.some.injEq] at h
    subst h
    cases hp; rfl
  | d :: ds, out, _, ys, h, ⟨v, vs', e, hv, hL⟩, hp => by
    subst e
    unfold compL at h
    split at h
    · rename_i hfl
      have hd := hv.dv hfl
      split at h
      · rename_i ht
        have hP : compP tst r v = true := by unfold compP; rw [hd]; simp only [ht]
        rw [List.filter_cons, hP, if_pos rfl] at hp
        split at h
        · rename_i y hy
          split at h
          · rename_i hfy
            split at h
            · rename_i l hl
              cases h
              cases hp with
              | cons hF hp' =>
                obtain ⟨x, d', hx, hd', _, hi⟩ := hF
                rw [hd] at hx; cases hx
                rw [hy] at hd'; cases hd'
                exact ⟨_, _, rfl, hi, comp_out hl hL hp'⟩
            · cases h
          · cases h
        · cases h
      · rename_i ht
        have hP : compP tst r v = false := by unfold compP; rw [hd]; simp only [ht]
        rw [List.filter_cons, hP] at hp
        exact comp_out h hL hp
      · cases h
    · cases h

noncomputable def eComp (elt : Ev) (tst : Tr) (iter : Ev) : Ev := fun r => match iter r with
  | some d => (match itemsOf d with
    | some ds => (match compL elt tst r ds with
      | some out => some (.lst out)
      | none => none)
    | none => none)
  | none => none
theorem eComp_some {elt : Ev} {tst : Tr} {iter : Ev} {r : R} {d : D} (h : eComp elt tst iter r = some d) :
    ∃ di ds out, iter r = some di ∧ itemsOf di = some ds ∧ compL elt tst r ds = some out ∧ d = .lst out := by
  unfold eComp at h
  split at h
  · rename_i di hdi
    split at h
    · rename_i ds hds
      split at h
      · rename_i out ho; cases h; exact ⟨_, _, _, hdi, hds, ho, rfl⟩
      · cases h
    · cases h
  · cases h

section
variable {I : GI} {k : Nat} {sc : Scope} {ns : List Str}

noncomputable def tTrue : Tr := fun _ => some true
/-- the tests of a comprehension: none or one -/
noncomputable def TestsOK (I : GI) (k : Nat) (sc : Scope) (ns : List Str) (ifs : List Expr) (F : Tr) : Prop := (ifs = [] ∧ F = tTrue) ∨ ∃ c, ifs = [c] ∧ TrOK I k sc ns c F
theorem TestsOK.one {c : Expr} {F : Tr} (h : TrOK I k sc ns c F) : TestsOK I k sc ns [c] F := .inr ⟨c, rfl, h⟩

structure CompS (sc scope : Scope) (ns : List Str) (x : Str) : Prop where
  cell : ∀ y ∈ scope.names, y.2 ≠ .cell
  kind : scope.kind = .function
  okind : sc.kind = .function
  names : ∀ y ∈ scope.names, y.2 = .local → scope.names.lookup y.1 = some .local
  local_ : scope.names.lookup x = some .local
  free : ∀ y ∈ scope.names, y.2 = .free → sc.names.lookup y.1 = some .cell
  fresh : ∀ y ∈ ns, (relabelS scope sc).names.lookup y ≠ some .local

theorem relabel_cell {sc : Scope} : ∀ {names : List (Str × NameKind)} {y : Str}, (∀ z ∈ names, z.2 ≠ .cell) →
    (names.map fun (n, k) => if (k == NameKind.free && sc.kind == .function && sc.names.lookup n == some .cell) then (n, NameKind.cell) else (n, k)).lookup y = some .cell → (y, .free) ∈ names ∧ sc.names.lookup y = some .cell
  | [], y, _, h => by simp at h
  | (n, kd) :: r, y, hc, h => by
    rw [List.map_cons] at h
    by_cases hb : (kd == NameKind.free && sc.kind == .function && sc.names.lookup n == some .cell) = true
    · simp only [hb, if_true] at h
      rw [List.lookup_cons] at h
      cases q : y == n with
      | true =>
        have := beq_iff_eq.mp q; subst this
        simp only [Bool.and_eq_true, beq_iff_eq] at hb
        exact ⟨by rw [show kd = .free from hb.1.1]; exact .head _, hb.2⟩
      | false =>
        rw [q] at h
        obtain ⟨a, b⟩ := relabel_cell (fun z hz => hc z (.tail _ hz)) h
        exact ⟨.tail _ a, b⟩
    · simp only [hb] at h
      simp only [Bool.false_eq_true, if_false] at h
      rw [List.lookup_cons] at h
      cases q : y == n with
      | true =>
        rw [q] at h
        exact absurd (Option.some.inj h) (hc (n, kd) (.head _))
      | false =>
        rw [q] at h
        obtain ⟨a, b⟩ := relabel_cell (fun z hz => hc z (.tail _ hz)) h
        exact ⟨.tail _ a, b⟩

/-- the frame of a comprehension, seen from within -/
theorem inner_view {env : Env} {g : G} {r : R} {h₀ h : Heap} {scope : Scope} {cl : List (Str × Addr)} {C : Addr} {x : Str} {v : Value} {xd : D} {m : Str → Option Value} (V : View I env ns g r h₀) (hS : EnvS sc env)
    (cS : CompS sc scope ns x) (hcl : ∀ y ∈ scope.names, y.2 = .free → cl.lookup y.1 = env.cells.lookup y.1) (k₀ : Grow h₀ h) (hn : h.Ns C m) (hm : m x = some v) (hv : Is g xd v) :
    EnvS (relabelS scope sc) (compEnvC scope cl C env) ∧ View I (compEnvC scope cl C env) (x :: ns) g (some xd :: r) h := by
  have er : relabel scope env = relabelS scope sc := by
    unfold relabel relabelS Env.kindOf; rw [hS.scope]
  have free_of : ∀ y, (relabelS scope sc).names.lookup y = some .cell → cl.lookup y = env.cells.lookup y ∧ sc.names.lookup y = some .cell := fun y hy => by
    obtain ⟨a, b⟩ := relabel_cell cS.cell hy
    exact ⟨hcl (y, .free) a rfl, b⟩
  refine ⟨⟨er, hS.globals, hS.builtins, fun y hy => ?_⟩, ⟨fun b o e => k₀ b o (V.sub b o e), I.grow V.gl k₀, fun i y d hy hk hd => ?_⟩⟩
  · obtain ⟨a, b⟩ := free_of y hy
    show (cl.lookup y).isSome = true
    rw [a]; exact hS.cells y b
  · cases i with
    | zero =>
      simp only [List.getElem?_cons_zero, Option.some.injEq] at hy hd
      subst hy hd
      refine ⟨v, hv, .inl ⟨?_, m, hn, hm⟩⟩
      show (relabel scope env).names.lookup x = _
      exact lookup_relabel_local cS.local_
    | succ i =>
      simp only [List.getElem?_cons_succ] at hy hd
      have hk' : (relabelS scope sc).names.lookup y = some .local ∨ (relabelS scope sc).names.lookup y = some .cell := by
        rw [← er]; exact hk
      have hc : (relabelS scope sc).names.lookup y = some .cell := by
        rcases hk' with h | h
        · exact absurd h (cS.fresh y (List.mem_of_getElem? hy))
        · exact h
      obtain ⟨a, b⟩ := free_of y hc
      obtain ⟨v', hi, hh⟩ := V.var i y d hy (.inr (by unfold Env.kindOf; rw [hS.scope]; exact b)) hd
      refine ⟨v', hi, .inr ⟨?_, ?_⟩⟩
      · show (relabel scope env).names.lookup y = _
        rw [er]; exact hc
      · rcases hh with ⟨hl, _⟩ | ⟨_, c, hc', hv'⟩
        · have : env.kindOf y = some .cell := by unfold Env.kindOf; rw [hS.scope]; exact b
          rw [this] at hl; cases hl
        · exact ⟨c, by show cl.lookup y = _; rw [a]; exact hc', hv'.keeps k₀⟩

theorem comp_core {A : Around} {env : Env} {g : G} {r : R} {s : Shared} {d : D} {xv : Value} {ds out : List D} {scope : Scope} {x : Str} {elt : Expr} {ifs : List Expr} {F : Ev} {T : Tr} {cl : List (Str × Addr)}
    {Q : Value → Shared → Prop} {E : Value → Shared → Prop} (hS : EnvS sc env) (hA : AOK k A) (cS : CompS sc scope ns x) (V : View I env ns g r s.heap) (hcl : ∀ y ∈ scope.names, y.2 = .free → cl.lookup y.1 = env.cells.lookup y.1)
    (he : EvOK I k (relabelS scope sc) (x :: ns) elt F) (ht : TestsOK I k (relabelS scope sc) (x :: ns) ifs T) (hv : Is g d xv) (hi : itemsOf d = some ds) (hc : compL F T r ds = some out) (hz : ds.length ≤ sizeLine)
    (h : ∀ (o : Obj) (fp : List Addr) (P : Nat → Value → Prop) (St : Nat → Heap → Prop), Walks I.prog I.w A s.heap.objs.size fp [s.heap.objs.size] ds.length P St → St 0 (s.heap.push o) → (∀ b ∈ fp, b < (s.heap.push o).objs.size) →
      QuietOnC I.prog I.w A env scope cl x ifs elt [s.heap.objs.size] P (compP T r) (compF F r) { s with heap := s.heap.push o } →
      (∀ vs ys : List Value, vs.length = ds.length → (∀ (j : Nat) (v : Value), vs[j]? = some v → P j v) → Paired (compF F r) (vs.filter (compP T r)) ys → IsL g0 out ys) → Q (.ref s.heap.objs.size) { s with heap := s.heap.push o }) :
    wpAny (model I.prog I.w) A (pyIter xv) Q E s := by
  refine iter_ok hA.1 V.sub hv hi fun o fp P St W hP hst hfp _ => h o fp P St W hst (fun b hb => ?_) ?_ fun vs ys hlen hPv hp => ?_
  · rw [Heap.size_push]
    rcases hfp b hb with rfl | hb
    · exact Nat.lt_succ_self _
    · obtain ⟨o', ho'⟩ := Option.isSome_iff_exists.mp hb
      exact Nat.lt_succ_of_lt (Heap.lt_size (V.sub _ _ ho'))
  · have up : ∀ {h' : Heap}, (∀ b o', b ∉ [s.heap.objs.size] → (s.heap.push o).get? b = some o' → h'.get? b = some o') → Grow s.heap h' := fun hk b o' e =>
      hk b o' (by rw [List.mem_singleton]; exact Nat.ne_of_lt (Heap.lt_size e)) (Heap.get?_push_of_some _ e)
    refine ⟨fun C i v s₃ m₃ E' _ hPi hn hm hk _ => ?_, fun C i v s₃ m₃ E' _ hPi hp hn hm hk _ => ?_⟩
    · obtain ⟨xd, hx, hI⟩ := hP i v hPi
      obtain ⟨hfl, b, hb, _⟩ := compL_all hc hx
      have hd := hI.dv hfl
      obtain ⟨hS', V'⟩ := inner_view V hS cS hcl (up hk) hn hm hI
      have hpv : compP T r v = b := by
        unfold compP; rw [hd]; simp only [hb]; cases b <;> rfl
      rcases ht with ⟨rfl, rfl⟩ | ⟨c, rfl, hT⟩
      · cases hb
        exact wpAny_tests_nil ⟨hpv.symm, ⟨s₃.heap, s₃.toks, rfl, fun _ _ e => e⟩⟩
      · exact wpAny_tests_one (hT _ A g _ s₃ b _ E' hS' hA V' hb fun h' tk kk => ⟨hpv.symm, ⟨h', tk, rfl, kk⟩⟩)
    · obtain ⟨xd, hx, hI⟩ := hP i v hPi
      obtain ⟨hfl, b, hb, hy⟩ := compL_all hc hx
      have hd := hI.dv hfl
      obtain ⟨hS', V'⟩ := inner_view V hS cS hcl (up hk) hn hm hI
      have hpv : b = true := by
        unfold compP at hp; rw [hd] at hp; simp only [hb] at hp; cases b
        · cases hp
        · rfl
      obtain ⟨y, hy, hfy⟩ := hy hpv
      exact he _ A g _ s₃ y _ E' hS' hA V' hy fun w h' tk kk hw => ⟨⟨xd, y, hd, hy, hfy, hw.flat hfy⟩, ⟨h', tk, rfl, kk⟩⟩
  · exact comp_out hc (isL_of_get hlen fun j v hv => hP j v (hPv j v hv)) hp

theorem itemsOf_len {d : D} {ds : List D} (h : itemsOf d = some ds) : ds.length ≤ sizeLine := by
  unfold itemsOf at h
  split at h
  · split at h
    · cases h; assumption
    · cases h
  · split at h
    · cases h; assumption
    · cases h
  · split at h
    · rename_i hz; cases h; simpa [rngL] using hz.2.2
    · cases h
  · split at h
    · cases h; rw [List.length_map, Array.length_toList]; assumption
    · cases h
  · cases h

theorem EvOK.comp {elt iter : Expr} {ifs : List Expr} {x : Str} {px pos : Pos} {scope : Scope} {F Fi : Ev} {T : Tr} (cS : CompS sc scope ns x) (hi : EvOK I k sc ns iter Fi)
    (he : EvOK I k (relabelS scope sc) (x :: ns) elt F) (ht : TestsOK I k (relabelS scope sc) (x :: ns) ifs T) (hs : ∀ env x, foldedSetIterable iter env x = pure x) :
    EvOK I k sc ns (.ListComp elt [⟨.Name x px, iter, ifs, 0⟩] scope pos) (eComp F T Fi) := by
  intro env A g r s d Q E hS hA V hF P
  obtain ⟨di, ds, out, h1, h2, h3, rfl⟩ := eComp_some hF
  obtain ⟨cl, e1, e2⟩ := closure_ok (M := model I.prog I.w) (env := env) scope fun y hy hf => hS.cells _ (cS.free y hy hf)
  refine wpAny_ListComp_free (compP T r) (compF F r) e1 cS.cell cS.kind cS.names cS.local_ (hi env A g r s di _ E hS hA V h1 fun xv h₁ tk₁ k₁ hv => ?_) (hs env)
  refine comp_core (s := { s with heap := h₁, toks := tk₁ }) hS hA cS (V.grow k₁) e2 he ht hv h2 h3 (itemsOf_len h2) fun o fp Pp St W hst hfp hq hout => ?_
  refine ⟨_, fp, _, _, Pp, St, rfl, W, itemsOf_len h2, hst, hfp, hq, fun D h' tk ys vs hD hl hpl hlen hPv hp hk => ?_⟩
  have kk : Grow s.heap h' := fun b o' e => hk b o' (by rw [List.mem_singleton]; exact Nat.ne_of_lt (Heap.lt_size (k₁ b o' e))) (Heap.get?_push_of_some _ (k₁ b o' e))
  refine P _ h' tk kk ?_
  obtain ⟨n, hn⟩ := hpl
  refine ⟨D, { cls := .type "list", data := .seq ys n }, ys, n, rfl, ?_, rfl, rfl, IsL.mono (g0_sub _) _ (hout vs ys.toList hlen hPv hp)⟩
  have hDs : s.heap.get? D = none := by
    cases q : s.heap.get? D with
    | none => rfl
    | some o' =>
      have := Heap.get?_push_of_some o (k₁ _ _ q)
      rw [hD] at this; cases this
  rw [ext_new hDs]; exact hn
end
end Mine
open PySem PySem.W PyProof.Rows PySem.Spec
set_option linter.unusedVariables false
set_option Elab.async false
set_option maxRecDepth 100000
namespace Mine

inductive Slot where
  | unb
  | imm (d : D)
  | mt (l : List D)
noncomputable abbrev St := List Slot
noncomputable def rH : Slot → Option D
  | .imm d => some d
  | _ => none
noncomputable def rF : Slot → Option D
  | .imm d => some d
  | .mt l => some (.lst l)
  | .unb => none
noncomputable def rdH (σ : St) : R := σ.map rH
noncomputable def rdF (σ : St) : R := σ.map rF

noncomputable def lobj (vs : Array Value) (n : Nat) : Obj := { cls := .type "list", data := .seq vs n }

structure Owned (env : Env) (g fix : G) (h : Heap) (a : Addr) (l : List D) : Prop where
  obj : ∃ vs n, h.get? a = some (lobj vs n) ∧ IsL g l vs.toList
  off : fix a = none
  loc : a ≠ env.locals
  cel : ∀ n c, env.cells.lookup n = some c → a ≠ c

/-- the frame at hand: g what the names' data rest on, fix what nothing changes -/
structure SR (I : GI) (env : Env) (ns : List Str) (own : Nat → Addr) (g fix : G) (σ : St) (h : Heap) : Prop where
  gfix : Sub g fix
  sub : Sub fix h.get?
  base : ∃ h₀, I.Gl h₀ ∧ Sub h₀.get? fix
  frame : ∃ m, h.Ns env.locals m
  fixL : fix env.locals = none
  cells : ∀ n c, env.cells.lookup n = some c → (∃ v, h.IsCell c v) ∧ fix c = none ∧ c ≠ env.locals
  apart : ∀ n n' c, env.cells.lookup n = some c → env.cells.lookup n' = some c → n = n'
  imm : ∀ (i : Nat) (x : Str) (d : D), ns[i]? = some x → σ[i]? = some (.imm d) → ∃ v, Is g d v ∧ Holds env h x v
  mtd : ∀ (i : Nat) (x : Str) (l : List D), ns[i]? = some x → σ[i]? = some (.mt l) → Holds env h x (.ref (own i)) ∧ Owned env g fix h (own i) l
  inj : ∀ (i j : Nat) (l l' : List D), σ[i]? = some (.mt l) → σ[j]? = some (.mt l') → own i = own j → i = j

section
variable {I : GI} {k : Nat} {sc : Scope} {ns : List Str} {env : Env} {own : Nat → Addr} {g fix : G} {σ : St} {h : Heap}

theorem SR.gl (S : SR I env ns own g fix σ h) : I.Gl h := let ⟨h₀, a, b⟩ := S.base; I.grow a fun i o e => S.sub i o (b i o e)

theorem rdH_get {σ : St} {i : Nat} {d : D} (h : (rdH σ)[i]? = some (some d)) : σ[i]? = some (.imm d) := by
  unfold rdH at h
  rw [List.getElem?_map] at h
  cases q : σ[i]? with
  | none => rw [q] at h; simp at h
  | some sl =>
    rw [q] at h
    cases sl <;> simp [rH] at h
    rw [h]
theorem rdF_get {σ : St} {i : Nat} {d : D} (h : (rdF σ)[i]? = some (some d)) : σ[i]? = some (.imm d) ∨ ∃ l, d = .lst l ∧ σ[i]? = some (.mt l) := by
  unfold rdF at h
  rw [List.getElem?_map] at h
  cases q : σ[i]? with
  | none => rw [q] at h; simp at h
  | some sl =>
    rw [q] at h
    cases sl <;> simp [rF] at h
    · rw [h]; exact .inl rfl
    · exact .inr ⟨_, h.symm, rfl⟩

theorem SR.viewH (S : SR I env ns own g fix σ h) : View I env ns g (rdH σ) h where
  sub := S.gfix.trans S.sub
  gl := S.gl
  var := fun i x d hx _ hd => S.imm i x d hx (rdH_get hd)
theorem SR.viewF (S : SR I env ns own g fix σ h) : View I env ns h.get? (rdF σ) h where
  sub := Sub.refl _
  gl := S.gl
  var := fun i x d hx _ hd => by
    rcases rdF_get hd with q | ⟨l, rfl, q⟩
    · obtain ⟨v, a, b⟩ := S.imm i x d hx q
      exact ⟨v, Is.mono (S.gfix.trans S.sub) d a, b⟩
    · obtain ⟨a, b⟩ := S.mtd i x l hx q
      obtain ⟨vs, n, h1, h2⟩ := b.obj
      exact ⟨_, ⟨own i, _, vs, n, rfl, h1, rfl, rfl, IsL.mono (S.gfix.trans S.sub) l h2⟩, a⟩

/-- the heap grows: what is new may be leant on -/
theorem ext_mono {g g' : G} {h h' : Heap} (s : Sub g g') : Sub (ext g h h') (ext g' h h') := fun b o e => by
  cases q : h.get? b with
  | none => rw [ext_new q] at e ⊢; exact e
  | some o' => rw [ext_old q] at e ⊢; exact s b o e
theorem IsCell.live {h : Heap} {c : Addr} {v : Option Value} (x : h.IsCell c v) : ∃ o, h.get? c = some o := let ⟨o, a, _⟩ := x; ⟨o, a⟩
theorem SR.grow (S : SR I env ns own g fix σ h) {h' : Heap} (kk : Grow h h') : SR I env ns own (ext g h h') (ext fix h h') σ h' where
  gfix := ext_mono S.gfix
  sub := ext_in S.sub kk
  base := let ⟨h₀, a, b⟩ := S.base; ⟨h₀, a, b.trans (ext_sub S.sub)⟩
  frame := let ⟨m, a⟩ := S.frame; ⟨m, a.keeps kk⟩
  fixL := by
    obtain ⟨m, o, _, _, e, _⟩ := S.frame
    rw [ext_old e]; exact S.fixL
  cells := fun n c hc => by
    obtain ⟨⟨v, a⟩, b, d⟩ := S.cells n c hc
    obtain ⟨o, e⟩ := IsCell.live a
    exact ⟨⟨v, a.keeps kk⟩, by rw [ext_old e]; exact b, d⟩
  apart := S.apart
  imm := fun i x d hx hd => let ⟨v, a, b⟩ := S.imm i x d hx hd; ⟨v, Is.mono (ext_sub (S.gfix.trans S.sub)) d a, b.grow kk⟩
  mtd := fun i x l hx hd => by
    obtain ⟨a, b⟩ := S.mtd i x l hx hd
    obtain ⟨vs, n, h1, h2⟩ := b.obj
    exact ⟨a.grow kk, ⟨⟨vs, n, kk _ _ h1, IsL.mono (ext_sub (S.gfix.trans S.sub)) l h2⟩, by rw [ext_old h1]; exact b.off, b.loc, b.cel⟩⟩
  inj := S.inj
/-- the heap grows: nothing new is leant on -/
theorem SR.keep (S : SR I env ns own g fix σ h) {h' : Heap} (kk : Grow h h') : SR I env ns own g fix σ h' where
  gfix := S.gfix
  sub := fun b o e => kk b o (S.sub b o e)
  base := S.base
  frame := let ⟨m, a⟩ := S.frame; ⟨m, a.keeps kk⟩
  fixL := S.fixL
  cells := fun n c hc => let ⟨⟨v, a⟩, b, d⟩ := S.cells n c hc; ⟨⟨v, a.keeps kk⟩, b, d⟩
  apart := S.apart
  imm := fun i x d hx hd => let ⟨v, a, b⟩ := S.imm i x d hx hd; ⟨v, a, b.grow kk⟩
  mtd := fun i x l hx hd => by
    obtain ⟨a, b⟩ := S.mtd i x l hx hd
    obtain ⟨vs, n, h1, h2⟩ := b.obj
    exact ⟨a.grow kk, ⟨⟨vs, n, kk _ _ h1, h2⟩, b.off, b.loc, b.cel⟩⟩
  inj := S.inj

/-- what a step leaves -/
structure After (g fix g' fix' : G) : Prop where
  gg : Sub g g'
  ff : Sub fix fix'
  new : ∀ b o, g' b = some o → g b = some o ∨ fix b = none
theorem Sub.none {g g' : G} (s : Sub g g') {b : Addr} (h : g' b = none) : g b = none := by
  cases q : g b with
  | none => rfl
  | some o => rw [s b o q] at h; cases h
theorem After.refl (g fix : G) : After g fix g fix := ⟨Sub.refl _, Sub.refl _, fun _ _ e => .inl e⟩
theorem After.trans {g fix g₁ fix₁ g₂ fix₂ : G} (x : After g fix g₁ fix₁) (y : After g₁ fix₁ g₂ fix₂) : After g fix g₂ fix₂ :=
  { gg := x.gg.trans y.gg, ff := x.ff.trans y.ff, new := fun b o e => by
      rcases y.new b o e with q | q
      · exact x.new b o q
      · exact .inr (x.ff.none q) }
theorem After.grow {g fix : G} {h h' : Heap} (sg : Sub g h.get?) (sf : Sub fix h.get?) : After g fix (ext g h h') (ext fix h h') :=
  { gg := ext_sub sg, ff := ext_sub sf,
    new := fun b o e => by
      cases q : h.get? b with
      | none => exact .inr (sf.none q)
      | some o' => rw [ext_old q] at e; exact .inl e }

theorem Ns.func {h : Heap} {a : Addr} {m m' : Str → Option Value} (x : h.Ns a m) (y : h.Ns a m') : m = m' := by
  obtain ⟨o, es, ep, h1, h2, _, h4⟩ := x
  obtain ⟨o', es', ep', h1', h2', _, h4'⟩ := y
  rw [h1] at h1'; cases h1'
  rw [h2] at h2'; cases h2'
  funext z; rw [← h4, ← h4']

/-- a name is stored: a change of one place -/
theorem SR.change (S : SR I env ns own g fix σ h) (nd : ns.Nodup) {h' : Heap} {i : Nat} {x : Str} {a : Addr} {sl : Slot} {own' : Nat → Addr} (hx : ns[i]? = some x) (hs : Heap.SameBut a h h') (hfa : fix a = none)
    (hfr : ∃ m, h'.Ns env.locals m) (hce : ∀ n c, env.cells.lookup n = some c → ∃ v, h'.IsCell c v)
    (hoth : ∀ y v, y ≠ x → Holds env h y v → Holds env h' y v)
    (hna : ∀ j l, σ[j]? = some (.mt l) → own j ≠ a)
    (ho : ∀ j, j ≠ i → own' j = own j)
    (himm : ∀ d, sl = .imm d → ∃ v, Is g d v ∧ Holds env h' x v) (hmut : ∀ l, sl = .mt l → Holds env h' x (.ref (own' i)) ∧ Owned env g fix h' (own' i) l ∧ ∀ j l', j ≠ i → σ[j]? = some (.mt l') → own j ≠ own' i) :
    SR I env ns own' g fix (σ.set i sl) h' ∧ After g fix g fix := by
  have sub' : Sub fix h'.get? := fun b o e => by
    have hb : b ≠ a := fun q => by rw [q, hfa] at e; cases e
    rw [hs.2 b hb]; exact S.sub b o e
  have idx : ∀ j y, j ≠ i → ns[j]? = some y → y ≠ x := fun j y hj hy q => by
    subst q
    obtain ⟨l1, e1⟩ := List.getElem?_eq_some_iff.mp hy
    obtain ⟨l2, e2⟩ := List.getElem?_eq_some_iff.mp hx
    exact hj ((List.getElem_inj nd).mp (e1.trans e2.symm))
  have hin : i < σ.length ∨ σ.length ≤ i := by omega
  refine ⟨⟨S.gfix, sub', S.base, hfr, S.fixL, fun n c hc => ⟨hce n c hc, (S.cells n c hc).2⟩, S.apart, fun j y d hy hd => ?_, fun j y l hy hd => ?_, fun j j' l l' hj hj' e => ?_⟩, After.refl _ _⟩
  · by_cases hj : j = i
    · subst hj
      rw [hx] at hy; cases hy
      rw [List.getElem?_set] at hd
      simp only [if_true] at hd
      split at hd
      · exact himm d (by simpa using hd)
      · cases hd
    · rw [List.getElem?_set_ne (Ne.symm hj)] at hd
      obtain ⟨v, p, q⟩ := S.imm j y d hy hd
      exact ⟨v, p, hoth y v (idx j y hj hy) q⟩
  · by_cases hj : j = i
    · subst hj
      rw [hx] at hy; cases hy
      rw [List.getElem?_set] at hd
      simp only [if_true] at hd
      split at hd
      · obtain ⟨p, q, _⟩ := hmut l (by simpa using hd)
        exact ⟨p, q⟩
      · cases hd
    · rw [List.getElem?_set_ne (Ne.symm hj)] at hd
      obtain ⟨p, q⟩ := S.mtd j y l hy hd
      obtain ⟨vs, n, h1, h2⟩ := q.obj
      rw [ho j hj]
      exact ⟨hoth y _ (idx j y hj hy) p, ⟨⟨vs, n, (hs.2 _ (hna j l hd)).trans h1, h2⟩, q.off, q.loc, q.cel⟩⟩
  · by_cases h1 : j = i
    · by_cases h2 : j' = i
      · rw [h1, h2]
      · exfalso
        subst h1
        rw [List.getElem?_set] at hj
        simp only [if_true] at hj
        split at hj
        · obtain ⟨_, _, r⟩ := hmut l (by simpa using hj)
          rw [List.getElem?_set_ne (Ne.symm h2)] at hj'
          exact r j' l' h2 hj' (by rw [← ho j' h2]; exact e.symm)
        · cases hj
    · by_cases h2 : j' = i
      · exfalso
        subst h2
        rw [List.getElem?_set] at hj'
        simp only [if_true] at hj'
        split at hj'
        · obtain ⟨_, _, r⟩ := hmut l' (by simpa using hj')
          rw [List.getElem?_set_ne (Ne.symm h1)] at hj
          exact r j l h1 hj (by rw [← ho j h1]; exact e)
        · cases hj'
      · rw [List.getElem?_set_ne (Ne.symm h1)] at hj
        rw [List.getElem?_set_ne (Ne.symm h2)] at hj'
        rw [ho j h1, ho j' h2] at e
        exact S.inj j j' l l' hj hj' e

/-- storeName, of a local or a cell -/
theorem SR.store {M : Model} {A : Around} {s : Shared} {E : Value → Shared → Prop} {Q : Unit → Shared → Prop} (S : SR I env ns own g fix σ s.heap) (nd : ns.Nodup) (hS : EnvS sc env) (hk : sc.kind = .function) {i : Nat} {x : Str} {v : Value} {sl : Slot} {own' : Nat → Addr} (hx : ns[i]? = some x)
    (hkind : sc.names.lookup x = some .local ∨ sc.names.lookup x = some .cell)
    (ho : ∀ j, j ≠ i → own' j = own j)
    (himm : ∀ d, sl = .imm d → Is g d v) (hmut : ∀ l, sl = .mt l → v = .ref (own' i) ∧ Owned env g fix s.heap (own' i) l ∧ ∀ j l', j ≠ i → σ[j]? = some (.mt l') → own j ≠ own' i)
    (hown : ∀ j l, σ[j]? = some (.mt l) → own j ≠ env.locals ∧ ∀ n c, env.cells.lookup n = some c → own j ≠ c)
    (hQ : ∀ h' tk, SR I env ns own' g fix (σ.set i sl) h' → After g fix g fix → Q () { s with heap := h', toks := tk }) : wpAny M A (storeName env x v) Q E s := by
  obtain ⟨m, hm⟩ := S.frame
  rcases hkind with hl | hc
  · have hl' : env.kindOf x = some .local := by unfold Env.kindOf; rw [hS.scope]; exact hl
    refine wpAny_storeName_local hl' hm (fun h' hn hs => ?_) (by rw [hS.scope, hk]; rfl)
    have cel' : ∀ n c w, env.cells.lookup n = some c → s.heap.IsCell c w → h'.IsCell c w := fun n c w hc hw => hw.sameBut hs (S.cells n c hc).2.2
    have hh : Holds env h' x v := .inl ⟨hl', _, hn, by simp⟩
    obtain ⟨a, b⟩ := S.change nd (h' := h') (sl := sl) (own' := own') hx hs S.fixL ⟨_, hn⟩ (fun n c hc => let ⟨⟨w, a⟩, _⟩ := S.cells n c hc; ⟨w, cel' n c w hc a⟩)
      (fun y w hy hw => by
        rcases hw with ⟨p, m', hm', q⟩ | ⟨p, c, hc, q⟩
        · rw [Ns.func hm' hm] at q
          exact .inl ⟨p, _, hn, by simp only [if_neg hy]; exact q⟩
        · exact .inr ⟨p, c, hc, cel' y c _ hc q⟩)
      (fun j l hj => (hown j l hj).1) ho (fun d hd => ⟨v, himm d hd, hh⟩)
      (fun l hl => by
        obtain ⟨p, q, r⟩ := hmut l hl
        obtain ⟨vs, n, h1, h2⟩ := q.obj
        exact ⟨p ▸ hh, ⟨⟨vs, n, (hs.2 _ q.loc).trans h1, h2⟩, q.off, q.loc, q.cel⟩, r⟩)
    exact hQ h' _ a b
  · have hc' : env.kindOf x = some .cell := by unfold Env.kindOf; rw [hS.scope]; exact hc
    obtain ⟨c, hcl⟩ := Option.isSome_iff_exists.mp (hS.cells x hc)
    obtain ⟨⟨w₀, hw₀⟩, hfc, hcL⟩ := S.cells x c hcl
    refine wpAny_storeName_cell (hS.scope ▸ hk) hc' hcl hw₀ fun h' hv hs => ?_
    have hn : h'.Ns env.locals m := hm.sameBut hs (Ne.symm hcL)
    have cel' : ∀ n c' w, n ≠ x → env.cells.lookup n = some c' → s.heap.IsCell c' w → h'.IsCell c' w := fun n c' w hne hc2 hw => hw.sameBut hs fun q => hne (S.apart n x c' hc2 (q ▸ hcl))
    have hh : Holds env h' x v := .inr ⟨hc', c, hcl, hv⟩
    obtain ⟨a, b⟩ := S.change nd (h' := h') (sl := sl) (own' := own') hx hs hfc ⟨_, hn⟩
      (fun n c' hc2 => by
        by_cases hne : n = x
        · subst hne; rw [hcl] at hc2; cases hc2; exact ⟨_, hv⟩
        · obtain ⟨⟨w, a⟩, _⟩ := S.cells n c' hc2; exact ⟨w, cel' n c' w hne hc2 a⟩)
      (fun y w hy hw => by
        rcases hw with ⟨p, m', hm', q⟩ | ⟨p, c', hc2, q⟩
        · exact .inl ⟨p, _, hm'.sameBut hs (Ne.symm hcL), q⟩
        · exact .inr ⟨p, c', hc2, cel' y c' _ hy hc2 q⟩)
      (fun j l hj => (hown j l hj).2 x c hcl) ho (fun d hd => ⟨v, himm d hd, hh⟩)
      (fun l hl => by
        obtain ⟨p, q, r⟩ := hmut l hl
        obtain ⟨vs, n, h1, h2⟩ := q.obj
        exact ⟨p ▸ hh, ⟨⟨vs, n, (hs.2 _ (q.cel x c hcl)).trans h1, h2⟩, q.off, q.loc, q.cel⟩, r⟩)
    exact hQ h' s.toks a b

end
end Mine
open PySem PySem.W PyProof.Rows PySem.Spec
set_option linter.unusedVariables false
set_option Elab.async false
set_option maxRecDepth 100000
namespace Mine

inductive Fl where
  | next
  | cont
  | ret (d : D)

noncomputable def FlOK (g fix : G) (h : Heap) : Fl → Flow → Prop
  | .next, f => f = .next
  | .cont, f => f = .cont
  | .ret d, f => ∃ v gR, f = .ret v ∧ Is gR d v ∧ Sub gR h.get? ∧ ∀ b o, gR b = some o → g b = some o ∨ fix b = none

noncomputable abbrev Run := Nat → St → Option (St × Fl)
noncomputable def RunOK (I : GI) (k : Nat) (sc : Scope) (ns : List Str) (t : Env → Sem Flow) (F : Run) : Prop :=
  ∀ (env : Env) (A : Around) (own : Nat → Addr) (g fix : G) (σ : St) (s : Shared) (fuel : Nat) (σ' : St) (fl : Fl) (Q : Flow → Shared → Prop) (E : Value → Shared → Prop),
    EnvS sc env → AOK k A → SR I env ns own g fix σ s.heap → F fuel σ = some (σ', fl) →
    (∀ own' g' fix' h' tk f, SR I env ns own' g' fix' σ' h' → After g fix g' fix' → FlOK g' fix' h' fl f → Q f { s with heap := h', toks := tk }) → wpAny (model I.prog I.w) A (t env) Q E s

structure ScS (sc : Scope) (ns : List Str) : Prop where
  kind : sc.kind = .function
  nd : ns.Nodup
  names : ∀ x ∈ ns, sc.names.lookup x = some .local ∨ sc.names.lookup x = some .cell

section
variable {I : GI} {k : Nat} {sc : Scope} {ns : List Str}

open Classical in
/-- the view that also sees the lists that are changed -/
noncomputable def gO (own : Nat → Addr) (g : G) (σ : St) (h : Heap) : G := fun b => if ∃ i l, σ[i]? = some (.mt l) ∧ own i = b then h.get? b else g b
section
variable {env : Env} {own : Nat → Addr} {g fix : G} {σ : St} {h : Heap}
theorem gO_in (S : SR I env ns own g fix σ h) : Sub (gO own g σ h) h.get? := fun b o e => by
  unfold gO at e
  split at e
  · exact e
  · exact S.sub b o (S.gfix b o e)
theorem gO_sub (S : SR I env ns own g fix σ h) (hl : σ.length ≤ ns.length) : Sub g (gO own g σ h) := fun b o e => by
  unfold gO
  split
  · exact S.sub b o (S.gfix b o e)
  · exact e
theorem gO_new (S : SR I env ns own g fix σ h) (hl : σ.length ≤ ns.length) : ∀ b o, gO own g σ h b = some o → g b = some o ∨ fix b = none := fun b o e => by
  unfold gO at e
  split at e
  · rename_i hx
    obtain ⟨i, l, hi, rfl⟩ := hx
    have hlt : i < ns.length := Nat.lt_of_lt_of_le (List.getElem?_eq_some_iff.mp hi).1 hl
    exact .inr (S.mtd i ns[i] l (List.getElem?_eq_getElem hlt) hi).2.off
  · exact .inl e
theorem SR.viewO (S : SR I env ns own g fix σ h) (hl : σ.length ≤ ns.length) : View I env ns (gO own g σ h) (rdF σ) h where
  sub := gO_in S
  gl := S.gl
  var := fun i x d hx _ hd => by
    rcases rdF_get hd with q | ⟨l, rfl, q⟩
    · obtain ⟨v, a, b⟩ := S.imm i x d hx q
      exact ⟨v, Is.mono (gO_sub S hl) d a, b⟩
    · obtain ⟨a, b⟩ := S.mtd i x l hx q
      obtain ⟨vs, n, h1, h2⟩ := b.obj
      have e : gO own g σ h (own i) = some (lobj vs n) := by
        unfold gO; rw [if_pos ⟨i, l, q, rfl⟩]; exact h1
      exact ⟨_, ⟨own i, _, vs, n, rfl, e, rfl, rfl, IsL.mono (gO_sub S hl) l h2⟩, a⟩
end

/-- execs -/
noncomputable def rNil : Run := fun _ σ => some (σ, .next)
noncomputable def rSeq (F Fs : Run) : Run := fun fuel σ => match F fuel σ with
  | some (σ₁, .next) => Fs fuel σ₁
  | r => r
theorem RunOK.nil : RunOK I k sc ns (execs []) rNil := by
  intro env A own g fix σ s fuel σ' fl Q E hS hA S hF P
  cases hF
  exact wpAny_execs_nil (P own g fix s.heap s.toks _ S (After.refl _ _) rfl)
theorem RunOK.cons {st : Stmt} {rest : List Stmt} {F Fs : Run} (h : RunOK I k sc ns (exec st) F) (hs : RunOK I k sc ns (execs rest) Fs) : RunOK I k sc ns (execs (st :: rest)) (rSeq F Fs) := by
  intro env A own g fix σ s fuel σ' fl Q E hS hA S hF P
  unfold rSeq at hF
  refine wpAny_execs_cons ?_
  split at hF
  · rename_i σ₁ h1
    refine h env A own g fix σ s fuel σ₁ .next _ E hS hA S h1 fun own₁ g₁ fix₁ h₁ tk₁ f S₁ A₁ hf => ?_
    rw [show f = .next from hf]
    exact hs env A own₁ g₁ fix₁ σ₁ _ fuel σ' fl Q E hS hA S₁ hF fun own₂ g₂ fix₂ h₂ tk₂ f₂ S₂ A₂ hf₂ => P own₂ g₂ fix₂ h₂ tk₂ f₂ S₂ (A₁.trans A₂) hf₂
  · rename_i hne
    refine h env A own g fix σ s fuel σ' fl _ E hS hA S hF fun own₁ g₁ fix₁ h₁ tk₁ f S₁ A₁ hf => ?_
    have q := P own₁ g₁ fix₁ h₁ tk₁ f S₁ A₁ hf
    cases fl with
    | next => exact absurd hF (hne σ')
    | cont => rw [show f = .cont from hf] at q ⊢; exact q
    | ret d => obtain ⟨v, gR, rfl, _⟩ := hf; exact q

/-- a value that may be kept: the changed lists are unseen, or it bears no reference -/
noncomputable def evS (F : Ev) (σ : St) : Option D := match F (rdH σ) with
  | some d => some d
  | none => match F (rdF σ) with
    | some d => if flat d = true then some d else none
    | none => none
theorem evS_ok {env : Env} {A : Around} {own : Nat → Addr} {g fix : G} {σ : St} {s : Shared} {e : Expr} {F : Ev} {d : D} {Q : Value → Shared → Prop} {E : Value → Shared → Prop} (hS : EnvS sc env) (hA : AOK k A)
    (S : SR I env ns own g fix σ s.heap) (h : EvOK I k sc ns e F) (hF : evS F σ = some d)
    (P : ∀ v h' tk, SR I env ns own (ext g s.heap h') (ext fix s.heap h') σ h' → After g fix (ext g s.heap h') (ext fix s.heap h') → Is (ext g s.heap h') d v → Q v { s with heap := h', toks := tk }) : wpAny (model I.prog I.w) A (eval e env) Q E s := by
  have go : ∀ {h' : Heap}, Grow s.heap h' → SR I env ns own (ext g s.heap h') (ext fix s.heap h') σ h' ∧ After g fix (ext g s.heap h') (ext fix s.heap h') := fun kk =>
    ⟨S.grow kk, After.grow (S.gfix.trans S.sub) S.sub⟩
  unfold evS at hF
  split at hF
  · rename_i d' hd
    cases hF
    exact h env A g (rdH σ) s d Q E hS hA S.viewH hd fun v h' tk kk hv => P v h' tk (go kk).1 (go kk).2 hv
  · split at hF
    · rename_i d' hd
      split at hF
      · rename_i hfl
        cases hF
        exact h env A _ (rdF σ) s d Q E hS hA S.viewF hd fun v h' tk kk hv => P v h' tk (go kk).1 (go kk).2 (hv.flat hfl)
      · cases hF
    · cases hF

theorem SR.ownOff {env : Env} {own : Nat → Addr} {g fix : G} {σ : St} {h : Heap} (S : SR I env ns own g fix σ h) (hl : σ.length ≤ ns.length) : ∀ j l, σ[j]? = some (.mt l) → own j ≠ env.locals ∧ ∀ n c, env.cells.lookup n = some c → own j ≠ c := fun j l hj => by
  have hlt : j < ns.length := Nat.lt_of_lt_of_le (List.getElem?_eq_some_iff.mp hj).1 hl
  have q := (S.mtd j ns[j] l (List.getElem?_eq_getElem hlt) hj).2
  exact ⟨q.loc, q.cel⟩

/-- a name is stored, an immutable datum -/
theorem store_imm {env : Env} {A : Around} {own : Nat → Addr} {g fix : G} {σ : St} {s : Shared} {x : Str} {i : Nat} {v : Value} {d : D} {Q : Unit → Shared → Prop} {E : Value → Shared → Prop} (hc : ScS sc ns) (hS : EnvS sc env)
    (S : SR I env ns own g fix σ s.heap) (hl : σ.length ≤ ns.length) (hx : ns[i]? = some x) (hd : Is g d v)
    (P : ∀ h' tk, SR I env ns own g fix (σ.set i (.imm d)) h' → Q () { s with heap := h', toks := tk }) : wpAny (model I.prog I.w) A (storeName env x v) Q E s :=
  S.store hc.nd hS hc.kind hx (hc.names x (List.mem_of_getElem? hx)) (fun _ _ => rfl) (fun d' e => by cases e; exact hd) (fun l e => by cases e) (S.ownOff hl) fun h' tk S' _ => P h' tk S'

noncomputable def rAsg (i : Nat) (F : Ev) : Run := fun _ σ => if σ.length ≤ i then none else match evS F σ with
  | some d => some (σ.set i (.imm d), .next)
  | none => none
/-- the frame's length holds on: a check that the reader makes -/
noncomputable def lenOk (n : Nat) (F : Run) : Run := fun fuel σ => if σ.length = n then F fuel σ else none

theorem RunOK.asg {x : Str} {px pos : Pos} {e : Expr} {i : Nat} {F : Ev} (hc : ScS sc ns) (hx : ns[i]? = some x) (h : EvOK I k sc ns e F) (hs : ∀ env, swapsWith e (some (.Name x px)) pos.line env = pure false) :
    RunOK I k sc ns (exec (.Assign [.Name x px] e pos)) (lenOk ns.length (rAsg i F)) := by
  intro env A own g fix σ s fuel σ' fl Q E hS hA S hF P
  unfold lenOk at hF
  split at hF
  · rename_i hlen
    unfold rAsg at hF
    split at hF
    · cases hF
    · split at hF
      · rename_i d hd
        cases hF
        refine wpAny_Assign_Name (evS_ok hS hA S h hd fun v h₁ tk₁ S₁ A₁ hv => ?_) (hs env)
        exact store_imm hc hS S₁ (Nat.le_of_eq hlen) hx hv fun h₂ tk₂ S₂ => P own _ _ h₂ tk₂ _ S₂ A₁ rfl
      · cases hF
  · cases hF

noncomputable def rRet (F : Ev) : Run := fun _ σ => match F (rdH σ) with
  | some d => some (σ, .ret d)
  | none => match F (rdF σ) with
    | some d => some (σ, .ret d)
    | none => none
theorem RunOK.ret {e : Expr} {pos : Pos} {F : Ev} (h : EvOK I k sc ns e F) : RunOK I k sc ns (exec (.Return (some e) pos)) (lenOk ns.length (rRet F)) := by
  intro env A own g fix σ s fuel σ' fl Q E hS hA S hF P
  unfold lenOk at hF
  split at hF
  · rename_i hlen
    unfold rRet at hF
    split at hF
    · rename_i d hd
      cases hF
      refine wpAny_Return_some (h env A g (rdH σ) s d _ E hS hA S.viewH hd fun v h' tk kk hv => ?_)
      have S' := S.grow kk
      exact P own _ _ h' tk _ S' (After.grow (S.gfix.trans S.sub) S.sub) ⟨v, _, rfl, hv, S'.gfix.trans S'.sub, fun b o e => .inl e⟩
    · split at hF
      · rename_i d hd
        cases hF
        have hl := Nat.le_of_eq hlen
        refine wpAny_Return_some (h env A _ (rdF σ) s d _ E hS hA (S.viewO hl) hd fun v h' tk kk hv => ?_)
        have S' := S.grow kk
        refine P own _ _ h' tk _ S' (After.grow (S.gfix.trans S.sub) S.sub) ⟨v, _, rfl, hv, ext_in (gO_in S) kk, fun b o e => ?_⟩
        cases q : s.heap.get? b with
        | none => rw [ext_new q] at e ⊢; exact .inl e
        | some o' =>
          rw [ext_old q] at e ⊢
          rcases gO_new S hl b o e with p | p
          · exact .inl p
          · exact .inr (by rw [ext_old q]; exact p)
      · cases hF
  · cases hF
theorem RunOK.cont {pos : Pos} : RunOK I k sc ns (exec (.Continue pos)) (fun _ σ => some (σ, .cont)) := by
  intro env A own g fix σ s fuel σ' fl Q E hS hA S hF P
  cases hF
  exact wpAny_Continue (P own g fix s.heap s.toks _ S (After.refl _ _) rfl)
noncomputable def rIf (T : Tr) (F F' : Run) : Run := fun fuel σ => match T (rdF σ) with
  | some true => F fuel σ
  | some false => F' fuel σ
  | none => none
theorem RunOK.ifS {test : Expr} {body orelse : List Stmt} {pos : Pos} {T : Tr} {F F' : Run} (ht : TrOK I k sc ns test T) (hb : RunOK I k sc ns (execs body) F) (ho : RunOK I k sc ns (execs orelse) F') :
    RunOK I k sc ns (exec (.If test body orelse pos)) (rIf T F F') := by
  intro env A own g fix σ s fuel σ' fl Q E hS hA S hF P
  unfold rIf at hF
  split at hF
  · rename_i hT
    refine wpAny_If (ht env A _ (rdF σ) s true _ E hS hA S.viewF hT fun h₁ tk₁ kk => ?_)
    exact hb env A own _ _ σ _ fuel σ' fl Q E hS hA (S.grow kk) hF fun own₂ g₂ fix₂ h₂ tk₂ f₂ S₂ A₂ hf₂ => P own₂ g₂ fix₂ h₂ tk₂ f₂ S₂ ((After.grow (S.gfix.trans S.sub) S.sub).trans A₂) hf₂
  · rename_i hT
    refine wpAny_If (ht env A _ (rdF σ) s false _ E hS hA S.viewF hT fun h₁ tk₁ kk => ?_)
    exact ho env A own _ _ σ _ fuel σ' fl Q E hS hA (S.grow kk) hF fun own₂ g₂ fix₂ h₂ tk₂ f₂ S₂ A₂ hf₂ => P own₂ g₂ fix₂ h₂ tk₂ f₂ S₂ ((After.grow (S.gfix.trans S.sub) S.sub).trans A₂) hf₂
  · cases hF

/-- while -/
noncomputable def whileL (T : Tr) (body : St → Option (St × Fl)) : Nat → St → Option (St × Fl)
  | 0, _ => none
  | n + 1, σ => match T (rdF σ) with
    | some true => (match body σ with
      | some (σ', .next) => whileL T body n σ'
      | some (σ', .cont) => whileL T body n σ'
      | some (σ', .ret d) => some (σ', .ret d)
      | none => none)
    | some false => some (σ, .next)
    | none => none
noncomputable def rWhile (T : Tr) (F : Run) : Run := fun fuel σ => whileL T (F fuel) fuel σ
theorem RunOK.whileS {test : Expr} {body : List Stmt} {pos : Pos} {T : Tr} {F : Run} (ht : TrOK I k sc ns test T) (hb : RunOK I k sc ns (execs body) F) : RunOK I k sc ns (exec (.While test body [] pos)) (rWhile T F) := by
  intro env A own g fix σ s fuel σ' fl Q E hS hA S hF P
  unfold rWhile at hF
  refine wpAny_While (codeAny_whileLoop (fun n s' => ∃ own₁ g₁ fix₁ σ₁ h₁ tk₁, s' = { s with heap := h₁, toks := tk₁ } ∧ SR I env ns own₁ g₁ fix₁ σ₁ h₁ ∧ After g fix g₁ fix₁ ∧ whileL T (F fuel) n σ₁ = some (σ', fl)) ?_ fuel
    ⟨own, g, fix, σ, s.heap, s.toks, rfl, S, After.refl _ _, hF⟩)
  rintro n s' ⟨own₁, g₁, fix₁, σ₁, h₁, tk₁, rfl, S₁, A₁, hW⟩
  cases n with
  | zero => cases hW
  | succ n =>
    unfold whileL at hW
    split at hW
    · rename_i hT
      refine ht env A _ (rdF σ₁) _ true _ _ hS hA S₁.viewF hT fun h₂ tk₂ kk => ?_
      have S₂ := S₁.grow kk
      have A₂ := A₁.trans (After.grow (S₁.gfix.trans S₁.sub) S₁.sub (h' := h₂))
      simp only [if_true]
      split at hW
      · rename_i σ₂ hB
        refine hb env A own₁ _ _ σ₁ _ fuel σ₂ .next _ _ hS hA S₂ hB fun own₃ g₃ fix₃ h₃ tk₃ f₃ S₃ A₃ hf₃ => ?_
        rw [show f₃ = .next from hf₃]
        exact ⟨n, Nat.lt_succ_self n, own₃, g₃, fix₃, σ₂, h₃, tk₃, rfl, S₃, A₂.trans A₃, hW⟩
      · rename_i σ₂ hB
        refine hb env A own₁ _ _ σ₁ _ fuel σ₂ .cont _ _ hS hA S₂ hB fun own₃ g₃ fix₃ h₃ tk₃ f₃ S₃ A₃ hf₃ => ?_
        rw [show f₃ = .cont from hf₃]
        exact ⟨n, Nat.lt_succ_self n, own₃, g₃, fix₃, σ₂, h₃, tk₃, rfl, S₃, A₂.trans A₃, hW⟩
      · rename_i σ₂ d hB
        cases hW
        refine hb env A own₁ _ _ σ₁ _ fuel _ (.ret d) _ _ hS hA S₂ hB fun own₃ g₃ fix₃ h₃ tk₃ f₃ S₃ A₃ hf₃ => ?_
        have q := P own₃ g₃ fix₃ h₃ tk₃ f₃ S₃ (A₂.trans A₃) hf₃
        obtain ⟨v, gR, rfl, _⟩ := hf₃
        exact q
      · cases hW
    · rename_i hT
      cases hW
      refine ht env A _ (rdF _) _ false _ _ hS hA S₁.viewF hT fun h₂ tk₂ kk => ?_
      simp only [Bool.false_eq_true, if_false]
      exact wpAny_execs_nil (P own₁ _ _ h₂ tk₂ _ (S₁.grow kk) (A₁.trans (After.grow (S₁.gfix.trans S₁.sub) S₁.sub)) rfl)
    · cases hW
end
end Mine
open PySem PySem.W PyProof.Rows PySem.Spec
set_option linter.unusedVariables false
set_option Elab.async false
set_option maxRecDepth 100000
namespace Mine
section
variable {I : GI} {k : Nat} {sc : Scope} {ns : List Str}

/-- x op= e, ints -/
noncomputable def IOpOK (I : GI) (k : Nat) (op : Operator) (f : D → D → Option D) : Prop :=
  ∀ (A : Around) (s : Shared) (g : G) (x y d : D) (u v : Value) (Q : Value → Shared → Prop) (E : Value → Shared → Prop),
    AOK k A → Is g x u → Is g y v → f x y = some d → (∀ v' tk, Is g d v' → Q v' { s with toks := tk }) → wpAny (model I.prog I.w) A (inplaceOp op u v) Q E s
noncomputable def fAddI : D → D → Option D
  | .int a, .int b => some (.int (a + b))
  | _, _ => none
theorem IOpOK.add : IOpOK I k .Add fAddI := by
  intro A s g x y d u v Q E hA hx hy hf P
  unfold fAddI at hf
  split at hf
  · obtain ⟨t, rfl⟩ := hx
    obtain ⟨t', rfl⟩ := hy
    cases hf
    exact PySem.P.iadd_int (P _ _ ⟨_, rfl⟩)
  · cases hf
theorem IOpOK.sub : IOpOK I k .Sub fSub := by
  intro A s g x y d u v Q E hA hx hy hf P
  unfold fSub at hf
  split at hf
  · obtain ⟨t, rfl⟩ := hx
    obtain ⟨t', rfl⟩ := hy
    cases hf
    exact PySem.P.isub_int (P _ _ ⟨_, rfl⟩)
  · cases hf
theorem IOpOK.mul : IOpOK I k .Mult fMul := by
  intro A s g x y d u v Q E hA hx hy hf P
  unfold fMul at hf
  split at hf
  · obtain ⟨t, rfl⟩ := hx
    obtain ⟨t', rfl⟩ := hy
    split at hf
    · rename_i hm
      cases hf
      exact PySem.P.imul_int (P _ _ ⟨_, rfl⟩) (mulOk_ok hm)
    · cases hf
  · cases hf
theorem IOpOK.div : IOpOK I k .FloorDiv fDiv := by
  intro A s g x y d u v Q E hA hx hy hf P
  unfold fDiv at hf
  split at hf
  · obtain ⟨t, rfl⟩ := hx
    obtain ⟨t', rfl⟩ := hy
    split at hf
    · rename_i hm
      cases hf
      simp only [divOk, Bool.and_eq_true, decide_eq_true_eq] at hm
      exact ifloordiv_int hm.1 (P _ _ ⟨_, rfl⟩) (.inl (PyProof.noPylong_of_log2 hm.2))
    · cases hf
  · cases hf
theorem IOpOK.mod : IOpOK I k .Mod fMod := by
  intro A s g x y d u v Q E hA hx hy hf P
  unfold fMod at hf
  split at hf
  · obtain ⟨t, rfl⟩ := hx
    obtain ⟨t', rfl⟩ := hy
    split at hf
    · rename_i hm
      cases hf
      exact imod_int hm (P _ _ ⟨_, rfl⟩)
    · cases hf
  · cases hf

theorem loadName_ok {env : Env} {A : Around} {s : Shared} {x : Str} {v : Value} {Q : Value → Shared → Prop} {E : Value → Shared → Prop} (hS : EnvS sc env) (hk : sc.kind = .function) (hv : Holds env s.heap x v) (q : Q v s) :
    wpAny (model I.prog I.w) A (loadName env x) Q E s := by
  rcases hv with ⟨hl, m, hn, hm⟩ | ⟨hl, c, hc, hv⟩
  · exact wpAny_loadName_local (hS.scope ▸ hk) hl hn hm q
  · exact wpAny_loadName_cell (hS.scope ▸ hk) hl hc hv q

noncomputable def rAug (i : Nat) (f : D → D → Option D) (F : Ev) : Run := fun _ σ => match σ[i]? with
  | some (.imm x) => (match evS F σ with
    | some y => (match f x y with
      | some z => some (σ.set i (.imm z), .next)
      | none => none)
    | none => none)
  | _ => none
theorem RunOK.aug {x : Str} {px pos : Pos} {op : Operator} {e : Expr} {i : Nat} {f : D → D → Option D} {F : Ev} (hc : ScS sc ns) (hx : ns[i]? = some x) (h : EvOK I k sc ns e F) (ho : IOpOK I k op f) :
    RunOK I k sc ns (exec (.AugAssign (.Name x px) op e pos)) (lenOk ns.length (rAug i f F)) := by
  intro env A own g fix σ s fuel σ' fl Q E hS hA S hF P
  unfold lenOk at hF
  split at hF
  · rename_i hlen
    unfold rAug at hF
    split at hF
    · rename_i xd hxd
      split at hF
      · rename_i y hy
        split at hF
        · rename_i z hz
          cases hF
          obtain ⟨vx, hi, hh⟩ := S.imm i x xd hx hxd
          refine wpAny_AugAssign_Name (loadName_ok hS hc.kind hh (evS_ok hS hA S h hy fun v h₁ tk₁ S₁ A₁ hv => ?_))
          refine ho A _ _ xd y z vx v _ E hA (Is.mono A₁.gg xd hi) hv hz fun v' tk₂ hv' => ?_
          exact store_imm (s := { s with heap := h₁, toks := tk₂ }) hc hS S₁ (Nat.le_of_eq hlen) hx hv' fun h₂ tk₂ S₂ => P own _ _ h₂ tk₂ _ S₂ A₁ rfl
        · cases hF
      · cases hF
    · cases hF
  · cases hF

/-- several names at once -/
inductive NamesAre : List Expr → List Str → Prop
  | nil : NamesAre [] []
  | cons {x : Str} {p : Pos} {r : List Expr} {xs : List Str} : NamesAre r xs → NamesAre (.Name x p :: r) (x :: xs)
noncomputable def setAll : List Nat → List D → St → St
  | i :: is, d :: ds, σ => setAll is ds (σ.set i (.imm d))
  | _, _, σ => σ
theorem storeAll {env : Env} {A : Around} {g fix : G} {own : Nat → Addr} {E : Value → Shared → Prop} (hc : ScS sc ns) (hS : EnvS sc env) (tgt : Str → Value → Sem Unit)
    (ht : ∀ x v s (Q : Unit → Shared → Prop), wpAny (model I.prog I.w) A (storeName env x v) Q E s → wpAny (model I.prog I.w) A (tgt x v) Q E s) :
    ∀ (xs : List Str) (is : List Nat) (ds : List D) (vs : List Value) (σ : St) (s : Shared) (Q : Unit → Shared → Prop), SR I env ns own g fix σ s.heap → σ.length ≤ ns.length → is.map (ns[·]?) = xs.map some → ds.length = is.length → IsL g ds vs →
      (∀ h' tk, SR I env ns own g fix (setAll is ds σ) h' → Q () { s with heap := h', toks := tk }) → wpAny (model I.prog I.w) A (assignInOrder (xs.map tgt) vs) Q E s
  | [], [], [], vs, σ, s, Q, S, hl, hx, hd, hv, P => by
    rw [show vs = [] from hv]
    exact wpAny_pure (P s.heap s.toks S)
  | [], _ :: _, _, _, _, _, _, _, _, hx, _, _, _ => by simp at hx
  | _ :: _, [], _, _, _, _, _, _, _, hx, _, _, _ => by simp at hx
  | [], [], _ :: _, _, _, _, _, _, _, _, hd, _, _ => by simp at hd
  | _ :: _, _ :: _, [], _, _, _, _, _, _, _, hd, _, _ => by simp at hd
  | x :: xs, i :: is, d :: ds, vs, σ, s, Q, S, hl, hx, hd, ⟨v, vs', e, hv, hvs⟩, P => by
    simp only [List.map_cons, List.cons.injEq] at hx
    rw [e, List.map_cons]
    show wpAny _ _ (do holding vs' (tgt x v); assignInOrder (xs.map tgt) vs') _ _ _
    refine wpAny_bind (wpAny_holding (ht x v s _ (store_imm hc hS S hl hx.1 hv fun h₁ tk₁ S₁ => ?_)))
    exact storeAll hc hS tgt ht xs is ds vs' _ _ Q S₁ (by rw [List.length_set]; exact hl) hx.2 (by simpa using hd) hvs fun h₂ tk₂ S₂ => P h₂ tk₂ S₂

theorem storeAllP {env : Env} {A : Around} {g fix : G} {own : Nat → Addr} {E : Value → Shared → Prop} (hc : ScS sc ns) (hS : EnvS sc env) :
    ∀ (ps : List (Str × Pos)) (is : List Nat) (ds : List D) (vs : List Value) (σ : St) (s : Shared) (Q : Unit → Shared → Prop), SR I env ns own g fix σ s.heap → σ.length ≤ ns.length → is.map (ns[·]?) = (ps.map (·.1)).map some → ds.length = is.length → IsL g ds vs →
      (∀ h' tk, SR I env ns own g fix (setAll is ds σ) h' → Q () { s with heap := h', toks := tk }) → wpAny (model I.prog I.w) A (assignInOrder (ps.map fun q => assign (.Name q.1 q.2) env) vs) Q E s
  | [], [], [], vs, σ, s, Q, S, hl, hx, hd, hv, P => by
    rw [show vs = [] from hv]
    exact wpAny_pure (P s.heap s.toks S)
  | [], _ :: _, _, _, _, _, _, _, _, hx, _, _, _ => by simp at hx
  | _ :: _, [], _, _, _, _, _, _, _, hx, _, _, _ => by simp at hx
  | [], [], _ :: _, _, _, _, _, _, _, _, hd, _, _ => by simp at hd
  | _ :: _, _ :: _, [], _, _, _, _, _, _, _, hd, _, _ => by simp at hd
  | q :: ps, i :: is, d :: ds, vs, σ, s, Q, S, hl, hx, hd, ⟨v, vs', e, hv, hvs⟩, P => by
    simp only [List.map_cons, List.cons.injEq] at hx
    rw [e, List.map_cons]
    show wpAny _ _ (do holding vs' (assign (.Name q.1 q.2) env v); assignInOrder (ps.map fun q => assign (.Name q.1 q.2) env) vs') _ _ _
    refine wpAny_bind (wpAny_holding (PyProof.Rows.assign_Name (store_imm hc hS S hl hx.1 hv fun h₁ tk₁ S₁ => ?_)))
    exact storeAllP hc hS ps is ds vs' _ _ Q S₁ (by rw [List.length_set]; exact hl) hx.2 (by simpa using hd) hvs fun h₂ tk₂ S₂ => P h₂ tk₂ S₂

noncomputable def rTup (is : List Nat) (rev : Bool) (F : Ev) : Run := fun _ σ => match evS F σ with
  | some (.tup ds) => if ds.length = is.length then some (if rev = true then setAll is.reverse ds.reverse σ else setAll is ds σ, .next) else none
  | _ => none

theorem assignEach_names {env : Env} : ∀ {elts : List Expr} {xs : List Str}, NamesAre elts xs → ∃ ps : List (Str × Pos), (assignEach elts env).map (·.2) = ps.map (fun q => assign (.Name q.1 q.2) env) ∧ ps.map (·.1) = xs ∧ (assignEach elts env).findIdx? (·.1) = none ∧ (assignEach elts env).length = xs.length
  | _, _, .nil => ⟨[], rfl, rfl, rfl, rfl⟩
  | _, _, .cons (x := x) (p := p) (r := r) h => by
    obtain ⟨ps, h1, h2, h3, h4⟩ := assignEach_names (env := env) h
    have e : assignEach (.Name x p :: r) env = (false, assign (.Name x p) env) :: assignEach r env := rfl
    refine ⟨(x, p) :: ps, ?_, by simp [h2], ?_, ?_⟩
    · rw [e, List.map_cons, h1]; rfl
    · rw [e, List.findIdx?_cons, h3]; rfl
    · rw [e, List.length_cons, h4]; rfl

theorem IsL.reverse {g : G} : ∀ {l : List D} {vs : List Value}, IsL g l vs → IsL g l.reverse vs.reverse
  | [], vs, h => by rw [show vs = [] from h]; rfl
  | d :: ds, _, ⟨v, vs', e, hv, h⟩ => by
    rw [e, List.reverse_cons, List.reverse_cons]
    exact IsL.append (IsL.reverse h) ⟨v, [], rfl, hv, rfl⟩

theorem RunOK.tupS {elts : List Expr} {kk : Nat} {tpos pos : Pos} {e : Expr} {xs : List Str} {is : List Nat} {F : Ev} (hc : ScS sc ns) (hn : NamesAre elts xs) (hx : is.map (ns[·]?) = xs.map some) (h : EvOK I k sc ns e F)
    (hs : ∀ env, swapsWithSole [.Tuple elts kk tpos] e pos.line env = pure false) (hw : ∀ env : Env, env.scope = sc → swappedStores [.Tuple elts kk tpos] e env = pure (some xs)) :
    RunOK I k sc ns (exec (.Assign [.Tuple elts kk tpos] e pos)) (lenOk ns.length (rTup is true F)) := by
  intro env A own g fix σ s fuel σ' fl Q E hS hA S hF P
  unfold lenOk at hF
  split at hF
  · rename_i hlen
    unfold rTup at hF
    split at hF
    · rename_i ds hds
      split at hF
      · rename_i hl
        simp only [if_true] at hF
        cases hF
        refine Assign_Tuple_swapped (evS_ok hS hA S h hds fun v h₁ tk₁ S₁ A₁ hv => ?_) (hs env) (hw env hS.scope)
        obtain ⟨a, vs, rfl, ht, hL⟩ := hv.isTup (S₁.gfix.trans S₁.sub)
        have el : xs.length = is.length := by have := congrArg List.length hx; simpa using this.symm
        have e1 := hL.length
        simp only [Array.length_toList] at e1
        have en : xs.length = vs.size := by omega
        rw [en]
        refine PyProof.Rows.unpackItems_tuple hA.1 ht fun h₂ he => ?_
        have kk2 : Grow h₁ h₂ := fun b o q => he b o (Nat.ne_of_lt (Heap.lt_size q)) q
        have S₂ := S₁.keep kk2
        refine storeAll hc hS (fun x v => bindName env x v) (fun x v s Q q => bindName_ q) xs.reverse is.reverse ds.reverse vs.toList.reverse σ _ _ S₂ (Nat.le_of_eq hlen) (by rw [List.map_reverse, List.map_reverse, hx]) (by simp [hl]) hL.reverse ?_
        exact fun h₃ tk₃ S₃ => P own _ _ h₃ tk₃ _ S₃ A₁ rfl
      · cases hF
    · cases hF
  · cases hF
theorem RunOK.tupP {elts : List Expr} {kk : Nat} {tpos pos : Pos} {e : Expr} {xs : List Str} {is : List Nat} {F : Ev} (hc : ScS sc ns) (hn : NamesAre elts xs) (hx : is.map (ns[·]?) = xs.map some) (h : EvOK I k sc ns e F)
    (hs : ∀ env, swapsWithSole [.Tuple elts kk tpos] e pos.line env = pure false) (hw : ∀ env : Env, env.scope = sc → swappedStores [.Tuple elts kk tpos] e env = pure none) :
    RunOK I k sc ns (exec (.Assign [.Tuple elts kk tpos] e pos)) (lenOk ns.length (rTup is false F)) := by
  intro env A own g fix σ s fuel σ' fl Q E hS hA S hF P
  unfold lenOk at hF
  split at hF
  · rename_i hlen
    unfold rTup at hF
    split at hF
    · rename_i ds hds
      split at hF
      · rename_i hl
        simp only [Bool.false_eq_true, if_false] at hF
        cases hF
        refine Assign_Tuple (evS_ok hS hA S h hds fun v h₁ tk₁ S₁ A₁ hv => ?_) (hs env) (hw env hS.scope)
        obtain ⟨a, vs, rfl, ht, hL⟩ := hv.isTup (S₁.gfix.trans S₁.sub)
        have el : xs.length = is.length := by have := congrArg List.length hx; simpa using this.symm
        have e1 := hL.length
        simp only [Array.length_toList] at e1
        have en : xs.length = vs.size := by omega
        obtain ⟨ps, q1, q2, q3, q4⟩ := assignEach_names (env := env) hn
        show wpAny _ _ (do standAt tpos; unpack (.ref a) (assignEach elts env)) _ _ _
        refine wpAny_bind (wpAny_standAt ?_)
        unfold unpack
        rw [q1, q3, q4, en]
        refine wpAny_bind (wpAny_holding (PyProof.Rows.unpackItems_tuple hA.1 ht fun h₂ he => ?_))
        have kk2 : Grow h₁ h₂ := fun b o q => he b o (Nat.ne_of_lt (Heap.lt_size q)) q
        have S₂ := S₁.keep kk2
        subst q2
        exact storeAllP hc hS ps is ds vs.toList σ _ _ S₂ (Nat.le_of_eq hlen) hx hl hL fun h₃ tk₃ S₃ => P own _ _ h₃ tk₃ _ S₃ A₁ rfl
      · cases hF
    · cases hF
  · cases hF
end
end Mine
open PySem PySem.W PyProof.Rows PySem.Spec
set_option linter.unusedVariables false
set_option Elab.async false
set_option maxRecDepth 100000
namespace Mine
section
variable {I : GI} {k : Nat} {sc : Scope} {ns : List Str}

/-- for; the frame's length is a check that the reader makes -/
noncomputable def forL (n j : Nat) (body : St → Option (St × Fl)) : List D → St → Option (St × Fl)
  | [], σ => some (σ, .next)
  | d :: ds, σ => if σ.length = n then (match body (σ.set j (.imm d)) with
    | some (σ', .next) => forL n j body ds σ'
    | some (σ', .cont) => forL n j body ds σ'
    | some (σ', .ret r) => some (σ', .ret r)
    | none => none) else none

noncomputable def isStr : D → Bool
  | .str _ => true
  | _ => false

noncomputable def fixI (fix : G) (h : Heap) (i : Addr) : G := fun b => if b = i then h.get? b else fix b
noncomputable def dropI (fix : G) (i : Addr) : G := fun b => if b = i then none else fix b

theorem SR.iterstep {env : Env} {own : Nat → Addr} {g fix : G} {σ : St} {h h₁ : Heap} {i : Addr} (S : SR I env ns own g fix σ h) (hk : ∀ b o, b ≠ i → h.get? b = some o → h₁.get? b = some o) (hf : fix i = none)
    (hL : env.locals ≠ i) (hC : ∀ n c, env.cells.lookup n = some c → c ≠ i) (hO : ∀ (j : Nat) (x : Str) (l : List D), ns[j]? = some x → σ[j]? = some (.mt l) → own j ≠ i) : SR I env ns own g (fixI fix h₁ i) σ h₁ := by
  have sf : Sub fix (fixI fix h₁ i) := fun b o e => by
    unfold fixI
    split
    · rename_i q; rw [q, hf] at e; cases e
    · exact e
  have none_ : ∀ b, b ≠ i → fix b = none → fixI fix h₁ i b = none := fun b hb e => by unfold fixI; rw [if_neg hb]; exact e
  have holds : ∀ x v, Holds env h x v → Holds env h₁ x v := fun x v hv => by
    rcases hv with ⟨p, m, ⟨o, es, ep, e, r⟩, q⟩ | ⟨p, c, hc, o, e, q⟩
    · exact .inl ⟨p, m, ⟨o, es, ep, hk _ _ hL e, r⟩, q⟩
    · exact .inr ⟨p, c, hc, o, hk _ _ (hC _ _ hc) e, q⟩
  exact {
    gfix := S.gfix.trans sf
    sub := fun b o e => by
      unfold fixI at e
      split at e
      · exact e
      · rename_i q; exact hk b o q (S.sub b o e)
    base := let ⟨h₀, a, b⟩ := S.base; ⟨h₀, a, b.trans sf⟩
    frame := let ⟨m, o, es, ep, e, r⟩ := S.frame; ⟨m, o, es, ep, hk _ _ hL e, r⟩
    fixL := none_ _ hL S.fixL
    cells := fun n c hc => let ⟨⟨v, o, e, q⟩, a, b⟩ := S.cells n c hc; ⟨⟨v, o, hk _ _ (hC _ _ hc) e, q⟩, none_ _ (hC _ _ hc) a, b⟩
    apart := S.apart
    imm := fun j x d hx hd => let ⟨v, a, b⟩ := S.imm j x d hx hd; ⟨v, a, holds x v b⟩
    mtd := fun j x l hx hd => by
      obtain ⟨a, b⟩ := S.mtd j x l hx hd
      obtain ⟨vs, n, h1, h2⟩ := b.obj
      have ho := hO j x l hx hd
      exact ⟨holds x _ a, ⟨⟨vs, n, hk _ _ ho h1, h2⟩, none_ _ ho b.off, b.loc, b.cel⟩⟩
    inj := S.inj }

theorem SR.drop {env : Env} {own : Nat → Addr} {g fix fix₀ : G} {σ : St} {h : Heap} {i : Addr} (S : SR I env ns own g fix σ h) (hg : g i = none) (h0 : ∃ h₀, I.Gl h₀ ∧ Sub h₀.get? fix₀) (hf : Sub fix₀ fix) (hi : fix₀ i = none) :
    SR I env ns own g (dropI fix i) σ h := by
  have none_ : ∀ b, fix b = none → dropI fix i b = none := fun b e => by
    unfold dropI; split
    · rfl
    · exact e
  have sub0 : Sub fix₀ (dropI fix i) := fun b o e => by
    unfold dropI
    split
    · rename_i q; rw [q, hi] at e; cases e
    · exact hf b o e
  exact {
    gfix := fun b o e => by
      unfold dropI
      split
      · rename_i q; rw [q, hg] at e; cases e
      · exact S.gfix b o e
    sub := fun b o e => by
      unfold dropI at e
      split at e
      · cases e
      · exact S.sub b o e
    base := let ⟨h₀, a, b⟩ := h0; ⟨h₀, a, b.trans sub0⟩
    frame := S.frame
    fixL := none_ _ S.fixL
    cells := fun n c hc => let ⟨a, b, d⟩ := S.cells n c hc; ⟨a, none_ _ b, d⟩
    apart := S.apart
    imm := S.imm
    mtd := fun j x l hx hd => let ⟨a, b⟩ := S.mtd j x l hx hd; ⟨a, ⟨b.obj, none_ _ b.off, b.loc, b.cel⟩⟩
    inj := S.inj }

/-- the loop itself, from an iterable's value on -/
theorem for_core {env : Env} {A : Around} {own : Nat → Addr} {g fix : G} {σ : St} {s : Shared} {fuel : Nat} {σ' : St} {fl : Fl} {Q : Flow → Shared → Prop} {E : Value → Shared → Prop} {x : Str} {px : Pos} {j : Nat} {body : List Stmt} {F : Run} {d : D} {xv : Value} {ds : List D} {n : Nat}
    (hc : ScS sc ns) (hx : ns[j]? = some x) (hb : RunOK I k sc ns (execs body) F) (hn : n = ns.length) (hS : EnvS sc env) (hA : AOK k A) (S : SR I env ns own g fix σ s.heap) (hv : Is g d xv) (hi : itemsOf d = some ds) (hne : isStr d = false)
    (hF : forL n j (F fuel) ds σ = some (σ', fl))
    (P : ∀ own' g' fix' h' tk f, SR I env ns own' g' fix' σ' h' → After g fix g' fix' → FlOK g' fix' h' fl f → Q f { s with heap := h', toks := tk }) :
    wpAny (model I.prog I.w) A (pyIter xv) (fun it s₂ => codeAny (model I.prog I.w) A (.forLoop (.Name x px) it body [] env) (fun r s' => match r with | .ok f => Q f s' | .error e => cameBackBy (model I.prog I.w) A env E e s') s₂) E s := by
  refine iter_ok hA.1 (S.gfix.trans S.sub) hv hi fun o fp Pr St₁ W hP hst hfp hlive => ?_
  generalize hI : s.heap.objs.size = It at *
  have hlive := hlive (fun y q => by rw [q] at hne; cases hne)
  have hnone : s.heap.get? It = none := by rw [← hI]; exact fresh_none _
  have gIt : g It = none := (S.gfix.trans S.sub).none hnone
  have fIt : fix It = none := S.sub.none hnone
  have hL0 : env.locals ≠ It := fun q => by
    obtain ⟨m, o', es, ep, e, r⟩ := S.frame
    rw [q, hnone] at e; cases e
  have hC0 : ∀ n c, env.cells.lookup n = some c → c ≠ It := fun n c hc q => by
    obtain ⟨⟨v, o', e, r⟩, _⟩ := S.cells n c hc
    rw [q, hnone] at e; cases e
  have hO0 : ∀ (j : Nat) (x : Str) (l : List D), ns[j]? = some x → σ[j]? = some (.mt l) → own j ≠ It := fun j x l hx hd q => by
    obtain ⟨_, b⟩ := S.mtd j x l hx hd
    obtain ⟨vs, n, h1, _⟩ := b.obj
    rw [q, hnone] at h1; cases h1
  have S0 : SR I env ns own g fix σ (s.heap.push o) := S.keep (Grow.push _ _)
  obtain ⟨h₀, gl₀, sub₀⟩ := S.base
  refine codeAny_forLoop (fun m s' => ∃ own₁ g₁ fix₁ σ₁ h₁ tk₁ i rest, s' = { s with heap := h₁, toks := tk₁ } ∧ SR I env ns own₁ g₁ fix₁ σ₁ h₁ ∧ After g fix g₁ fix₁ ∧ St₁ i h₁ ∧ fix₁ It = none ∧
      (∀ (j : Nat) (x : Str) (l : List D), ns[j]? = some x → σ₁[j]? = some (.mt l) → own₁ j ≠ It) ∧ ds = ds.take i ++ rest ∧ i ≤ ds.length ∧ rest = ds.drop i ∧ m = rest.length ∧ forL n j (F fuel) rest σ₁ = some (σ', fl)) ?_ ds.length
    ⟨own, g, fix, σ, _, s.toks, 0, ds, rfl, S0, After.refl _ _, hst, fIt, hO0, by simp, Nat.zero_le _, by simp, rfl, hF⟩
  rintro m s' ⟨own₁, g₁, fix₁, σ₁, h₁, tk₁, i, rest, rfl, S₁, A₁, hst₁, hf₁, hO₁, hds, hile, hrest, rfl, hW⟩
  cases hr : rest with
  | nil =>
    have hie : i = ds.length := by
      have := congrArg List.length hrest
      rw [hr, List.length_drop, List.length_nil] at this
      omega
    refine W.done _ _ _ (hie ▸ hst₁) fun h₂ tk₂ hk₂ => ?_
    have S₂ : SR I env ns own₁ g₁ (fixI fix₁ h₂ It) σ₁ h₂ := S₁.iterstep (fun b o' hb e => hk₂ b o' (by simpa using hb) e) hf₁ hL0 hC0 hO₁
    rw [hr] at hW
    simp only [forL, Option.some.injEq, Prod.mk.injEq] at hW
    obtain ⟨rfl, rfl⟩ := hW
    have sf : Sub fix₁ (fixI fix₁ h₂ It) := fun b o' e => by
      unfold fixI
      split
      · rename_i q; rw [q, hf₁] at e; cases e
      · exact e
    exact wpAny_execs_nil (P own₁ g₁ _ h₂ tk₂ _ S₂ (A₁.trans ⟨Sub.refl _, sf, fun _ _ e => .inl e⟩) rfl)
  | cons d' rest' =>
    have hlt : i < ds.length := by
      have := congrArg List.length hrest
      rw [hr, List.length_drop, List.length_cons] at this
      omega
    have hd' : ds[i]? = some d' := by
      have : (ds.drop i)[0]? = some d' := by rw [← hrest, hr]; rfl
      rw [List.getElem?_drop] at this
      simpa using this
    have hrest' : rest' = ds.drop (i + 1) := by
      have : rest' = (ds.drop i).drop 1 := by rw [← hrest, hr]; rfl
      rw [this, List.drop_drop]
    refine W.item i _ _ _ hlt hst₁ fun v h₂ tk₂ hPv hst₂ hk₂ => ?_
    have S₂ : SR I env ns own₁ g₁ (fixI fix₁ h₂ It) σ₁ h₂ := S₁.iterstep (fun b o' hb e => hk₂ b o' (by simpa using hb) e) hf₁ hL0 hC0 hO₁
    obtain ⟨xd, hxd, hI2⟩ := hP i v hPv
    rw [hd'] at hxd; cases hxd
    have sf : Sub fix₁ (fixI fix₁ h₂ It) := fun b o' e => by
      unfold fixI
      split
      · rename_i q; rw [q, hf₁] at e; cases e
      · exact e
    have hliv : ∃ o', fixI fix₁ h₂ It It = some o' := by
      have := hlive (i + 1) h₂ hst₂
      obtain ⟨o', e⟩ := Option.isSome_iff_exists.mp this
      exact ⟨o', by unfold fixI; rw [if_pos rfl]; exact e⟩
    rw [hr] at hW
    unfold forL at hW
    by_cases hlen₁ : σ₁.length = n
    case neg => rw [if_neg hlen₁] at hW; cases hW
    rw [if_pos hlen₁] at hW
    refine wpAny_assign_Name (store_imm (s := { s with heap := h₂, toks := tk₂ }) hc hS S₂ (by omega) hx (Is.mono A₁.gg d' hI2) fun h₃ tk₃ S₃ => ?_)
    have body : ∀ σ₄ fl₄ (Q' : Flow → Shared → Prop) (E' : Value → Shared → Prop), F fuel (σ₁.set j (.imm d')) = some (σ₄, fl₄) →
        (∀ own₄ g₄ fix₄ h₄ tk₄ f, SR I env ns own₄ g₄ fix₄ σ₄ h₄ → After g₁ (fixI fix₁ h₂ It) g₄ fix₄ → FlOK g₄ fix₄ h₄ fl₄ f → Q' f { s with heap := h₄, toks := tk₄ }) →
        wpAny (model I.prog I.w) A (execs body env) Q' E' { s with heap := h₃, toks := tk₃ } := fun σ₄ fl₄ Q' E' hq hQ => hb env A own₁ g₁ _ _ _ fuel σ₄ fl₄ Q' E' hS hA S₃ hq hQ
    have again : ∀ {own₄ g₄ fix₄ σ₄ h₄}, SR I env ns own₄ g₄ fix₄ σ₄ h₄ → After g₁ (fixI fix₁ h₂ It) g₄ fix₄ →
        SR I env ns own₄ g₄ (dropI fix₄ It) σ₄ h₄ ∧ After g fix g₄ (dropI fix₄ It) ∧ St₁ (i + 1) h₄ ∧ dropI fix₄ It It = none ∧ (∀ (j : Nat) (x : Str) (l : List D), ns[j]? = some x → σ₄[j]? = some (.mt l) → own₄ j ≠ It) := fun {own₄ g₄ fix₄ σ₄ h₄} S₄ A₄ => by
      obtain ⟨o', ho'⟩ := hliv
      have g4 : g₄ It = none := by
        cases q : g₄ It with
        | none => rfl
        | some o2 =>
          rcases A₄.new It o2 q with p | p
          · have := S₂.gfix.trans S₂.sub It o2 p
            have q1 : g₁ It = none := by
              cases q2 : g₁ It with
              | none => rfl
              | some o3 =>
                rcases A₁.new It o3 q2 with p3 | p3
                · rw [gIt] at p3; cases p3
                · have := S₁.gfix It o3 q2; rw [hf₁] at this; cases this
            rw [q1] at p; cases p
          · rw [ho'] at p; cases p
      refine ⟨S₄.drop (fix₀ := fix₁) g4 S₁.base (sf.trans A₄.ff) hf₁, ⟨A₁.gg.trans A₄.gg, ?_, ?_⟩, ?_, by unfold dropI; rw [if_pos rfl], fun j x l hx hd q => ?_⟩
      · intro b o2 e
        unfold dropI
        split
        · rename_i q; rw [q, fIt] at e; cases e
        · exact A₄.ff b o2 (sf b o2 (A₁.ff b o2 e))
      · intro b o2 e
        rcases A₄.new b o2 e with p | p
        · exact A₁.new b o2 p
        · exact .inr (A₁.ff.none (sf.none p))
      · refine W.frame (i + 1) h₂ h₄ hst₂ fun b hb o2 e => ?_
        have e' : fixI fix₁ h₂ It b = some o2 := by
          unfold fixI
          split
          · exact e
          · rename_i hbI
            rcases hfp b hb with q | q
            · exact absurd q hbI
            · obtain ⟨o3, q⟩ := Option.isSome_iff_exists.mp q
              have := A₁.ff b o3 (S.gfix b o3 q)
              have q2 := S₂.sub b o3 (sf b o3 this)
              rw [e] at q2; cases q2
              exact this
        exact S₄.sub b o2 (A₄.ff b o2 e')
      · have := (S₄.mtd j x l hx hd).2.off
        rw [q] at this
        have := A₄.ff.none this
        rw [ho'] at this; cases this
    split at hW
    · rename_i σ₄ hq
      refine body σ₄ .next _ _ hq fun own₄ g₄ fix₄ h₄ tk₄ f S₄ A₄ hf => ?_
      rw [show f = .next from hf]
      obtain ⟨a1, a2, a3, a4, a5⟩ := again S₄ A₄
      exact ⟨rest'.length, by simp, own₄, g₄, _, σ₄, h₄, tk₄, i + 1, rest', rfl, a1, a2, a3, a4, a5, by rw [hrest', List.take_append_drop], hlt, hrest', rfl, hW⟩
    · rename_i σ₄ hq
      refine body σ₄ .cont _ _ hq fun own₄ g₄ fix₄ h₄ tk₄ f S₄ A₄ hf => ?_
      rw [show f = .cont from hf]
      obtain ⟨a1, a2, a3, a4, a5⟩ := again S₄ A₄
      exact ⟨rest'.length, by simp, own₄, g₄, _, σ₄, h₄, tk₄, i + 1, rest', rfl, a1, a2, a3, a4, a5, by rw [hrest', List.take_append_drop], hlt, hrest', rfl, hW⟩
    · rename_i σ₄ dr hq
      cases hW
      refine body _ (.ret dr) _ _ hq fun own₄ g₄ fix₄ h₄ tk₄ f S₄ A₄ hf => ?_
      obtain ⟨a1, a2, a3, a4, a5⟩ := again S₄ A₄
      have q := P own₄ g₄ _ h₄ tk₄ f S₄ (A₁.trans (After.trans ⟨Sub.refl _, sf, fun _ _ e => .inl e⟩ A₄)) hf
      obtain ⟨v', gR, rfl, _⟩ := hf
      exact q
    · cases hW

noncomputable def rFor (n j : Nat) (F : Ev) (B : Run) : Run := fun fuel σ => match F (rdH σ) with
  | some d => if isStr d = true then none else (match itemsOf d with
    | some ds => forL n j (B fuel) ds σ
    | none => none)
  | none => none
theorem RunOK.forS {x : Str} {px pos : Pos} {e : Expr} {j : Nat} {body : List Stmt} {F : Ev} {B : Run} (hc : ScS sc ns) (hx : ns[j]? = some x) (he : EvOK I k sc ns e F) (hb : RunOK I k sc ns (execs body) B) (hs : ∀ env x, foldedSetIterable e env x = pure x) :
    RunOK I k sc ns (exec (.For (.Name x px) e body [] pos)) (rFor ns.length j F B) := by
  intro env A own g fix σ s fuel σ' fl Q E hS hA S hF P
  unfold rFor at hF
  split at hF
  · rename_i d hd
    split at hF
    · cases hF
    · rename_i hns
      split at hF
      · rename_i ds hds
        refine wpAny_For (he env A g (rdH σ) s d _ E hS hA S.viewH hd fun v h₁ tk₁ kk hv => ?_) (hs env)
        have A₁ := After.grow (S.gfix.trans S.sub) S.sub (h' := h₁)
        exact for_core (s := { s with heap := h₁, toks := tk₁ }) hc hx hb rfl hS hA (S.grow kk) hv hds (by simpa using hns) hF fun own₂ g₂ fix₂ h₂ tk₂ f₂ S₂ A₂ hf₂ => P own₂ g₂ fix₂ h₂ tk₂ f₂ S₂ (A₁.trans A₂) hf₂
      · cases hF
  · cases hF

/-- a changed list that is gone through: from here on it is not changed any more -/
theorem SR.freeze {env : Env} {own : Nat → Addr} {g fix : G} {σ : St} {h : Heap} {i : Nat} {x : Str} {l : List D} (S : SR I env ns own g fix σ h) (hl : σ.length ≤ ns.length) (hx : ns[i]? = some x) (hi : σ[i]? = some (.mt l)) :
    ∃ g' fix', SR I env ns own g' fix' (σ.set i (.imm (.lst l))) h ∧ After g fix g' fix' ∧ Is g' (.lst l) (.ref (own i)) ∧ Holds env h x (.ref (own i)) := by
  obtain ⟨hh, ho⟩ := S.mtd i x l hx hi
  obtain ⟨vs, n, h1, h2⟩ := ho.obj
  have gi : g (own i) = none := S.gfix.none ho.off
  let up : G → G := fun f b => if b = own i then h.get? b else f b
  have sg : ∀ {f : G}, f (own i) = none → Sub f (up f) := fun {f} hf b o e => by
    show (if b = own i then _ else _) = _
    split
    · rename_i q; rw [q, hf] at e; cases e
    · exact e
  have none_ : ∀ b, b ≠ own i → fix b = none → up fix b = none := fun b hb e => by
    show (if b = own i then _ else _) = _
    rw [if_neg hb]; exact e
  have hI : Is (up g) (.lst l) (.ref (own i)) := ⟨own i, _, vs, n, rfl, by show (if own i = own i then _ else _) = _; rw [if_pos rfl]; exact h1, rfl, rfl, IsL.mono (sg gi) l h2⟩
  have hset : ∀ (j : Nat) (sl : Slot), j ≠ i → (σ.set i (.imm (.lst l)))[j]? = some sl → σ[j]? = some sl := fun j sl hj e => by rwa [List.getElem?_set_ne (Ne.symm hj)] at e
  have hself : ∀ (l' : List D), (σ.set i (.imm (.lst l)))[i]? ≠ some (.mt l') := fun l' e => by
    rw [List.getElem?_set] at e
    simp only [if_true] at e
    split at e <;> cases e
  refine ⟨up g, up fix, ?_, ⟨sg gi, sg ho.off, fun b o e => ?_⟩, hI, hh⟩
  · exact {
      gfix := fun b o e => by
        change (if b = own i then _ else _) = _ at e
        show (if b = own i then _ else _) = _
        split at e
        · rename_i q; rw [if_pos q]; exact e
        · rename_i q; rw [if_neg q]; exact S.gfix b o e
      sub := fun b o e => by
        change (if b = own i then _ else _) = _ at e
        split at e
        · exact e
        · exact S.sub b o e
      base := let ⟨h₀, a, b⟩ := S.base; ⟨h₀, a, b.trans (sg ho.off)⟩
      frame := S.frame
      fixL := none_ _ (Ne.symm ho.loc) S.fixL
      cells := fun n c hc => let ⟨a, b, d⟩ := S.cells n c hc; ⟨a, none_ _ (Ne.symm (ho.cel n c hc)) b, d⟩
      apart := S.apart
      imm := fun j y d hy hd => by
        by_cases hj : j = i
        · subst hj
          rw [hx] at hy; cases hy
          rw [List.getElem?_set] at hd
          simp only [if_true] at hd
          split at hd
          · simp only [Option.some.injEq, Slot.imm.injEq] at hd
            subst hd
            exact ⟨_, hI, hh⟩
          · cases hd
        · obtain ⟨v, a, b⟩ := S.imm j y d hy (hset j _ hj hd)
          exact ⟨v, Is.mono (sg gi) d a, b⟩
      mtd := fun j y l' hy hd => by
        by_cases hj : j = i
        · subst hj; exact absurd hd (hself l')
        · have hd' := hset j _ hj hd
          obtain ⟨a, b⟩ := S.mtd j y l' hy hd'
          obtain ⟨vs', n', h1', h2'⟩ := b.obj
          have hne : own j ≠ own i := fun q => hj (S.inj j i l' l hd' hi q)
          exact ⟨a, ⟨⟨vs', n', h1', IsL.mono (sg gi) l' h2'⟩, none_ _ hne b.off, b.loc, b.cel⟩⟩
      inj := fun j j' l1 l2 h1 h2 e => by
        by_cases hj : j = i
        · subst hj; exact absurd h1 (hself l1)
        · by_cases hj' : j' = i
          · subst hj'; exact absurd h2 (hself l2)
          · exact S.inj j j' l1 l2 (hset j _ hj h1) (hset j' _ hj' h2) e }
  · change (if b = own i then _ else _) = _ at e
    split at e
    · rename_i q; rw [q]; exact .inr ho.off
    · exact .inl e

noncomputable def rForM (n j i : Nat) (B : Run) : Run := fun fuel σ => if σ.length = n then (match σ[i]? with
  | some (.mt l) => if l.length ≤ sizeLine then forL n j (B fuel) l (σ.set i (.imm (.lst l))) else none
  | _ => none) else none
theorem RunOK.forM {x y : Str} {px py pos : Pos} {i j : Nat} {body : List Stmt} {B : Run} (hc : ScS sc ns) (hx : ns[j]? = some x) (hy : ns[i]? = some y) (hd : (y == ("__debug__" : Str)) = false) (hb : RunOK I k sc ns (execs body) B)
    (hs : ∀ env x, foldedSetIterable (.Name y py) env x = pure x) :
    RunOK I k sc ns (exec (.For (.Name x px) (.Name y py) body [] pos)) (rForM ns.length j i B) := by
  intro env A own g fix σ s fuel σ' fl Q E hS hA S hF P
  unfold rForM at hF
  split at hF
  · rename_i hlen
    split at hF
    · rename_i l hl
      split at hF
      · rename_i hz
        obtain ⟨g', fix', S', A', hI, hh⟩ := S.freeze (Nat.le_of_eq hlen) hy hl
        refine wpAny_For (wpAny_Name (loadName_ok hS hc.kind hh ?_) hd) (hs env)
        have hi : itemsOf (.lst l) = some l := by simp only [itemsOf, if_pos hz]
        exact for_core hc hx hb rfl hS hA S' hI hi rfl hF fun own₂ g₂ fix₂ h₂ tk₂ f₂ S₂ A₂ hf₂ => P own₂ g₂ fix₂ h₂ tk₂ f₂ S₂ (A'.trans A₂) hf₂
      · cases hF
    · cases hF
  · cases hF
end
end Mine
open PySem PySem.W PyProof.Rows PySem.Spec
set_option linter.unusedVariables false
set_option Elab.async false
set_option maxRecDepth 100000
namespace Mine
section
variable {I : GI} {k : Nat} {sc : Scope} {ns : List Str}

/-- chains of two comparisons -/
noncomputable def e3c (f f' : D → D → Option D) (F G H : Ev) : Ev := fun r => match F r with
  | some x => (match G r with
    | some y => (match f x y with
      | some c => (match fTruth c with
        | some true => (match H r with
          | some z => f' y z
          | none => none)
        | some false => some c
        | none => none)
      | none => none)
    | none => none)
  | none => none
theorem TrOK.chain {l m r : Expr} {op op' : CmpOp} {pos : Pos} {F G H : Ev} {f f' : D → D → Option D} (hl : EvOK I k sc ns l F) (hm : EvOK I k sc ns m G) (hr : EvOK I k sc ns r H) (ho : OpOK I k (compareOp op) f) (ho' : OpOK I k (compareOp op') f')
    (he : lastMarks [op, op'] [m, r] = false) : TrOK I k sc ns (.Compare l [op, op'] [m, r] pos) (tOf (e3c f f' F G H)) := by
  intro env A g rr s b Q E hS hA V hF P
  unfold tOf at hF
  split at hF
  · rename_i d hd
    unfold e3c at hd
    split at hd
    · rename_i x hx
      split at hd
      · rename_i y hy
        split at hd
        · rename_i c hc
          refine isTrue_chain (hl env A g rr s x _ E hS hA V hx fun u h₁ tk₁ k₁ hu => ?_) he
          have V₁ := V.grow k₁
          refine test_link (hm env A _ rr _ y _ E hS hA V₁ hy fun v h₂ tk₂ k₂ hv => ?_)
          have V₂ := V₁.grow k₂
          refine ho A _ _ x y c u v _ E hA V₂.sub V₂.gl (Is.mono (ext_sub V₁.sub) x hu) hv hc fun w h₃ tk₃ k₃ hw => ?_
          have V₃ := V₂.grow k₃
          split at hd
          · rename_i ht
            split at hd
            · rename_i z hz
              refine truth_ok (s := { s with heap := h₃, toks := tk₃ }) V₃.sub hw ht fun tk => ?_
              simp only [if_true]
              refine test_last (hr env A _ rr _ z _ E hS hA V₃ hz fun v' h₄ tk₄ k₄ hv' => ?_)
              have V₄ := V₃.grow k₄
              refine ho' A _ _ y z d v v' _ E hA V₄.sub V₄.gl (Is.mono (ext_sub V₃.sub) y (Is.mono (ext_sub V₂.sub) y hv)) hv' hd fun w' h₅ tk₅ k₅ hw' => ?_
              exact truth_ok (s := { s with heap := h₅, toks := tk₅ }) (V₄.grow k₅).sub hw' hF fun tk => P _ _ ((((k₁.trans k₂).trans k₃).trans k₄).trans k₅)
            · cases hd
          · rename_i ht
            cases hd
            rw [ht] at hF
            cases hF
            refine truth_ok (s := { s with heap := h₃, toks := tk₃ }) V₃.sub hw ht fun tk => ?_
            simp only [Bool.false_eq_true, if_false]
            exact P _ _ ((k₁.trans k₂).trans k₃)
          · cases hd
        · cases hd
      · cases hd
    · cases hd
  · cases hF

/-- a new list that will be changed -/
theorem store_new {env : Env} {A : Around} {own : Nat → Addr} {g fix : G} {σ : St} {s : Shared} {x : Str} {i : Nat} {vs : Array Value} {l : List D} {Q : Unit → Shared → Prop} {E : Value → Shared → Prop} (hc : ScS sc ns) (hS : EnvS sc env)
    (S : SR I env ns own g fix σ s.heap) (hl : σ.length ≤ ns.length) (hx : ns[i]? = some x) (hd : IsL g l vs.toList)
    (P : ∀ own' h' tk, SR I env ns own' g fix (σ.set i (.mt l)) h' → Q () { s with heap := h', toks := tk }) :
    wpAny (model I.prog I.w) A (storeName env x (.ref s.heap.objs.size)) Q E { s with heap := s.heap.push (lobj vs 0) } := by
  have kk : Grow s.heap (s.heap.push (lobj vs 0)) := Grow.push _ _
  have S₁ := S.keep kk
  have hn := fresh_none s.heap
  have hlt : ∀ {b : Addr} {o : Obj}, s.heap.get? b = some o → b ≠ s.heap.objs.size := fun e q => by rw [q, hn] at e; cases e
  have hown : ∀ j l', σ[j]? = some (.mt l') → own j ≠ s.heap.objs.size := fun j l' hj => by
    have hlt' : j < ns.length := Nat.lt_of_lt_of_le (List.getElem?_eq_some_iff.mp hj).1 hl
    obtain ⟨vs', n', h1, _⟩ := (S.mtd j ns[j] l' (List.getElem?_eq_getElem hlt') hj).2.obj
    exact hlt h1
  refine S₁.store (s := { s with heap := s.heap.push (lobj vs 0) }) hc.nd hS hc.kind (sl := .mt l) (own' := fun j => if j = i then s.heap.objs.size else own j) hx (hc.names x (List.mem_of_getElem? hx)) (fun j hj => by simp only [if_neg hj]) (fun d e => by cases e) (fun l' e => ?_) (S₁.ownOff hl) fun h' tk S' _ => P _ h' tk S'
  cases e
  show _ = Value.ref (if i = i then _ else _) ∧ Owned _ _ _ _ (if i = i then _ else _) _ ∧ (∀ j l', _ → _ → own j ≠ (if i = i then _ else _))
  rw [if_pos rfl]
  refine ⟨rfl, ⟨⟨vs, 0, Heap.get?_push_size _ rfl, hd⟩, S.sub.none hn, fun q => ?_, fun n c hc q => ?_⟩, fun j l' _ hj => hown j l' hj⟩
  · obtain ⟨m, o, _, _, e, _⟩ := S.frame
    exact hlt e q.symm
  · obtain ⟨⟨v, o, e, _⟩, _⟩ := S.cells n c hc
    exact hlt e q.symm

/-- x = [..], a list that will be changed -/
noncomputable def evsS (Fs : Evs) (σ : St) : Option (List D) := Fs (rdH σ)
noncomputable def rNew (i : Nat) (Fs : Evs) : Run := fun _ σ => match evsS Fs σ with
  | some ds => if ds.length ≤ sizeLine then some (σ.set i (.mt ds), .next) else none
  | none => none
theorem RunOK.new {x : Str} {px pos lpos : Pos} {es : List Expr} {i : Nat} {Fs : Evs} (hc : ScS sc ns) (hx : ns[i]? = some x) (h : EvsOK I k sc ns es Fs) (hs : ∀ env, swapsWith (.List es lpos) (some (.Name x px)) pos.line env = pure false) :
    RunOK I k sc ns (exec (.Assign [.Name x px] (.List es lpos) pos)) (lenOk ns.length (rNew i Fs)) := by
  intro env A own g fix σ s fuel σ' fl Q E hS hA S hF P
  unfold lenOk at hF
  split at hF
  · rename_i hlen
    unfold rNew at hF
    split at hF
    · rename_i ds hds
      split at hF
      · rename_i hz
        cases hF
        refine wpAny_Assign_Name (wpAny_List (h env A g (rdH σ) s ds lpos _ E hS hA S.viewH hds fun vs h₁ tk₁ kk hvs => ⟨by rw [hvs.length]; exact hz, ?_⟩)) (hs env)
        exact store_new (s := { s with heap := h₁, toks := tk₁ }) (vs := vs.toArray) hc hS (S.grow kk) (Nat.le_of_eq hlen) hx (by simpa using hvs) fun own' h₂ tk₂ S₂ => P own' _ _ h₂ tk₂ _ S₂ (After.grow (S.gfix.trans S.sub) S.sub) rfl
      · cases hF
    · cases hF
  · cases hF

end
end Mine
open PySem PySem.W PyProof.Rows PySem.Spec
set_option linter.unusedVariables false
set_option Elab.async false
set_option maxRecDepth 100000
namespace Mine
section
variable {I : GI} {k : Nat} {sc : Scope} {ns : List Str}

theorem SR.mutate {env : Env} {own : Nat → Addr} {g fix : G} {σ : St} {h h' : Heap} {i : Nat} {x : Str} {l l' : List D} {vs' : Array Value} {n' : Nat} (S : SR I env ns own g fix σ h) (hl : σ.length ≤ ns.length) (hx : ns[i]? = some x) (hi : σ[i]? = some (.mt l))
    (hs : Heap.SameBut (own i) h h') (ho : h'.get? (own i) = some (lobj vs' n')) (hL : IsL g l' vs'.toList) : SR I env ns own g fix (σ.set i (.mt l')) h' := by
  obtain ⟨hh, hO⟩ := S.mtd i x l hx hi
  have keep : ∀ b o, b ≠ own i → h.get? b = some o → h'.get? b = some o := fun b o hb e => (hs.2 b hb).trans e
  have holds : ∀ z v, Holds env h z v → Holds env h' z v := fun z v hv => by
    rcases hv with ⟨p, m, ⟨o, es, ep, e, r⟩, q⟩ | ⟨p, c, hc, o, e, q⟩
    · exact .inl ⟨p, m, ⟨o, es, ep, keep _ _ (Ne.symm hO.loc) e, r⟩, q⟩
    · exact .inr ⟨p, c, hc, o, keep _ _ (Ne.symm (hO.cel z c hc)) e, q⟩
  have set_ne : ∀ (j : Nat) (s' : Slot), j ≠ i → (σ.set i (.mt l'))[j]? = some s' → σ[j]? = some s' := fun j s' hj e => by rwa [List.getElem?_set_ne (Ne.symm hj)] at e
  have set_eq : ∀ (s' : Slot), (σ.set i (.mt l'))[i]? = some s' → s' = .mt l' := fun s' e => by
    rw [List.getElem?_set] at e
    simp only [if_true] at e
    split at e
    · exact (Option.some.inj e).symm
    · cases e
  have back : ∀ (j : Nat) (l1 : List D), (σ.set i (.mt l'))[j]? = some (.mt l1) → ∃ l2, σ[j]? = some (.mt l2) := fun j l1 e => by
    by_cases hj : j = i
    · exact ⟨l, by rw [hj]; exact hi⟩
    · exact ⟨l1, set_ne j _ hj e⟩
  exact {
    gfix := S.gfix
    sub := fun b o e => keep b o (fun q => by rw [q, hO.off] at e; cases e) (S.sub b o e)
    base := S.base
    frame := let ⟨m, o, es, ep, e, r⟩ := S.frame; ⟨m, o, es, ep, keep _ _ (Ne.symm hO.loc) e, r⟩
    fixL := S.fixL
    cells := fun n c hc => let ⟨⟨v, o, e, q⟩, a, b⟩ := S.cells n c hc; ⟨⟨v, o, keep _ _ (Ne.symm (hO.cel n c hc)) e, q⟩, a, b⟩
    apart := S.apart
    imm := fun j z d hz hd => by
      by_cases hj : j = i
      · subst hj; have := set_eq _ hd; cases this
      · obtain ⟨v, a, b⟩ := S.imm j z d hz (set_ne j _ hj hd)
        exact ⟨v, a, holds z v b⟩
    mtd := fun j z l1 hz hd => by
      by_cases hj : j = i
      · subst hj
        rw [hx] at hz; cases hz
        have := set_eq _ hd; cases this
        exact ⟨holds _ _ hh, ⟨⟨vs', n', ho, hL⟩, hO.off, hO.loc, hO.cel⟩⟩
      · have hd' := set_ne j _ hj hd
        obtain ⟨a, b⟩ := S.mtd j z l1 hz hd'
        obtain ⟨vs, n, p1, p2⟩ := b.obj
        exact ⟨holds _ _ a, ⟨⟨vs, n, keep _ _ (fun q => hj (S.inj j i l1 l hd' hi q)) p1, p2⟩, b.off, b.loc, b.cel⟩⟩
    inj := fun j j' l1 l2 p p' e => by
      obtain ⟨m1, q1⟩ := back j l1 p
      obtain ⟨m2, q2⟩ := back j' l2 p'
      exact S.inj j j' m1 m2 q1 q2 e }

noncomputable def rApp (i : Nat) (F : Ev) : Run := fun _ σ => match σ[i]? with
  | some (.mt l) => if l.length ≤ sizeLine then (match evS F σ with
    | some d => some (σ.set i (.mt (l ++ [d])), .next)
    | none => none) else none
  | _ => none
theorem interactive_fun {env : Env} (hS : EnvS sc env) (hk : sc.kind = .function) : interactive env = false := by
  unfold interactive
  rw [hS.scope, hk]; rfl
theorem RunOK.app {x : Str} {px apos cpos pos : Pos} {i : Nat} {e : Expr} {F : Ev} {pl : Env → Sem Bool} (hc : ScS sc ns) (hx : ns[i]? = some x) (hd : (x == ("__debug__" : Str)) = false) (h : EvOK I k sc ns e F)
    (hst : ∀ env, starEach [e] env = (false, eval e env) :: starEach [] env)
    (he : ∀ env, eval (.Call (.Attribute (.Name x px) "append" apos) [e] [] cpos) env = (do
      let ov ← eval (.Name x px) env
      standAt apos.atName
      let (f, first) ← holding [ov] (getMethod ov "append" (pl env))
      callWith cpos f first (backTo cpos (starEach [e] env)) []))
    (hs : ∀ env, swapsWith (.Call (.Attribute (.Name x px) "append" apos) [e] [] cpos) none pos.line env = pure false) :
    RunOK I k sc ns (exec (.Expr (.Call (.Attribute (.Name x px) "append" apos) [e] [] cpos) pos)) (lenOk ns.length (rApp i F)) := by
  intro env A own g fix σ s fuel σ' fl Q E hS hA S hF P
  unfold lenOk at hF
  split at hF
  · rename_i hlen
    unfold rApp at hF
    split at hF
    · rename_i l hl
      split at hF
      · rename_i hz
        split at hF
        · rename_i d hdd
          cases hF
          obtain ⟨hh, hO⟩ := S.mtd i x l hx hl
          obtain ⟨vs, n, p1, p2⟩ := hO.obj
          refine wpAny_Expr ?_ (interactive_fun hS hc.kind) (hs env)
          refine MethodCall_ (pl := pl env) (wpAny_Name (loadName_ok hS hc.kind hh ?_) hd) (he env)
          refine Calls.getMethod_list_append p1 rfl rfl ?_
          refine callWith_method1 (args_cons (evS_ok hS hA S h hdd fun v h₁ tk₁ S₁ A₁ hv => args_nil ?_) (hst env)) (hst env) rfl
          obtain ⟨hh₁, hO₁⟩ := S₁.mtd i x l hx hl
          obtain ⟨vs₁, n₁, q1, q2⟩ := hO₁.obj
          have el := q2.length
          simp only [Array.length_toList] at el
          refine wpAny_list_append_plain (items := vs₁) ⟨n₁, q1⟩ (fun h₂ hp hsb => ?_) (by omega)
          obtain ⟨n₂, hp⟩ := hp
          have S₂ := S₁.mutate (Nat.le_of_eq hlen) hx hl hsb hp (l' := l ++ [d]) (by rw [Array.toList_push]; exact IsL.append q2 ⟨v, [], rfl, hv, rfl⟩)
          exact P own _ _ h₂ tk₁ _ S₂ A₁ rfl
        · cases hF
      · cases hF
    · cases hF
  · cases hF

/-- a def of the text: what its body means is what a call of it means -/
structure FnAt (I : GI) (x : Str) (params : Arguments) (body : List Stmt) (sc : Scope) : Prop where
  at_ : ∃ a, I.mg x = some (.ref a) ∧ ∀ h, I.Gl h → ∃ o pm code doc, h.get? a = some o ∧ o.data = .func (Calls.docDef x params body sc pm code doc) ∧ h.CodeRec code x

theorem bindL_off {kindOf : Str → Option NameKind} {z : Str} : ∀ {l : List (Str × Value)} {m : Str → Option Value}, (∀ p ∈ l, p.1 ≠ z) → bindL kindOf l m z = m z
  | [], _, _ => rfl
  | (n, v) :: r, m, h => by
    unfold bindL
    rw [bindL_off fun p hp => h p (.tail _ hp)]
    have hn : z ≠ n := Ne.symm (h (n, v) (.head _))
    split
    · exact if_neg hn
    · rfl
theorem bindC_off {kindOf : Str → Option NameKind} {z : Str} : ∀ {l : List (Str × Value)} {m : Str → Option Value}, (∀ p ∈ l, p.1 ≠ z) → bindC kindOf l m z = m z
  | [], _, _ => rfl
  | (n, v) :: r, m, h => by
    unfold bindC
    rw [bindC_off fun p hp => h p (.tail _ hp)]
    have hn : z ≠ n := Ne.symm (h (n, v) (.head _))
    split
    · rfl
    · exact if_neg hn
theorem bindL_get {kindOf : Str → Option NameKind} : ∀ {xs : List Str} {vs : List Value} {m : Str → Option Value} {i : Nat} {x : Str} {v : Value}, xs.Nodup → xs[i]? = some x → vs[i]? = some v → kindOf x = some .local → bindL kindOf (xs.zip vs) m x = some v
  | y :: xs, u :: vs, m, 0, x, v, nd, hx, hv, hk => by
    simp only [List.getElem?_cons_zero, Option.some.injEq] at hx hv
    subst hx hv
    rw [List.zip_cons_cons, bindL, if_pos hk, bindL_off]
    · simp
    · intro p hp q
      have := (List.of_mem_zip (a := p.1) (b := p.2) hp).1
      exact (List.nodup_cons.mp nd).1 (q ▸ this)
  | y :: xs, u :: vs, m, i + 1, x, v, nd, hx, hv, hk => by
    rw [List.zip_cons_cons, bindL]
    exact bindL_get (i := i) (List.nodup_cons.mp nd).2 (by simpa using hx) (by simpa using hv) hk
  | [], _, _, i, _, _, _, hx, _, _ => by simp at hx
  | _ :: _, [], _, i, _, _, _, _, hv, _ => by simp at hv
theorem bindC_get {kindOf : Str → Option NameKind} : ∀ {xs : List Str} {vs : List Value} {m : Str → Option Value} {i : Nat} {x : Str} {v : Value}, xs.Nodup → xs[i]? = some x → vs[i]? = some v → kindOf x ≠ some .local → bindC kindOf (xs.zip vs) m x = some v
  | y :: xs, u :: vs, m, 0, x, v, nd, hx, hv, hk => by
    simp only [List.getElem?_cons_zero, Option.some.injEq] at hx hv
    subst hx hv
    rw [List.zip_cons_cons, bindC, if_neg hk, bindC_off]
    · simp
    · intro p hp q
      have := (List.of_mem_zip (a := p.1) (b := p.2) hp).1
      exact (List.nodup_cons.mp nd).1 (q ▸ this)
  | y :: xs, u :: vs, m, i + 1, x, v, nd, hx, hv, hk => by
    rw [List.zip_cons_cons, bindC]
    exact bindC_get (i := i) (List.nodup_cons.mp nd).2 (by simpa using hx) (by simpa using hv) hk
  | [], _, _, i, _, _, _, hx, _, _ => by simp at hx
  | _ :: _, [], _, i, _, _, _, _, hv, _ => by simp at hv

/-- the slots at the start: the arguments, then names without a value -/
noncomputable def startSt (ds : List D) (n : Nat) : St := ds.map Slot.imm ++ List.replicate (n - ds.length) .unb
noncomputable def callF (n : Nat) (F : Run) (fuel : Nat) (ds : List D) : Option D := match F fuel (startSt ds n) with
  | some (_, .ret d) => some d
  | some (_, .next) => some .none
  | _ => none

theorem startSt_get {ds : List D} {n i : Nat} {sl : Slot} (h : (startSt ds n)[i]? = some sl) : sl = .unb ∨ ∃ d, ds[i]? = some d ∧ sl = .imm d := by
  unfold startSt at h
  by_cases hi : i < (ds.map Slot.imm).length
  · rw [List.getElem?_append_left hi, List.getElem?_map] at h
    cases q : ds[i]? with
    | none => rw [q] at h; cases h
    | some d => rw [q] at h; exact .inr ⟨d, rfl, (Option.some.inj h).symm⟩
  · rw [List.getElem?_append_right (by omega), List.getElem?_replicate] at h
    split at h
    · exact .inl (Option.some.inj h).symm
    · cases h

theorem cellsFrom_some' {x : Str} : ∀ (names : List (Str × NameKind)) (n : Nat) (acc : List (Str × Addr)), names.lookup x = some .cell → ((cellsFrom n names acc).lookup x).isSome = true := fun names n acc h =>
  cellsFrom_some names n acc (.inl h)

theorem FunOK.def {x : Str} {params : Arguments} {body : List Stmt} {m : Nat} {F : Run} {F' : List D → Option D} (hat : FnAt I x params body sc) (hc : ScS sc ns) (hm : m ≤ ns.length)
    (hbind : ∀ pm cd doc vs, vs.length = m → bindArgs (Calls.docDef x params body sc pm cd doc) ⟨vs, []⟩ = pure ((ns.take m).zip vs)) (hco : sc.isCoroutine = false) (hgen : sc.isGenerator = false)
    (hr : RunOK I k sc ns (execs body) F) (hF : ∀ ds d, F' ds = some d → ds.length = m ∧ ∃ fuel, callF ns.length F fuel ds = some d) : FunOK I (k + 1) x F' := by
  obtain ⟨a, hmg, hgl⟩ := hat.at_
  refine ⟨.ref a, .inl hmg, fun h hG => ?_, ?_⟩
  · obtain ⟨o, pm, code, doc, ho, hd, _⟩ := hgl h hG
    refine ⟨.frame, .inl rfl, (Looks.ld (part := none) ho).andThen ?_⟩
    rw [hd]; exact Looks.now
  · intro A g s ds vs d Q E hA sub gl hf hv P
    obtain ⟨hlen, fuel, hcall⟩ := hF ds d hf
    obtain ⟨o, pm, code, doc, ho, hd, hcd⟩ := hgl s.heap gl
    have hvl : vs.length = m := by rw [hv.length, hlen]
    refine wpAny_call (codeAny_call_cells (fd := Calls.docDef x params body sc pm code doc) (binds := (ns.take m).zip vs) (by have := hA.2.1; omega) ho hd (I.nolimit gl) hcd rfl (hbind pm code doc vs hvl) rfl ?_ ?_ hco hgen hc.kind)
    · intro y hy
      have hmem := List.mem_of_mem_take (List.of_mem_zip (a := y.1) (b := y.2) hy).1
      rcases hc.names y.1 hmem with h | h
      · exact .inl h
      · exact .inr ⟨h, cellsFrom_some' _ _ _ h⟩
    · intro s₁ X
      generalize he : callEnvC (Calls.docDef x params body sc pm code doc) s.heap.objs.size a = env at X
      have esc : env.scope = sc := by rw [← he]; rfl
      have eloc : env.locals = s.heap.objs.size := by rw [← he]; rfl
      have hS : EnvS sc env := ⟨esc, by rw [← he]; rfl, by rw [← he]; rfl, fun y hy => by rw [← he]; exact cellsFrom_some' _ _ _ hy⟩
      obtain ⟨h₁, tk₁, rfl⟩ := X.toInCall.same
      have hkeep : Grow s.heap h₁ := X.toInCall.keep
      have hnone := fresh_none s.heap
      have above : ∀ n c, env.cells.lookup n = some c → s.heap.get? c = none ∧ c ≠ env.locals := fun n c hc2 => by
        have := X.above n c (mem_of_lookup hc2)
        rw [eloc] at this ⊢
        refine ⟨?_, Nat.ne_of_gt this⟩
        cases q : s.heap.get? c with
        | none => rfl
        | some o' => exact absurd (Heap.lt_size q) (Nat.not_lt.mpr (Nat.le_of_lt this))
      have S : SR I env ns (fun _ => 0) g s.heap.get? (startSt ds ns.length) h₁ := {
        gfix := sub
        sub := hkeep
        base := ⟨s.heap, gl, Sub.refl _⟩
        frame := ⟨_, X.toInCall.ns⟩
        fixL := by rw [eloc]; exact hnone
        cells := fun n c hc2 => ⟨⟨_, X.cell n c hc2⟩, (above n c hc2).1, (above n c hc2).2⟩
        apart := fun n n' c h1 h2 => name_of_addr X.apart (mem_of_lookup h1) (mem_of_lookup h2)
        imm := fun i y d' hy hd' => by
          rcases startSt_get hd' with q | ⟨d2, q, e⟩
          · cases q
          · cases e
            obtain ⟨v, hv1, hv2⟩ := hv.get q
            refine ⟨v, hv2, ?_⟩
            have hi : i < m := by
              have := (List.getElem?_eq_some_iff.mp q).1
              omega
            have hy' : (ns.take m)[i]? = some y := by rw [List.getElem?_take_of_lt hi]; exact hy
            have nd' : (ns.take m).Nodup := List.Nodup.sublist (List.take_sublist m ns) hc.nd
            rcases hc.names y (List.mem_of_getElem? hy) with h | h
            · have hk : env.kindOf y = some .local := by unfold Env.kindOf; rw [esc]; exact h
              exact .inl ⟨hk, _, X.toInCall.ns, bindL_get nd' hy' hv1 hk⟩
            · have hk : env.kindOf y = some .cell := by unfold Env.kindOf; rw [esc]; exact h
              obtain ⟨c, hc2⟩ := Option.isSome_iff_exists.mp (hS.cells y h)
              have := X.cell y c hc2
              rw [bindC_get nd' hy' hv1 (by rw [hk]; exact fun q => by cases q)] at this
              exact .inr ⟨hk, c, hc2, this⟩
        mtd := fun i y l hy hd' => by
          rcases startSt_get hd' with q | ⟨d2, q, e⟩
          · cases q
          · cases e
        inj := fun i j l l' hd' _ _ => by
          rcases startSt_get hd' with q | ⟨d2, q, e⟩
          · cases q
          · cases e }
      have fin : ∀ {own' : Nat → Addr} {g' fix' : G} {σ' : St} {h' : Heap} {v : Value} {gR : G} {d : D}, SR I env ns own' g' fix' σ' h' → After g s.heap.get? g' fix' → Is gR d v → Sub gR h'.get? → (∀ b o, gR b = some o → g' b = some o ∨ fix' b = none) →
          Grow s.heap h' ∧ Is (ext g s.heap h') d v := fun {own' g' fix' σ' h' v gR d} S' A' hI hsub hnew => by
        refine ⟨fun b o e => S'.sub b o (A'.ff b o e), Is.mono (fun b o e => ?_) d hI⟩
        have old : s.heap.get? b = none → ext g s.heap h' b = some o := fun q => by rw [ext_new q]; exact hsub b o e
        rcases hnew b o e with p | p
        · rcases A'.new b o p with r | r
          · have q := sub b o r
            rw [ext_old q]; exact r
          · exact old r
        · exact old (A'.ff.none p)
      unfold callF at hcall
      have hA' : AOK k (A.deeper env) := hA.deeper
      split at hcall
      · rename_i σ' d' hrun
        cases hcall
        refine hr env _ _ g _ _ _ fuel σ' (.ret d) _ _ hS hA' S hrun fun own' g' fix' h' tk f S' A' hf => ?_
        obtain ⟨v, gR, rfl, hI, hsub, hnew⟩ := hf
        obtain ⟨p, q⟩ := fin S' A' hI hsub hnew
        exact P v h' tk p q
      · rename_i σ' hrun
        cases hcall
        refine hr env _ _ g _ _ _ fuel σ' .next _ _ hS hA' S hrun fun own' g' fix' h' tk f S' A' hf => ?_
        rw [show f = .next from hf]
        obtain ⟨p, q⟩ := fin (v := .none) (gR := g0) (d := .none) S' A' rfl (g0_sub _) (fun b o e => by cases e)
        exact P _ h' tk p q
      · cases hcall
end
end Mine
open PySem PySem.W PyProof.Rows PySem.Spec
set_option linter.unusedVariables false
set_option Elab.async false
set_option maxRecDepth 100000
namespace Mine

/-- the facts of a top, as the reader wants them -/
noncomputable def giOf (prog : Program) (w : World) (mg mb : Str → Option Value) (p : Program) (loose : List Str) (mean : ExcName → Option Value) (K : Frag) (hboot : ∀ x : Str, x ≠ "__name__" → mb x = bootBuiltins x) : GI where
  prog := prog
  w := w
  mg := mg
  mb := mb
  Gl := fun h => Top p loose mean mg mb h ∧ K.In h
  grow := fun ⟨a, b⟩ k => ⟨a.keeps k, b.keeps k⟩
  g := fun h => h.1.g
  b := fun h => h.1.b
  nolimit := fun h => h.1.nolimit
  boot := hboot

theorem fnAt_of {prog : Program} {w : World} {mg mb : Str → Option Value} {p : Program} {loose : List Str} {mean : ExcName → Option Value} {K : Frag} {hboot : ∀ x : Str, x ≠ "__name__" → mb x = bootBuiltins x} {h₀ : Heap} (T : Top p loose mean mg mb h₀) {d : DefRec} {i : Nat} (hd : (recsOf p)[i]? = some d) :
    FnAt (giOf prog w mg mb p loose mean K hboot) d.name d.params d.body d.scope := by
  have hm : d ∈ recsOf p := List.mem_of_getElem? hd
  obtain ⟨a, _, _, _, _, ha, _⟩ := T.fn d hm
  refine ⟨a, ha, fun h hg => ?_⟩
  obtain ⟨a', o, pm, code, doc, ha', ho, hdt, hc⟩ := hg.1.fn d hm
  have e : a = a' := by
    have : some (Value.ref a) = some (Value.ref a') := ha.symm.trans ha'
    cases this; rfl
  subst e
  exact ⟨o, pm, code, doc, ho, hdt, hc⟩

theorem free_of {mg mb : Str → Option Value} {p : Program} {loose : List Str} {mean : ExcName → Option Value} {K : Frag} {h₀ : Heap} (T : Top p loose mean mg mb h₀) (X : K.In h₀) {x : Str} (e : nsIn K mainGlobals x = some none) : mg x = none := mg_none_of X T.g e

noncomputable def intsD (ns : List Int) : List D := ns.map .int
theorem isL_ints {g : G} : ∀ {vs : List Value} {ns : List Int}, IntsAre vs ns → IsL g (intsD ns) vs
  | _, _, .nil => rfl
  | _, _, .cons n t r => ⟨_, _, rfl, ⟨t, rfl⟩, isL_ints r⟩

/-- the law's own call -/
theorem law_end {prog : Program} {w : World} {mg mb : Str → Option Value} {p : Program} {loose : List Str} {mean : ExcName → Option Value} {K : Frag} {hboot : ∀ x : Str, x ≠ "__name__" → mb x = bootBuiltins x} {s₁ : Shared} {x : Str} {fa l : Addr} {vs : List Value} {ns : List Int}
    {F : List D → Option D} {Q E : Value → Shared → Prop} (T : Top p loose mean mg mb s₁.heap) (X : K.In s₁.heap) (hmg : mg x = some (.ref fa)) (hF : FunOK (giOf prog w mg mb p loose mean K hboot) 20 x F) (hl : s₁.heap.IsList l vs.toArray) (hi : IntsAre vs ns)
    (hr : F [.lst (intsD ns)] = some (.bool true)) (hQ : ∀ h' tk, Grow s₁.heap h' → Q (.bool true) { s₁ with heap := h', toks := tk }) : wpAny (model prog w) callerA (call (.ref fa) [.ref l]) Q E s₁ := by
  obtain ⟨f, hn, _, hp⟩ := hF.ok
  have ef : f = .ref fa := by
    rcases hn with h | ⟨h, _⟩
    · have : mg x = some f := h
      rw [hmg] at this; cases this; rfl
    · have : mg x = none := h
      rw [hmg] at this; cases this
  subst ef
  obtain ⟨o, ho, hc, n, hd⟩ := hl
  refine hp callerA s₁.heap.get? s₁ [.lst (intsD ns)] [.ref l] (.bool true) Q E ⟨rfl, by decide, by decide⟩ (Sub.refl _) ⟨T, X⟩ hr ⟨_, [], rfl, ⟨l, o, vs.toArray, n, rfl, ho, hc, hd, by simpa using isL_ints hi⟩, rfl⟩ fun v h' tk kk hv => ?_
  rw [show v = .bool true from hv]
  exact hQ h' tk kk
end Mine

namespace Mine
noncomputable def idx : List Str → Str → Option Nat
  | [], _ => none
  | y :: r, x => match y == x with
    | true => some 0
    | false => match idx r x with
      | some i => some (i + 1)
      | none => none
theorem idx_get : ∀ {ns : List Str} {x : Str} {i : Nat}, idx ns x = some i → ns[i]? = some x
  | y :: r, x, i, h => by
    unfold idx at h
    split at h
    · rename_i e
      cases h
      rw [beq_iff_eq.mp e]; rfl
    · split at h
      · rename_i j hj
        cases h
        simpa using idx_get hj
      · cases h
noncomputable def idxs (ns : List Str) : List Str → Option (List Nat)
  | [] => some []
  | x :: r => match idx ns x with
    | some i => match idxs ns r with
      | some l => some (i :: l)
      | none => none
    | none => none
theorem idxs_get {ns : List Str} : ∀ {xs : List Str} {is : List Nat}, idxs ns xs = some is → is.map (ns[·]?) = xs.map some
  | [], is, h => by cases h; rfl
  | x :: r, is, h => by
    unfold idxs at h
    split at h
    · rename_i i hi
      split at h
      · rename_i l hl
        cases h
        rw [List.map_cons, List.map_cons, idx_get hi, idxs_get hl]
      · cases h
    · cases h
section
variable {I : GI} {k : Nat} {sc : Scope} {ns : List Str}
theorem vis_of {sc : Scope} {x : Str} (h : (sc.names.lookup x == some .local || sc.names.lookup x == some .cell) = true) : sc.names.lookup x = some .local ∨ sc.names.lookup x = some .cell := by
  simpa using h
theorem EvOK.v {x : Str} {pos : Pos} {i : Nat} (hx : idx ns x = some i) (hk : sc.kind = .function) (hd : (x == ("__debug__" : Str)) = false) (hn : (sc.names.lookup x == some .local || sc.names.lookup x == some .cell) = true) : EvOK I k sc ns (.Name x pos) (eVar i) :=
  EvOK.var hk (idx_get hx) hd (vis_of hn)
theorem RunOK.asg' {x : Str} {px pos : Pos} {e : Expr} {i : Nat} {F : Ev} (hx : idx ns x = some i) (hs : ∀ env, swapsWith e (some (.Name x px)) pos.line env = pure false) (hc : ScS sc ns) (h : EvOK I k sc ns e F) :
    RunOK I k sc ns (exec (.Assign [.Name x px] e pos)) (lenOk ns.length (rAsg i F)) := RunOK.asg hc (idx_get hx) h hs
theorem RunOK.aug' {x : Str} {px pos : Pos} {op : Operator} {e : Expr} {i : Nat} {f : D → D → Option D} {F : Ev} (hx : idx ns x = some i) (hc : ScS sc ns) (h : EvOK I k sc ns e F) (ho : IOpOK I k op f) :
    RunOK I k sc ns (exec (.AugAssign (.Name x px) op e pos)) (lenOk ns.length (rAug i f F)) := RunOK.aug hc (idx_get hx) h ho
theorem RunOK.for' {x : Str} {px pos : Pos} {e : Expr} {j : Nat} {body : List Stmt} {F : Ev} {B : Run} (hx : idx ns x = some j) (hs : ∀ env x, foldedSetIterable e env x = pure x) (hc : ScS sc ns) (he : EvOK I k sc ns e F) (hb : RunOK I k sc ns (execs body) B) :
    RunOK I k sc ns (exec (.For (.Name x px) e body [] pos)) (rFor ns.length j F B) := RunOK.forS hc (idx_get hx) he hb hs
theorem RunOK.forM' {x y : Str} {px py pos : Pos} {i j : Nat} {body : List Stmt} {B : Run} (hx : idx ns x = some j) (hy : idx ns y = some i) (hd : (y == ("__debug__" : Str)) = false) (hs : ∀ env x, foldedSetIterable (.Name y py) env x = pure x) (hc : ScS sc ns) (hb : RunOK I k sc ns (execs body) B) :
    RunOK I k sc ns (exec (.For (.Name x px) (.Name y py) body [] pos)) (rForM ns.length j i B) := RunOK.forM hc (idx_get hx) (idx_get hy) hd hb hs
theorem RunOK.tupS' {elts : List Expr} {kk : Nat} {tpos pos : Pos} {e : Expr} {xs : List Str} {is : List Nat} {F : Ev} (hn : NamesAre elts xs) (hw : ∀ env : Env, env.scope = sc → swappedStores [.Tuple elts kk tpos] e env = pure (some xs)) (hx : idxs ns xs = some is)
    (hs : ∀ env, swapsWithSole [.Tuple elts kk tpos] e pos.line env = pure false) (hc : ScS sc ns) (h : EvOK I k sc ns e F) :
    RunOK I k sc ns (exec (.Assign [.Tuple elts kk tpos] e pos)) (lenOk ns.length (rTup is true F)) := RunOK.tupS hc hn (idxs_get hx) h hs hw
theorem RunOK.tupP' {elts : List Expr} {kk : Nat} {tpos pos : Pos} {e : Expr} {xs : List Str} {is : List Nat} {F : Ev} (hn : NamesAre elts xs) (hw : ∀ env : Env, env.scope = sc → swappedStores [.Tuple elts kk tpos] e env = pure none) (hx : idxs ns xs = some is)
    (hs : ∀ env, swapsWithSole [.Tuple elts kk tpos] e pos.line env = pure false) (hc : ScS sc ns) (h : EvOK I k sc ns e F) :
    RunOK I k sc ns (exec (.Assign [.Tuple elts kk tpos] e pos)) (lenOk ns.length (rTup is false F)) := RunOK.tupP hc hn (idxs_get hx) h hs hw
theorem RunOK.new' {x : Str} {px pos lpos : Pos} {es : List Expr} {i : Nat} {Fs : Evs} (hx : idx ns x = some i) (hs : ∀ env, swapsWith (.List es lpos) (some (.Name x px)) pos.line env = pure false) (hc : ScS sc ns) (h : EvsOK I k sc ns es Fs) :
    RunOK I k sc ns (exec (.Assign [.Name x px] (.List es lpos) pos)) (lenOk ns.length (rNew i Fs)) := RunOK.new hc (idx_get hx) h hs
theorem RunOK.app' {x : Str} {px apos cpos pos : Pos} {i : Nat} {e : Expr} {F : Ev} {pl : Env → Sem Bool} (hx : idx ns x = some i) (hd : (x == ("__debug__" : Str)) = false)
    (hst : ∀ env, starEach [e] env = (false, eval e env) :: starEach [] env)
    (he : ∀ env, eval (.Call (.Attribute (.Name x px) "append" apos) [e] [] cpos) env = (do
      let ov ← eval (.Name x px) env
      standAt apos.atName
      let (f, first) ← holding [ov] (getMethod ov "append" (pl env))
      callWith cpos f first (backTo cpos (starEach [e] env)) []))
    (hs : ∀ env, swapsWith (.Call (.Attribute (.Name x px) "append" apos) [e] [] cpos) none pos.line env = pure false) (hc : ScS sc ns) (h : EvOK I k sc ns e F) :
    RunOK I k sc ns (exec (.Expr (.Call (.Attribute (.Name x px) "append" apos) [e] [] cpos) pos)) (lenOk ns.length (rApp i F)) := RunOK.app hc (idx_get hx) hd h hst he hs
theorem EvOK.call' {x : Str} {px pos : Pos} {args : List Expr} {F : List D → Option D} {Fs : Evs} (hx : sc.names.lookup x = some .globalImplicit) (hk : sc.kind = .function) (hd : (x == ("__debug__" : Str)) = false) (hp : ∀ env, (backTo pos (starEach args env)).any (·.1) = false) (hne : args.isEmpty = false)
    (hs : ∀ env, ∃ t rest, backTo pos (starEach args env) = (false, t) :: rest) (hf : FunOK I k x F) (ha : EvsOK I k sc ns args Fs) :
    EvOK I k sc ns (.Call (.Name x px) args [] pos) (eCall F Fs) := EvOK.call hf ha hk hx hd hp hne hs
end
end Mine
open PySem PySem.W PyProof.Rows PySem.Spec
set_option linter.unusedVariables false
set_option Elab.async false
set_option maxRecDepth 100000
namespace Mine
noncomputable def fnF (m n : Nat) (F : Run) (N : Nat) : List D → Option D := fun ds => if ds.length = m then callF n F N ds else none

noncomputable def HatI (I : GI) (p : Program) : Prop := ∀ (i : Nat) (d : DefRec), (recsOf p)[i]? = some d → FnAt I d.name d.params d.body d.scope

theorem FunOK.of {I : GI} {p : Program} {k m i : Nat} (N : Nat) {d : DefRec} {ns : List Str} {F : Run} (hat : HatI I p) (hd : (recsOf p)[i]? = some d) (hc : ScS d.scope ns) (hm : m ≤ ns.length)
    (hbind : ∀ pm cd doc vs, vs.length = m → bindArgs (Calls.docDef d.name d.params d.body d.scope pm cd doc) ⟨vs, []⟩ = pure ((ns.take m).zip vs)) (hco : d.scope.isCoroutine = false) (hgen : d.scope.isGenerator = false)
    (hr : RunOK I k d.scope ns (execs d.body) F) : FunOK I (k + 1) d.name (fnF m ns.length F N) :=
  FunOK.def (hat i d hd) hc hm hbind hco hgen hr fun ds r h => by
    unfold fnF at h
    split at h
    · rename_i hl; exact ⟨hl, N, h⟩
    · cases h

/-- at most n binary digits -/
noncomputable def Bd (n : Nat) (a : Int) : Prop := a.natAbs < 2 ^ n
theorem Bd.mono {m n : Nat} {a : Int} (h : Bd m a) (l : m ≤ n) : Bd n a := Nat.lt_of_lt_of_le h (Nat.pow_le_pow_right (by decide) l)
theorem Bd.neg {n : Nat} {a : Int} (h : Bd n a) : Bd n (-a) := by unfold Bd; rw [Int.natAbs_neg]; exact h
theorem Bd.mul {m n : Nat} {a b : Int} (h : Bd m a) (h' : Bd n b) : Bd (m + n) (a * b) := by
  unfold Bd at *
  rw [Int.natAbs_mul, Nat.pow_add]
  exact Nat.mul_lt_mul_of_lt_of_lt h h'
theorem Bd.add {n : Nat} {a b : Int} (h : Bd n a) (h' : Bd n b) : Bd (n + 1) (a + b) := by
  unfold Bd at *
  have := Int.natAbs_add_le a b
  rw [Nat.pow_succ]; omega
theorem Bd.sub {n : Nat} {a b : Int} (h : Bd n a) (h' : Bd n b) : Bd (n + 1) (a - b) := by
  rw [Int.sub_eq_add_neg]; exact h.add h'.neg
theorem Bd.one {n : Nat} : Bd (n + 1) 1 := by
  unfold Bd
  have : 1 < 2 ^ (n + 1) := Nat.one_lt_two_pow (by omega)
  exact this
theorem Bd.zero {n : Nat} : Bd n 0 := by
  unfold Bd
  exact Nat.two_pow_pos n
theorem Bd.pow {n : Nat} {a : Int} (h : Bd n a) : ∀ k : Nat, Bd (n * k + 1) (a ^ k)
  | 0 => by rw [Int.pow_zero]; exact Bd.one
  | k + 1 => by
    rw [Int.pow_succ]
    have := (Bd.pow h k).mul h
    exact this.mono (by rw [Nat.mul_succ]; omega)
theorem intBits_le {n : Nat} {a : Int} (h : Bd n a) : Builtin.Int.intBits a ≤ n := by
  unfold Builtin.Int.intBits
  unfold Bd at h
  split
  · omega
  · rename_i q
    have q' : a.natAbs ≠ 0 := by
      intro e
      exact q (by rw [Int.natAbs_eq_zero.mp e]; rfl)
    have := (Nat.log2_lt q').mpr h
    omega
theorem mulOk_bd {m n : Nat} {a b : Int} (h : Bd m a) (h' : Bd n b) (l : m + n ≤ 100000000) : mulOk a b = true := by
  have h1 := intBits_le h
  have h2 := intBits_le h'
  have : Builtin.Int.intTooBig (Builtin.Int.intBits a + Builtin.Int.intBits b) = false := by
    unfold Builtin.Int.intTooBig
    rw [decide_eq_false_iff_not]
    have : (bitsLine : Int) ≥ 134217728 := by decide
    omega
  unfold mulOk
  rw [this, Bool.and_false]; rfl
theorem divOk_bd {n : Nat} {a b : Int} (h0 : b ≠ 0) (h : Bd n b) (l : n ≤ 9000) : divOk a b = true := by
  unfold divOk
  have : b.natAbs.log2 < 9000 := by
    have := (Nat.log2_lt (by omega : b.natAbs ≠ 0)).mpr h
    omega
  simp [h0, this]
theorem powOk_bd {n k : Nat} {a : Int} (h : Bd n a) (l : n * k ≤ 100000000) : powOk a k = true := by
  have h1 := intBits_le h
  unfold powOk
  have : (Builtin.Int.intBits a : Int) * (k : Int) ≤ 2 ^ 27 := by
    have := Nat.mul_le_mul_right k h1
    have e : (Builtin.Int.intBits a : Int) * (k : Int) = ((Builtin.Int.intBits a * k : Nat) : Int) := by simp
    rw [e]
    have : (2:Int)^27 = 134217728 := by decide
    omega
  rw [Bool.and_eq_true, decide_eq_true_eq, decide_eq_true_eq]
  exact ⟨by omega, this⟩
theorem intsD_cons (x : Int) (l : List Int) : intsD (x :: l) = .int x :: intsD l := rfl
theorem intsD_length (l : List Int) : (intsD l).length = l.length := by simp [intsD]
theorem sizeLine_ge : 10000 ≤ sizeLine := by rw [sizeLine_eq]; decide
theorem items_lst {l : List D} (h : l.length ≤ 10000) : itemsOf (.lst l) = some l := by
  show (if l.length ≤ sizeLine then some l else none) = some l
  rw [if_pos (Nat.le_trans h sizeLine_ge)]
noncomputable def upI (a : Int) (n : Nat) : List Int := (List.range n).map fun (i : Nat) => a + (i : Int)
noncomputable def stepI (a c : Int) (n : Nat) : List Int := (List.range n).map fun (i : Nat) => a + (i : Int) * c
theorem upI_succ (a : Int) (n : Nat) : upI a (n + 1) = a :: upI (a + 1) n := by
  unfold upI
  rw [List.range_succ_eq_map, List.map_cons, List.map_map]
  refine congr (congrArg _ (by simp)) (List.map_congr_left fun i _ => ?_)
  simp only [Function.comp]; omega
theorem rngL_step (a c : Int) (n : Nat) : rngL a c n = intsD (stepI a c n) := by
  unfold rngL intsD stepI
  rw [List.map_map]; rfl
theorem stepI_one (a : Int) (n : Nat) : stepI a 1 n = upI a n := by
  unfold stepI upI
  exact List.map_congr_left fun i _ => by omega
theorem fitsL {a : Int} (h : -(10:Int)^15 ≤ a) (h' : a ≤ 10^15) : Builtin.Range.rangeFitsLong a = true := by
  unfold Builtin.Range.rangeFitsLong
  have : (10:Int)^15 = 1000000000000000 := by decide
  have : (2:Int)^63 = 9223372036854775808 := by decide
  simp only [Bool.and_eq_true, decide_eq_true_eq]
  omega
theorem items_step {a b c : Int} {n : Nat} (hc : 0 < c) (ha : -(10:Int)^6 ≤ a) (ha' : a ≤ 10^6) (hb : -(10:Int)^6 ≤ b) (hb' : b ≤ 10^6) (hc' : c ≤ 10^6) (hn : n ≤ 10000) (hs : Builtin.Range.rangeSize a b c = n) : itemsOf (.rng a b c) = some (intsD (stepI a c n)) := by
  have h6 : (10:Int)^6 = 1000000 := by decide
  have h15 : (10:Int)^15 = 1000000000000000 := by decide
  have hsm : Builtin.Range.small a b c = true := by
    unfold Builtin.Range.small
    rw [hs, fitsL (by omega) (by omega), fitsL (by omega) (by omega), fitsL (by omega) (by omega), fitsL (by omega) (by omega), if_pos hc, fitsL (by omega) (by omega)]
    simp
  show (if Builtin.Range.small a b c = true ∧ 0 ≤ Builtin.Range.rangeSize a b c ∧ (Builtin.Range.rangeSize a b c).toNat ≤ sizeLine then some (rngL a c (Builtin.Range.rangeSize a b c).toNat) else none) = _
  have := sizeLine_ge
  rw [hs, if_pos ⟨hsm, by omega, by omega⟩, rngL_step]
  simp
theorem items_rng {a b : Int} (ha : -(10:Int)^6 ≤ a) (ha' : a ≤ 10^6) (hb : -(10:Int)^6 ≤ b) (hb' : b ≤ 10^6) (hn : (b - a).toNat ≤ 10000) : itemsOf (.rng a b 1) = some (intsD (upI a (b - a).toNat)) := by
  rw [← stepI_one]
  refine items_step (by decide) ha ha' hb hb' (by decide) hn ?_
  unfold Builtin.Range.rangeSize
  rw [if_pos (by decide)]
  split <;> omega

theorem fLen_ints {l : List Int} (h : l.length ≤ 10000) : fLen [.lst (intsD l)] = some (.int (l.length : Int)) := by
  show (if (intsD l).length ≤ sizeLine then some (D.int ((intsD l).length : Int)) else none) = _
  have := sizeLine_ge
  rw [intsD_length, if_pos (by omega)]
theorem fSubs_ints {l : List Int} {n : Nat} {x : Int} (h : l[n]? = some x) (hn : n ≤ 10000) : fSubs (.lst (intsD l)) (.int (n : Int)) = some (.int x) := by
  have : (2:Int)^63 = 9223372036854775808 := by decide
  have c : 0 ≤ (n : Int) ∧ (n : Int) < 2 ^ 63 := ⟨by omega, by omega⟩
  unfold fSubs
  simp only [c, and_self, if_true, Int.toNat_natCast, intsD, List.getElem?_map, h]; rfl
theorem fIn_ints {a : Int} {l : List Int} {neg : Bool} : fIn neg (.int a) (.lst (intsD l)) = some (.bool (neg ^^ l.contains a)) := by
  show (if (intsD l).all isI = true then some (D.bool (neg ^^ (intsD l).any (hitI a))) else none) = _
  have h1 : (intsD l).all isI = true := by
    rw [List.all_eq_true]
    intro x hx
    obtain ⟨y, _, rfl⟩ := List.mem_map.mp hx
    rfl
  have h2 : (intsD l).any (hitI a) = l.contains a := by
    induction l with
    | nil => rfl
    | cons x r ih =>
      have ih' := ih (by rw [List.all_eq_true]; intro y hy; obtain ⟨z, _, rfl⟩ := List.mem_map.mp hy; rfl)
      rw [intsD_cons, List.any_cons, ih', List.contains_cons, show hitI a (.int x) = (x == a) from rfl, Bool.beq_comm]
  rw [if_pos h1, h2]
theorem mulOk_sm {a b : Int} (h1 : -(2:Int)^60 < a) (h2 : a < 2^60) : mulOk a b = true := by
  have h : Bd 60 a := by
    unfold Bd
    have : (2:Int)^60 = 1152921504606846976 := by decide
    have : (2:Nat)^60 = 1152921504606846976 := by decide
    omega
  have h1 := intBits_le h
  have : decide (Builtin.Int.intBits a > shortFactorBits) = false := by
    rw [decide_eq_false_iff_not]
    have : shortFactorBits = 64 := rfl
    omega
  unfold mulOk
  rw [this]; rfl
end Mine
open PySem PySem.W PyProof.Rows PySem.Spec
set_option linter.unusedVariables false
set_option Elab.async false
set_option maxRecDepth 100000
namespace Mine
/-! what a run gives, backwards from what is wanted -/
noncomputable def RW (F : Run) (N : Nat) (σ : St) (P : St → Fl → Prop) : Prop := ∃ σ' fl, F N σ = some (σ', fl) ∧ P σ' fl
noncomputable def EW (F : Ev) (r : R) (Q : D → Prop) : Prop := ∃ d, F r = some d ∧ Q d
noncomputable def EsW (F : Evs) (r : R) (Q : List D → Prop) : Prop := ∃ d, F r = some d ∧ Q d
noncomputable def TW (T : Tr) (r : R) (Q : Bool → Prop) : Prop := ∃ b, T r = some b ∧ Q b
noncomputable def CW (f : List D → Option D) (ds : List D) (Q : D → Prop) : Prop := ∃ d, f ds = some d ∧ Q d
noncomputable def OW (f : D → D → Option D) (x y : D) (Q : D → Prop) : Prop := ∃ d, f x y = some d ∧ Q d
noncomputable def UW (f : D → Option D) (x : D) (Q : D → Prop) : Prop := ∃ d, f x = some d ∧ Q d
noncomputable def SW (F : Ev) (σ : St) (Q : D → Prop) : Prop := ∃ d, evS F σ = some d ∧ Q d
noncomputable def SK (Fs : Run) (N : Nat) (P : St → Fl → Prop) (σ : St) : Fl → Prop
  | .next => RW Fs N σ P
  | fl => P σ fl
noncomputable def CK (Q : D → Prop) (σ : St) : Fl → Prop
  | .next => Q .none
  | .ret d => Q d
  | .cont => False
noncomputable def IfK (b : Bool) (p q : Prop) : Prop := match b with
  | true => p
  | false => q
noncomputable def NotK (b : Bool) (Q : Bool → Prop) : Prop := Q (!b)
noncomputable def TruthK (x : D) (K : Bool → Prop) : Prop := ∃ b, fTruth x = some b ∧ K b
noncomputable def PutAt (σ : St) (i : Nat) (s : Slot) (K : St → Prop) : Prop := i < σ.length ∧ K (σ.set i s)
noncomputable def TupK (is : List Nat) (rev : Bool) (d : D) (σ : St) (K : St → Prop) : Prop := ∃ ds, d = .tup ds ∧ ds.length = is.length ∧ K (if rev = true then setAll is.reverse ds.reverse σ else setAll is ds σ)
noncomputable def TpK (ds : List D) (Q : D → Prop) : Prop := ds.length ≤ sizeLine ∧ Q (.tup ds)
noncomputable def LsK (ds : List D) (Q : D → Prop) : Prop := ds.length ≤ sizeLine ∧ Q (.lst ds)
noncomputable def LW (n j : Nat) (B : Run) (N : Nat) (ds : List D) (σ : St) (P : St → Fl → Prop) : Prop := ∃ σ' fl, forL n j (B N) ds σ = some (σ', fl) ∧ P σ' fl
noncomputable def ForK (d : D) (n j : Nat) (B : Run) (N : Nat) (σ : St) (P : St → Fl → Prop) : Prop := ∃ ds, isStr d = false ∧ itemsOf d = some ds ∧ LW n j B N ds σ P
noncomputable def WW (T : Tr) (B : Run) (N fuel : Nat) (σ : St) (P : St → Fl → Prop) : Prop := ∃ σ' fl, whileL T (B N) fuel σ = some (σ', fl) ∧ P σ' fl
noncomputable def CompK (elt : Ev) (tst : Tr) (r : R) (d : D) (Q : D → Prop) : Prop := ∃ ds out, itemsOf d = some ds ∧ compL elt tst r ds = some out ∧ Q (.lst out)
noncomputable def LK (P : St → Fl → Prop) (K : St → Prop) (σ : St) : Fl → Prop
  | .ret d => P σ (.ret d)
  | _ => K σ
noncomputable def StartsAt (ds : List D) (n : Nat) (σ : St) : Prop := startSt ds n = σ

section
variable {F Fs F' B : Run} {N n i j m : Nat} {σ σ' : St} {P : St → Fl → Prop} {E G H : Ev} {r : R} {Q : D → Prop} {T T' : Tr} {es : Evs} {d x y : D} {ds : List D} {K : St → Prop}
theorem StartsAt.nil : StartsAt [] 0 [] := rfl
theorem StartsAt.unb (h : StartsAt [] n σ) : StartsAt [] (n + 1) (.unb :: σ) := by
  unfold StartsAt at *; rw [← h]; rfl
theorem StartsAt.cons (h : StartsAt ds n σ) : StartsAt (d :: ds) (n + 1) (.imm d :: σ) := by
  unfold StartsAt at *; rw [← h]
  simp [startSt]
theorem CW.fn (hs : StartsAt ds n σ) (hl : ds.length = m) (h : RW F N σ (CK Q)) : CW (fnF m n F N) ds Q := by
  obtain ⟨σ', fl, e, p⟩ := h
  rw [← show startSt ds n = σ from hs] at e
  unfold CW fnF callF
  rw [if_pos hl, e]
  cases fl with
  | next => exact ⟨_, rfl, p⟩
  | ret d => exact ⟨_, rfl, p⟩
  | cont => exact p.elim
theorem CK.ret (h : Q d) : CK Q σ (.ret d) := h
theorem CW.of {f : List D → Option D} (h : f ds = some d) (k : Q d) : CW f ds Q := ⟨d, h, k⟩
theorem CW.eq {f : List D → Option D} (h : CW f ds (fun z => z = d)) : f ds = some d := by
  obtain ⟨z, e, q⟩ := h; rw [e, q]
theorem OW.of {f : D → D → Option D} (h : f x y = some d) (k : Q d) : OW f x y Q := ⟨d, h, k⟩
theorem UW.of {f : D → Option D} (h : f x = some d) (k : Q d) : UW f x Q := ⟨d, h, k⟩
theorem RW.nil (h : P σ .next) : RW rNil N σ P := ⟨_, _, rfl, h⟩
theorem RW.seq (h : RW F N σ (SK Fs N P)) : RW (rSeq F Fs) N σ P := by
  obtain ⟨σ', fl, e, p⟩ := h
  unfold RW rSeq
  rw [e]
  cases fl with
  | next => exact p
  | ret d => exact ⟨_, _, rfl, p⟩
  | cont => exact ⟨_, _, rfl, p⟩
theorem SK.next (h : RW Fs N σ P) : SK Fs N P σ .next := h
theorem SK.ret (h : P σ (.ret d)) : SK Fs N P σ (.ret d) := h
theorem SK.cont (h : P σ .cont) : SK Fs N P σ .cont := h
theorem LK.next (h : K σ) : LK P K σ .next := h
theorem LK.cont (h : K σ) : LK P K σ .cont := h
theorem RW.lenOk (hl : σ.length = n) (h : RW F N σ P) : RW (lenOk n F) N σ P := by
  obtain ⟨σ', fl, e, p⟩ := h
  exact ⟨σ', fl, by unfold Mine.lenOk; rw [if_pos hl]; exact e, p⟩
theorem SW.of (h : EW E (rdH σ) Q) : SW E σ Q := by
  obtain ⟨d, e, q⟩ := h
  exact ⟨d, by unfold evS; rw [e], q⟩
noncomputable def SetR (σ : St) (i : Nat) (s : Slot) (σ' : St) : Prop := i < σ.length ∧ σ.set i s = σ'
theorem SetR.z {s t : Slot} : SetR (t :: σ) 0 s (s :: σ) := ⟨by simp, rfl⟩
theorem SetR.s {s t : Slot} (h : SetR σ i s σ') : SetR (t :: σ) (i + 1) s (t :: σ') := ⟨by have := h.1; simp; exact this, by rw [← h.2]; rfl⟩
theorem SetR.s3 {s t u v : Slot} (h : SetR σ i s σ') : SetR (t :: u :: v :: σ) (i + 3) s (t :: u :: v :: σ') := h.s.s.s
theorem PutAt.of {s : Slot} (h : SetR σ i s σ') (k : K σ') : PutAt σ i s K := ⟨h.1, by rw [h.2]; exact k⟩
theorem RW.asg (h : SW E σ fun d => PutAt σ i (.imm d) fun σ' => P σ' .next) : RW (rAsg i E) N σ P := by
  obtain ⟨d, e, hi, p⟩ := h
  refine ⟨_, _, ?_, p⟩
  unfold rAsg
  rw [if_neg (by omega), e]
theorem RW.ret (h : EW E (rdH σ) fun d => P σ (.ret d)) : RW (rRet E) N σ P := by
  obtain ⟨d, e, p⟩ := h
  exact ⟨_, _, by unfold rRet; rw [e], p⟩
theorem RW.if (h : TW T (rdF σ) fun b => IfK b (RW F N σ P) (RW F' N σ P)) : RW (rIf T F F') N σ P := by
  obtain ⟨b, e, p⟩ := h
  unfold RW rIf
  rw [e]
  cases b <;> exact p
theorem IfK.t {p q : Prop} (h : p) : IfK true p q := h
theorem IfK.f {p q : Prop} (h : q) : IfK false p q := h
theorem IfK.decT {c p q : Prop} [Decidable c] (hc : c) (h : p) : IfK (decide c) p q := by rw [decide_eq_true hc]; exact h
theorem IfK.decF {c p q : Prop} [Decidable c] (hc : ¬ c) (h : q) : IfK (decide c) p q := by rw [decide_eq_false hc]; exact h
theorem NotK.t {Q : Bool → Prop} (h : Q false) : NotK true Q := h
theorem NotK.f {Q : Bool → Prop} (h : Q true) : NotK false Q := h
theorem TruthK.bool {b : Bool} {K : Bool → Prop} (h : K b) : TruthK (.bool b) K := ⟨_, rfl, h⟩
theorem TruthK.int {a : Int} {K : Bool → Prop} (h : K (decide (a ≠ 0))) : TruthK (.int a) K := by
  refine ⟨_, rfl, ?_⟩
  have : (a != 0) = decide (a ≠ 0) := by
    by_cases q : a = 0 <;> simp [q]
  rw [this]; exact h
theorem TruthK.lst {l : List D} {K : Bool → Prop} (hl : l.length ≤ 10000) (h : K (!l.isEmpty)) : TruthK (.lst l) K := by
  refine ⟨_, ?_, h⟩
  show (if l.length ≤ sizeLine then some (!l.isEmpty) else Option.none) = _
  rw [if_pos (Nat.le_trans hl sizeLine_ge)]
theorem RW.aug {f : D → D → Option D} (hx : σ[i]? = some (.imm x)) (h : SW E σ fun y => OW f x y fun z => PutAt σ i (.imm z) fun σ' => P σ' .next) : RW (rAug i f E) N σ P := by
  obtain ⟨y, e, z, e', hi, p⟩ := h
  exact ⟨_, _, by unfold rAug; rw [hx]; simp only [e, e'], p⟩
theorem RW.tup {is : List Nat} {rev : Bool} (h : SW E σ fun d => TupK is rev d σ fun σ' => P σ' .next) : RW (rTup is rev E) N σ P := by
  obtain ⟨d, e, ds, rfl, hl, p⟩ := h
  exact ⟨_, _, by unfold rTup; rw [e]; simp only [hl, if_true], p⟩
theorem TupK.two_t {a b : D} {i j : Nat} (h : PutAt σ j (.imm b) fun σ' => PutAt σ' i (.imm a) K) : TupK [i, j] true (.tup [a, b]) σ K := ⟨_, rfl, rfl, h.2.2⟩
theorem TupK.two_f {a b : D} {i j : Nat} (h : PutAt σ i (.imm a) fun σ' => PutAt σ' j (.imm b) K) : TupK [i, j] false (.tup [a, b]) σ K := ⟨_, rfl, rfl, h.2.2⟩
theorem TupK.four_f {a b c e : D} {i j k l : Nat} (h : PutAt σ i (.imm a) fun σ' => PutAt σ' j (.imm b) fun σ' => PutAt σ' k (.imm c) fun σ' => PutAt σ' l (.imm e) K) : TupK [i, j, k, l] false (.tup [a, b, c, e]) σ K := ⟨_, rfl, rfl, h.2.2.2.2⟩
theorem RW.for (h : EW E (rdH σ) fun d => ForK d n j B N σ P) : RW (rFor n j E B) N σ P := by
  obtain ⟨d, e, ds, h1, h2, σ', fl, h3, p⟩ := h
  refine ⟨σ', fl, ?_, p⟩
  unfold rFor
  simp only [e, h1, h2, Bool.false_eq_true, if_false, h3]
theorem ForK.of (h1 : isStr d = false) (h2 : itemsOf d = some ds) (h : LW n j B N ds σ P) : ForK d n j B N σ P := ⟨ds, h1, h2, h⟩
theorem LW.nil (h : P σ .next) : LW n j B N [] σ P := ⟨_, _, rfl, h⟩
theorem LW.cons (hl : σ.length = n) (h : PutAt σ j (.imm d) fun σ₁ => RW B N σ₁ (LK P fun σ' => LW n j B N ds σ' P)) : LW n j B N (d :: ds) σ P := by
  obtain ⟨hj, σ', fl, e, p⟩ := h
  unfold LW forL
  rw [if_pos hl, e]
  cases fl with
  | next => exact p
  | cont => exact p
  | ret d => exact ⟨_, _, rfl, p⟩
theorem LW.inv (Inv : List D → St → Prop) (h0 : Inv ds σ) (hs : ∀ d ds σ, Inv (d :: ds) σ → σ.length = n ∧ PutAt σ j (.imm d) fun σ₁ => RW B N σ₁ (LK P (Inv ds))) (hP : ∀ σ', Inv [] σ' → P σ' .next) : LW n j B N ds σ P := by
  induction ds generalizing σ with
  | nil => exact LW.nil (hP _ h0)
  | cons d ds ih =>
    obtain ⟨hl, hj, σ', fl, e, p⟩ := hs d ds σ h0
    refine LW.cons hl ⟨hj, σ', fl, e, ?_⟩
    cases fl with
    | next => exact ih p
    | cont => exact ih p
    | ret d => exact p
theorem RW.while (h : WW T B N N σ P) : RW (rWhile T B) N σ P := h
theorem WW.inv (Inv : Nat → St → Prop) {k fuel : Nat} (h0 : Inv k σ) (hk : k < fuel) (hs : ∀ k σ, Inv k σ → TW T (rdF σ) fun b => IfK b (RW B N σ (LK P fun σ' => ∃ k', k' < k ∧ Inv k' σ')) (P σ .next)) : WW T B N fuel σ P := by
  induction fuel generalizing k σ with
  | zero => omega
  | succ fuel ih =>
    obtain ⟨b, e, p⟩ := hs k σ h0
    unfold WW whileL
    rw [e]
    cases b with
    | false => exact ⟨_, _, rfl, p⟩
    | true =>
      obtain ⟨σ', fl, e', p'⟩ := p
      simp only [e']
      cases fl with
      | next => obtain ⟨k', hk', hi⟩ := p'; exact ih hi (by omega)
      | cont => obtain ⟨k', hk', hi⟩ := p'; exact ih hi (by omega)
      | ret d => exact ⟨_, _, rfl, p'⟩
theorem EW.var (h : r[i]? = some (some d)) (k : Q d) : EW (eVar i) r Q := ⟨d, by unfold eVar; rw [h], k⟩
theorem EW.cst (k : Q d) : EW (eCst d) r Q := ⟨d, rfl, k⟩
theorem EW.e1 {f : D → Option D} (h : EW E r fun x => UW f x Q) : EW (e1 f E) r Q := by
  obtain ⟨x, e, d, e', q⟩ := h
  exact ⟨d, by unfold Mine.e1; rw [e]; exact e', q⟩
theorem EW.e2 {f : D → D → Option D} (h : EW E r fun x => EW G r fun y => OW f x y Q) : EW (e2 f E G) r Q := by
  obtain ⟨x, e, y, e', d, e'', q⟩ := h
  exact ⟨d, by unfold Mine.e2; rw [e]; simp only [e', e''], q⟩
theorem EW.call {f : List D → Option D} (h : EsW es r fun ds => CW f ds Q) : EW (eCall f es) r Q := by
  obtain ⟨ds, e, d, e', q⟩ := h
  exact ⟨d, by unfold eCall; rw [e]; exact e', q⟩
theorem EsW.nil {Q : List D → Prop} (k : Q []) : EsW es0 r Q := ⟨[], rfl, k⟩
theorem EsW.cons {Q : List D → Prop} (h : EW E r fun d => EsW es r fun ds => Q (d :: ds)) : EsW (esC E es) r Q := by
  obtain ⟨d, e, ds, e', q⟩ := h
  exact ⟨_, by unfold esC; rw [e]; simp only [e'], q⟩
theorem EW.tup (h : EsW es r fun ds => TpK ds Q) : EW (eTup es) r Q := by
  obtain ⟨ds, e, hl, q⟩ := h
  exact ⟨_, by unfold eTup; rw [e]; simp only [hl, if_true], q⟩
theorem EW.lst (h : EsW es r fun ds => LsK ds Q) : EW (eLst es) r Q := by
  obtain ⟨ds, e, hl, q⟩ := h
  exact ⟨_, by unfold eLst; rw [e]; simp only [hl, if_true], q⟩
theorem TpK.mk (h : ds.length ≤ 10000) (k : Q (.tup ds)) : TpK ds Q := ⟨Nat.le_trans h sizeLine_ge, k⟩
theorem LsK.mk (h : ds.length ≤ 10000) (k : Q (.lst ds)) : LsK ds Q := ⟨Nat.le_trans h sizeLine_ge, k⟩
theorem EW.or (h : EW E r fun x => TruthK x fun b => IfK b (Q x) (EW G r Q)) : EW (eOr E G) r Q := by
  obtain ⟨x, e, b, e', q⟩ := h
  unfold EW eOr
  rw [e]; simp only [e']
  cases b
  · exact q
  · exact ⟨_, rfl, q⟩
theorem EW.e3c {f f' : D → D → Option D} (h : EW E r fun x => EW G r fun y => OW f x y fun c => TruthK c fun b => IfK b (EW H r fun z => OW f' y z Q) (Q c)) : EW (e3c f f' E G H) r Q := by
  obtain ⟨x, e, y, e1, c, e2, b, e3, q⟩ := h
  unfold EW Mine.e3c
  rw [e]; simp only [e1, e2, e3]
  cases b
  · exact ⟨_, rfl, q⟩
  · obtain ⟨z, e4, d, e5, q⟩ := q
    exact ⟨d, by simp only [e4, e5], q⟩
theorem EW.comp (h : EW G r fun d => CompK E T r d Q) : EW (eComp E T G) r Q := by
  obtain ⟨d, e, ds, out, h1, h2, q⟩ := h
  exact ⟨_, by unfold eComp; rw [e]; simp only [h1, h2], q⟩
theorem TW.tOf {Q : Bool → Prop} (h : EW E r fun x => TruthK x Q) : TW (tOf E) r Q := by
  obtain ⟨x, e, b, e', q⟩ := h
  exact ⟨b, by unfold Mine.tOf; rw [e]; exact e', q⟩
theorem TW.not {Q : Bool → Prop} (h : TW T r fun b => NotK b Q) : TW (tNot T) r Q := by
  obtain ⟨b, e, q⟩ := h
  exact ⟨!b, by unfold tNot; rw [e], q⟩
theorem TW.and {Q : Bool → Prop} (h : TW T r fun b => IfK b (TW T' r Q) (Q false)) : TW (tAnd T T') r Q := by
  obtain ⟨b, e, q⟩ := h
  unfold TW tAnd
  rw [e]
  cases b
  · exact ⟨_, rfl, q⟩
  · exact q
theorem TW.or {Q : Bool → Prop} (h : TW T r fun b => IfK b (Q true) (TW T' r Q)) : TW (tOr T T') r Q := by
  obtain ⟨b, e, q⟩ := h
  unfold TW tOr
  rw [e]
  cases b
  · exact q
  · exact ⟨_, rfl, q⟩
section ops
variable {a b : Int}
theorem OW.add (k : Q (.int (a + b))) : OW fAdd (.int a) (.int b) Q := ⟨_, rfl, k⟩
theorem OW.addI (k : Q (.int (a + b))) : OW fAddI (.int a) (.int b) Q := ⟨_, rfl, k⟩
theorem OW.sub (k : Q (.int (a - b))) : OW fSub (.int a) (.int b) Q := ⟨_, rfl, k⟩
theorem OW.mul (h : mulOk a b = true) (k : Q (.int (a * b))) : OW fMul (.int a) (.int b) Q := ⟨_, by simp only [fMul]; rw [if_pos h], k⟩
theorem OW.div (h : divOk a b = true) (k : Q (.int (a.fdiv b))) : OW fDiv (.int a) (.int b) Q := ⟨_, by simp only [fDiv]; rw [if_pos h], k⟩
theorem OW.mod (h : b ≠ 0) (k : Q (.int (a.fmod b))) : OW fMod (.int a) (.int b) Q := ⟨_, by simp only [fMod]; rw [if_pos h], k⟩
theorem OW.pow (h : powOk a b = true) (k : Q (.int (a ^ b.toNat))) : OW fPow (.int a) (.int b) Q := ⟨_, by simp only [fPow]; rw [if_pos h], k⟩
theorem OW.and (k : Q (.int (Builtin.bitAnd a b))) : OW fAnd (.int a) (.int b) Q := ⟨_, rfl, k⟩
theorem OW.ord {f : Int → Int → Bool} (k : Q (.bool (f a b))) : OW (fOrd f) (.int a) (.int b) Q := ⟨_, rfl, k⟩
theorem OW.eq (k : Q (.bool (decide (a = b)))) : OW fEq (.int a) (.int b) Q := ⟨_, rfl, by
  have : (a == b) = decide (a = b) := by by_cases q : a = b <;> simp [q]
  rw [this]; exact k⟩
theorem OW.ne (k : Q (.bool (decide (a ≠ b)))) : OW fNe (.int a) (.int b) Q := ⟨_, rfl, by
  have : (a != b) = decide (a ≠ b) := by by_cases q : a = b <;> simp [q]
  rw [this]; exact k⟩
theorem UW.neg (k : Q (.int (-a))) : UW fNeg (.int a) Q := ⟨_, rfl, k⟩
theorem CW.max (k : Q (.int (if b > a then b else a))) : CW fMax [.int a, .int b] Q := ⟨_, rfl, k⟩
theorem CW.range2 (k : Q (.rng a b 1)) : CW fRange [.int a, .int b] Q := ⟨_, rfl, k⟩
end ops
/-- a comprehension over plain data -/
theorem compL_map {p : D → Bool} {g : D → D} : ∀ {ds : List D}, (∀ x ∈ ds, flat x = true ∧ T (some x :: r) = some (p x) ∧ (p x = true → E (some x :: r) = some (g x) ∧ flat (g x) = true)) → compL E T r ds = some ((ds.filter p).map g)
  | [], _ => rfl
  | x :: ds, h => by
    obtain ⟨h1, h2, h3⟩ := h x (.head _)
    have ih := compL_map (ds := ds) fun y hy => h y (.tail _ hy)
    unfold compL
    rw [if_pos h1, h2]
    cases q : p x with
    | false => simp only [List.filter_cons, q]; exact ih
    | true =>
      obtain ⟨h4, h5⟩ := h3 q
      simp only [h4, h5, if_true, ih, List.filter_cons, q, List.map_cons]
theorem CompK.ints {l : List Int} {p : Int → Bool} {g : Int → Int} (hi : itemsOf d = some (intsD l)) (h : ∀ x ∈ l, TW T (some (.int x) :: r) (fun b => b = p x) ∧ (p x = true → EW E (some (.int x) :: r) fun z => z = .int (g x))) (k : Q (.lst (intsD ((l.filter p).map g)))) : CompK E T r d Q := by
  refine ⟨_, _, hi, compL_map (p := fun z => match z with | .int x => p x | _ => true) (g := fun z => match z with | .int x => .int (g x) | _ => z) ?_, ?_⟩
  · intro x hx
    obtain ⟨y, hy, rfl⟩ := List.mem_map.mp hx
    obtain ⟨⟨b, e, rfl⟩, h2⟩ := h y hy
    refine ⟨rfl, e, fun q => ?_⟩
    obtain ⟨z, e', rfl⟩ := h2 q
    exact ⟨e', rfl⟩
  · have : ((intsD l).filter (fun z => match z with | .int x => p x | _ => true)).map (fun z => match z with | .int x => D.int (g x) | _ => z) = intsD ((l.filter p).map g) := by
      clear hi h k
      induction l with
      | nil => rfl
      | cons x l ih =>
        rw [intsD_cons, List.filter_cons, List.filter_cons]
        by_cases q : p x = true
        · simp only [q, if_true, List.map_cons, ih, intsD_cons]
        · simp only [Bool.not_eq_true] at q
          simp only [q, Bool.false_eq_true, if_false, ih]
    rw [this]; exact k
theorem TW.c {b : Bool} {Q : Bool → Prop} (h : Q b) : TW (fun _ => some b) r Q := ⟨b, rfl, h⟩
theorem RW.mid (M : St → Prop) (h : RW F N σ fun σ' fl => fl = .next ∧ M σ') (k : ∀ σ', M σ' → P σ' .next) : RW F N σ P := by
  obtain ⟨σ', fl, e, rfl, hm⟩ := h
  exact ⟨σ', _, e, k _ hm⟩
end
end Mine
open PySem PySem.W PyProof.Rows PySem.Spec
set_option linter.unusedVariables false
set_option Elab.async false
set_option maxRecDepth 100000
namespace Mine
/-! greatest common parts -/
theorem gcd_fmod {a b : Int} (ha : 0 ≤ a) (hb : 0 < b) : Int.gcd b (a.fmod b) = Int.gcd a b := by
  rw [Int.fmod_eq_emod_of_nonneg a (by omega)]
  obtain ⟨m, rfl⟩ := Int.eq_ofNat_of_zero_le ha
  obtain ⟨n, rfl⟩ := Int.eq_ofNat_of_zero_le (by omega : 0 ≤ b)
  have : (m : Int) % (n : Int) = ((m % n : Nat) : Int) := by simp
  rw [this]
  show Nat.gcd n (m % n) = Nat.gcd m n
  rw [Nat.gcd_comm n, ← Nat.gcd_rec, Nat.gcd_comm]
noncomputable def absI (a : Int) : Int := if a < 0 then -a else a
theorem absI_eq (a : Int) : absI a = (a.natAbs : Int) := by unfold absI; split <;> omega
theorem fAbs_nat (a : Int) : fAbs [.int a] = some (.int (a.natAbs : Int)) := by
  show some (D.int (absI a)) = _
  rw [absI_eq]
theorem fmod_nat (m n : Nat) : (m : Int).fmod (n : Int) = ((m % n : Nat) : Int) := by
  rw [Int.fmod_eq_emod_of_nonneg _ (by omega)]; simp
theorem fdiv_nat (m n : Nat) : (m : Int).fdiv (n : Int) = ((m / n : Nat) : Int) := by
  rw [Int.fdiv_eq_ediv_of_nonneg _ (by omega)]; simp
end Mine
open PySem PySem.W PyProof.Rows PySem.Spec
set_option linter.unusedVariables false
set_option Elab.async false
set_option maxRecDepth 100000
namespace Mine
section
variable {F Fs F' B : Run} {N n i j m : Nat} {σ σ' : St} {P : St → Fl → Prop} {E G H : Ev} {r : R} {Q : D → Prop} {T T' : Tr} {es : Evs} {d x y : D} {ds : List D} {K : St → Prop}
theorem RW.retF (h0 : E (rdH σ) = none) (h : EW E (rdF σ) fun d => P σ (.ret d)) : RW (rRet E) N σ P := by
  obtain ⟨d, e, p⟩ := h
  exact ⟨_, _, by unfold rRet; rw [h0]; simp only [e], p⟩
theorem RW.new (h : EsW es (rdH σ) fun ds => ds.length ≤ 10000 ∧ PutAt σ i (.mt ds) fun σ' => P σ' .next) : RW (rNew i es) N σ P := by
  obtain ⟨ds, e, hl, hi, p⟩ := h
  exact ⟨_, _, by unfold rNew evsS; rw [e]; simp only [Nat.le_trans hl sizeLine_ge, if_true], p⟩
theorem RW.app {l : List D} (hx : σ[i]? = some (.mt l)) (hl : l.length ≤ 10000) (h : SW E σ fun d => PutAt σ i (.mt (l ++ [d])) fun σ' => P σ' .next) : RW (rApp i E) N σ P := by
  obtain ⟨d, e, hi, p⟩ := h
  exact ⟨_, _, by unfold rApp; rw [hx]; simp only [Nat.le_trans hl sizeLine_ge, if_true, e], p⟩
theorem RW.forM {l : List D} (hx : σ[i]? = some (.mt l)) (hl : l.length ≤ 10000) (hn : σ.length = n) (h : PutAt σ i (.imm (.lst l)) fun σ' => LW n j B N l σ' P) : RW (rForM n j i B) N σ P := by
  obtain ⟨hi, σ', fl, e, p⟩ := h
  exact ⟨_, _, by unfold rForM; rw [if_pos hn, hx]; simp only [Nat.le_trans hl sizeLine_ge, if_true]; exact e, p⟩
theorem TruthK.lstE {l : List D} {K : Bool → Prop} (h : l = []) (k : K false) : TruthK (.lst l) K := by
  subst h; exact TruthK.lst (by decide) k
theorem TruthK.lstN {l : List D} {K : Bool → Prop} (h : l ≠ []) (hl : l.length ≤ 10000) (k : K true) : TruthK (.lst l) K := by
  refine TruthK.lst hl ?_
  cases l with
  | nil => exact absurd rfl h
  | cons a b => exact k
end
/-- the primes as the programs build them -/
noncomputable def natI (l : List Nat) : List Int := l.map fun (n : Nat) => (n : Int)
theorem natI_cons (n : Nat) (l : List Nat) : natI (n :: l) = (n : Int) :: natI l := rfl
theorem natI_length (l : List Nat) : (natI l).length = l.length := by simp [natI]
theorem mem_natI {x : Int} {l : List Nat} : x ∈ natI l ↔ ∃ n ∈ l, x = (n : Int) := by
  unfold natI; rw [List.mem_map]
  exact ⟨fun ⟨a, b, c⟩ => ⟨a, b, c.symm⟩, fun ⟨a, b, c⟩ => ⟨a, b, c.symm⟩⟩
noncomputable def pgT (n p : Nat) : Bool := decide (p * p ≤ n) && decide (n % p = 0)
noncomputable def pgS (l : List Nat) (n : Nat) : List Nat := if (l.filter (pgT n)).isEmpty = true then l ++ [n] else l
noncomputable def pgR : Nat → List Nat
  | 0 => []
  | k + 1 => pgS (pgR k) (k + 2)
theorem pgR_mem : ∀ {k x : Nat}, x ∈ pgR k → 2 ≤ x ∧ x ≤ k + 1
  | k + 1, x, h => by
    rw [pgR, pgS] at h
    split at h
    · rcases List.mem_append.mp h with h | h
      · have := pgR_mem h; omega
      · have : x = k + 2 := by simpa using h
        omega
    · have := pgR_mem h; omega
theorem pgR_length : ∀ k, (pgR k).length ≤ k
  | 0 => Nat.le_refl 0
  | k + 1 => by
    have := pgR_length k
    rw [pgR, pgS]
    split
    · rw [List.length_append]; simp; exact this
    · omega
theorem filter_natI (p : Int → Bool) (l : List Nat) : (natI l).filter p = natI (l.filter fun n => p (n : Int)) := by
  induction l with
  | nil => rfl
  | cons a l ih =>
    rw [natI_cons, List.filter_cons, List.filter_cons, ih]
    split <;> rfl
theorem Bd.sm {x : Int} (h : -1000 ≤ x) (h' : x ≤ 1000) : Bd 10 x := by
  unfold Bd
  have : (2:Nat) ^ 10 = 1024 := by decide
  omega
end Mine
open PySem PySem.W PyProof.Rows PySem.Spec
set_option linter.unusedVariables false
set_option Elab.async false
set_option maxRecDepth 100000
namespace Mine
noncomputable def prodN : List Nat → Nat
  | [] => 1
  | p :: r => p * prodN r
noncomputable def copL : List Nat → Bool
  | [] => true
  | p :: r => decide (Nat.gcd p (prodN r) = 1) && copL r
noncomputable def primB (p : Nat) : Prop := ∀ d, d ∣ p → d = 1 ∨ d = p
theorem gcd_prod {m : Nat} : ∀ {l : List Nat}, copL l = true → (∀ p ∈ l, primB p) → Nat.gcd (prodN l) m = prodN (l.filter fun p => decide (m % p = 0))
  | [], _, _ => by simp [prodN]
  | p :: r, hc, hp => by
    rw [copL, Bool.and_eq_true, decide_eq_true_eq] at hc
    have ih := gcd_prod (m := m) hc.2 fun q hq => hp q (.tail _ hq)
    rw [prodN, Nat.gcd_comm, Nat.Coprime.gcd_mul m hc.1, Nat.gcd_comm m, Nat.gcd_comm m, ih, List.filter_cons]
    rcases hp p (.head _) (Nat.gcd p m) (Nat.gcd_dvd_left p m) with h | h
    · by_cases q : m % p = 0
      · have : Nat.gcd p m = p := Nat.gcd_eq_left (Nat.dvd_of_mod_eq_zero q)
        have p1 : p = 1 := by omega
        rw [if_pos (decide_eq_true q), h, prodN, p1]
      · rw [if_neg (by simpa using q), h, Nat.one_mul]
    · have q : m % p = 0 := Nat.mod_eq_zero_of_dvd (by rw [← h]; exact Nat.gcd_dvd_right p m)
      rw [if_pos (decide_eq_true q), h, prodN]
theorem pgR_mono {t x : Nat} : ∀ {k : Nat}, x ∈ pgR t → x ∈ pgR (t + k)
  | 0, h => h
  | k + 1, h => by
    have := pgR_mono (k := k) h
    rw [show t + (k + 1) = (t + k) + 1 by omega, pgR, pgS]
    split
    · exact List.mem_append.mpr (.inl this)
    · exact this
end Mine
open PySem PySem.W PyProof.Rows PySem.Spec PySem.Calls
set_option linter.unusedVariables false
set_option Elab.async false
set_option maxRecDepth 100000
namespace Mine
theorem powMod_step (b e m : Nat) : ∀ k : Nat, (List.range k).reverse.foldl (fun p i => if e.testBit i then p * p % m * b % m else p * p % m) (b ^ (e / 2 ^ k) % m) = b ^ e % m
  | 0 => by simp
  | k + 1 => by
    rw [List.range_succ, List.reverse_append, List.reverse_cons, List.reverse_nil, List.nil_append, List.cons_append, List.nil_append, List.foldl_cons]
    have h2 : e / 2 ^ (k + 1) = e / 2 ^ k / 2 := by rw [Nat.pow_succ, Nat.div_div_eq_div_mul]
    have ht : e.testBit k = decide (e / 2 ^ k % 2 = 1) := Nat.testBit_eq_decide_div_mod_eq
    have step : (if e.testBit k = true then b ^ (e / 2 ^ (k + 1)) % m * (b ^ (e / 2 ^ (k + 1)) % m) % m * b % m else b ^ (e / 2 ^ (k + 1)) % m * (b ^ (e / 2 ^ (k + 1)) % m) % m) = b ^ (e / 2 ^ k) % m := by
      rw [h2, ht]
      generalize e / 2 ^ k = q
      rw [← Nat.mul_mod, ← Nat.pow_add]
      by_cases o : q % 2 = 1
      · rw [if_pos (by simpa using o), Nat.mod_mul_mod, ← Nat.pow_succ]
        congr 2; omega
      · rw [if_neg (by simpa using o)]
        congr 2; omega
    rw [step]
    exact powMod_step b e m k
theorem powMod_eq (b e m : Nat) : Builtin.powMod b e m = b ^ e % m := by
  unfold Builtin.powMod
  have h : e / 2 ^ (Builtin.Int.intBits (e : Int)) = 0 := by
    rw [Nat.div_eq_zero_iff]
    right
    unfold Builtin.Int.intBits
    split
    · rename_i q
      have : e = 0 := by simpa using q
      subst this; decide
    · exact Nat.lt_log2_self
  have := powMod_step b e m (Builtin.Int.intBits (e : Int))
  rw [h, Nat.pow_zero] at this
  exact this
noncomputable def fPow3 : List D → Option D
  | [.int b, .int e, .int m] => if 0 ≤ e ∧ m ≠ 0 then some (.int ((b ^ e.toNat).fmod m)) else none
  | _ => none
open PySem.Builtin in
theorem int_pow3 {M : Model} {A : Around} {E : Value → Shared → Prop} {s : Shared} {Q : Value → Shared → Prop} {a b c : Int} {t u v : Tok} (hc0 : ¬(c == 0) = true) (hc1 : ¬(c.natAbs == 1) = true) (hb : ¬ b < 0)
    (h : Q (.int (if (decide (c < 0) && ((powMod (a % (c.natAbs : Int)).toNat b.natAbs c.natAbs : Nat) : Int) != 0) = true then ((powMod (a % (c.natAbs : Int)).toNat b.natAbs c.natAbs : Nat) : Int) - (c.natAbs : Int) else ((powMod (a % (c.natAbs : Int)).toNat b.natAbs c.natAbs : Nat) : Int)) s.toks) { s with toks := s.toks + 1 }) :
    wpAny M A (Builtin.«int.__pow__» ⟨[.int a t, .int b u, .int c v], []⟩) (fun fin s' => ∃ v, fin = .done (.ret v) ∧ Q v s') E s := by
  obtain ⟨hp, g, d, tk, os⟩ := s; wp_walk; exact ⟨_, rfl, h⟩
theorem int_pow3_1 {M : Model} {A : Around} {E : Value → Shared → Prop} {s : Shared} {Q : Value → Shared → Prop} {a b c : Int} {t u v : Tok} (hc0 : ¬(c == 0) = true) (hc1 : (c.natAbs == 1) = true)
    (h : Q (.int 0 s.toks) { s with toks := s.toks + 1 }) :
    wpAny M A (Builtin.«int.__pow__» ⟨[.int a t, .int b u, .int c v], []⟩) (fun fin s' => ∃ v, fin = .done (.ret v) ∧ Q v s') E s := by
  obtain ⟨hp, g, d, tk, os⟩ := s; wp_walk; exact ⟨_, rfl, h⟩
theorem pow_emod (a : Int) (e n : Nat) (hn : 0 < n) : ((((a % (n : Int)).toNat ^ e % n : Nat)) : Int) = a ^ e % (n : Int) := by
  have h := Int.emod_nonneg a (by omega : (n : Int) ≠ 0)
  rw [Int.natCast_emod, Int.natCast_pow, Int.toNat_of_nonneg h]
  induction e with
  | zero => simp
  | succ e ih => rw [Int.pow_succ, Int.pow_succ, Int.mul_emod, ih, Int.emod_emod_of_dvd _ (Int.dvd_refl _), ← Int.mul_emod]
theorem pow_fmod (a c : Int) (e : Nat) (hc : c ≠ 0) :
    (if (decide (c < 0) && ((((a % (c.natAbs : Int)).toNat ^ e % c.natAbs : Nat)) : Int) != 0) = true then ((((a % (c.natAbs : Int)).toNat ^ e % c.natAbs : Nat)) : Int) - (c.natAbs : Int) else ((((a % (c.natAbs : Int)).toNat ^ e % c.natAbs : Nat)) : Int)) = (a ^ e).fmod c := by
  have en : a ^ e % (c.natAbs : Int) = a ^ e % c := by
    rcases Int.natAbs_eq c with q | q
    · rw [← q]
    · conv => rhs; rw [q]
      rw [Int.emod_neg]
  rw [pow_emod a e c.natAbs (by omega), en, Int.fmod_eq_emod]
  by_cases h : c < 0
  · have h' : ¬ 0 ≤ c := by omega
    by_cases q : a ^ e % c = 0
    · have : c ∣ a ^ e := Int.dvd_of_emod_eq_zero q
      simp [q, this]
    · have : ¬ c ∣ a ^ e := fun d => q (Int.emod_eq_zero_of_dvd d)
      simp only [h, h', this, q, decide_true, Bool.true_and, false_or, if_false, bne_iff_ne, ne_eq, not_false_eq_true, if_true]
      omega
  · have h' : 0 ≤ c := by omega
    simp [h, h']
theorem kind_pow : builtinKind "pow" = none := by decide +kernel
theorem plain_pow : plainId "pow" = true := by decide +kernel
theorem entry_pow : entryFor table "pow" = some Builtin.«pow» := entryFor_of_fast (by kernel_rfl)
theorem args_pow (a b c : Value) : argsOk "pow" ⟨[a, b, c], []⟩ := by unfold argsOk; kernel_rfl
theorem args_int_pow3 (a b c : Value) : argsOk "int.__pow__" ⟨[a, b, c], []⟩ := by unfold argsOk; kernel_rfl
theorem look_int_pow : typeLookup (.type "int") "__pow__" = pure (some (.builtin "int.__pow__")) := by rw [typeLookup_type, builtinLookup_eq_fast]; kernel_rfl
theorem call_int_pow {prog : Program} {w : World} {A : Around} {E : Value → Shared → Prop} {s : Shared} {a b c : Int} {t u v : Tok} {Q : Value → Shared → Prop} (hc0 : c ≠ 0) (hb : 0 ≤ b)
    (h : Q (.int ((a ^ b.toNat).fmod c) s.toks) { s with toks := s.toks + 1 }) : wpAny (model prog w) A (call (.builtin "int.__pow__") [.int a t, .int b u, .int c v]) Q E s := by
  refine wpAny_call_entry slot_int_pow (typeIs_int s a t) entry_int_pow ?_ (args_int_pow3 _ _ _)
  have hc : ¬ (c == 0) = true := by simpa using hc0
  have hb' : ¬ b < 0 := by omega
  by_cases h1 : (c.natAbs == 1) = true
  · refine int_pow3_1 hc h1 ?_
    have e : (a ^ b.toNat).fmod c = 0 := by
      have : c = 1 ∨ c = -1 := by
        have : c.natAbs = 1 := by simpa using h1
        omega
      rw [Int.fmod_eq_emod]
      rcases this with rfl | rfl
      · simp
      · have : (-1 : Int) ∣ a ^ b.toNat := ⟨-(a ^ b.toNat), by omega⟩
        simp [this]
    rw [e] at h
    exact h
  · refine int_pow3 hc h1 hb' ?_
    rw [powMod_eq, pow_fmod a c b.natAbs hc0, show b.natAbs = b.toNat by omega]
    exact h
theorem call_pow3 {prog : Program} {w : World} {A : Around} {E : Value → Shared → Prop} {s : Shared} {a b c : Int} {t u v : Tok} {Q : Value → Shared → Prop} (hc0 : c ≠ 0) (hb : 0 ≤ b)
    (h : Q (.int ((a ^ b.toNat).fmod c) s.toks) { s with toks := s.toks + 1 }) : wpAny (model prog w) A (call (.builtin "pow") [.int a t, .int b u, .int c v]) Q E s := by
  refine call_function_entry kind_pow plain_pow entry_pow (args_pow _ _ _) ?_
  unfold Builtin.«pow»
  refine wpAny_bind (m := Builtin.Builtins.bindParams "pow" ["base", "exp", "mod"] 2 _) (wpAny_pure ?_)
  dsimp only [Option.getD]
  refine wpAny_bind (wpAny_rule ?_)
  refine wpAny_bind (m := typeOf _) (wpAny_pure ?_)
  dsimp only
  refine wpAny_bind (m := typeLookup (.type "int") (Str.ofString "__pow__")) ?_
  rw [show typeLookup (.type "int") (Str.ofString "__pow__") = pure (some (.builtin "int.__pow__")) from look_int_pow]
  refine wpAny_pure ?_
  dsimp only
  refine wpAny_bind (m := callSpecial? (.int a t) (Str.ofString "__pow__") _) (wpAny_callSpecial?_slot (name := Str.ofString "__pow__") (typeIs_int s a t) slot_int_pow ?_)
  refine call_int_pow hc0 hb ?_
  dsimp only
  exact wpAny_pure ⟨_, rfl, h⟩

section
variable {I : GI} {k : Nat}
theorem PrimOK.pow : PrimOK I k (.builtin "pow") fPow3 := by
  intro A g s ds vs d Q E hA sub gl hf hv P
  unfold fPow3 at hf
  split at hf
  · rename_i b e m
    split at hf
    · rename_i hc
      cases hf
      obtain ⟨v1, vs1, rfl, ⟨t, rfl⟩, v2, vs2, rfl, ⟨u, rfl⟩, v3, vs3, rfl, ⟨w, rfl⟩, hn⟩ := hv
      rw [show vs3 = [] from hn]
      exact call_pow3 hc.2 hc.1 (P.now sub ⟨_, rfl⟩)
    · cases hf
  · cases hf
theorem CW.pow3 {b e m : Int} {Q : D → Prop} (he : 0 ≤ e) (hm : m ≠ 0) (k : Q (.int ((b ^ e.toNat).fmod m))) : CW fPow3 [.int b, .int e, .int m] Q := ⟨_, by simp only [fPow3]; rw [if_pos ⟨he, hm⟩], k⟩
end
end Mine
open PySem PySem.W PyProof.Rows PySem.Spec PySem.Calls
set_option linter.unusedVariables false
set_option Elab.async false
set_option maxRecDepth 100000
namespace Mine
/-- a global that is a tuple of whole numbers -/
noncomputable def GTup (I : GI) (x : Str) (l : List Int) : Prop := ∃ a, I.mg x = some (.ref a) ∧ ∀ h, I.Gl h → ∃ o vs n, h.get? a = some o ∧ o.cls = .type "tuple" ∧ o.data = .seq vs n ∧ IntsAre vs.toList l
theorem gtup_of {prog : Program} {w : World} {mg mb : Str → Option Value} {p : Program} {loose : List Str} {mean : ExcName → Option Value} {K : Frag} {hboot : ∀ x : Str, x ≠ "__name__" → mb x = bootBuiltins x} {h₀ : Heap} (T : Top p loose mean mg mb h₀) (X : K.In h₀) {x : Str} {l : List Int}
    (h : ∃ a o vs n, nsIn K mainGlobals x = some (some (.ref a)) ∧ K.lookup a = some o ∧ o.cls = .type "tuple" ∧ o.data = .seq vs n ∧ IntsAre vs.toList l) : GTup (giOf prog w mg mb p loose mean K hboot) x l := by
  obtain ⟨a, o, vs, n, h1, h2, h3, h4, h5⟩ := h
  exact ⟨a, mg_of X T.g h1, fun h hg => ⟨o, vs, n, hg.2 _ _ h2, h3, h4, h5⟩⟩
section
variable {I : GI} {k : Nat} {sc : Scope} {ns : List Str}
noncomputable def fAt (l : List Int) : D → Option D
  | .int i => if 0 ≤ i ∧ i < l.length ∧ i < 1000 then (match l[i.toNat]? with | some n => some (.int n) | none => none) else none
  | _ => none
theorem EvOK.gsub {x : Str} {px pos : Pos} {slice : Expr} {l : List Int} {F' : Ev} (hx : sc.names.lookup x = some .globalImplicit) (hk : sc.kind = .function) (hd : (x == ("__debug__" : Str)) = false) (hs : ∀ o i, subscripted slice false o i = operate [o, i] (getItem o i))
    (hG : GTup I x l) (hi : EvOK I k sc ns slice F') : EvOK I k sc ns (.Subscript (.Name x px) slice pos) (e1 (fAt l) F') := by
  intro env A g r s d Q E hS hA V hF P
  unfold e1 at hF
  split at hF
  · rename_i y hy
    obtain ⟨a, hm, hgl⟩ := hG
    have hx' : env.kindOf x = some .globalImplicit := by unfold Env.kindOf; rw [hS.scope]; exact hx
    refine Subscript_ (Calls.Name_function_global (hS.scope ▸ hk) hx' (Calls.loadGlobal_global (hS.globals ▸ I.g V.gl) hm ?_) hd)
    refine hi env A _ r s y _ E hS hA V hy fun v h₂ tk₂ k₂ hv => ?_
    unfold fAt at hF
    split at hF
    · rename_i i
      split at hF
      · rename_i hc
        split at hF
        · rename_i n hn
          cases hF
          have V₂ := V.grow k₂
          obtain ⟨o, vs, nn, ho, h3, h4, h5⟩ := hgl h₂ V₂.gl
          have hI : Is h₂.get? (.tup (intsD l)) (.ref a) := ⟨a, o, vs, nn, rfl, ho, h3, h4, isL_ints h5⟩
          have hv' : Is h₂.get? (.int i) v := Is.flat (g := ext g s.heap h₂) (d := .int i) rfl hv
          refine subs_ok (s := { s with heap := h₂, toks := tk₂ }) (g := h₂.get?) (x := .tup (intsD l)) (y := .int i) (d := .int n) (Sub.refl _) hI hv' ?_ ?_ hs
          · have : (2:Int)^63 = 9223372036854775808 := by decide
            have c : 0 ≤ i ∧ i < 2 ^ 63 := ⟨hc.1, by omega⟩
            unfold fSubs
            simp only [c, and_self, if_true, intsD, List.getElem?_map, hn]; rfl
          · intro v' h' tk' kk hv''
            exact P v' h' tk' (k₂.trans kk) (Is.flat (d := .int n) rfl hv'')
        · cases hF
      · cases hF
    · cases hF
  · cases hF
end
theorem UW.at {l : List Int} {i : Nat} {n : Int} {Q : D → Prop} (h : l[i]? = some n) (hl : i < 1000) (k : Q (.int n)) : UW (fAt l) (.int (i : Int)) Q := by
  refine ⟨_, ?_, k⟩
  have := (List.getElem?_eq_some_iff.mp h).1
  unfold fAt
  have c : 0 ≤ (i : Int) ∧ (i : Int) < l.length ∧ (i : Int) < 1000 := ⟨by omega, by omega, by omega⟩
  simp only [c, and_self, if_true, Int.toNat_natCast, h]
end Mine
section
open Lean.Grind
set_option linter.unusedVariables false
set_option Elab.async false
namespace Mine
/-! chord and tangent -/
section
variable {K : Type} [CommRing K]
structure FieldLike (K : Type) [CommRing K] (inv : K → K) : Prop where
  inv : ∀ z : K, z ≠ 0 → z * inv z = 1
  one : (1 : K) ≠ 0
  two : (2 : K) ≠ 0
theorem FieldLike.dom {inv : K → K} (h : FieldLike K inv) {u v : K} (e : u * v = 0) : u = 0 ∨ v = 0 := by
  by_cases hu : u = 0
  · exact .inl hu
  · have := h.inv u hu
    exact .inr (by grind)
theorem FieldLike.cancel {inv : K → K} (h : FieldLike K inv) {u v w : K} (hu : u ≠ 0) (e : u * v = u * w) : v = w := by
  rcases h.dom (u := u) (v := v - w) (by grind) with q | q
  · exact absurd q hu
  · grind
theorem FieldLike.mul {inv : K → K} (h : FieldLike K inv) {u v : K} (hu : u ≠ 0) (hv : v ≠ 0) : u * v ≠ 0 := fun e => (h.dom e).elim hu hv

noncomputable abbrev Pt (K : Type) := Option (K × K)
open Classical in
/-- the sum by chord and tangent on y*y = x^3 + a2*x*x + a4*x -/
noncomputable def addP (inv : K → K) (a2 a4 : K) : Pt K → Pt K → Pt K
  | none, B => B
  | some A, none => some A
  | some A, some B =>
    if A.1 = B.1 then
      if A.2 + B.2 = 0 then none
      else let l := (3 * A.1 * A.1 + 2 * a2 * A.1 + a4) * inv (2 * A.2)
        some (l * l - a2 - A.1 - B.1, l * (A.1 - (l * l - a2 - A.1 - B.1)) - A.2)
    else let l := (B.2 - A.2) * inv (B.1 - A.1)
      some (l * l - a2 - A.1 - B.1, l * (A.1 - (l * l - a2 - A.1 - B.1)) - A.2)
noncomputable def onC (a2 a4 x y : K) : Prop := y * y = x * x * x + a2 * x * x + a4 * x
noncomputable def OnC (a2 a4 : K) : Pt K → Prop
  | none => True
  | some A => onC a2 a4 A.1 A.2
noncomputable def negP : Pt K → Pt K
  | none => none
  | some A => some (A.1, -A.2)
/-- no point where both slopes vanish -/
noncomputable def Smooth (a2 a4 : K) : Prop := ∀ x : K, x * x * x + a2 * x * x + a4 * x = 0 → 3 * x * x + 2 * a2 * x + a4 = 0 → False

/-- l is a slope through (x1,y1) and (x2,y2): chord, or tangent -/
noncomputable def Slope (a2 a4 x1 y1 x2 y2 l : K) : Prop :=
  (x1 ≠ x2 ∧ l * (x2 - x1) = y2 - y1) ∨ (x1 = x2 ∧ y1 = y2 ∧ y1 + y2 ≠ 0 ∧ l * (2 * y1) = 3 * x1 * x1 + 2 * a2 * x1 + a4)
theorem lc1 {a b p q c : K} (h : p = q) (e : a - b = c * (p - q)) : a = b := by
  subst h; grind
theorem lc2 {a b p q p' q' c c' : K} (h : p = q) (h' : p' = q') (e : a - b = c * (p - q) + c' * (p' - q')) : a = b := by
  subst h; subst h'; grind
theorem lc3 {a b p q p' q' p'' q'' c c' c'' : K} (h : p = q) (h' : p' = q') (h'' : p'' = q'') (e : a - b = c * (p - q) + c' * (p' - q') + c'' * (p'' - q'')) : a = b := by
  subst h; subst h'; subst h''; grind
theorem lc4 {a b p q p' q' p'' q'' p3 q3 c c' c'' c3 : K} (h : p = q) (h' : p' = q') (h'' : p'' = q'') (h3 : p3 = q3) (e : a - b = c * (p - q) + c' * (p' - q') + c'' * (p'' - q'') + c3 * (p3 - q3)) : a = b := by
  subst h; subst h'; subst h''; subst h3; grind
variable {inv : K → K} {a2 a4 : K} (FL : FieldLike K inv)

include FL in
theorem same_x {x y y' : K} (h : onC a2 a4 x y) (h' : onC a2 a4 x y') (hs : y + y' ≠ 0) : y = y' := by
  unfold onC at *
  rcases FL.dom (u := y + y') (v := y - y') (by grind) with q | q
  · exact absurd q hs
  · grind
include FL in
theorem addP_slope {x1 y1 x2 y2 : K} (h1 : onC a2 a4 x1 y1) (h2 : onC a2 a4 x2 y2) (hn : ¬ (x1 = x2 ∧ y1 + y2 = 0)) :
    ∃ l, Slope a2 a4 x1 y1 x2 y2 l ∧ addP inv a2 a4 (some (x1, y1)) (some (x2, y2)) = some (l * l - a2 - x1 - x2, l * (x1 - (l * l - a2 - x1 - x2)) - y1) := by
  by_cases hx : x1 = x2
  · have hy : y1 + y2 ≠ 0 := fun e => hn ⟨hx, e⟩
    have e : y1 = y2 := same_x FL h1 (by rw [hx]; exact h2) hy
    refine ⟨(3 * x1 * x1 + 2 * a2 * x1 + a4) * inv (2 * y1), .inr ⟨hx, e, hy, ?_⟩, ?_⟩
    · have := FL.inv (2 * y1) (by grind)
      grind
    · unfold addP
      simp only [hx, if_true, if_neg hy]
  · refine ⟨(y2 - y1) * inv (x2 - x1), .inl ⟨hx, ?_⟩, ?_⟩
    · have := FL.inv (x2 - x1) (by grind)
      grind
    · unfold addP
      simp only [if_neg hx]
include FL in
/-- a sum by any slope -/
theorem addP_eq {x1 y1 x2 y2 l : K} (hs : Slope a2 a4 x1 y1 x2 y2 l) : addP inv a2 a4 (some (x1, y1)) (some (x2, y2)) = some (l * l - a2 - x1 - x2, l * (x1 - (l * l - a2 - x1 - x2)) - y1) := by
  rcases hs with ⟨hx, e⟩ | ⟨hx, hy, h0, e⟩
  · have i := FL.inv (x2 - x1) (by grind)
    have : l = (y2 - y1) * inv (x2 - x1) := by grind
    unfold addP
    simp only [if_neg hx, ← this]
  · subst hx; subst hy
    have i := FL.inv (2 * y1) (by grind)
    have : l = (3 * x1 * x1 + 2 * a2 * x1 + a4) * inv (2 * y1) := by grind
    unfold addP
    simp only [if_true, if_neg h0, ← this]
/-- the line meets the curve in the third point: f - l^2 = (x-x1)(x-x2)(x-s) -/
theorem line_cubic (FL : FieldLike K inv) {x1 y1 x2 y2 l : K} (h1 : onC a2 a4 x1 y1) (h2 : onC a2 a4 x2 y2) (hs : Slope a2 a4 x1 y1 x2 y2 l) (x : K) :
    x * x * x + a2 * x * x + a4 * x - (l * (x - x1) + y1) * (l * (x - x1) + y1) = (x - x1) * (x - x2) * (x - (l * l - a2 - x1 - x2)) := by
  unfold onC at *
  rcases hs with ⟨hx, e⟩ | ⟨hx, hy, h0, e⟩
  · have e2 : l * (x2 - x1) * (2 * y1 + l * (x2 - x1)) = (y2 - y1) * (y2 + y1) := by rw [e]; grind
    have key : l * (2 * y1 + l * (x2 - x1)) = x2 * x2 + x1 * x2 + x1 * x1 + a2 * (x1 + x2) + a4 := by
      refine FL.cancel (u := x2 - x1) (fun q => hx (by clear e2 h1 h2 e; grind)) ?_
      refine lc3 (c := 1) (c' := 1) (c'' := -1) e2 h2 h1 ?_
      clear e2 h1 h2 e; grind
    refine lc2 (c := -1) (c' := -(x - x1)) h1 key ?_
    clear key e2 e h2 h1
    grind
  · subst hx; subst hy
    grind
theorem addP_on (FL : FieldLike K inv) : ∀ {A B : Pt K}, OnC a2 a4 A → OnC a2 a4 B → OnC a2 a4 (addP inv a2 a4 A B)
  | none, B, _, h => h
  | some A, none, h, _ => h
  | some (x1, y1), some (x2, y2), h1, h2 => by
    by_cases hn : x1 = x2 ∧ y1 + y2 = 0
    · unfold addP
      simp only [hn.1, hn.2, if_true]
      trivial
    · obtain ⟨l, hs, e⟩ := addP_slope FL h1 h2 hn
      rw [e]
      have := line_cubic FL h1 h2 hs (l * l - a2 - x1 - x2)
      show onC a2 a4 _ _
      unfold onC
      grind
theorem addP_comm (FL : FieldLike K inv) : ∀ {A B : Pt K}, OnC a2 a4 A → OnC a2 a4 B → addP inv a2 a4 A B = addP inv a2 a4 B A
  | none, none, _, _ => rfl
  | none, some _, _, _ => rfl
  | some _, none, _, _ => rfl
  | some (x1, y1), some (x2, y2), h1, h2 => by
    by_cases hn : x1 = x2 ∧ y1 + y2 = 0
    · have : x2 = x1 ∧ y2 + y1 = 0 := ⟨hn.1.symm, by grind⟩
      unfold addP
      simp only [hn.1, hn.2, this.2, if_true]
    · obtain ⟨l, hs, e⟩ := addP_slope FL h1 h2 hn
      have hs' : Slope a2 a4 x2 y2 x1 y1 l := by
        rcases hs with ⟨hx, e⟩ | ⟨hx, hy, h0, e⟩
        · exact .inl ⟨Ne.symm hx, by grind⟩
        · exact .inr ⟨hx.symm, hy.symm, by grind, by grind⟩
      rw [e, addP_eq FL hs']
      rcases hs with ⟨hx, e⟩ | ⟨hx, hy, h0, e⟩
      · congr 2 <;> grind
      · subst hx; subst hy; rfl
end
end Mine
end
section
open Lean.Grind
set_option linter.unusedVariables false
set_option Elab.async false
namespace Mine
section
variable {K : Type} [CommRing K] {inv : K → K} {a2 a4 : K}
theorem slope_key (FL : FieldLike K inv) {x1 y1 x2 y2 l : K} (h1 : onC a2 a4 x1 y1) (h2 : onC a2 a4 x2 y2) (hs : Slope a2 a4 x1 y1 x2 y2 l) :
    l * (2 * y1 + l * (x2 - x1)) = x2 * x2 + x1 * x2 + x1 * x1 + a2 * (x1 + x2) + a4 := by
  unfold onC at *
  rcases hs with ⟨hx, e⟩ | ⟨hx, hy, h0, e⟩
  · have e2 : l * (x2 - x1) * (2 * y1 + l * (x2 - x1)) = (y2 - y1) * (y2 + y1) := by rw [e]; grind
    refine FL.cancel (u := x2 - x1) (fun q => hx (by clear e2 h1 h2 e; grind)) ?_
    refine lc3 (c := 1) (c' := 1) (c'' := -1) e2 h2 h1 ?_
    clear e2 h1 h2 e; grind
  · subst hx; subst hy
    refine lc1 (c := 1) e ?_
    clear h1 h2 e h0; grind
theorem slope_y {x1 y1 x2 y2 l : K} (hs : Slope a2 a4 x1 y1 x2 y2 l) : l * (x2 - x1) = y2 - y1 := by
  rcases hs with ⟨hx, e⟩ | ⟨hx, hy, h0, e⟩
  · exact e
  · subst hx; subst hy; grind
theorem neg_on : ∀ {A : Pt K}, OnC a2 a4 A → OnC a2 a4 (negP A)
  | none, _ => trivial
  | some (x, y), h => by
    show onC a2 a4 x (-y)
    have h' : onC a2 a4 x y := h
    unfold onC at *
    grind
theorem neg_neg : ∀ (A : Pt K), negP (negP A) = A
  | none => rfl
  | some (x, y) => by
    show some (x, - -y) = some (x, y)
    congr 2; grind
theorem add_neg (A : Pt K) : addP inv a2 a4 A (negP A) = none := by
  cases A with
  | none => rfl
  | some A =>
    unfold addP negP
    simp only [if_true]
    rw [if_pos (by grind)]
theorem add_none (A : Pt K) : addP inv a2 a4 A none = A := by cases A <;> rfl
theorem slope_neg {x1 y1 x2 y2 l : K} (hs : Slope a2 a4 x1 y1 x2 y2 l) : Slope a2 a4 x1 (-y1) x2 (-y2) (-l) := by
  rcases hs with ⟨hx, e⟩ | ⟨hx, hy, h0, e⟩
  · exact .inl ⟨hx, by grind⟩
  · exact .inr ⟨hx, by rw [hy], fun q => h0 (by grind), by grind⟩
theorem neg_add (FL : FieldLike K inv) : ∀ {A B : Pt K}, OnC a2 a4 A → OnC a2 a4 B → addP inv a2 a4 (negP A) (negP B) = negP (addP inv a2 a4 A B)
  | none, none, _, _ => rfl
  | none, some _, _, _ => rfl
  | some _, none, _, _ => rfl
  | some (x1, y1), some (x2, y2), h1, h2 => by
    by_cases hn : x1 = x2 ∧ y1 + y2 = 0
    · have e : addP inv a2 a4 (some (x1, y1)) (some (x2, y2)) = none := by
        unfold addP; simp only [hn.1, hn.2, if_true]
      have e' : addP inv a2 a4 (negP (some (x1, y1))) (negP (some (x2, y2))) = none := by
        unfold addP negP
        have : -y1 + -y2 = 0 := by grind
        simp only [hn.1, this, if_true]
      rw [e, e']; rfl
    · obtain ⟨l, hs, e⟩ := addP_slope FL h1 h2 hn
      rw [e]
      show addP inv a2 a4 (some (x1, -y1)) (some (x2, -y2)) = _
      rw [addP_eq FL (slope_neg hs)]
      show some (_, _) = some (_, _)
      congr 2 <;> grind
/-- B taken away again -/
theorem cancelP (FL : FieldLike K inv) (hsm : Smooth a2 a4) : ∀ {B C : Pt K}, OnC a2 a4 B → OnC a2 a4 C → addP inv a2 a4 (addP inv a2 a4 B C) (negP B) = C
  | none, C, _, _ => add_none C
  | some B, none, _, _ => add_neg (some B)
  | some (x1, y1), some (x2, y2), h1, h2 => by
    by_cases hn : x1 = x2 ∧ y1 + y2 = 0
    · have e : addP inv a2 a4 (some (x1, y1)) (some (x2, y2)) = none := by
        unfold addP; simp only [hn.1, hn.2, if_true]
      rw [e]
      show some (x1, -y1) = some (x2, y2)
      rw [hn.1]
      congr 2
      have := hn.2
      grind
    · obtain ⟨l, hs, e⟩ := addP_slope FL h1 h2 hn
      have key := slope_key FL h1 h2 hs
      have hy := slope_y hs
      have on1 : onC a2 a4 x1 y1 := h1
      rw [e]
      obtain ⟨s, es⟩ : ∃ s, l * l - a2 - x1 - x2 = s := ⟨_, rfl⟩
      rw [es]
      have tg : s = x1 → l * (2 * y1) = 3 * x1 * x1 + 2 * a2 * x1 + a4 := by
        intro q
        rw [q] at es
        refine lc2 (c := 1) (c' := -(x2 - x1)) key es ?_
        clear key es on1 hy e hs h1 h2; grind
      have sl : Slope a2 a4 s (l * (x1 - s) - y1) x1 (-y1) (-l) := by
        by_cases q : s = x1
        · have t := tg q
          refine .inr ⟨q, by rw [q]; grind, ?_, ?_⟩
          · intro w
            rw [q] at w
            have w2 : (2:K) * y1 = 0 := by clear t tg key es on1 hy e hs h1 h2; grind
            have y0 : y1 = 0 := (FL.dom w2).elim (fun z => absurd z FL.two) id
            unfold onC at on1
            exact hsm x1 (by rw [← on1, y0]; clear w w2 t tg key es on1 hy e hs h1 h2; grind) (by rw [← t, y0]; clear w w2 t tg key es on1 hy e hs h1 h2; grind)
          · rw [q]
            refine lc1 (c := 1) t ?_
            clear t tg key es on1 hy e hs h1 h2; grind
        · exact .inl ⟨q, by clear tg key es on1 hy e hs h1 h2; grind⟩
      show addP inv a2 a4 (some (s, l * (x1 - s) - y1)) (some (x1, -y1)) = some (x2, y2)
      rw [addP_eq FL sl]
      have ex : -l * -l - a2 - s - x1 = x2 := by
        refine lc1 (c := 1) es ?_
        clear sl tg key es on1 hy e hs h1 h2; grind
      rw [ex]
      congr 2
      refine lc1 (c := 1) hy ?_
      clear sl tg key es on1 hy e hs h1 h2 ex; grind
/-- three points on a parabola -/
theorem tripleP (FL : FieldLike K inv) {a ya b yb c yc l k ki : K} (h1 : onC a2 a4 a ya) (h2 : onC a2 a4 b yb) (h3 : onC a2 a4 c yc) (hs : Slope a2 a4 a ya b yb l) (hk : k * ki = 1)
    (hq : yc = l * (c - a) + ya + k * (c - a) * (c - b)) (hr : k * (l * (c - a) + ya + yc) = c - (l * l - a2 - a - b))
    (hn : ¬ ((l * l - a2 - a - b) = c ∧ l * (a - (l * l - a2 - a - b)) - ya + yc = 0)) :
    addP inv a2 a4 (some (l * l - a2 - a - b, l * (a - (l * l - a2 - a - b)) - ya)) (some (c, yc)) =
      some (ki * ki - 2 * ki * l + a + b - c, -(l * (ki * ki - 2 * ki * l + b - c) + ya + k * (ki * ki - 2 * ki * l + b - c) * (ki * ki - 2 * ki * l + a - c))) := by
  have key := slope_key FL h1 h2 hs
  obtain ⟨s, es⟩ : ∃ s, l * l - a2 - a - b = s := ⟨_, rfl⟩
  rw [es] at hr hn ⊢
  have hkz : k ≠ 0 := by
    intro q; rw [q] at hk
    exact FL.one (by clear key es hr hq hs h1 h2 h3; grind)
  have sl : Slope a2 a4 s (l * (a - s) - ya) c yc (ki - l) := by
    by_cases q : s = c
    · have ny : l * (a - s) - ya + yc ≠ 0 := fun w => hn ⟨q, w⟩
      have z : l * (c - a) + ya + yc = 0 := by
        have := FL.dom (u := k) (v := l * (c - a) + ya + yc) (by rw [hr, q]; clear key es hr hq hs h1 h2 h3 hn ny; grind)
        exact this.elim (fun w => absurd w hkz) id
      have ys : l * (a - s) - ya = yc := by rw [q]; clear key es hr hq hs h1 h2 h3 hn ny; grind
      refine .inr ⟨q, ys, ny, ?_⟩
      rw [ys]
      have two : (2 : K) * yc ≠ 0 := by
        intro w; apply ny; rw [ys]; clear key es hr hq hs h1 h2 h3 hn ny z; grind
      -- f'(s) = 2 l(s) l + (s-a)(s-b)
      have fd : 3 * s * s + 2 * a2 * s + a4 = -(2 * yc * l) + (s - a) * (s - b) := by
        rw [← ys]
        refine lc2 (c := -1) (c' := -(2 * s - a - b)) key es ?_
        clear key es hr hq hs h1 h2 h3 hn ny z two ys; grind
      rw [fd]
      refine FL.cancel hkz ?_
      have kq : k * ((s - a) * (s - b)) = 2 * yc := by
        rw [q]
        refine lc2 (c := -1) (c' := -1) hq z ?_
        clear key es hr hq hs h1 h2 h3 hn ny z two ys fd; grind
      refine lc2 (c := 2 * yc) (c' := -1) hk kq ?_
      clear key es hr hq hs h1 h2 h3 hn ny z two ys fd kq; grind
    · refine .inl ⟨q, ?_⟩
      refine FL.cancel hkz ?_
      refine lc2 (c := c - s) (c' := -1) hk hr ?_
      clear key es hr hq hs h1 h2 h3 hn; grind
  rw [addP_eq FL sl]
  have ex : (ki - l) * (ki - l) - a2 - s - c = ki * ki - 2 * ki * l + a + b - c := by
    refine lc1 (c := 1) es ?_
    clear key es hr hq hs h1 h2 h3 hn sl; grind
  rw [ex]
  congr 2
  -- the parabola's fourth point
  have pc : ki * (c - s) = 2 * (l * (c - a) + ya) + k * (c - a) * (c - b) := by
    refine lc3 (c := l * (c - a) + ya + yc) (c' := -ki) (c'' := 1) hk hr hq ?_
    clear key es hr hq hs h1 h2 h3 hn sl ex; grind
  refine lc2 (c := -1) (c' := (ki * ki - 2 * ki * l + a + b - c - c) * (ki - 2 * l)) pc hk ?_
  clear key es hr hq hs h1 h2 h3 hn sl ex pc; grind
end
end Mine
end
section
open Lean.Grind
set_option linter.unusedVariables false
set_option Elab.async false
namespace Mine
section
variable {K : Type} [CommRing K] {inv : K → K} {a2 a4 : K}
noncomputable def Opp : Pt K → Pt K → Prop
  | some A, some B => A.1 = B.1 ∧ A.2 + B.2 = 0
  | _, _ => False
theorem opp_eq {A B : Pt K} (h : Opp A B) : B = negP A := by
  cases A with
  | none => exact h.elim
  | some A => cases B with
    | none => exact h.elim
    | some B =>
      obtain ⟨x1, y1⟩ := A
      obtain ⟨x2, y2⟩ := B
      obtain ⟨h1, h2⟩ := h
      have h1' : x1 = x2 := h1
      have h2' : y1 + y2 = 0 := h2
      show some (x2, y2) = some (x1, -y1)
      rw [h1']; congr 2; clear h1 h2; grind
theorem opp_symm {A B : Pt K} (h : Opp A B) : Opp B A := by
  cases A with
  | none => exact h.elim
  | some A => cases B with
    | none => exact h.elim
    | some B =>
      obtain ⟨h1, h2⟩ := h
      exact ⟨h1.symm, by rw [← h2]; clear h1 h2; grind⟩
/-- the second divided difference -/
theorem kappa (FL : FieldLike K inv) {a ya b yb c yc l : K} (h1 : onC a2 a4 a ya) (h2 : onC a2 a4 b yb) (h3 : onC a2 a4 c yc) (hs : Slope a2 a4 a ya b yb l) (hca : c ≠ a) (hcb : c ≠ b)
    (hn : ¬ Opp (some (l * l - a2 - a - b, l * (a - (l * l - a2 - a - b)) - ya)) (some (c, yc))) :
    ∃ k ki, k * ki = 1 ∧ yc = l * (c - a) + ya + k * (c - a) * (c - b) ∧ k * (l * (c - a) + ya + yc) = c - (l * l - a2 - a - b) := by
  have d1 : c - a ≠ 0 := fun q => hca (by clear hs h1 h2 h3 hn; grind)
  have d2 : c - b ≠ 0 := fun q => hcb (by clear hs h1 h2 h3 hn; grind)
  have d3 := FL.mul d1 d2
  have iv := FL.inv _ d3
  obtain ⟨k, ek⟩ : ∃ k, k = (yc - (l * (c - a) + ya)) * inv ((c - a) * (c - b)) := ⟨_, rfl⟩
  have q : yc = l * (c - a) + ya + k * (c - a) * (c - b) := by
    rw [ek]
    refine lc1 (c := -(yc - (l * (c - a) + ya))) iv ?_
    clear hs h1 h2 h3 hn iv; grind
  have lc := line_cubic FL h1 h2 hs c
  have r : k * (l * (c - a) + ya + yc) = c - (l * l - a2 - a - b) := by
    refine FL.cancel d3 ?_
    unfold onC at h3
    refine lc3 (c := -(l * (c - a) + ya + yc)) (c' := 1) (c'' := 1) q lc h3 ?_
    clear hs h1 h2 h3 hn iv ek lc; grind
  have k0 : k ≠ 0 := by
    intro e
    rw [e] at q r
    apply hn
    have es : l * l - a2 - a - b = c := by clear hs h1 h2 h3 hn iv ek lc q; grind
    show (l * l - a2 - a - b = c) ∧ _
    refine ⟨es, ?_⟩
    show l * (a - (l * l - a2 - a - b)) - ya + yc = 0
    rw [es]
    clear hs h1 h2 h3 hn iv ek lc r es; grind
  exact ⟨k, inv k, FL.inv k k0, q, r⟩
theorem not_opp {x1 y1 x2 y2 : K} (h : ¬ Opp (some (x1, y1)) (some (x2, y2))) : ¬ (x1 = x2 ∧ y1 + y2 = 0) := h
/-- all three apart -/
theorem assoc1 (FL : FieldLike K inv) {a ya b yb c yc : K} (h1 : onC a2 a4 a ya) (h2 : onC a2 a4 b yb) (h3 : onC a2 a4 c yc) (hab : a ≠ b) (hbc : b ≠ c) (hca : c ≠ a)
    (n1 : ¬ Opp (addP inv a2 a4 (some (a, ya)) (some (b, yb))) (some (c, yc))) (n2 : ¬ Opp (addP inv a2 a4 (some (b, yb)) (some (c, yc))) (some (a, ya))) :
    addP inv a2 a4 (addP inv a2 a4 (some (a, ya)) (some (b, yb))) (some (c, yc)) = addP inv a2 a4 (addP inv a2 a4 (some (b, yb)) (some (c, yc))) (some (a, ya)) := by
  obtain ⟨l, hs, e⟩ := addP_slope FL h1 h2 (fun q => hab q.1)
  rw [e] at n1 ⊢
  obtain ⟨k, ki, hk, q, r⟩ := kappa FL h1 h2 h3 hs hca (Ne.symm hbc) n1
  have ly := slope_y hs
  have d1 : c - b ≠ 0 := fun w => hbc (by clear hs h1 h2 h3 n1 q r hk e ly n2; grind)
  have hs' : Slope a2 a4 b yb c yc (l + k * (c - a)) := by
    refine .inl ⟨hbc, ?_⟩
    clear hs h1 h2 h3 n1 r hk e n2; grind
  rw [addP_eq FL hs'] at n2 ⊢
  rw [tripleP FL h1 h2 h3 hs hk q r (not_opp n1)]
  have q' : ya = (l + k * (c - a)) * (a - b) + yb + k * (a - b) * (a - c) := by
    clear hs h1 h2 h3 n1 q r hk e n2 hs'; grind
  have k0 : k ≠ 0 := by
    intro w; rw [w] at hk
    exact FL.one (by clear hs h1 h2 h3 n1 q r e ly n2 hs' q'; grind)
  have r' : k * ((l + k * (c - a)) * (a - b) + yb + ya) = a - ((l + k * (c - a)) * (l + k * (c - a)) - a2 - b - c) := by
    clear hs h1 h2 h3 n1 hk e n2 hs' q'; grind
  rw [tripleP FL h2 h3 h1 hs' hk q' r' (not_opp n2)]
  congr 2
  · refine lc1 (c := 2 * (c - a)) hk ?_
    clear hs h1 h2 h3 n1 q r hk e n2 hs' q' r' ly; grind
  · clear hs h1 h2 h3 n1 r e n2 hs' q' r'; grind
/-- one point twice -/
theorem assoc2 (FL : FieldLike K inv) {a ya c yc : K} (h1 : onC a2 a4 a ya) (h3 : onC a2 a4 c yc) (hca : c ≠ a) (h0 : ya + ya ≠ 0)
    (n1 : ¬ Opp (addP inv a2 a4 (some (a, ya)) (some (a, ya))) (some (c, yc))) (n2 : ¬ Opp (addP inv a2 a4 (some (a, ya)) (some (c, yc))) (some (a, ya))) :
    addP inv a2 a4 (addP inv a2 a4 (some (a, ya)) (some (a, ya))) (some (c, yc)) = addP inv a2 a4 (addP inv a2 a4 (some (a, ya)) (some (c, yc))) (some (a, ya)) := by
  obtain ⟨l, hs, e⟩ := addP_slope FL h1 h1 (fun q => h0 q.2)
  rw [e] at n1 ⊢
  obtain ⟨k, ki, hk, q, r⟩ := kappa FL h1 h1 h3 hs hca hca n1
  have key := slope_key FL h1 h1 hs
  have d1 : c - a ≠ 0 := fun w => hca (by clear hs h1 h3 n1 q r hk e key n2; grind)
  have hs' : Slope a2 a4 a ya c yc (l + k * (c - a)) := by
    refine .inl ⟨Ne.symm hca, ?_⟩
    clear hs h1 h3 n1 r hk e key n2; grind
  have key' := slope_key FL h1 h3 hs'
  rw [addP_eq FL hs'] at n2 ⊢
  rw [tripleP FL h1 h1 h3 hs hk q r (not_opp n1)]
  have q' : ya = (l + k * (c - a)) * (a - a) + ya + k * (a - a) * (a - c) := by
    clear hs h1 h3 n1 r hk e key n2 hs' key' q; grind
  have r' : k * ((l + k * (c - a)) * (a - a) + ya + ya) = a - ((l + k * (c - a)) * (l + k * (c - a)) - a2 - a - c) := by
    refine FL.cancel d1 ?_
    clear hs h1 h3 n1 r hk e n2 hs' q q'; grind
  rw [tripleP FL h1 h3 h1 hs' hk q' r' (not_opp n2)]
  congr 2
  · clear hs h1 h3 n1 r e n2 hs' q q' r' key key'; grind
  · clear hs h1 h3 n1 r e n2 hs' q' r' key key' q; grind
theorem add_opp {A B : Pt K} (h : Opp A B) : addP inv a2 a4 A B = none := by
  rw [opp_eq h]; exact add_neg A
theorem opp_of_none (FL : FieldLike K inv) {A B : K × K} (h1 : OnC a2 a4 (some A)) (h2 : OnC a2 a4 (some B)) (h : addP inv a2 a4 (some A) (some B) = none) : Opp (some A) (some B) := by
  by_cases hn : A.1 = B.1 ∧ A.2 + B.2 = 0
  · exact hn
  · obtain ⟨l, hs, e⟩ := addP_slope (x1 := A.1) (y1 := A.2) (x2 := B.1) (y2 := B.2) FL h1 h2 hn
    rw [show addP inv a2 a4 (some A) (some B) = addP inv a2 a4 (some (A.1, A.2)) (some (B.1, B.2)) from rfl, e] at h
    cases h
theorem addP_assoc (FL : FieldLike K inv) (hsm : Smooth a2 a4) {A B C : Pt K} (hA : OnC a2 a4 A) (hB : OnC a2 a4 B) (hC : OnC a2 a4 C) :
    addP inv a2 a4 (addP inv a2 a4 A B) C = addP inv a2 a4 A (addP inv a2 a4 B C) := by
  have cm : ∀ {X Y : Pt K}, OnC a2 a4 X → OnC a2 a4 Y → addP inv a2 a4 X Y = addP inv a2 a4 Y X := fun hx hy => addP_comm FL hx hy
  have onA : ∀ {X Y : Pt K}, OnC a2 a4 X → OnC a2 a4 Y → OnC a2 a4 (addP inv a2 a4 X Y) := fun hx hy => addP_on FL hx hy
  have cn : ∀ {X Y : Pt K}, OnC a2 a4 X → OnC a2 a4 Y → addP inv a2 a4 (addP inv a2 a4 X Y) (negP X) = Y := fun hx hy => cancelP FL hsm hx hy
  cases A with
  | none => rfl
  | some A =>
  cases B with
  | none => rfl
  | some B =>
  cases C with
  | none => rw [add_none, add_none]
  | some C =>
  -- A and B opposite
  by_cases o1 : Opp (some A) (some B)
  · rw [add_opp o1]
    have e := opp_eq (opp_symm o1)
    rw [e]
    show some C = _
    rw [cm (neg_on hB) (onA hB hC), cn hB hC]
  by_cases o2 : Opp (some B) (some C)
  · rw [add_opp o2]
    rw [opp_eq o2, cm hA hB, cn hB hA, add_none]
  by_cases o3 : Opp (addP inv a2 a4 (some A) (some B)) (some C)
  · rw [add_opp o3]
    have e := opp_eq o3
    rw [e, ← neg_add FL hA hB]
    have : addP inv a2 a4 (some B) (addP inv a2 a4 (negP (some A)) (negP (some B))) = negP (some A) := by
      rw [cm hB (onA (neg_on hA) (neg_on hB)), cm (neg_on hA) (neg_on hB)]
      have := cn (neg_on hB) (neg_on hA)
      rw [neg_neg] at this
      exact this
    rw [this, add_neg]
  by_cases o4 : Opp (addP inv a2 a4 (some B) (some C)) (some A)
  · rw [cm hA (onA hB hC), add_opp o4]
    have e := opp_eq o4
    rw [e, ← neg_add FL hB hC]
    have : addP inv a2 a4 (addP inv a2 a4 (negP (some B)) (negP (some C))) (some B) = negP (some C) := by
      have := cn (neg_on hB) (neg_on hC)
      rw [neg_neg] at this
      exact this
    rw [this, cm (neg_on hC) hC, add_neg]
  obtain ⟨a, ya⟩ := A
  obtain ⟨b, yb⟩ := B
  obtain ⟨c, yc⟩ := C
  have n1 := not_opp o1
  have n2 := not_opp o2
  have same : ∀ {x y y' : K}, onC a2 a4 x y → onC a2 a4 x y' → y + y' ≠ 0 → y = y' := fun h h' hs => same_x FL h h' hs
  have onAB := onA hA hB
  have onBC := onA hB hC
  by_cases hab : a = b
  · subst hab
    have y0 : ya + yb ≠ 0 := fun q => n1 ⟨rfl, q⟩
    have e := same hA hB y0
    subst e
    by_cases hca : c = a
    · subst hca
      have y1 : ya + yc ≠ 0 := fun q => n2 ⟨rfl, q⟩
      have e := same hA hC y1
      subst e
      exact cm onAB hC
    · rw [assoc2 FL hA hC hca y0 o3 o4]
      exact cm onBC hA
  · by_cases hbc : b = c
    · subst hbc
      have y0 : yb + yc ≠ 0 := fun q => n2 ⟨rfl, q⟩
      have e := same hB hC y0
      subst e
      have o3' : ¬ Opp (addP inv a2 a4 (some (b, yb)) (some (a, ya))) (some (b, yb)) := by rw [cm hB hA]; exact o3
      have e2 := assoc2 FL hB hA hab y0 o4 o3'
      rw [cm hA onBC, e2, cm hA hB]
    · by_cases hca : c = a
      · subst hca
        by_cases y0 : ya + yc = 0
        · have op : Opp (some (c, ya)) (some (c, yc)) := ⟨rfl, y0⟩
          have e := opp_eq op
          rw [e, cn hA hB, cm hA (onA hB (neg_on hA)), cm hB (neg_on hA)]
          have := cn (neg_on hA) hB
          rw [neg_neg] at this
          exact this.symm
        · have e := same hA hC y0
          subst e
          rw [cm onAB hC, cm hA hB]
      · rw [assoc1 FL hA hB hC hab hbc hca o3 o4]
        exact cm onBC hA
end
end Mine
end
section
open Lean.Grind
set_option linter.unusedVariables false
set_option Elab.async false
namespace Mine
section
variable {K : Type} [CommRing K] {inv : K → K} {a2 a4 : K}
/-- n-fold sum, one by one -/
noncomputable def mulP (inv : K → K) (a2 a4 : K) : Nat → Pt K → Pt K
  | 0, _ => none
  | n + 1, P => addP inv a2 a4 (mulP inv a2 a4 n P) P
theorem mulP_on (FL : FieldLike K inv) {P : Pt K} (h : OnC a2 a4 P) : ∀ n, OnC a2 a4 (mulP inv a2 a4 n P)
  | 0 => trivial
  | n + 1 => addP_on FL (mulP_on FL h n) h
theorem mulP_one (P : Pt K) : mulP inv a2 a4 1 P = P := rfl
theorem mulP_add (FL : FieldLike K inv) (hsm : Smooth a2 a4) {P : Pt K} (h : OnC a2 a4 P) (m : Nat) : ∀ n, mulP inv a2 a4 (m + n) P = addP inv a2 a4 (mulP inv a2 a4 m P) (mulP inv a2 a4 n P)
  | 0 => (add_none _).symm
  | n + 1 => by
    show addP inv a2 a4 (mulP inv a2 a4 (m + n) P) P = addP inv a2 a4 _ (addP inv a2 a4 _ P)
    rw [mulP_add FL hsm h m n, addP_assoc FL hsm (mulP_on FL h m) (mulP_on FL h n) h]
/-- a pair tells a point -/
noncomputable def Rep (β X Z : K) : Pt K → Prop
  | none => Z = 0 ∧ X ≠ 0
  | some A => Z ≠ 0 ∧ X * β = A.1 * Z
/-- the doubling of pairs -/
theorem rep_dbl (FL : FieldLike K inv) {a β d X Z : K} (ha : (a - 2) * (a + 2) ≠ 0) (hβ : β ≠ 0) (hd : d ≠ 0) {Q : Pt K} (hQ : OnC (a * β) (β * β) Q) (h : Rep β X Z Q) :
    Rep β (4 * d * ((X * X - Z * Z) * (X * X - Z * Z))) (16 * d * (X * Z) * (X * X + a * X * Z + Z * Z)) (addP inv (a * β) (β * β) Q Q) := by
  have two := FL.two
  have four : (4 : K) ≠ 0 := by
    rw [show (4 : K) = 2 * 2 by clear h hQ; grind]
    exact FL.mul two two
  cases Q with
  | none =>
    obtain ⟨h1, h2⟩ := h
    subst h1
    have h4 := FL.mul (FL.mul four hd) (FL.mul (FL.mul h2 h2) (FL.mul h2 h2))
    refine ⟨by clear h2; grind, ?_⟩
    intro q; apply h4; clear h2; grind
  | some A =>
    obtain ⟨x, y⟩ := A
    obtain ⟨h1, h2⟩ := h
    have h2' : X * β = x * Z := h2
    have on : onC (a * β) (β * β) x y := hQ
    unfold onC at on
    have b3 := FL.mul hβ (FL.mul hβ hβ)
    have z4 := FL.mul (FL.mul h1 h1) (FL.mul h1 h1)
    -- Z' β^3 = 16 d Z^4 y^2
    have e1 : 16 * d * (X * Z) * (X * X + a * X * Z + Z * Z) * (β * (β * β)) = 16 * d * ((Z * Z) * (Z * Z)) * (y * y) := by
      have e : (X * β) * ((X * β) * (X * β) + a * β * (X * β) * Z + β * β * (Z * Z)) = (x * Z) * ((x * Z) * (x * Z) + a * β * (x * Z) * Z + β * β * (Z * Z)) := by rw [h2']
      refine lc2 (c := 16 * d * Z) (c' := -(16 * d * (Z * Z * Z * Z))) e on ?_
      clear e on h2' h2 hQ h1 ha b3 z4; grind
    by_cases hy : y + y = 0
    · have y0 : y = 0 := by
        rcases FL.dom (u := 2) (v := y) (by clear e1 on h2' h2 hQ h1 ha b3 z4; grind) with q | q
        · exact absurd q two
        · exact q
      have es : addP inv (a * β) (β * β) (some (x, y)) (some (x, y)) = none := by
        unfold addP; simp only [hy, if_true]
      rw [es]
      subst y0
      have zz : 16 * d * (X * Z) * (X * X + a * X * Z + Z * Z) = 0 := by
        rcases FL.dom (u := 16 * d * (X * Z) * (X * X + a * X * Z + Z * Z)) (v := β * (β * β)) (by rw [e1]; clear e1 on h2' h2 hQ h1 ha b3 z4; grind) with q | q
        · exact q
        · exact absurd q b3
      refine ⟨zz, fun q => ?_⟩
      have q1 : X * X - Z * Z = 0 := by
        rcases FL.dom q with q | q
        · exact absurd q (FL.mul four hd)
        · exact (FL.dom q).elim id id
      have x0 : X ≠ 0 := by
        intro w
        rw [w] at q1
        have : Z * Z = 0 := by clear e1 on h2' h2 hQ ha b3 z4 zz q; grind
        exact (FL.mul h1 h1) this
      have q2 : X * X + a * X * Z + Z * Z = 0 := by
        rcases FL.dom zz with w | w
        · exfalso
          have : (16 : K) * d ≠ 0 := by
            rw [show (16 : K) = 4 * 4 by clear e1 on h2' h2 hQ ha b3 z4 zz q w q1; grind]
            exact FL.mul (FL.mul four four) hd
          exact (FL.mul this (FL.mul x0 h1)) w
        · exact w
      -- X = ± Z
      apply FL.mul ha (FL.mul (FL.mul x0 x0) (FL.mul h1 h1))
      clear e1 on h2' h2 hQ ha b3 z4 zz q
      grind
    · obtain ⟨l, hs, e⟩ := addP_slope FL hQ hQ (fun q => hy q.2)
      rw [show addP inv (a * β) (β * β) (some (x, y)) (some (x, y)) = _ from e]
      have y0 : y ≠ 0 := by intro q; apply hy; rw [q]; clear e1 on h2' h2 hQ h1 ha b3 z4 hs e; grind
      have hl : l * (2 * y) = 3 * x * x + 2 * (a * β) * x + β * β := by
        rcases hs with ⟨hx, _⟩ | ⟨_, _, _, e⟩
        · exact absurd rfl hx
        · exact e
      obtain ⟨x3, ex⟩ : ∃ x3, l * l - a * β - x - x = x3 := ⟨_, rfl⟩
      rw [ex]
      -- x3 * 4 y^2 = (x^2 - a4)^2
      have e2 : x3 * (4 * (y * y)) = (x * x - β * β) * (x * x - β * β) := by
        rw [← ex]
        have e : (l * (2 * y)) * (l * (2 * y)) = (3 * x * x + 2 * (a * β) * x + β * β) * (3 * x * x + 2 * (a * β) * x + β * β) := by rw [hl]
        refine lc2 (c := 1) (c' := -(4 * (a * β + x + x))) e on ?_
        clear e hl e1 on h2' h2 hQ h1 ha b3 z4 hs ex; grind
      have sixteen : (16 : K) ≠ 0 := by
        rw [show (16 : K) = 4 * 4 by clear e2 hl e1 on h2' h2 hQ h1 ha b3 z4 hs ex; grind]
        exact FL.mul four four
      constructor
      · intro q
        rw [q] at e1
        apply FL.mul (FL.mul (FL.mul sixteen hd) z4) (FL.mul y0 y0)
        rw [← e1]; clear e2 hl e1 on h2' h2 hQ h1 ha b3 z4 hs ex; grind
      · show 4 * d * ((X * X - Z * Z) * (X * X - Z * Z)) * β = x3 * (16 * d * (X * Z) * (X * X + a * X * Z + Z * Z))
        refine FL.cancel b3 ?_
        have e3 : ((X * β) * (X * β) - Z * Z * (β * β)) * ((X * β) * (X * β) - Z * Z * (β * β)) = ((x * Z) * (x * Z) - Z * Z * (β * β)) * ((x * Z) * (x * Z) - Z * Z * (β * β)) := by rw [h2']
        refine lc3 (c := 4 * d) (c' := -x3) (c'' := -(4 * d * (Z * Z * Z * Z))) e3 e1 e2 ?_
        clear e3 e2 hl e1 on h2' h2 hQ h1 ha b3 z4 hs ex; grind
/-- the sum of pairs whose difference is known -/
theorem rep_add (FL : FieldLike K inv) {a β X0 Z0 X1 Z1 X2 Z2 : K} (hβ : β ≠ 0) (hsm : Smooth (a * β) (β * β)) {P0 Q1 Q2 : Pt K} (hP : OnC (a * β) (β * β) P0) (hQ1 : OnC (a * β) (β * β) Q1) (hQ2 : OnC (a * β) (β * β) Q2)
    (hx0 : X0 ≠ 0) (r0 : Rep β X0 Z0 P0) (hz0 : Z0 ≠ 0) (h1 : Rep β X1 Z1 Q1) (h2 : Rep β X2 Z2 Q2) (hd : Q1 = addP inv (a * β) (β * β) Q2 P0) :
    Rep β (Z0 * ((2 * (X1 * X2 - Z1 * Z2)) * (2 * (X1 * X2 - Z1 * Z2)))) (X0 * ((2 * (X1 * Z2 - X2 * Z1)) * (2 * (X1 * Z2 - X2 * Z1)))) (addP inv (a * β) (β * β) Q1 Q2) := by
  have two := FL.two
  have four : (4 : K) ≠ 0 := by
    rw [show (4 : K) = 2 * 2 by clear hd h1 h2 r0 hQ1 hQ2 hP; grind]
    exact FL.mul two two
  cases P0 with
  | none => exact absurd r0.1 hz0
  | some A0 =>
  obtain ⟨x0, y0⟩ := A0
  obtain ⟨_, r0⟩ := r0
  have r0' : X0 * β = x0 * Z0 := r0
  cases Q2 with
  | none =>
    have hd' : Q1 = some (x0, y0) := hd
    subst hd'
    obtain ⟨hz1, h1⟩ := h1
    have h1' : X1 * β = x0 * Z1 := h1
    obtain ⟨hz2, hx2⟩ := h2
    subst hz2
    rw [add_none]
    have cr : X1 * Z0 = X0 * Z1 := by
      refine FL.cancel hβ ?_
      refine lc2 (c := Z0) (c' := -Z1) h1' r0' ?_
      clear h1' r0' hd h1 r0 hQ1 hQ2 hP; grind
    constructor
    · have := FL.mul (FL.mul four hx0) (FL.mul (FL.mul hz1 hz1) (FL.mul hx2 hx2))
      intro q; apply this; rw [← q]; clear cr h1' r0' hd h1 r0 hQ1 hQ2 hP; grind
    · show Z0 * ((2 * (X1 * X2 - Z1 * 0)) * (2 * (X1 * X2 - Z1 * 0))) * β = x0 * (X0 * ((2 * (X1 * 0 - X2 * Z1)) * (2 * (X1 * 0 - X2 * Z1))))
      refine lc2 (c := 4 * X2 * X2 * Z0 * X1) (c' := 4 * X2 * X2 * x0 * Z1) h1' cr ?_
      clear cr h1' r0' hd h1 r0 hQ1 hQ2 hP; grind
  | some A2 =>
  obtain ⟨x2, y2⟩ := A2
  obtain ⟨hz2, h2⟩ := h2
  have h2' : X2 * β = x2 * Z2 := h2
  have on2 : onC (a * β) (β * β) x2 y2 := hQ2
  have on0 : onC (a * β) (β * β) x0 y0 := hP
  cases Q1 with
  | none =>
    obtain ⟨hz1, hx1⟩ := h1
    subst hz1
    have op := opp_of_none FL hQ2 hP hd.symm
    have xx : x2 = x0 := op.1
    subst xx
    have cr : X2 * Z0 = X0 * Z2 := by
      refine FL.cancel hβ ?_
      refine lc2 (c := Z0) (c' := -Z2) h2' r0' ?_
      clear op h2' r0' hd h2 r0 hQ1 hQ2 hP on2 on0; grind
    constructor
    · have := FL.mul (FL.mul four hx0) (FL.mul (FL.mul hz2 hz2) (FL.mul hx1 hx1))
      intro q; apply this; rw [← q]; clear op cr h2' r0' hd h2 r0 hQ1 hQ2 hP on2 on0; grind
    · show Z0 * ((2 * (X1 * X2 - 0 * Z2)) * (2 * (X1 * X2 - 0 * Z2))) * β = x2 * (X0 * ((2 * (X1 * Z2 - X2 * 0)) * (2 * (X1 * Z2 - X2 * 0))))
      refine lc2 (c := 4 * X1 * X1 * Z0 * X2) (c' := 4 * X1 * X1 * x2 * Z2) h2' cr ?_
      clear op cr h2' r0' hd h2 r0 hQ1 hQ2 hP on2 on0; grind
  | some A1 =>
  obtain ⟨x1, y1⟩ := A1
  obtain ⟨hz1, h1⟩ := h1
  have h1' : X1 * β = x1 * Z1 := h1
  have on1 : onC (a * β) (β * β) x1 y1 := hQ1
  -- the difference: P0 = Q1 - Q2
  have df : addP inv (a * β) (β * β) (some (x1, y1)) (some (x2, -y2)) = some (x0, y0) := by
    rw [hd]
    exact cancelP FL hsm hQ2 hP
  by_cases hx : x1 = x2
  · subst hx
    have ny : y1 + y2 = 0 := by
      have nd : ¬ (y1 + -y2 = 0) := by
        intro q
        have e : addP inv (a * β) (β * β) (some (x1, y1)) (some (x1, -y2)) = none := add_opp (A := some (x1, y1)) (B := some (x1, -y2)) ⟨rfl, q⟩
        rw [e] at df
        cases df
      have on2n : onC (a * β) (β * β) x1 (-y2) := neg_on hQ2
      have := same_x FL on1 on2n nd
      rw [this]; clear nd on2n df hd h1 h2 r0 hQ1 hQ2 hP on2 on0 on1 h1' h2' r0' this; grind
    have es : addP inv (a * β) (β * β) (some (x1, y1)) (some (x1, y2)) = none := add_opp (A := some (x1, y1)) (B := some (x1, y2)) ⟨rfl, ny⟩
    rw [es]
    have cr : X1 * Z2 = X2 * Z1 := by
      refine FL.cancel hβ ?_
      refine lc2 (c := Z2) (c' := -Z1) h1' h2' ?_
      clear es df hd h1 h2 r0 hQ1 hQ2 hP on2 on0 on1 h1' h2' r0' ny; grind
    constructor
    · rw [cr]; clear es df hd h1 h2 r0 hQ1 hQ2 hP on2 on0 on1 h1' h2' r0' ny cr; grind
    · intro q
      have q1 : X1 * X2 - Z1 * Z2 = 0 := by
        rcases FL.dom q with w | w
        · exact absurd w hz0
        · rcases FL.dom w with w | w
          · rcases FL.dom w with w | w
            · exact absurd w two
            · exact w
          · rcases FL.dom w with w | w
            · exact absurd w two
            · exact w
      -- x1^2 = a4
      have q2 : x1 * x1 - β * β = 0 := by
        have zz := FL.mul hz1 hz2
        have e : (X1 * β) * (X2 * β) = (x1 * Z1) * (x1 * Z2) := by rw [h1', h2']
        rcases FL.dom (u := Z1 * Z2) (v := x1 * x1 - β * β) (by
          refine lc2 (c := -1) (c' := β * β) e q1 ?_
          clear es df hd h1 h2 r0 hQ1 hQ2 hP on2 on0 on1 h1' h2' r0' ny cr q e q1; grind) with w | w
        · exact absurd w zz
        · exact w
      have ey : -y2 = y1 := by clear es df hd h1 h2 r0 hQ1 hQ2 hP on2 on0 on1 h1' h2' r0' cr q q1; grind
      rw [ey] at df
      have yy : ¬ (x1 = x1 ∧ y1 + y1 = 0) := by
        intro w
        have e : addP inv (a * β) (β * β) (some (x1, y1)) (some (x1, y1)) = none := add_opp (A := some (x1, y1)) (B := some (x1, y1)) ⟨rfl, w.2⟩
        rw [e] at df
        cases df
      obtain ⟨l, hs, e⟩ := addP_slope FL on1 on1 yy
      rw [e] at df
      have ex : l * l - a * β - x1 - x1 = x0 := by injection df with df; injection df
      have hl : l * (2 * y1) = 3 * x1 * x1 + 2 * (a * β) * x1 + β * β := by
        rcases hs with ⟨hx, _⟩ | ⟨_, _, _, e⟩
        · exact absurd rfl hx
        · exact e
      have e2 : x0 * (4 * (y1 * y1)) = (x1 * x1 - β * β) * (x1 * x1 - β * β) := by
        rw [← ex]
        unfold onC at on1
        have e : (l * (2 * y1)) * (l * (2 * y1)) = (3 * x1 * x1 + 2 * (a * β) * x1 + β * β) * (3 * x1 * x1 + 2 * (a * β) * x1 + β * β) := by rw [hl]
        refine lc2 (c := 1) (c' := -(4 * (a * β + x1 + x1))) e on1 ?_
        clear es df hd h1 h2 r0 hQ1 hQ2 hP on2 on0 on1 h1' h2' r0' ny cr q e q1 q2 hs hl ex ey; grind
      have y1z : y1 ≠ 0 := by
        intro w; apply yy; refine ⟨rfl, ?_⟩; rw [w]; clear es df hd h1 h2 r0 hQ1 hQ2 hP on2 on0 on1 h1' h2' r0' ny cr q e q1 q2 hs hl ex ey e2; grind
      have x0z : x0 = 0 := by
        rw [q2] at e2
        rcases FL.dom (u := x0) (v := 4 * (y1 * y1)) (by rw [e2]; clear es df hd h1 h2 r0 hQ1 hQ2 hP on2 on0 on1 h1' h2' r0' ny cr q e q1 q2 hs hl ex ey e2; grind) with w | w
        · exact w
        · exact absurd w (FL.mul four (FL.mul y1z y1z))
      rw [x0z] at r0'
      rcases FL.dom (u := X0) (v := β) (by rw [r0']; clear es df hd h1 h2 r0 hQ1 hQ2 hP on2 on0 on1 h1' h2' r0' ny cr q e q1 q2 hs hl ex ey e2; grind) with w | w
      · exact hx0 w
      · exact hβ w
  · obtain ⟨l, hs, e⟩ := addP_slope FL on1 on2 (fun q => hx q.1)
    rw [e]
    have on2n : onC (a * β) (β * β) x2 (-y2) := neg_on hQ2
    obtain ⟨m, hm, e'⟩ := addP_slope FL on1 on2n (fun q => hx q.1)
    rw [e'] at df
    have ex0 : m * m - a * β - x1 - x2 = x0 := by injection df with df; injection df
    obtain ⟨x3, ex3⟩ : ∃ x3, l * l - a * β - x1 - x2 = x3 := ⟨_, rfl⟩
    rw [ex3]
    have sl := slope_y hs
    have sm := slope_y hm
    have dx : x2 - x1 ≠ 0 := fun q => hx (by clear sl sm ex3 ex0 e' hm on2n e hs df hd h1 h2 r0 hQ1 hQ2 hP on0 h1' h2' r0' on1 on2; grind)
    have dd := FL.mul dx dx
    have hA : x3 * ((x2 - x1) * (x2 - x1)) = (y2 - y1) * (y2 - y1) - (a * β + x1 + x2) * ((x2 - x1) * (x2 - x1)) := by
      rw [← ex3, ← sl]; clear ex3 ex0 e' hm on2n e hs df hd h1 h2 r0 hQ1 hQ2 hP on0 sl sm h1' h2' r0' on1 on2; grind
    have hB : x0 * ((x2 - x1) * (x2 - x1)) = (y2 + y1) * (y2 + y1) - (a * β + x1 + x2) * ((x2 - x1) * (x2 - x1)) := by
      have e : (m * (x2 - x1)) * (m * (x2 - x1)) = (-y2 - y1) * (-y2 - y1) := by rw [sm]
      rw [← ex0]
      refine lc1 (c := 1) e ?_
      clear sl sm ex3 ex0 e' hm on2n e hs df hd h1 h2 r0 hQ1 hQ2 hP on0 h1' h2' r0' on1 on2 hA; grind
    unfold onC at on1 on2
    have key : x3 * x0 * ((x2 - x1) * (x2 - x1)) = (x1 * x2 - β * β) * (x1 * x2 - β * β) := by
      refine FL.cancel dd ?_
      have p : (x3 * ((x2 - x1) * (x2 - x1))) * (x0 * ((x2 - x1) * (x2 - x1))) = (y2 * y2 - y1 * y1) * (y2 * y2 - y1 * y1) - 2 * (a * β + x1 + x2) * ((x2 - x1) * (x2 - x1)) * (y1 * y1 + y2 * y2) + (a * β + x1 + x2) * (a * β + x1 + x2) * ((x2 - x1) * (x2 - x1)) * ((x2 - x1) * (x2 - x1)) := by
        rw [hA, hB]; clear sl sm ex3 ex0 e' hm on2n e hs df hd h1 h2 r0 hQ1 hQ2 hP on0 h1' h2' r0' on1 on2 hA hB; grind
      rw [on1, on2] at p
      refine lc1 (c := 1) p ?_
      clear sl sm ex3 ex0 e' hm on2n e hs df hd h1 h2 r0 hQ1 hQ2 hP on0 h1' h2' r0' on1 on2 hA hB p; grind
    have hp : (X1 * X2 - Z1 * Z2) * (β * β) = Z1 * Z2 * (x1 * x2 - β * β) := by
      have e : (X1 * β) * (X2 * β) = (x1 * Z1) * (x2 * Z2) := by rw [h1', h2']
      refine lc1 (c := 1) e ?_
      clear sl sm ex3 ex0 e' hm on2n e hs df hd h1 h2 r0 hQ1 hQ2 hP on0 h1' h2' r0' on1 on2 hA hB key; grind
    have hr : (X1 * Z2 - X2 * Z1) * β = Z1 * Z2 * (x1 - x2) := by
      refine lc2 (c := Z2) (c' := -Z1) h1' h2' ?_
      clear sl sm ex3 ex0 e' hm on2n e hs df hd h1 h2 r0 hQ1 hQ2 hP on0 h1' h2' r0' on1 on2 hA hB key hp; grind
    have zz := FL.mul hz1 hz2
    have rz : X1 * Z2 - X2 * Z1 ≠ 0 := by
      intro q
      rw [q] at hr
      rcases FL.dom (u := Z1 * Z2) (v := x1 - x2) (by rw [← hr]; clear sl sm ex3 ex0 e' hm on2n e hs df hd h1 h2 r0 hQ1 hQ2 hP on0 h1' h2' r0' on1 on2 hA hB key hp hr q; grind) with w | w
      · exact zz w
      · apply hx; clear sl sm ex3 ex0 e' hm on2n e hs df hd h1 h2 r0 hQ1 hQ2 hP on0 h1' h2' r0' on1 on2 hA hB key hp hr q; grind
    constructor
    · exact FL.mul hx0 (FL.mul (FL.mul two rz) (FL.mul two rz))
    · show Z0 * ((2 * (X1 * X2 - Z1 * Z2)) * (2 * (X1 * X2 - Z1 * Z2))) * β = x3 * (X0 * ((2 * (X1 * Z2 - X2 * Z1)) * (2 * (X1 * Z2 - X2 * Z1))))
      refine FL.cancel (FL.mul (FL.mul hβ hβ) (FL.mul hβ hβ)) ?_
      have hp2 : ((X1 * X2 - Z1 * Z2) * (β * β)) * ((X1 * X2 - Z1 * Z2) * (β * β)) = (Z1 * Z2 * (x1 * x2 - β * β)) * (Z1 * Z2 * (x1 * x2 - β * β)) := by rw [hp]
      have hr2 : ((X1 * Z2 - X2 * Z1) * β) * ((X1 * Z2 - X2 * Z1) * β) = (Z1 * Z2 * (x1 - x2)) * (Z1 * Z2 * (x1 - x2)) := by rw [hr]
      refine lc4 (c := 4 * Z0 * β) (c' := -(4 * x3 * X0 * (β * β))) (c'' := -(4 * Z0 * β * (Z1 * Z2) * (Z1 * Z2))) (c3 := -(4 * x3 * β * (Z1 * Z2) * (Z1 * Z2) * ((x2 - x1) * (x2 - x1)))) hp2 hr2 key r0' ?_
      clear sl sm ex3 ex0 e' hm on2n e hs df hd h1 h2 r0 hQ1 hQ2 hP on0 h1' h2' r0' on1 on2 hA hB key hp hr hp2 hr2; grind
end
end Mine
end
section
set_option linter.unusedVariables false
set_option Elab.async false
namespace Mine
/-! primes -/
theorem mod_dvd {a b p : Nat} (h : a ≤ b) : a % p = b % p ↔ p ∣ b - a := by
  constructor
  · intro e
    exact Nat.dvd_of_mod_eq_zero (Nat.sub_mod_eq_zero_of_mod_eq e.symm)
  · rintro ⟨c, hc⟩
    have : b = a + p * c := by omega
    rw [this, Nat.add_mul_mod_self_left]
noncomputable def Prm (p : Nat) : Prop := 1 < p ∧ primB p
theorem Prm.cop {p a : Nat} (h : Prm p) (ha : ¬ p ∣ a) : Nat.gcd p a = 1 := by
  rcases h.2 (Nat.gcd p a) (Nat.gcd_dvd_left p a) with q | q
  · exact q
  · exact absurd (by rw [← q]; exact Nat.gcd_dvd_right p a) ha
theorem Prm.dvd {p a b : Nat} (h : Prm p) (hd : p ∣ a * b) : p ∣ a ∨ p ∣ b := by
  by_cases ha : p ∣ a
  · exact .inl ha
  · exact .inr (Nat.Coprime.dvd_of_dvd_mul_left (h.cop ha) hd)
noncomputable def prodM (f : Nat → Nat) : List Nat → Nat
  | [] => 1
  | x :: r => f x * prodM f r
theorem prodM_erase {x : Nat} : ∀ {l : List Nat}, x ∈ l → prodM id l = x * prodM id (l.erase x)
  | y :: r, h => by
    by_cases e : y = x
    · subst e
      rw [List.erase_cons_head]; rfl
    · rw [List.erase_cons_tail (by simpa using e)]
      have hm : x ∈ r := by
        rcases List.mem_cons.mp h with q | q
        · exact absurd q.symm e
        · exact q
      show y * prodM id r = x * (y * prodM id (r.erase x))
      rw [prodM_erase hm, Nat.mul_left_comm]
theorem prodM_perm : ∀ {l l' : List Nat}, l.Nodup → (∀ x ∈ l, x ∈ l') → l.length = l'.length → prodM id l = prodM id l'
  | [], l', _, _, h => by
    have : l' = [] := List.length_eq_zero_iff.mp h.symm
    rw [this]
  | x :: r, l', nd, sub, h => by
    have hx := sub x (.head _)
    have nd' := List.nodup_cons.mp nd
    rw [prodM_erase hx]
    show x * prodM id r = _
    rw [prodM_perm (l := r) (l' := l'.erase x) nd'.2 ?_ ?_]
    · intro y hy
      have : y ≠ x := fun e => nd'.1 (by rw [← e]; exact hy)
      exact (List.mem_erase_of_ne this).mpr (sub y (.tail _ hy))
    · have := List.length_erase_of_mem hx
      rw [List.length_cons] at h
      omega
theorem prodM_mod (f : Nat → Nat) (p : Nat) : ∀ l : List Nat, prodM id (l.map fun x => f x % p) % p = prodM f l % p
  | [] => rfl
  | x :: r => by
    have ih := prodM_mod f p r
    show (f x % p) * prodM id (r.map fun x => f x % p) % p = f x * prodM f r % p
    rw [Nat.mul_mod, Nat.mod_mod, ih, ← Nat.mul_mod]
theorem prodM_scale (a : Nat) : ∀ l : List Nat, prodM (fun x => a * x) l = a ^ l.length * prodM id l
  | [] => by simp [prodM]
  | x :: r => by
    show a * x * prodM (fun x => a * x) r = a ^ (r.length + 1) * (x * prodM id r)
    rw [prodM_scale a r, Nat.pow_succ]
    simp only [Nat.mul_assoc, Nat.mul_left_comm, Nat.mul_comm]
theorem Prm.prod {p : Nat} (h : Prm p) : ∀ {l : List Nat}, (∀ x ∈ l, ¬ p ∣ x) → ¬ p ∣ prodM id l
  | [], _, hd => by
    have : p = 1 := Nat.dvd_one.mp hd
    have := h.1
    omega
  | x :: r, hl, hd => by
    rcases h.dvd hd with q | q
    · exact hl x (.head _) q
    · exact Prm.prod h (fun y hy => hl y (.tail _ hy)) q
theorem nodup_map_of {f : Nat → Nat} : ∀ {l : List Nat}, l.Nodup → (∀ x ∈ l, ∀ y ∈ l, f x = f y → x = y) → (l.map f).Nodup
  | [], _, _ => List.nodup_nil
  | x :: r, nd, inj => by
    have nd' := List.nodup_cons.mp nd
    rw [List.map_cons, List.nodup_cons]
    refine ⟨fun hm => ?_, nodup_map_of nd'.2 fun y hy z hz => inj y (.tail _ hy) z (.tail _ hz)⟩
    obtain ⟨y, hy, e⟩ := List.mem_map.mp hm
    have := inj y (.tail _ hy) x (.head _) e
    exact nd'.1 (by rw [← this]; exact hy)
theorem fermat {p a : Nat} (h : Prm p) (ha : ¬ p ∣ a) : a ^ (p - 1) % p = 1 := by
  have hp := h.1
  let L := (List.range (p - 1)).map (· + 1)
  have hL : ∀ x, x ∈ L ↔ 1 ≤ x ∧ x < p := by
    intro x
    show x ∈ (List.range (p - 1)).map (· + 1) ↔ _
    rw [List.mem_map]
    constructor
    · rintro ⟨y, hy, rfl⟩; rw [List.mem_range] at hy; omega
    · rintro ⟨h1, h2⟩; exact ⟨x - 1, by rw [List.mem_range]; omega, by omega⟩
  have nd : L.Nodup := nodup_map_of List.nodup_range fun x _ y _ e => by
    have e' : x + 1 = y + 1 := e
    omega
  have len : L.length = p - 1 := by simp [L]
  have nL : ∀ x ∈ L, ¬ p ∣ x := by
    intro x hx hd
    have := (hL x).mp hx
    have := Nat.le_of_dvd (by omega) hd
    omega
  have inj : ∀ x ∈ L, ∀ y ∈ L, x ≤ y → a * x % p = a * y % p → x = y := by
    intro x hx y hy hle e
    have hx' := (hL x).mp hx
    have hy' := (hL y).mp hy
    have hd : p ∣ a * (y - x) := by
      rw [Nat.mul_sub]
      exact (mod_dvd (Nat.mul_le_mul_left a hle)).mp e
    rcases h.dvd hd with q | q
    · exact absurd q ha
    · rcases Nat.eq_zero_or_pos (y - x) with z | z
      · omega
      · have := Nat.le_of_dvd z q; omega
  have e1 : prodM id (L.map fun x => a * x % p) = prodM id L := by
    refine prodM_perm (nodup_map_of nd fun x hx y hy e => ?_) ?_ (by rw [List.length_map])
    · rcases Nat.le_total x y with q | q
      · exact inj x hx y hy q e
      · exact (inj y hy x hx q e.symm).symm
    · intro z hz
      obtain ⟨x, hx, rfl⟩ := List.mem_map.mp hz
      rw [hL]
      refine ⟨?_, Nat.mod_lt _ (by omega)⟩
      rcases Nat.eq_zero_or_pos (a * x % p) with q | q
      · rcases h.dvd (Nat.dvd_of_mod_eq_zero q) with w | w
        · exact absurd w ha
        · exact absurd w (nL x hx)
      · exact q
  have e2 := prodM_mod (fun x => a * x) p L
  rw [e1, prodM_scale, len] at e2
  -- P = a^(p-1) P mod p
  have hP := h.prod nL
  have hd : p ∣ (a ^ (p - 1) * prodM id L - prodM id L) := by
    have hge : prodM id L ≤ a ^ (p - 1) * prodM id L := Nat.le_mul_of_pos_left _ (by
      rcases Nat.eq_zero_or_pos a with q | q
      · rw [q] at ha; exact absurd (Nat.dvd_zero p) ha
      · exact Nat.pow_pos q)
    exact (mod_dvd hge).mp e2
  have hd' : p ∣ prodM id L * (a ^ (p - 1) - 1) := by
    rw [Nat.mul_sub, Nat.mul_one, Nat.mul_comm]; exact hd
  rcases h.dvd hd' with q | q
  · exact absurd q hP
  · have ap : 1 ≤ a ^ (p - 1) := by
      rcases Nat.eq_zero_or_pos a with q | q
      · rw [q] at ha; exact absurd (Nat.dvd_zero p) ha
      · exact Nat.pow_pos q
    have := (mod_dvd ap).mpr q
    have h1 : 1 % p = a ^ (p - 1) % p := this
    rw [← h1, Nat.mod_eq_of_lt hp]
end Mine
end
section
set_option linter.unusedVariables false
set_option Elab.async false
namespace Mine
noncomputable def allB (f : Nat → Bool) : Nat → Nat → Bool
  | 0, lo => f lo
  | k + 1, lo => allB f k lo && allB f k (lo + 2 ^ k)
theorem allB_get {f : Nat → Bool} : ∀ {k lo : Nat}, allB f k lo = true → ∀ x, lo ≤ x → x < lo + 2 ^ k → f x = true
  | 0, lo, h, x, h1, h2 => by
    have : x = lo := by rw [Nat.pow_zero] at h2; omega
    rw [this]; exact h
  | k + 1, lo, h, x, h1, h2 => by
    rw [allB, Bool.and_eq_true] at h
    rw [Nat.pow_succ] at h2
    rcases Nat.lt_or_ge x (lo + 2 ^ k) with q | q
    · exact allB_get h.1 x h1 q
    · exact allB_get h.2 x q (by omega)
theorem prm_of {p k : Nat} (h1 : 1 < p) (h2 : p < 2 ^ k * 2 ^ k) (h : allB (fun d => decide (d < 2) || decide (d = p) || decide (p % d ≠ 0)) k 0 = true) : Prm p := by
  have small : ∀ d, d < 2 ^ k → d ∣ p → d = 1 ∨ d = p := by
    intro d hd hp
    have := allB_get h d (Nat.zero_le d) (by omega)
    rw [Bool.or_eq_true, Bool.or_eq_true, decide_eq_true_eq, decide_eq_true_eq, decide_eq_true_eq] at this
    rcases this with (q | q) | q
    · left
      have : d ≠ 0 := by
        intro e; rw [e] at hp
        have := Nat.eq_zero_of_zero_dvd hp
        omega
      omega
    · exact .inr q
    · exact absurd (Nat.mod_eq_zero_of_dvd hp) q
  refine ⟨h1, fun d hd => ?_⟩
  obtain ⟨e, he⟩ := hd
  rcases Nat.lt_or_ge d (2 ^ k) with q | q
  · exact small d q ⟨e, he⟩
  · rcases Nat.lt_or_ge e (2 ^ k) with q' | q'
    · rcases small e q' ⟨d, by rw [Nat.mul_comm]; exact he⟩ with w | w
      · right; rw [w, Nat.mul_one] at he; exact he.symm
      · left
        rw [w] at he
        have : d * p = 1 * p := by omega
        exact Nat.eq_of_mul_eq_mul_right (by omega) this
    · have := Nat.mul_le_mul q q'
      omega
theorem prm11 : Prm 11 := prm_of (k := 2) (by decide) (by decide) (by decide +kernel)
theorem prm13 : Prm 13 := prm_of (k := 2) (by decide) (by decide) (by decide +kernel)
theorem prm101 : Prm 101 := prm_of (k := 4) (by decide) (by decide) (by decide +kernel)
theorem prm257 : Prm 257 := prm_of (k := 5) (by decide) (by decide) (by decide +kernel)
end Mine
end
section
open Lean.Grind
set_option linter.unusedVariables false
set_option Elab.async false
namespace Mine
section
variable {K : Type} [CommRing K]
/-- whole numbers in the ring -/
noncomputable def zc (x : Int) : K := (Ring.intCast (α := K)).intCast x
theorem zc_add (x y : Int) : (zc (x + y) : K) = zc x + zc y := Ring.intCast_add x y
theorem zc_sub (x y : Int) : (zc (x - y) : K) = zc x - zc y := Ring.intCast_sub x y
theorem zc_mul (x y : Int) : (zc (x * y) : K) = zc x * zc y := Ring.intCast_mul x y
theorem zc_pow (x : Int) (n : Nat) : (zc (x ^ n) : K) = zc x ^ n := Ring.intCast_pow x n
theorem zc_zero : (zc 0 : K) = 0 := Ring.intCast_zero
theorem zc_one : (zc 1 : K) = 1 := Ring.intCast_one
theorem zc_two : (zc 2 : K) = 2 := Ring.intCast_ofNat 2
theorem zc_three : (zc 3 : K) = 3 := Ring.intCast_ofNat 3
theorem zc_four : (zc 4 : K) = 4 := Ring.intCast_ofNat 4
variable {p : Nat} [IsCharP K p]
theorem zc_eq_zero {x : Int} : (zc x : K) = 0 ↔ (p : Int) ∣ x := by
  rw [Int.dvd_iff_emod_eq_zero]
  exact IsCharP.intCast_eq_zero_iff p x
theorem zc_eq {x y : Int} : (zc x : K) = zc y ↔ (p : Int) ∣ x - y := by
  rw [← zc_eq_zero (K := K) (p := p), zc_sub]
  constructor
  · intro h; rw [h]; grind
  · intro h; grind
theorem zc_fmod {x n : Int} (h : (p : Int) ∣ n) : (zc (x.fmod n) : K) = zc x := by
  rw [zc_eq (p := p)]
  have e := Int.mul_fdiv_add_fmod x n
  obtain ⟨c, hc⟩ := h
  refine ⟨-(c * x.fdiv n), ?_⟩
  have : x.fmod n - x = -(n * x.fdiv n) := by omega
  rw [this, hc, Int.mul_neg, Int.mul_assoc]
theorem zc_inj {x y : Int} (hx : 0 ≤ x) (hx' : x < p) (hy : 0 ≤ y) (hy' : y < p) : (zc x : K) = zc y ↔ x = y := by
  rw [zc_eq (p := p)]
  constructor
  · rintro ⟨c, hc⟩
    have h1 : c = 0 := by
      rcases Int.lt_trichotomy c 0 with q | q | q
      · have := Int.mul_le_mul_of_nonneg_left (show c ≤ -1 by omega) (Int.natCast_nonneg p)
        omega
      · exact q
      · have := Int.mul_le_mul_of_nonneg_left (show 1 ≤ c by omega) (Int.natCast_nonneg p)
        omega
    rw [h1] at hc; omega
  · intro h; rw [h]; exact ⟨0, by omega⟩
end
theorem zc_val {p : Nat} [NeZero p] (z : Fin p) : (zc ((z.val : Nat) : Int) : Fin p) = z := by
  exact (Ring.intCast_natCast (α := Fin p) z.val).trans (Fin.ext (Nat.mod_eq_of_lt z.isLt))
theorem fieldFin {p : Nat} [NeZero p] (hp : Prm p) (h2 : p ≠ 2) : FieldLike (Fin p) (fun z => z ^ (p - 2)) where
  inv := by
    intro z hz
    have e := zc_val z
    have nd : ¬ p ∣ z.val := by
      intro h
      apply hz
      rw [← e, zc_eq_zero (p := p)]
      exact Int.natCast_dvd_natCast.mpr h
    have f := fermat hp nd
    have hp1 := hp.1
    have s : z * z ^ (p - 2) = z ^ (p - 1) := by
      rw [show p - 1 = (p - 2) + 1 by omega, Semiring.pow_succ]
      grind
    rw [s, ← e, ← zc_pow, ← zc_one, zc_eq (p := p)]
    have : ((z.val : Nat) : Int) ^ (p - 1) = ((z.val ^ (p - 1) : Nat) : Int) := by simp
    rw [this]
    have h1 := Nat.div_add_mod (z.val ^ (p - 1)) p
    rw [f] at h1
    refine ⟨((z.val ^ (p - 1) / p : Nat) : Int), ?_⟩
    rw [← Int.natCast_mul]
    omega
  one := by
    intro h
    rw [← zc_one, zc_eq_zero (p := p)] at h
    have hp1 := hp.1
    have := Int.le_of_dvd (by decide) h
    omega
  two := by
    intro h
    rw [← zc_two, zc_eq_zero (p := p)] at h
    have hp1 := hp.1
    have := Int.le_of_dvd (by decide) h
    omega
/-! the own curve's sum, on whole numbers -/
noncomputable abbrev PI := Option (Int × Int)
noncomputable def ptD : PI → D
  | none => .tup []
  | some A => .tup [.int A.1, .int A.2]
noncomputable def sumI (p a2 a4 : Int) : PI → PI → PI
  | none, B => B
  | some A, none => some A
  | some A, some B =>
    if A.1 = B.1 then
      if (A.2 + B.2).fmod p = 0 then none
      else
        let s := ((3 * A.1 * A.1 + 2 * a2 * A.1 + a4) * ((2 * A.2) ^ (p - 2).toNat).fmod p).fmod p
        some ((s * s - a2 - A.1 - B.1).fmod p, (s * (A.1 - (s * s - a2 - A.1 - B.1).fmod p) - A.2).fmod p)
    else
      let s := ((B.2 - A.2) * ((B.1 - A.1) ^ (p - 2).toNat).fmod p).fmod p
      some ((s * s - a2 - A.1 - B.1).fmod p, (s * (A.1 - (s * s - a2 - A.1 - B.1).fmod p) - A.2).fmod p)
noncomputable def toK (K : Type) [CommRing K] : PI → Pt K
  | none => none
  | some A => some (zc A.1, zc A.2)
noncomputable def Can (p : Int) : PI → Prop
  | none => True
  | some A => 0 ≤ A.1 ∧ A.1 < p ∧ 0 ≤ A.2 ∧ A.2 < p
theorem sumI_can {p a2 a4 : Int} (hp : 0 < p) : ∀ {A B : PI}, Can p A → Can p B → Can p (sumI p a2 a4 A B)
  | none, _, _, h => h
  | some _, none, h, _ => h
  | some (x1, y1), some (x2, y2), _, _ => by
    have m1 := fun x : Int => Int.fmod_nonneg_of_pos x hp
    have m2 := fun x : Int => Int.fmod_lt_of_pos x hp
    simp only [sumI]
    split
    · split
      · trivial
      · exact ⟨m1 _, m2 _, m1 _, m2 _⟩
    · exact ⟨m1 _, m2 _, m1 _, m2 _⟩
theorem sumI_ok {K : Type} [CommRing K] {p : Nat} [IsCharP K p] {a2 a4 : Int} : ∀ {A B : PI}, Can p A → Can p B →
    toK K (sumI p a2 a4 A B) = addP (fun z => z ^ (p - 2)) (zc a2) (zc a4) (toK K A) (toK K B)
  | none, _, _, _ => rfl
  | some _, none, _, _ => rfl
  | some (x1, y1), some (x2, y2), ⟨h1, h2, h3, h4⟩, ⟨g1, g2, g3, g4⟩ => by
    have pp : (p : Int) ∣ (p : Int) := ⟨1, by omega⟩
    have ex : ((p : Int) - 2).toNat = p - 2 := by omega
    have cx := zc_inj (K := K) (p := p) h1 h2 g1 g2
    have cy : (zc y1 + zc y2 : K) = 0 ↔ (y1 + y2).fmod p = 0 := by
      rw [← zc_add, zc_eq_zero (p := p), Int.dvd_iff_emod_eq_zero, Int.fmod_eq_emod_of_nonneg _ (Int.natCast_nonneg p)]
    unfold sumI toK addP
    simp only
    by_cases hx : x1 = x2
    · subst hx
      by_cases hy : (y1 + y2).fmod p = 0
      · rw [if_pos rfl, if_pos hy, if_pos rfl, if_pos (cy.mpr hy)]
      · rw [if_pos rfl, if_neg hy, if_pos rfl, if_neg (fun q => hy (cy.mp q))]
        simp only [zc_fmod pp, zc_add, zc_sub, zc_mul, zc_pow, zc_two, zc_three, ex]
    · rw [if_neg hx, if_neg (fun q => hx (cx.mp q))]
      simp only [zc_fmod pp, zc_add, zc_sub, zc_mul, zc_pow, zc_two, zc_three, ex]
end Mine
end
section
open PySem PySem.W PyProof.Rows PySem.Spec
set_option linter.unusedVariables false
set_option Elab.async false
set_option maxRecDepth 100000
namespace Mine
theorem Bd.add' {m n : Nat} {a b : Int} (h : Bd m a) (h' : Bd n b) : Bd (m + n + 1) (a + b) := (h.mono (by omega)).add (h'.mono (by omega))
theorem Bd.sub' {m n : Nat} {a b : Int} (h : Bd m a) (h' : Bd n b) : Bd (m + n + 1) (a - b) := (h.mono (by omega)).sub (h'.mono (by omega))
theorem Bd.fmod' {n : Nat} {a w : Int} (h0 : w ≠ 0) (h : Bd n w) : Bd n (a.fmod w) := by
  unfold Bd at *
  have : (a.fmod w).natAbs < w.natAbs := by
    rw [Int.fmod_eq_emod]
    have h1 := Int.emod_nonneg a h0
    have h2 := Int.emod_lt a h0
    split
    · omega
    · rename_i c
      have : a % w ≠ 0 := fun e => c (.inr (Int.dvd_of_emod_eq_zero e))
      omega
  omega
theorem Bd.lit {a : Int} (h : -(2:Int)^40 < a) (h' : a < 2 ^ 40) : Bd 40 a := by
  unfold Bd
  have : (2:Int)^40 = 1099511627776 := by decide
  have : (2:Nat)^40 = 1099511627776 := by decide
  omega
/-- a bit by and -/
theorem band_bit (m j : Nat) : Builtin.bitAnd (m : Int) ((2 ^ j : Nat) : Int) = if m.testBit j = true then ((2 ^ j : Nat) : Int) else 0 := by
  rw [bitAnd_pp (Int.natCast_nonneg _) (Int.natCast_nonneg _), Int.toNat_natCast, Int.toNat_natCast]
  have e : m &&& 2 ^ j = if m.testBit j = true then 2 ^ j else 0 := by
    apply Nat.eq_of_testBit_eq
    intro i
    rw [Nat.testBit_and, Nat.testBit_two_pow]
    by_cases h : j = i
    · subst h
      cases q : m.testBit j
      · simp
      · simp [Nat.testBit_two_pow]
    · cases q : m.testBit j
      · simp [h]
      · simp [h, Nat.testBit_two_pow]
  rw [e]
  split <;> rfl
noncomputable def prD (P : Int × Int) : D := .tup [.int P.1, .int P.2]
noncomputable def dubI (P A : Int × Int) (n : Int) : Int × Int :=
  ((((P.1 + P.2) ^ 2).fmod n * ((P.1 - P.2) ^ 2).fmod n * 4 * A.2).fmod n,
   ((4 * A.2 * ((P.1 - P.2) ^ 2).fmod n + (((P.1 + P.2) ^ 2).fmod n - ((P.1 - P.2) ^ 2).fmod n) * A.1) * (((P.1 + P.2) ^ 2).fmod n - ((P.1 - P.2) ^ 2).fmod n)).fmod n)
noncomputable def addI (P1 P2 P0 : Int × Int) (n : Int) : Int × Int :=
  ((P0.2 * (((P1.1 - P1.2) * (P2.1 + P2.2) + (P1.1 + P1.2) * (P2.1 - P2.2)) ^ 2).fmod n).fmod n,
   (P0.1 * (((P1.1 - P1.2) * (P2.1 + P2.2) - (P1.1 + P1.2) * (P2.1 - P2.2)) ^ 2).fmod n).fmod n)
noncomputable def Bd2 (n : Nat) (P : Int × Int) : Prop := Bd n P.1 ∧ Bd n P.2
theorem dubI_bd {n : Nat} {P A : Int × Int} {m : Int} (h0 : m ≠ 0) (h : Bd n m) : Bd2 n (dubI P A m) := ⟨Bd.fmod' h0 h, Bd.fmod' h0 h⟩
theorem addI_bd {n : Nat} {P Q R : Int × Int} {m : Int} (h0 : m ≠ 0) (h : Bd n m) : Bd2 n (addI P Q R m) := ⟨Bd.fmod' h0 h, Bd.fmod' h0 h⟩
theorem two_nat : (2 : Int).toNat = 2 := rfl
noncomputable def ladI (P A : Int × Int) (n : Int) (m : Nat) : Nat → Int × Int → Int × Int → Int × Int
  | 0, _, r => r
  | j + 1, q, r => if m.testBit j = true then ladI P A n m j (dubI q A n) (addI q r P n) else ladI P A n m j (addI r q P n) (dubI r A n)
noncomputable def bval : Nat → Nat
  | 0 => 0
  | j + 1 => 2 ^ j
theorem bval_half (k : Nat) : bval (k + 1) / 2 = bval k := by
  cases k with
  | zero => rfl
  | succ k =>
    show 2 ^ (k + 1) / 2 = 2 ^ k
    rw [Nat.pow_succ, Nat.mul_div_cancel _ (by decide)]
theorem Bd.two {j n : Nat} (h : j < n) : Bd n ((2 ^ j : Nat) : Int) := by
  unfold Bd
  rw [Int.natAbs_natCast]
  exact Nat.pow_lt_pow_right (by decide) h
noncomputable def wideI : Int := 10 ^ 60 + 7
noncomputable def drawJ (ns : List Int) (p : Nat) : Int := match ns[p]? with
  | some x => if x < 0 then -((-x).fmod wideI) else x.fmod wideI
  | none => 2 * (p : Int) + 3
theorem wide_bd : Bd 200 wideI := by unfold Bd wideI; decide
theorem wide_ne : wideI ≠ 0 := by unfold wideI; decide
theorem drawJ_bd {ns : List Int} {p : Nat} (h : p ≤ 100) : Bd 200 (drawJ ns p) := by
  unfold drawJ
  split
  · split
    · exact (Bd.fmod' wide_ne wide_bd).neg
    · exact Bd.fmod' wide_ne wide_bd
  · exact (Bd.lit (by have : (2:Int)^40 = 1099511627776 := by decide
                      omega) (by have : (2:Int)^40 = 1099511627776 := by decide
                                 omega)).mono (by decide)
noncomputable def BdP (n : Nat) : PI → Prop
  | none => True
  | some A => Bd n A.1 ∧ Bd n A.2
noncomputable def curveI (p a x : Int) : Int × Int × PI × Int :=
  if (x * x * x + a * x * x + x).fmod p = 0 then (a.fmod p, 1, some (x.fmod p, 0), 1)
  else ((a * (x * x * x + a * x * x + x).fmod p).fmod p, ((x * x * x + a * x * x + x).fmod p * (x * x * x + a * x * x + x).fmod p).fmod p,
    some (((x * x * x + a * x * x + x).fmod p * x).fmod p, ((x * x * x + a * x * x + x).fmod p * (x * x * x + a * x * x + x).fmod p).fmod p), (x * x * x + a * x * x + x).fmod p)
noncomputable def curveD (c : Int × Int × PI × Int) : D := .tup [.int c.1, .int c.2.1, ptD c.2.2.1, .int c.2.2.2]
noncomputable def sameI (p : Int) (told : Int × Int) (own : PI) (st : Int) : Prop := match own with
  | none => told.2.fmod p = 0 ∧ told.1.fmod p ≠ 0
  | some P => told.2.fmod p ≠ 0 ∧ (told.1 * st).fmod p = (P.1 * told.2).fmod p
theorem fEq_unit0 : fEq (ptD none) (.tup []) = some (.bool true) := rfl
theorem fEq_unit1 (A : Int × Int) : fEq (ptD (some A)) (.tup []) = some (.bool false) := rfl
theorem wide_T : ∃ T : Int, fPow (.int 10) (.int 60) = some (.int T) ∧ wideI = T + 7 ∧ T + 7 ≠ 0 := by
  refine ⟨10 ^ 60, ?_, rfl, wide_ne⟩
  simp only [fPow]
  rw [if_pos (by decide)]; rfl
theorem fmod_congr {a b n : Int} (hn : n ≠ 0) (h : n ∣ a - b) : a.fmod n = b.fmod n := by
  obtain ⟨c, hc⟩ := h
  have : a = b + n * c := by omega
  rw [this, Int.add_mul_fmod_self_left]
theorem fmod_sub (a n : Int) : ∃ c, a.fmod n = a + n * c := ⟨-(a.fdiv n), by
  have := Int.mul_fdiv_add_fmod a n
  rw [Int.mul_neg]; omega⟩
end Mine
end
section
open PySem PySem.W PyProof.Rows PySem.Spec
open Lean.Grind
set_option linter.unusedVariables false
set_option Elab.async false
namespace Mine
section
variable {K : Type} [CommRing K] {inv : K → K}
theorem smooth_of (FL : FieldLike K inv) {a β : K} (ha : (a - 2) * (a + 2) ≠ 0) (hβ : β ≠ 0) : Smooth (a * β) (β * β) := by
  intro x h1 h2
  by_cases hx : x = 0
  · subst hx
    have : β * β = 0 := by grind
    rcases FL.dom this with e | e <;> exact hβ e
  · have e0 : x * (x * x + a * β * x + β * β) = 0 := by clear h2 ha hx; grind
    have e1 : x * x + a * β * x + β * β = 0 := (FL.dom e0).resolve_left hx
    have e2 : x * (2 * x + a * β) = 0 := by clear h1 e0 ha hx; grind
    have e3 : 2 * x + a * β = 0 := (FL.dom e2).resolve_left hx
    have e4 : (β * β) * ((a - 2) * (a + 2)) = 0 := by clear h1 h2 e0 e2 ha hx; grind
    rcases FL.dom e4 with e | e
    · rcases FL.dom e with e | e <;> exact hβ e
    · exact ha e
variable {p : Nat} [IsCharP K p]
theorem fmod_zero {x n : Int} : x.fmod n = 0 ↔ n ∣ x := by
  constructor
  · intro h
    have := Int.mul_fdiv_add_fmod x n
    exact ⟨x.fdiv n, by omega⟩
  · intro h
    exact Int.fmod_eq_zero_of_dvd h
theorem zc0 {x : Int} : (zc x : K) = 0 ↔ x.fmod p = 0 := by rw [zc_eq_zero (p := p), fmod_zero]
noncomputable def RepI (β : K) (t : Int × Int) (Q : Pt K) : Prop := Rep β (zc t.1) (zc t.2) Q
theorem same_ok {β : K} {t : Int × Int} {own : PI} {st : Int} (hst : zc st = β) (h : RepI β t (toK K own)) : sameI p t own st := by
  cases own with
  | none => exact ⟨zc0.mp h.1, fun e => h.2 (zc0.mpr e)⟩
  | some P =>
    obtain ⟨h1, h2⟩ := h
    refine ⟨fun e => h1 (zc0.mpr e), ?_⟩
    have hp : (p : Int) ≠ 0 ∨ (p : Int) = 0 := by omega
    have : (zc (t.1 * st) : K) = zc (P.1 * t.2) := by rw [zc_mul, zc_mul, hst]; exact h2
    rw [zc_eq (p := p)] at this
    rcases hp with hp | hp
    · exact fmod_congr hp this
    · rw [hp] at this ⊢
      obtain ⟨c, hc⟩ := this
      have : t.1 * st = P.1 * t.2 := by omega
      rw [this]
theorem dub_ok (FL : FieldLike K inv) {a β : K} (ha : (a - 2) * (a + 2) ≠ 0) (hβ : β ≠ 0) {A : Int × Int} {n : Int} (hn : (p : Int) ∣ n) (hA : (zc A.1 : K) = (a + 2) * zc A.2) (hd : (zc A.2 : K) ≠ 0)
    {t : Int × Int} {Q : Pt K} (hQ : OnC (a * β) (β * β) Q) (h : RepI β t Q) : RepI β (dubI t A n) (addP inv (a * β) (β * β) Q Q) := by
  have r := rep_dbl FL ha hβ hd hQ h
  unfold RepI dubI
  simp only [zc_fmod hn, zc_mul, zc_add, zc_sub, zc_pow, zc_four, hA]
  generalize addP inv (a * β) (β * β) Q Q = R at *
  have e1 : (zc t.1 + zc t.2 : K) ^ 2 * (zc t.1 - zc t.2) ^ 2 * 4 * zc A.2 = 4 * zc A.2 * ((zc t.1 * zc t.1 - zc t.2 * zc t.2) * (zc t.1 * zc t.1 - zc t.2 * zc t.2)) := by
    clear r h hQ hA hd ha hβ; grind
  have e2 : (4 * zc A.2 * (zc t.1 - zc t.2) ^ 2 + ((zc t.1 + zc t.2) ^ 2 - (zc t.1 - zc t.2) ^ 2) * ((a + 2) * zc A.2)) * ((zc t.1 + zc t.2) ^ 2 - (zc t.1 - zc t.2 : K) ^ 2) = 16 * zc A.2 * (zc t.1 * zc t.2) * (zc t.1 * zc t.1 + a * zc t.1 * zc t.2 + zc t.2 * zc t.2) := by
    clear r h hQ hA hd ha hβ e1; grind
  rw [e1, e2]; exact r
theorem add_ok (FL : FieldLike K inv) {a β : K} (ha : (a - 2) * (a + 2) ≠ 0) (hβ : β ≠ 0) {n : Int} (hn : (p : Int) ∣ n)
    {t0 t1 t2 : Int × Int} {P0 Q1 Q2 : Pt K} (hP : OnC (a * β) (β * β) P0) (hQ1 : OnC (a * β) (β * β) Q1) (hQ2 : OnC (a * β) (β * β) Q2) (hx0 : (zc t0.1 : K) ≠ 0) (hz0 : (zc t0.2 : K) ≠ 0)
    (r0 : RepI β t0 P0) (h1 : RepI β t1 Q1) (h2 : RepI β t2 Q2) (hd : Q1 = addP inv (a * β) (β * β) Q2 P0) : RepI β (addI t1 t2 t0 n) (addP inv (a * β) (β * β) Q1 Q2) ∧ RepI β (addI t2 t1 t0 n) (addP inv (a * β) (β * β) Q1 Q2) := by
  have r := rep_add FL hβ (smooth_of FL ha hβ) hP hQ1 hQ2 hx0 r0 hz0 h1 h2 hd
  unfold RepI addI
  simp only [zc_fmod hn, zc_mul, zc_add, zc_sub, zc_pow]
  clear hd
  generalize addP inv (a * β) (β * β) Q1 Q2 = R at *
  clear r0 h1 h2 hx0 hz0 hP hQ1 hQ2 ha hβ
  have e1 : ∀ x1 x2 z1 z2 : K, ((x1 - z1) * (x2 + z2) + (x1 + z1) * (x2 - z2)) ^ 2 = (2 * (x1 * x2 - z1 * z2)) * (2 * (x1 * x2 - z1 * z2)) := by
    clear r; intros; grind
  have e2 : ∀ x1 x2 z1 z2 : K, ((x1 - z1) * (x2 + z2) - (x1 + z1) * (x2 - z2)) ^ 2 = (2 * (x1 * z2 - x2 * z1)) * (2 * (x1 * z2 - x2 * z1)) := by
    clear r e1; intros; grind
  refine ⟨?_, ?_⟩
  · rw [e1, e2]; exact r
  · rw [e1, e2]
    have e3 : ∀ x1 x2 z1 z2 : K, (2 * (x2 * x1 - z2 * z1)) * (2 * (x2 * x1 - z2 * z1)) = (2 * (x1 * x2 - z1 * z2)) * (2 * (x1 * x2 - z1 * z2)) := by
      clear r e1 e2; intros; grind
    have e4 : ∀ x1 x2 z1 z2 : K, (2 * (x2 * z1 - x1 * z2)) * (2 * (x2 * z1 - x1 * z2)) = (2 * (x1 * z2 - x2 * z1)) * (2 * (x1 * z2 - x2 * z1)) := by
      clear r e1 e2 e3; intros; grind
    rw [e3 (zc t1.1) (zc t2.1) (zc t1.2) (zc t2.2), e4 (zc t1.1) (zc t2.1) (zc t1.2) (zc t2.2)]; exact r
theorem can_toK {hp : 0 < p} {x : Int} : 0 ≤ x.fmod p ∧ x.fmod p < p := ⟨Int.fmod_nonneg_of_pos x (by omega), Int.fmod_lt_of_pos x (by omega)⟩
/-- the drawn curve and its point -/
theorem curve_ok (FL : FieldLike K inv) (hp : 0 < p) (a x : Int) : ∃ β : K, β ≠ 0 ∧ zc (curveI p a x).1 = zc a * β ∧ zc (curveI p a x).2.1 = β * β ∧ zc (curveI p a x).2.2.2 = β ∧
    Can p (curveI p a x).2.2.1 ∧ OnC (zc a * β) (β * β) (toK K (curveI p a x).2.2.1) ∧ ∃ Y : Int, toK K (curveI p a x).2.2.1 = some (zc x * β, zc Y) := by
  have pp : (p : Int) ∣ (p : Int) := ⟨1, by omega⟩
  have c1 : ∀ x : Int, 0 ≤ x.fmod p ∧ x.fmod p < p := fun x => can_toK (hp := hp)
  unfold curveI
  by_cases h : (x * x * x + a * x * x + x).fmod p = 0
  · rw [if_pos h]
    have hz : (zc (x * x * x + a * x * x + x) : K) = 0 := zc0.mpr h
    simp only [zc_add, zc_mul] at hz
    refine ⟨1, FL.one, ?_, ?_, zc_one, ⟨(c1 x).1, (c1 x).2, by omega, by omega⟩, ?_, 0, ?_⟩
    · simp only [zc_fmod pp]; grind
    · simp only [zc_one]; grind
    · show onC _ _ _ _
      simp only [onC, zc_fmod pp, zc_zero]; grind
    · simp only [toK, zc_fmod pp]; congr 2; grind
  · rw [if_neg h]
    have hz : (zc (x * x * x + a * x * x + x) : K) ≠ 0 := fun e => h (zc0.mp e)
    obtain ⟨b, hb⟩ : ∃ b, (x * x * x + a * x * x + x).fmod p = b := ⟨_, rfl⟩
    have hb' : (zc b : K) = zc (x * x * x + a * x * x + x) := by rw [← hb, zc_fmod pp]
    rw [← hb'] at hz
    simp only [zc_add, zc_mul] at hb'
    rw [hb]
    refine ⟨zc b, hz, ?_, ?_, rfl, ⟨(c1 _).1, (c1 _).2, (c1 _).1, (c1 _).2⟩, ?_, (b * b).fmod p, ?_⟩
    · simp only [zc_fmod pp, zc_mul]
    · simp only [zc_fmod pp, zc_mul]
    · show onC _ _ _ _
      simp only [onC, zc_fmod pp, zc_mul]; clear hb hz; grind
    · simp only [toK, zc_fmod pp, zc_mul]; congr 2; clear hb' hz hb; grind
theorem start_rep (FL : FieldLike K inv) {β : K} {x z : Int} {Y : K} {t : Int × Int} (hz : (zc z : K) ≠ 0) (h1 : (zc t.1 : K) = zc x * zc z) (h2 : (zc t.2 : K) = zc z) : RepI β t (some (zc x * β, Y)) := by
  refine ⟨by rw [h2]; exact hz, ?_⟩
  rw [h1, h2]; clear hz h1 h2; grind
end
theorem curveI_bd {p a x : Int} (n : Nat) (hn : 40 ≤ n) (h0 : p ≠ 0) (h : Bd n p) : Bd n (curveI p a x).1 ∧ Bd n (curveI p a x).2.1 ∧ BdP n (curveI p a x).2.2.1 ∧ Bd n (curveI p a x).2.2.2 := by
  have m := fun y : Int => Bd.fmod' (n := n) (a := y) h0 h
  have one : Bd n 1 := (Bd.lit (by decide) (by decide)).mono hn
  unfold curveI
  split
  · exact ⟨m _, one, ⟨m _, Bd.zero⟩, one⟩
  · exact ⟨m _, m _, ⟨m _, m _⟩, m _⟩
theorem can_bd {p : Int} {n : Nat} (h : Bd n p) : ∀ {A : PI}, Can p A → BdP n A
  | none, _ => trivial
  | some A, ⟨h1, h2, h3, h4⟩ => by
    unfold Bd at h
    exact ⟨by unfold Bd; omega, by unfold Bd; omega⟩
end Mine
end
section
open PySem PySem.W PyProof.Rows PySem.Spec
open Lean.Grind
set_option linter.unusedVariables false
set_option Elab.async false
namespace Mine
/-- a curve, a point on it, and who tells which multiple: pairs (TT), own points (HH) -/
structure Pk (p : Nat) (a a2 a4 st : Int) (pt : PI) (TT : Nat → Int × Int → Prop) (HH : Nat → PI → Prop) : Prop where
  one : HH 1 pt
  zero : HH 0 none
  add : ∀ {i j : Nat} {A B : PI}, HH i A → HH j B → HH (i + j) (sumI p a2 a4 A B)
  can : ∀ {i : Nat} {A : PI}, HH i A → Can p A
  same : ∀ {i : Nat} {T : Int × Int} {A : PI}, TT i T → HH i A → sameI p T A st
  dub : ∀ {i : Nat} {T A : Int × Int} {n : Int}, TT i T → (p : Int) ∣ n → (p : Int) ∣ A.1 - (a + 2) * A.2 → ¬ (p : Int) ∣ A.2 → TT (2 * i) (dubI T A n)
  lad : ∀ {i j : Nat} {q r t : Int × Int} {n : Int}, TT (i + j) q → TT i r → TT j t → ¬ (p : Int) ∣ t.1 → ¬ (p : Int) ∣ t.2 → (p : Int) ∣ n → TT (2 * i + j) (addI q r t n) ∧ TT (2 * i + j) (addI r q t n)
section
variable {K : Type} [CommRing K] {p : Nat} [IsCharP K p]
theorem pk_of {inv : K → K} (einv : ∀ z, inv z = z ^ (p - 2)) (FL : FieldLike K inv) (hp : 0 < p) {a : Int} (h1 : ¬ (p : Int) ∣ a - 2) (h2 : ¬ (p : Int) ∣ a + 2) {a2 a4 st : Int} {β : K} (hβ : β ≠ 0) (e2 : zc a2 = zc a * β) (e4 : zc a4 = β * β) (es : zc st = β)
    {pt : PI} (hc : Can p pt) (ho : OnC (zc a * β) (β * β) (toK K pt)) :
    Pk p a a2 a4 st pt (fun i T => RepI β T (mulP inv (zc a * β) (β * β) i (toK K pt))) (fun i A => Can p A ∧ toK K A = mulP inv (zc a * β) (β * β) i (toK K pt)) := by
  have ha : (zc a - 2 : K) * (zc a + 2) ≠ 0 := by
    refine FL.mul ?_ ?_
    · rw [← zc_two, ← zc_sub]; exact fun e => h1 ((zc_eq_zero (K := K) (p := p)).mp e)
    · rw [← zc_two, ← zc_add]; exact fun e => h2 ((zc_eq_zero (K := K) (p := p)).mp e)
  have sm := smooth_of FL ha hβ
  have ei : inv = fun z => z ^ (p - 2) := funext einv
  have on := mulP_on (inv := inv) FL ho
  refine ⟨⟨hc, rfl⟩, ⟨trivial, rfl⟩, ?_, fun h => h.1, fun h1 h2 => same_ok es (by rw [h2.2]; exact h1), ?_, ?_⟩
  · rintro i j A B ⟨c1, h1⟩ ⟨c2, h2⟩
    refine ⟨sumI_can (by omega) c1 c2, ?_⟩
    rw [sumI_ok (K := K) c1 c2, mulP_add FL sm ho, ← h1, ← h2, e2, e4, ei]
  · intro i T A n h hn hA hd
    have r := dub_ok (p := p) FL ha hβ hn (A := A) (t := T) (by
      have := (zc_eq (K := K) (p := p)).mpr hA
      rw [zc_mul, zc_add, zc_two] at this; exact this) (fun e => hd (zc_eq_zero.mp e)) (on i) h
    show RepI β _ _
    rw [show 2 * i = i + i by omega, mulP_add FL sm ho]; exact r
  · intro i j q r t n hq hr ht hx hz hn
    have s := add_ok (p := p) FL ha hβ hn (on j) (on (i + j)) (on i) (t0 := t) (fun e => hx (zc_eq_zero.mp e)) (fun e => hz (zc_eq_zero.mp e)) ht hq hr (mulP_add FL sm ho i j)
    rw [← mulP_add FL sm ho] at s
    rw [show 2 * i + j = i + j + i by omega]; exact s
end
theorem pk_curve {p : Nat} (hp : Prm p) (h2 : p ≠ 2) {a x : Int} (ha1 : ¬ (p : Int) ∣ a - 2) (ha2 : ¬ (p : Int) ∣ a + 2) : ∃ TT HH, Pk p a (curveI p a x).1 (curveI p a x).2.1 (curveI p a x).2.2.2 (curveI p a x).2.2.1 TT HH ∧
    (∀ t : Int × Int, ¬ (p : Int) ∣ t.2 → (p : Int) ∣ t.1 - x * t.2 → TT 1 t) ∧
    ∀ (i : Nat) (t : Int × Int), TT i t → ((p : Int) ∣ t.2 → ¬ (p : Int) ∣ t.1) ∧ ((p : Int) ∣ t.2 ↔ HH i none) ∧ ∀ X Y, HH i (some (X, Y)) → (X = 0 ↔ (p : Int) ∣ t.1) := by
  have h1 := hp.1
  haveI : NeZero p := ⟨by omega⟩
  have FL := fieldFin hp h2
  obtain ⟨β, hβ, e2, e4, es, hc, ho, Y, eY⟩ := curve_ok (K := Fin p) (p := p) FL (by omega) a x
  refine ⟨_, _, pk_of (fun _ => rfl) FL (by omega) ha1 ha2 hβ e2 e4 es hc ho, ?_, ?_⟩
  · intro t hz hx
    have hz' : (zc t.2 : Fin p) ≠ 0 := fun e => hz ((zc_eq_zero (p := p)).mp e)
    rw [mulP_one, eY]
    refine start_rep (inv := fun z : Fin p => z ^ (p - 2)) FL (x := x) (z := t.2) hz' ?_ rfl
    have := (zc_eq (K := Fin p) (p := p)).mpr hx
    rw [zc_mul] at this; exact this
  · intro i t ht
    rw [← zc_eq_zero (K := Fin p), ← zc_eq_zero (K := Fin p)]
    cases hm : mulP (fun z : Fin p => z ^ (p - 2)) (zc a * β) (β * β) i (toK (Fin p) (curveI p a x).2.2.1) with
    | none =>
      simp only [hm] at ht
      refine ⟨fun _ => ht.2, ⟨fun _ => ⟨trivial, rfl⟩, fun _ => ht.1⟩, fun X Y h => ?_⟩
      exact absurd h.2 (by simp [toK])
    | some Q =>
      simp only [hm] at ht
      refine ⟨fun e => absurd e ht.1, ⟨fun e => absurd e ht.1, fun h => absurd h.2 (by simp [toK])⟩, ?_⟩
      rintro X Y ⟨⟨c1, c2, c3, c4⟩, h⟩
      simp only [toK, Option.some.injEq] at h
      have hX : zc X = Q.1 := by rw [← h]
      obtain ⟨g1, g2⟩ := ht
      constructor
      · intro e
        rw [e, zc_zero] at hX
        rw [← hX] at g2
        have : (zc t.1 : Fin p) * β = 0 := by rw [g2]; grind
        exact (FL.dom this).resolve_right hβ
      · intro e
        rw [e, ← hX] at g2
        have g3 : (zc X : Fin p) * zc t.2 = 0 := by rw [← g2]; grind
        have g4 := (FL.dom g3).resolve_right g1
        have := (zc_inj (K := Fin p) (p := p) c1 c2 (Int.le_refl 0) (by omega)).mp (by rw [zc_zero]; exact g4)
        exact this
end Mine
end
section
open PySem PySem.W PyProof.Rows PySem.Spec
set_option linter.unusedVariables false
set_option Elab.async false
set_option maxRecDepth 100000
namespace Mine
noncomputable def StopIf : Prop := True
theorem IfK.gd {c p q : Prop} [Decidable c] (h : IfK (decide c) p q) : IfK (decide c) p q := h
noncomputable def itD (A : Int × Int) (n : Int) : Nat → Int × Int → Int × Int
  | 0, r => r
  | j + 1, r => itD A n j (dubI r A n)
theorem lad_pow {P A : Int × Int} {n : Int} {e : Nat} : ∀ {j : Nat} {q r : Int × Int}, j ≤ e → ladI P A n (2 ^ e) j q r = itD A n j r
  | 0, _, _, _ => rfl
  | j + 1, q, r, h => by
    have : Nat.testBit (2 ^ e) j = false := by
      rw [Nat.testBit_two_pow]
      exact decide_eq_false (by omega)
    rw [ladI, if_neg (by rw [this]; decide), lad_pow (by omega), itD]
/-- the ladder tells the multiple -/
theorem lad_ok {p : Nat} {a a2 a4 st : Int} {pt : PI} {TT : Nat → Int × Int → Prop} {HH : Nat → PI → Prop} (hk : Pk p a a2 a4 st pt TT HH) {n : Int} (hn : (p : Int) ∣ n) {A t : Int × Int} (hA : (p : Int) ∣ A.1 - (a + 2) * A.2) (hA2 : ¬ (p : Int) ∣ A.2)
    {j : Nat} (ht : TT j t) (h1 : ¬ (p : Int) ∣ t.1) (h2 : ¬ (p : Int) ∣ t.2) (m : Nat) : ∀ (i : Nat) (q r : Int × Int), TT (m / 2 ^ i * j + j) q → TT (m / 2 ^ i * j) r → TT (m * j) (ladI t A n m i q r)
  | 0, q, r, hq, hr => by
    rw [Nat.pow_zero, Nat.div_one] at hr
    exact hr
  | i + 1, q, r, hq, hr => by
    have e : m / 2 ^ i = 2 * (m / 2 ^ (i + 1)) + (m.testBit i).toNat := by
      rw [Nat.pow_succ, ← Nat.div_div_eq_div_mul, Nat.testBit, Nat.shiftRight_eq_div_pow]
      have := Nat.div_add_mod (m / 2 ^ i) 2
      have h3 := Nat.mod_two_eq_zero_or_one (m / 2 ^ i)
      rcases h3 with h3 | h3
      · rw [h3] at this
        have : (1 &&& m / 2 ^ i != 0) = false := by
          rw [Nat.one_and_eq_mod_two, h3]; rfl
        rw [this]; simp only [Bool.toNat_false]; omega
      · rw [h3] at this
        have : (1 &&& m / 2 ^ i != 0) = true := by
          rw [Nat.one_and_eq_mod_two, h3]; rfl
        rw [this]; simp only [Bool.toNat_true]; omega
    obtain ⟨s1, s2⟩ := hk.lad hq hr ht h1 h2 hn
    generalize m / 2 ^ (i + 1) = c at *
    by_cases b : m.testBit i = true
    · rw [b] at e
      simp only [Bool.toNat_true] at e
      rw [ladI, if_pos b]
      refine lad_ok hk hn hA hA2 ht h1 h2 m i _ _ ?_ ?_
      · rw [e, show (2 * c + 1) * j + j = 2 * (c * j + j) by rw [Nat.add_mul, Nat.mul_assoc]; omega]
        exact hk.dub hq hn hA hA2
      · rw [e, show (2 * c + 1) * j = 2 * (c * j) + j by rw [Nat.add_mul, Nat.mul_assoc]; omega]
        exact s1
    · have b' : m.testBit i = false := by simpa using b
      rw [b'] at e
      simp only [Bool.toNat_false] at e
      rw [ladI, if_neg b]
      refine lad_ok hk hn hA hA2 ht h1 h2 m i _ _ ?_ ?_
      · rw [e, show (2 * c + 0) * j + j = 2 * (c * j) + j by rw [Nat.add_zero, Nat.mul_assoc]]
        exact s2
      · rw [e, show (2 * c + 0) * j = 2 * (c * j) by rw [Nat.add_zero, Nat.mul_assoc]]
        exact hk.dub hr hn hA hA2
/-- ecmul's ladder from its start -/
theorem lad_all {p : Nat} {a a2 a4 st : Int} {pt : PI} {TT : Nat → Int × Int → Prop} {HH : Nat → PI → Prop} (hk : Pk p a a2 a4 st pt TT HH) {n : Int} (hn : (p : Int) ∣ n) {A t : Int × Int} (hA : (p : Int) ∣ A.1 - (a + 2) * A.2) (hA2 : ¬ (p : Int) ∣ A.2)
    {j : Nat} (ht : TT j t) (h1 : ¬ (p : Int) ∣ t.1) (h2 : ¬ (p : Int) ∣ t.2) {m J : Nat} (l1 : 2 ^ (J + 1) < m) (l2 : m < 2 ^ (J + 2)) : TT (m * j) (ladI t A n m (J + 1) (dubI t A n) t) := by
  have e : m / 2 ^ (J + 1) = 1 := by
    have : 2 ^ (J + 2) = 2 ^ (J + 1) * 2 := Nat.pow_succ ..
    refine Nat.div_eq_of_lt_le ?_ ?_ <;> omega
  refine lad_ok hk hn hA hA2 ht h1 h2 m (J + 1) _ _ ?_ ?_
  · rw [e, show 1 * j + j = 2 * j by omega]; exact hk.dub ht hn hA hA2
  · rw [e, Nat.one_mul]; exact ht
theorem bd_nat {p n : Nat} (h : p < 2 ^ n) : Bd n (p : Int) := by unfold Bd; rw [Int.natAbs_natCast]; exact h
end Mine
end
section
open PySem PySem.W PyProof.Rows PySem.Spec
set_option linter.unusedVariables false
set_option Elab.async false
set_option maxRecDepth 100000
namespace Mine
theorem prm_dvd_int {p : Nat} (hp : Prm p) {x y : Int} (h : (p : Int) ∣ x * y) : (p : Int) ∣ x ∨ (p : Int) ∣ y := by
  have h1 := Int.natAbs_dvd_natAbs.mpr h
  rw [Int.natAbs_mul, Int.natAbs_natCast] at h1
  rcases hp.dvd h1 with e | e
  · exact .inl (Int.natAbs_dvd_natAbs.mp (by rw [Int.natAbs_natCast]; exact e))
  · exact .inr (Int.natAbs_dvd_natAbs.mp (by rw [Int.natAbs_natCast]; exact e))
theorem log_pair {m : Nat} (h : 3 ≤ m) (h' : m < 2 ^ 900) : ∃ J, J ≤ 898 ∧ 2 ^ (J + 1) ≤ m ∧ m < 2 ^ (J + 2) := by
  have a1 := Nat.log2_self_le (n := m) (by omega)
  have a2 := Nat.lt_log2_self (n := m)
  have a3 : 1 ≤ m.log2 := (Nat.le_log2 (by omega)).mpr (by omega)
  have a4 : m.log2 < 900 := (Nat.log2_lt (by omega)).mpr h'
  refine ⟨m.log2 - 1, by omega, ?_, ?_⟩
  · rw [show m.log2 - 1 + 1 = m.log2 by omega]; exact a1
  · rw [show m.log2 - 1 + 2 = m.log2 + 1 by omega]; exact a2
noncomputable def Rng (n : Int) (R : Int × Int) : Prop := 0 ≤ R.1 ∧ R.1 < n ∧ 0 ≤ R.2 ∧ R.2 < n
theorem dubI_rng {n : Int} (h : 0 < n) {t A : Int × Int} : Rng n (dubI t A n) := ⟨Int.fmod_nonneg_of_pos _ h, Int.fmod_lt_of_pos _ h, Int.fmod_nonneg_of_pos _ h, Int.fmod_lt_of_pos _ h⟩
theorem addI_rng {n : Int} (h : 0 < n) {t u v : Int × Int} : Rng n (addI t u v n) := ⟨Int.fmod_nonneg_of_pos _ h, Int.fmod_lt_of_pos _ h, Int.fmod_nonneg_of_pos _ h, Int.fmod_lt_of_pos _ h⟩
theorem lad_rng {n : Int} (h : 0 < n) {P A : Int × Int} {m : Nat} : ∀ {j : Nat} {q r : Int × Int}, Rng n r → Rng n (ladI P A n m j q r)
  | 0, _, _, hr => hr
  | j + 1, q, r, hr => by
    rw [ladI]
    split
    · exact lad_rng h (addI_rng h)
    · exact lad_rng h (dubI_rng h)
theorem lad_rng1 {n : Int} (h : 0 < n) {P A : Int × Int} {m j : Nat} {q r : Int × Int} : Rng n (ladI P A n m (j + 1) q r) := by
  rw [ladI]
  split
  · exact lad_rng h (addI_rng h)
  · exact lad_rng h (dubI_rng h)
theorem Rng.bd {n : Int} {k : Nat} (h : Bd k n) {R : Int × Int} (hr : Rng n R) : Bd2 k R := by
  obtain ⟨h1, h2, h3, h4⟩ := hr
  unfold Bd at h
  exact ⟨by unfold Bd; omega, by unfold Bd; omega⟩
end Mine
end
section
open PySem PySem.W PyProof.Rows PySem.Spec
set_option linter.unusedVariables false
set_option Elab.async false
set_option maxRecDepth 100000
namespace Mine
theorem prm17 : Prm 17 := prm_of (k := 3) (by decide) (by decide) (by decide +kernel)
theorem prm19 : Prm 19 := prm_of (k := 3) (by decide) (by decide) (by decide +kernel)
theorem prm23 : Prm 23 := prm_of (k := 3) (by decide) (by decide) (by decide +kernel)
theorem prm29 : Prm 29 := prm_of (k := 3) (by decide) (by decide) (by decide +kernel)
theorem prm31a : Prm 31 := prm_of (k := 3) (by decide) (by decide) (by decide +kernel)
theorem prm10007 : Prm 10007 := prm_of (k := 7) (by decide) (by decide) (by decide +kernel)
end Mine
end
section
open PySem PySem.W PyProof.Rows PySem.Spec
set_option linter.unusedVariables false
set_option Elab.async false
set_option maxRecDepth 100000
namespace Mine
/-! what ecmul gives for any count from two on -/
noncomputable def mulF (m : Nat) (t A : Int × Int) (n : Int) : Int × Int := if m = 2 then dubI t A n else ladI t A n m (Nat.log2 (m - 1)) (dubI t A n) t
noncomputable def eff (m : Nat) : Nat := if 4 ≤ m ∧ m = 2 ^ m.log2 then m / 2 else m
theorem mulF_eq {m J : Nat} (l1 : 2 ^ (J + 1) < m) (l2 : m ≤ 2 ^ (J + 2)) (t A : Int × Int) (n : Int) : mulF m t A n = ladI t A n m (J + 1) (dubI t A n) t := by
  have p1 := Nat.two_pow_pos J
  have e1 : 2 ^ (J + 1) = 2 ^ J * 2 := Nat.pow_succ ..
  have hm : m - 1 ≠ 0 := by omega
  have a1 : J + 1 ≤ (m - 1).log2 := (Nat.le_log2 hm).mpr (by omega)
  have a2 : (m - 1).log2 < J + 2 := (Nat.log2_lt hm).mpr (by omega)
  unfold mulF
  rw [if_neg (by omega), show (m - 1).log2 = J + 1 by omega]
theorem dvd_fmod' {q n x : Int} (h : q ∣ n) : q ∣ x.fmod n ↔ q ∣ x := by
  obtain ⟨c, hc⟩ := fmod_sub x n
  have hn : q ∣ n * c := Int.dvd_mul_of_dvd_left h
  rw [hc]
  constructor
  · intro g
    have := Int.dvd_sub g hn
    rwa [Int.add_sub_cancel] at this
  · intro g; exact Int.dvd_add g hn
theorem dub_z {q n : Int} (h : q ∣ n) {t A : Int × Int} (hz : q ∣ t.1 * t.2) : q ∣ (dubI t A n).2 := by
  unfold dubI
  simp only
  rw [dvd_fmod' h]
  refine Int.dvd_mul_of_dvd_right ?_
  obtain ⟨c, hc⟩ := fmod_sub ((t.1 + t.2) ^ 2) n
  obtain ⟨d, hd⟩ := fmod_sub ((t.1 - t.2) ^ 2) n
  rw [hc, hd]
  have e : (t.1 + t.2) ^ 2 + n * c - ((t.1 - t.2) ^ 2 + n * d) = 4 * (t.1 * t.2) + n * (c - d) := by grind
  rw [e]
  exact Int.dvd_add (Int.dvd_mul_of_dvd_right hz) (Int.dvd_mul_of_dvd_left h)
theorem add_z1 {q n : Int} (h : q ∣ n) {t1 t2 t0 : Int × Int} (hx : q ∣ t0.1) : q ∣ (addI t1 t2 t0 n).2 := by
  unfold addI
  simp only
  rw [dvd_fmod' h]
  exact Int.dvd_mul_of_dvd_left hx
theorem add_z2 {q n : Int} (h : q ∣ n) {t1 t2 t0 : Int × Int} (h1 : q ∣ t1.2) (h2 : q ∣ t2.2) : q ∣ (addI t1 t2 t0 n).2 := by
  unfold addI
  simp only
  rw [dvd_fmod' h]
  refine Int.dvd_mul_of_dvd_right ?_
  rw [dvd_fmod' h]
  have e : ((t1.1 - t1.2) * (t2.1 + t2.2) - (t1.1 + t1.2) * (t2.1 - t2.2)) ^ 2 = (2 * t1.1 * t2.2 - 2 * t2.1 * t1.2) * (2 * t1.1 * t2.2 - 2 * t2.1 * t1.2) := by grind
  rw [e]
  exact Int.dvd_mul_of_dvd_left (Int.dvd_sub (Int.dvd_mul_of_dvd_right h2) (Int.dvd_mul_of_dvd_right h1))
theorem lad_zA {q n : Int} (h : q ∣ n) {t A : Int × Int} {m : Nat} (ht : q ∣ t.2) : ∀ {i : Nat} {u r : Int × Int}, q ∣ u.2 → q ∣ r.2 → q ∣ (ladI t A n m i u r).2
  | 0, _, _, _, hr => hr
  | i + 1, u, r, hu, hr => by
    rw [ladI]
    split
    · exact lad_zA h ht (dub_z h (Int.dvd_mul_of_dvd_right hu)) (add_z2 h hu hr)
    · exact lad_zA h ht (add_z2 h hr hu) (dub_z h (Int.dvd_mul_of_dvd_right hr))
theorem lad_zB {q n : Int} (h : q ∣ n) {t A : Int × Int} {m : Nat} (ht : q ∣ t.1) : ∀ {i : Nat} {u r : Int × Int}, q ∣ r.2 → q ∣ (ladI t A n m i u r).2
  | 0, _, _, hr => hr
  | i + 1, u, r, hr => by
    rw [ladI]
    split
    · exact lad_zB h ht (add_z1 h ht)
    · exact lad_zB h ht (dub_z h (Int.dvd_mul_of_dvd_right hr))
theorem mulF_z {q n : Int} (h : q ∣ n) {t A : Int × Int} {m : Nat} (hm : 2 ≤ m) (ht : q ∣ t.1 ∨ q ∣ t.2) : q ∣ (mulF m t A n).2 := by
  have hz : q ∣ t.1 * t.2 := ht.elim (fun e => Int.dvd_mul_of_dvd_left e) (fun e => Int.dvd_mul_of_dvd_right e)
  unfold mulF
  split
  · exact dub_z h hz
  · have : 1 ≤ (m - 1).log2 := (Nat.le_log2 (by omega)).mpr (by omega)
    obtain ⟨u, hu⟩ : ∃ u, (m - 1).log2 = u + 1 := ⟨(m - 1).log2 - 1, by omega⟩
    rw [hu]
    rcases ht with e | e
    · rw [ladI]
      split
      · exact lad_zB h e (add_z1 h e)
      · exact lad_zB h e (dub_z h hz)
    · exact lad_zA h e (dub_z h hz) e
theorem cnt_cases {m : Nat} (h2 : 2 ≤ m) (h9 : m < 2 ^ 900) : (m = 2 ∧ eff m = 2) ∨ (∃ J, J ≤ 900 ∧ 2 ^ (J + 1) < m ∧ m < 2 ^ (J + 2) ∧ eff m = m) ∨ (∃ J, J ≤ 898 ∧ m = 2 ^ (J + 2) ∧ eff m = 2 ^ (J + 1)) := by
  rcases Nat.lt_or_ge 2 m with c | c
  · obtain ⟨J, h0, h1, h2'⟩ := log_pair (by omega) h9
    rcases Nat.lt_or_ge (2 ^ (J + 1)) m with g | g
    · refine .inr (.inl ⟨J, by omega, g, h2', ?_⟩)
      unfold eff
      rw [if_neg]
      rintro ⟨_, e⟩
      have a1 : J + 1 ≤ m.log2 := (Nat.le_log2 (by omega)).mpr h1
      have a2 : m.log2 < J + 2 := (Nat.log2_lt (by omega)).mpr h2'
      rw [show m.log2 = J + 1 by omega] at e
      omega
    · have e : m = 2 ^ (J + 1) := by omega
      have hJ : 1 ≤ J := by
        rcases Nat.eq_zero_or_pos J with z | z
        · rw [z] at e; simp at e; omega
        · exact z
      obtain ⟨K, rfl⟩ : ∃ K, J = K + 1 := ⟨J - 1, by omega⟩
      refine .inr (.inr ⟨K, by omega, e, ?_⟩)
      have l : m.log2 = K + 1 + 1 := by rw [e, Nat.log2_two_pow]
      have p4 : 4 ≤ m := by
        have := Nat.two_pow_pos K
        rw [e, Nat.pow_succ, Nat.pow_succ]; omega
      unfold eff
      rw [if_pos ⟨p4, by rw [l]; exact e⟩, e, Nat.pow_succ, Nat.mul_div_cancel _ (by decide)]
  · have e : m = 2 := by omega
    subst e
    exact .inl ⟨rfl, rfl⟩
theorem it_tt {p : Nat} {a a2 a4 st : Int} {pt : PI} {TT : Nat → Int × Int → Prop} {HH : Nat → PI → Prop} (hk : Pk p a a2 a4 st pt TT HH) {n : Int} (hn : (p : Int) ∣ n) {A : Int × Int} (hA : (p : Int) ∣ A.1 - (a + 2) * A.2) (hA2 : ¬ (p : Int) ∣ A.2) : ∀ (i j : Nat) (t : Int × Int), TT j t → TT (2 ^ i * j) (itD A n i t)
  | 0, j, t, h => by rw [Nat.pow_zero, Nat.one_mul]; exact h
  | i + 1, j, t, h => by
    rw [itD, Nat.pow_succ, Nat.mul_assoc]
    exact it_tt hk hn hA hA2 i (2 * j) _ (hk.dub h hn hA hA2)
/-- ecmul at any count from two on -/
theorem mul_all {f2 : List D → Option D} (s2 : ∀ (m : Int) (P A : Int × Int) (n : Int), n ≠ 0 → Bd 2000 n → Bd2 2000 P → Bd2 2000 A → (m = 0 → f2 [.int m, prD P, prD A, .int n] = some (prD (0, 0))) ∧ (m < 0 ∨ m = 1 → f2 [.int m, prD P, prD A, .int n] = some (prD P)) ∧ (m = 2 → f2 [.int m, prD P, prD A, .int n] = some (prD (dubI P A n))) ∧ (∀ J : Nat, J ≤ 900 → (2 : Int) ^ (J + 1) < m → m ≤ 2 ^ (J + 2) → f2 [.int m, prD P, prD A, .int n] = some (prD (ladI P A n m.toNat (J + 1) (dubI P A n) P))))
    {m : Nat} (h2 : 2 ≤ m) (h9 : m < 2 ^ 900) {t A : Int × Int} {n : Int} (n0 : 0 < n) (bn : Bd 2000 n) (bt : Bd2 2000 t) (bA : Bd2 2000 A) :
    f2 [.int (m : Int), prD t, prD A, .int n] = some (prD (mulF m t A n)) := by
  have s := s2 (m : Int) t A n (by omega) bn bt bA
  have fin : ∀ J, J ≤ 900 → 2 ^ (J + 1) < m → m ≤ 2 ^ (J + 2) → f2 [.int (m : Int), prD t, prD A, .int n] = some (prD (mulF m t A n)) := by
    intro J hJ l1 l2
    have c1 : (2 : Int) ^ (J + 1) = ((2 ^ (J + 1) : Nat) : Int) := by simp
    have c2 : (2 : Int) ^ (J + 2) = ((2 ^ (J + 2) : Nat) : Int) := by simp
    have s' := s.2.2.2 J hJ (by rw [c1]; exact Int.ofNat_lt.mpr l1) (by rw [c2]; exact Int.ofNat_le.mpr l2)
    rw [Int.toNat_natCast] at s'
    rw [mulF_eq l1 l2]; exact s'
  rcases cnt_cases h2 h9 with ⟨e, _⟩ | ⟨J, hJ, l1, l2, _⟩ | ⟨J, hJ, e, _⟩
  · subst e
    exact s.2.2.1 rfl
  · exact fin J hJ l1 (Nat.le_of_lt l2)
  · have p1 := Nat.two_pow_pos (J + 1)
    exact fin J (by omega) (by rw [e]; exact Nat.pow_lt_pow_right (by decide) (by omega)) (Nat.le_of_eq e)
theorem mulF_rng {m : Nat} (h2 : 2 ≤ m) {t A : Int × Int} {n : Int} (n0 : 0 < n) : Rng n (mulF m t A n) := by
  unfold mulF
  split
  · exact dubI_rng n0
  · have : 1 ≤ (m - 1).log2 := (Nat.le_log2 (by omega)).mpr (by omega)
    obtain ⟨u, hu⟩ : ∃ u, (m - 1).log2 = u + 1 := ⟨(m - 1).log2 - 1, by omega⟩
    rw [hu]; exact lad_rng1 n0
theorem mulF_tt {m : Nat} (h2 : 2 ≤ m) (h9 : m < 2 ^ 900) {t A : Int × Int} {n : Int} {p : Nat} {a a2 a4 st : Int} {pt : PI} {TT : Nat → Int × Int → Prop} {HH : Nat → PI → Prop} {j : Nat} (pk : Pk p a a2 a4 st pt TT HH) (hn : (p : Int) ∣ n) (hA : (p : Int) ∣ A.1 - (a + 2) * A.2) (hA2 : ¬ (p : Int) ∣ A.2) (ht : TT j t) (h1 : ¬ (p : Int) ∣ t.1) (h3 : ¬ (p : Int) ∣ t.2) : TT (eff m * j) (mulF m t A n) := by
  rcases cnt_cases h2 h9 with ⟨e, e'⟩ | ⟨J, hJ, l1, l2, e'⟩ | ⟨J, hJ, e, e'⟩
  · rw [e', e]; exact pk.dub ht hn hA hA2
  · rw [e', mulF_eq l1 (Nat.le_of_lt l2)]
    exact lad_all pk hn hA hA2 ht h1 h3 l1 l2
  · have p1 := Nat.two_pow_pos (J + 1)
    rw [e', mulF_eq (J := J) (by rw [e]; exact Nat.pow_lt_pow_right (by decide) (by omega)) (Nat.le_of_eq e), e, lad_pow (by omega)]
    exact it_tt pk hn hA hA2 (J + 1) j t ht
/-! runs of counts -/
noncomputable def runQ (A : Int × Int) (n : Int) : List Nat → Int × Int → Int × Int
  | [], Q => Q
  | m :: l, Q => runQ A n l (mulF m Q A n)
noncomputable def anyZ (A : Int × Int) (n : Int) (q : Nat) : List Nat → Int × Int → Bool
  | [], _ => false
  | m :: l, Q => decide ((q : Int) ∣ (mulF m Q A n).2) || anyZ A n q l (mulF m Q A n)
noncomputable def gacc (A : Int × Int) (n : Int) : List Nat → Int × Int → Int → Int
  | [], _, g => g
  | m :: l, Q, g => gacc A n l (mulF m Q A n) ((g * (mulF m Q A n).2).fmod n)
theorem gacc_z {A : Int × Int} {n : Int} {q : Nat} (hq : Prm q) (hn : (q : Int) ∣ n) : ∀ {l : List Nat} {Q : Int × Int} {g : Int}, (q : Int) ∣ gacc A n l Q g ↔ ((q : Int) ∣ g ∨ anyZ A n q l Q = true)
  | [], Q, g => by simp [gacc, anyZ]
  | m :: l, Q, g => by
    rw [gacc, gacc_z hq hn, dvd_fmod' hn, anyZ, Bool.or_eq_true, decide_eq_true_eq]
    constructor
    · rintro (h | h)
      · exact (prm_dvd_int hq h).elim .inl fun e => .inr (.inl e)
      · exact .inr (.inr h)
    · rintro (h | h | h)
      · exact .inl (Int.dvd_mul_of_dvd_left h)
      · exact .inl (Int.dvd_mul_of_dvd_right h)
      · exact .inr h
theorem dvd_prodN {q : Nat} : ∀ {l : List Nat}, q ∈ l → q ∣ prodN l
  | p :: r, h => by
    rw [prodN]
    rcases List.mem_cons.mp h with e | e
    · rw [e]; exact Nat.dvd_mul_right ..
    · exact Nat.dvd_trans (dvd_prodN e) (Nat.dvd_mul_left ..)
theorem prm_dvd_prodN {p : Nat} (hp : Prm p) : ∀ {l : List Nat}, (∀ q ∈ l, Prm q) → p ∣ prodN l → p ∈ l
  | [], _, h => by
    rw [prodN] at h
    have := Nat.le_of_dvd (by decide) h
    have := hp.1
    omega
  | q :: r, hl, h => by
    rw [prodN] at h
    rcases hp.dvd h with e | e
    · rcases (hl q (.head _)).2 p e with e1 | e1
      · have := hp.1; omega
      · rw [e1]; exact .head _
    · exact .tail _ (prm_dvd_prodN hp (fun x hx => hl x (.tail _ hx)) e)
theorem copL_of : ∀ {l : List Nat}, l.Nodup → (∀ q ∈ l, Prm q) → copL l = true
  | [], _, _ => rfl
  | p :: r, hn, hl => by
    obtain ⟨h1, h2⟩ := List.nodup_cons.mp hn
    rw [copL, Bool.and_eq_true, decide_eq_true_eq]
    refine ⟨(hl p (.head _)).cop fun h => h1 (prm_dvd_prodN (hl p (.head _)) (fun x hx => hl x (.tail _ hx)) h), copL_of h2 fun x hx => hl x (.tail _ hx)⟩
theorem gcd_list {l : List Nat} (hn : l.Nodup) (hl : ∀ q ∈ l, Prm q) (z : Int) : ((Int.gcd z (prodN l : Int) : Nat) : Int) = ((prodN (l.filter fun q => decide ((q : Int) ∣ z)) : Nat) : Int) := by
  rw [Int.gcd_comm]
  congr 1
  rw [Int.gcd, Int.natAbs_natCast, gcd_prod (copL_of hn hl) fun p hp => (hl p hp).2]
  congr 1
  refine List.filter_congr fun q hq => ?_
  congr 1
  apply propext
  rw [← Nat.dvd_iff_mod_eq_zero]
  have := @Int.natAbs_dvd_natAbs (q : Int) z
  rwa [Int.natAbs_natCast] at this
/-- the state of a prime while the counts are taken -/
noncomputable def Sst (p : Nat) (TT : Nat → Int × Int → Prop) (HH : Nat → PI → Prop) (Q : Int × Int) (here : PI) (lost : Bool) : Prop :=
  (lost = true ∧ (p : Int) ∣ Q.2 ∧ (here = none ∨ ∃ Y, here = some (0, Y)) ∧ ∃ i, HH i here) ∨ (lost = false ∧ ∃ i, TT i Q ∧ HH i here)
theorem Sst.z {p : Nat} {a a2 a4 st : Int} {pt : PI} {TT : Nat → Int × Int → Prop} {HH : Nat → PI → Prop} (pk : Pk p a a2 a4 st pt TT HH) {Q : Int × Int} {here : PI} {lost : Bool} (h : Sst p TT HH Q here lost) : (lost = true ∨ here = none) ↔ (p : Int) ∣ Q.2 := by
  rcases h with ⟨h1, h2, _⟩ | ⟨h1, i, h2, h3⟩
  · exact ⟨fun _ => h2, fun _ => .inl h1⟩
  · have s := pk.same h2 h3
    cases here with
    | none => exact ⟨fun _ => fmod_zero.mp s.1, fun _ => .inr rfl⟩
    | some P => exact ⟨fun h => by rcases h with h | h <;> simp [h1] at h, fun h => absurd (fmod_zero.mpr h) s.1⟩
end Mine
end
section
open PySem PySem.W PyProof.Rows PySem.Spec
set_option linter.unusedVariables false
set_option Elab.async false
set_option maxRecDepth 100000
namespace Mine
noncomputable def ilN : Nat → Nat → Nat → Nat
  | 0, _, _ => 0
  | f + 1, x, b => if b ≤ x then ilN f (x / b) b + 1 else 0
theorem ilN_key : (List.range 23).all (fun b => (List.range 23).all fun p => decide (2 ≤ p → 1 ≤ b → p ^ (ilN b b p) ≤ b ∧ b < p ^ (ilN b b p + 1) ∧ ilN b b p ≤ 4)) = true := by decide +kernel
theorem ilN_ok {b p : Nat} (hb : b ≤ 22) (hp : 2 ≤ p) (hp2 : p ≤ 22) (h1 : 1 ≤ b) : p ^ (ilN b b p) ≤ b ∧ b < p ^ (ilN b b p + 1) ∧ ilN b b p ≤ 4 := by
  have := ilN_key
  rw [List.all_eq_true] at this
  have := this b (List.mem_range.mpr (by omega))
  rw [List.all_eq_true] at this
  exact of_decide_eq_true (this p (List.mem_range.mpr (by omega))) hp h1
theorem il_uniq {b p j : Nat} (hb : b ≤ 22) (hp : 2 ≤ p) (hp2 : p ≤ 22) (h1 : 1 ≤ b) (h2 : p ^ j ≤ b) (h3 : b < p ^ (j + 1)) : j = ilN b b p := by
  obtain ⟨g1, g2, _⟩ := ilN_ok hb hp hp2 h1
  generalize ilN b b p = i at *
  rcases Nat.lt_trichotomy i j with h | h | h
  · have := Nat.pow_le_pow_right (n := p) (by omega) (show i + 1 ≤ j by omega)
    omega
  · exact h.symm
  · have := Nat.pow_le_pow_right (n := p) (by omega) (show j + 1 ≤ i by omega)
    omega
noncomputable def fstL (b : Nat) : List Nat := (pgR (b - 1)).map fun p => p ^ ilN b b p
noncomputable def sndL (b c : Nat) : List Nat := (pgR (c - 1)).filter fun p => decide (b < p)
theorem fst_key : (List.range 23).all (fun b => (fstL b).all fun m => decide (2 ≤ m ∧ m ≤ 22)) = true := by decide +kernel
theorem fst_ok {b m : Nat} (hb : b ≤ 22) (h : m ∈ fstL b) : 2 ≤ m ∧ m ≤ 22 := by
  have := fst_key
  rw [List.all_eq_true] at this
  have := this b (List.mem_range.mpr (by omega))
  rw [List.all_eq_true] at this
  exact of_decide_eq_true (this m h)
theorem snd_ok {b c m : Nat} (h : m ∈ sndL b c) : 2 ≤ m ∧ m ≤ c := by
  have := pgR_mem (List.mem_filter.mp h).1
  omega
theorem eff_key : (List.range 41).all (fun c => (pgR (c - 1)).all fun p => decide (eff p = p)) = true := by decide +kernel
theorem eff_snd {b c : Nat} (hc : c ≤ 40) : (sndL b c).map eff = sndL b c := by
  have h := eff_key
  rw [List.all_eq_true] at h
  have h := h c (List.mem_range.mpr (by omega))
  rw [List.all_eq_true] at h
  have : ∀ l : List Nat, (∀ x ∈ l, eff x = x) → l.map eff = l := by
    intro l
    induction l with
    | nil => intro _; rfl
    | cons x r ih => intro g; rw [List.map_cons, g x (.head _), ih fun y hy => g y (.tail _ hy)]
  exact this _ fun x hx => of_decide_eq_true (h x (List.mem_filter.mp hx).1)
theorem effp_key : (List.range 23).all (fun b => (pgR 21).all fun p => decide (p ≤ b → eff (p ^ ilN b b p) = if p = 2 ∧ 2 < p ^ ilN b b p then p ^ ilN b b p / 2 else p ^ ilN b b p)) = true := by decide +kernel
theorem effp_ok {b p : Nat} (hb : b ≤ 22) (hp : p ∈ pgR 21) (h : p ≤ b) : eff (p ^ ilN b b p) = if p = 2 ∧ 2 < p ^ ilN b b p then p ^ ilN b b p / 2 else p ^ ilN b b p := by
  have := effp_key
  rw [List.all_eq_true] at this
  have := this b (List.mem_range.mpr (by omega))
  rw [List.all_eq_true] at this
  exact of_decide_eq_true (this p hp) h
noncomputable def cand (p : Int) : List Int := ([2, 3, 5] : List Int).filter fun t => decide (t < p) && decide (p.fmod t = 0)
theorem cand_key : (List.range 39).all (fun T => decide (pgR (T + 1) = if (cand ((T : Int) + 2)).isEmpty = true then pgR T ++ [T + 2] else pgR T)) = true := by decide +kernel
theorem cand_ok {T : Nat} (h : T < 39) : pgR (T + 1) = if (cand ((T : Int) + 2)).isEmpty = true then pgR T ++ [T + 2] else pgR T := by
  have := cand_key
  rw [List.all_eq_true] at this
  exact of_decide_eq_true (this T (List.mem_range.mpr h))
noncomputable def fstT (b T : Nat) : List Nat := ((pgR T).filter fun p => decide (p ≤ b)).map fun p => eff (p ^ ilN b b p)
noncomputable def sndT (b T : Nat) : List Nat := (pgR T).filter fun p => decide (b < p)
theorem filter_le {b : Nat} : ∀ k : Nat, (pgR (b - 1 + k)).filter (fun p => decide (p ≤ b)) = pgR (b - 1)
  | 0 => by
    rw [Nat.add_zero]
    rw [List.filter_eq_self]
    intro x hx
    have := pgR_mem hx
    simp; omega
  | k + 1 => by
    have ih := filter_le (b := b) k
    show (pgS (pgR (b - 1 + k)) (b - 1 + k + 2)).filter _ = _
    unfold pgS
    split
    · rw [List.filter_append, ih, List.filter_cons, if_neg (by simp; omega)]; simp
    · exact ih
theorem fstT_end {b T : Nat} (h : b - 1 ≤ T) : fstT b T = (fstL b).map eff := by
  obtain ⟨k, rfl⟩ : ∃ k, T = b - 1 + k := ⟨T - (b - 1), by omega⟩
  unfold fstT fstL
  rw [filter_le, List.map_map]; rfl
theorem sndT_end {b c : Nat} : sndT b (max b c - 1) = sndL b c := by
  unfold sndT sndL
  rcases Nat.le_total b c with h | h
  · rw [Nat.max_eq_right h]
  · rw [Nat.max_eq_left h]
    have e1 : (pgR (b - 1)).filter (fun p => decide (b < p)) = [] := by
      rw [List.filter_eq_nil_iff]
      intro x hx
      have := pgR_mem hx
      simp; omega
    have e2 : (pgR (c - 1)).filter (fun p => decide (b < p)) = [] := by
      rw [List.filter_eq_nil_iff]
      intro x hx
      have := pgR_mem hx
      simp; omega
    rw [e1, e2]
theorem fEq_cand (p : Int) : fEq (.lst (intsD (cand p))) (.lst []) = some (.bool (cand p).isEmpty) := by
  unfold cand
  rw [List.filter_cons, List.filter_cons, List.filter_cons, List.filter_nil]
  split <;> split <;> split <;> rfl
/-! secm's numbers -/
noncomputable def uI (n s : Int) : Int := (s ^ (2 : Int).toNat - 5).fmod n
noncomputable def vI (n s : Int) : Int := (4 * s).fmod n
noncomputable def cI (n s : Int) : Int × Int := ((uI n s ^ (3 : Int).toNat).fmod n, (vI n s ^ (3 : Int).toNat).fmod n)
noncomputable def q0I (n s : Int) : Int × Int := ((((vI n s - uI n s) ^ (3 : Int).toNat).fmod n * (3 * uI n s + vI n s)).fmod n, (4 * (uI n s ^ (3 : Int).toNat).fmod n * vI n s).fmod n)
noncomputable def secI (n s : Int) (b c : Nat) : Int :=
  let Q1 := runQ (cI n s) n (fstL b) (q0I n s)
  let g : Int := (Int.gcd Q1.2 n : Nat)
  if 1 < g ∧ g < n then g else (Int.gcd (gacc (cI n s) n (sndL b c) Q1 g) n : Nat)
noncomputable def primes06 : List Int := [11, 19, 23, 29, 31, 13, 37, 17, 41, 43, 47, 53, 59, 61, 67, 71, 101, 127, 257, 10007]
theorem prm_sm {p : Nat} (h : p ∈ [37, 41, 43, 47, 53, 59, 61, 67, 71, 127]) : Prm p := by
  simp only [List.mem_cons, List.not_mem_nil, or_false] at h
  rcases h with h | h | h | h | h | h | h | h | h | h <;> subst h <;> exact prm_of (k := 4) (by decide) (by decide) (by decide +kernel)
theorem pick06 : ∀ {i : Nat}, i < 20 → ∃ p : Nat, primes06[i]? = some (p : Int) ∧ Prm p ∧ 5 ≤ p ∧ p < 2 ^ 14
  | 0, _ => ⟨11, rfl, prm11, by decide, by decide⟩
  | 1, _ => ⟨19, rfl, prm19, by decide, by decide⟩
  | 2, _ => ⟨23, rfl, prm23, by decide, by decide⟩
  | 3, _ => ⟨29, rfl, prm29, by decide, by decide⟩
  | 4, _ => ⟨31, rfl, prm31a, by decide, by decide⟩
  | 5, _ => ⟨13, rfl, prm13, by decide, by decide⟩
  | 6, _ => ⟨37, rfl, prm_sm (by decide), by decide, by decide⟩
  | 7, _ => ⟨17, rfl, prm17, by decide, by decide⟩
  | 8, _ => ⟨41, rfl, prm_sm (by decide), by decide, by decide⟩
  | 9, _ => ⟨43, rfl, prm_sm (by decide), by decide, by decide⟩
  | 10, _ => ⟨47, rfl, prm_sm (by decide), by decide, by decide⟩
  | 11, _ => ⟨53, rfl, prm_sm (by decide), by decide, by decide⟩
  | 12, _ => ⟨59, rfl, prm_sm (by decide), by decide, by decide⟩
  | 13, _ => ⟨61, rfl, prm_sm (by decide), by decide, by decide⟩
  | 14, _ => ⟨67, rfl, prm_sm (by decide), by decide, by decide⟩
  | 15, _ => ⟨71, rfl, prm_sm (by decide), by decide, by decide⟩
  | 16, _ => ⟨101, rfl, prm101, by decide, by decide⟩
  | 17, _ => ⟨127, rfl, prm_sm (by decide), by decide, by decide⟩
  | 18, _ => ⟨257, rfl, prm257, by decide, by decide⟩
  | 19, _ => ⟨10007, rfl, prm10007, by decide, by decide⟩
  | n + 20, h => absurd h (by omega)
end Mine
end
section
open PySem PySem.W PyProof.Rows PySem.Spec
open Lean.Grind
set_option linter.unusedVariables false
set_option Elab.async false
set_option maxRecDepth 100000
namespace Mine
noncomputable def aI (q s : Int) : Int := (((s * s - 5).fmod q) ^ (3 : Int).toNat * ((((4 * s).fmod q) ^ (3 : Int).toNat) ^ (q - 2).toNat).fmod q - 2).fmod q
noncomputable def xI (q s : Int) : Int := (((4 * s).fmod q - (s * s - 5).fmod q) ^ (3 : Int).toNat * (3 * (s * s - 5).fmod q + (4 * s).fmod q) * ((4 * ((s * s - 5).fmod q) ^ (3 : Int).toNat * (4 * s).fmod q) ^ (q - 2).toNat).fmod q).fmod q
noncomputable def good06 (q s : Int) : Prop := ¬ q ∣ (4 * s - (s * s - 5)) * (3 * (s * s - 5) + 4 * s) * (s * s - 5) * (4 * s) * ((s * s - 5) ^ (3 : Int).toNat - 4 * (4 * s) ^ (3 : Int).toNat)
theorem three_nat : (3 : Int).toNat = 3 := rfl
theorem start06 {q : Nat} (hp : Prm q) (h2 : q ≠ 2) {n s : Int} (hn : (q : Int) ∣ n) (hg : good06 q s) :
    ¬ (q : Int) ∣ aI q s - 2 ∧ ¬ (q : Int) ∣ aI q s + 2 ∧ (q : Int) ∣ (cI n s).1 - (aI q s + 2) * (cI n s).2 ∧ ¬ (q : Int) ∣ (cI n s).2 ∧ ¬ (q : Int) ∣ (q0I n s).2 ∧ (q : Int) ∣ (q0I n s).1 - xI q s * (q0I n s).2 := by
  have h1 := hp.1
  haveI : NeZero q := ⟨by omega⟩
  have FL := fieldFin hp h2
  have pp : (q : Int) ∣ (q : Int) := ⟨1, by omega⟩
  have ex : ((q : Int) - 2).toNat = q - 2 := by omega
  have two := FL.two
  have four : (4 : Fin q) ≠ 0 := by
    rw [show (4 : Fin q) = 2 * 2 by clear hg; grind]
    exact FL.mul two two
  unfold good06 at hg
  rw [← zc_eq_zero (K := Fin q)] at hg
  simp only [← zc_eq_zero (K := Fin q)]
  unfold aI xI cI q0I uI vI
  simp only [zc_mul, zc_sub, zc_add, zc_pow, zc_two, zc_three, zc_four, zc_fmod pp, zc_fmod hn, three_nat, two_nat, ex] at hg ⊢
  have sq : (zc s : Fin q) ^ 2 = zc s * zc s := by clear hg; grind
  rw [sq]
  obtain ⟨u, hu⟩ : ∃ u : Fin q, zc s * zc s - zc 5 = u := ⟨_, rfl⟩
  obtain ⟨v, hv⟩ : ∃ v : Fin q, 4 * zc s = v := ⟨_, rfl⟩
  rw [hu, hv] at hg ⊢
  have nu : u ≠ 0 := fun e => hg (by rw [e]; clear hg hu hv; grind)
  have nv : v ≠ 0 := fun e => hg (by rw [e]; clear hg hu hv; grind)
  have nd : u ^ 3 - 4 * v ^ 3 ≠ 0 := fun e => hg (by rw [e]; clear hg hu hv; grind)
  have u3 : u ^ 3 ≠ 0 := by
    rw [show u ^ 3 = u * u * u by clear hg hu hv; grind]
    exact FL.mul (FL.mul nu nu) nu
  have v3 : v ^ 3 ≠ 0 := by
    rw [show v ^ 3 = v * v * v by clear hg hu hv; grind]
    exact FL.mul (FL.mul nv nv) nv
  have z0 : 4 * u ^ 3 * v ≠ 0 := FL.mul (FL.mul four u3) nv
  have i1 := FL.inv _ v3
  have i2 := FL.inv _ z0
  generalize (v ^ 3) ^ (q - 2) = w at *
  generalize (4 * u ^ 3 * v) ^ (q - 2) = y at *
  clear hg hu hv ex sq
  refine ⟨?_, ?_, ?_, v3, z0, ?_⟩
  · intro e
    apply nd
    have : v ^ 3 * (u ^ 3 * w - 2 - 2) = 0 := by rw [e]; clear e i1 i2 nd u3 v3 z0 nu nv; grind
    clear e nd u3 v3 z0 nu nv i2
    grind
  · intro e
    have : u ^ 3 * (v ^ 3 * w) = 0 := by clear i1 i2 nd u3 v3 z0 nu nv; grind
    rw [i1] at this
    apply u3
    clear e i1 i2 nd u3 v3 z0 nu nv; grind
  · clear i2 nd u3 v3 z0 nu nv; grind
  · clear i1 nd u3 v3 z0 nu nv; grind
theorem Sst.step1 {p : Nat} {a a2 a4 st : Int} {pt : PI} {TT : Nat → Int × Int → Prop} {HH : Nat → PI → Prop} (pk : Pk p a a2 a4 st pt TT HH) (T3 : ∀ (i : Nat) (t : Int × Int), TT i t → ((p : Int) ∣ t.2 → ¬ (p : Int) ∣ t.1) ∧ ((p : Int) ∣ t.2 ↔ HH i none) ∧ ∀ X Y, HH i (some (X, Y)) → (X = 0 ↔ (p : Int) ∣ t.1))
    {Q A : Int × Int} {here : PI} {lost : Bool} {n : Int} (hn : (p : Int) ∣ n) (h : Sst p TT HH Q here lost) (hh : here = none ∨ ∃ Y, here = some (0, Y)) {m : Nat} (hm : 2 ≤ m) : Sst p TT HH (mulF m Q A n) here true := by
  have hz := Sst.z pk h
  have hi : ∃ i, HH i here := by
    rcases h with ⟨_, _, _, h⟩ | ⟨_, i, _, h⟩
    · exact h
    · exact ⟨i, h⟩
  refine .inl ⟨rfl, mulF_z hn hm ?_, hh, hi⟩
  rcases hh with e | ⟨Y, e⟩
  · exact .inr (hz.mp (.inr e))
  · rcases h with ⟨_, h, _⟩ | ⟨_, i, h1, h2⟩
    · exact .inr h
    · rw [e] at h2
      exact .inl (((T3 i Q h1).2.2 0 Y h2).mp rfl)
theorem Sst.step2 {p : Nat} {a a2 a4 st : Int} {pt : PI} {TT : Nat → Int × Int → Prop} {HH : Nat → PI → Prop} (pk : Pk p a a2 a4 st pt TT HH) (T3 : ∀ (i : Nat) (t : Int × Int), TT i t → ((p : Int) ∣ t.2 → ¬ (p : Int) ∣ t.1) ∧ ((p : Int) ∣ t.2 ↔ HH i none) ∧ ∀ X Y, HH i (some (X, Y)) → (X = 0 ↔ (p : Int) ∣ t.1))
    {Q A : Int × Int} {X Y : Int} {lost : Bool} {n : Int} (hn : (p : Int) ∣ n) (hA : (p : Int) ∣ A.1 - (a + 2) * A.2) (hA2 : ¬ (p : Int) ∣ A.2) (h : Sst p TT HH Q (some (X, Y)) lost) (hx : X ≠ 0) {m : Nat} (hm : 2 ≤ m) (hm2 : m < 2 ^ 900) :
    lost = false ∧ ∃ i, HH i (some (X, Y)) ∧ TT (eff m * i) (mulF m Q A n) := by
  rcases h with ⟨_, _, h, _⟩ | ⟨h1, i, h2, h3⟩
  · rcases h with e | ⟨Y', e⟩
    · cases e
    · cases e; exact absurd rfl hx
  · refine ⟨h1, i, h3, mulF_tt hm hm2 pk hn hA hA2 h2 (fun e => hx (((T3 i Q h2).2.2 X Y h3).mpr e)) fun e => ?_⟩
    exact (pk.same h2 h3).1 (fmod_zero.mpr e)
theorem eff_le (m : Nat) : eff m ≤ m := by
  unfold eff
  split
  · exact Nat.div_le_self ..
  · exact Nat.le_refl _
theorem IfK.orE {b : Bool} {p : Prop} {K : D → Prop} {E : Ev} {r : R} (v : D) (h1 : b = true → K v → p) (h2 : b = false → EW E r (fun z => z = v)) (k : K v) : IfK b p (EW E r K) := by
  cases b with
  | true => exact h1 rfl k
  | false =>
    obtain ⟨z, e, q⟩ := h2 rfl
    exact ⟨z, e, by rw [q]; exact k⟩
end Mine
namespace Mine
theorem tT_t {b T : Nat} (h : pgR (T + 1) = pgR T ++ [T + 2]) (hb : T + 2 ≤ b) : fstT b (T + 1) = fstT b T ++ [eff ((T + 2) ^ ilN b b (T + 2))] ∧ sndT b (T + 1) = sndT b T := by
  unfold fstT sndT
  rw [h, List.filter_append, List.filter_append, List.map_append]
  refine ⟨by simp [hb], by simp; omega⟩
theorem tT_s {b T : Nat} (h : pgR (T + 1) = pgR T ++ [T + 2]) (hb : ¬ T + 2 ≤ b) : fstT b (T + 1) = fstT b T ∧ sndT b (T + 1) = sndT b T ++ [T + 2] := by
  unfold fstT sndT
  rw [h, List.filter_append, List.filter_append]
  refine ⟨by simp [hb], by simp; omega⟩
theorem tT_n {b T : Nat} (h : pgR (T + 1) = pgR T) : fstT b (T + 1) = fstT b T ∧ sndT b (T + 1) = sndT b T := by
  unfold fstT sndT
  rw [h]; exact ⟨rfl, rfl⟩
theorem natI_app (l : List Nat) (x : Nat) : intsD (natI l) ++ [.int (x : Int)] = intsD (natI (l ++ [x])) := by simp [intsD, natI]
end Mine
namespace Mine
theorem prodN_app (q : Nat) : ∀ l : List Nat, prodN (l ++ [q]) = prodN l * q
  | [] => by simp [prodN]
  | p :: r => by rw [List.cons_append, prodN, prodN_app q r, prodN, Nat.mul_assoc]
theorem prodN_lt : ∀ {l : List Nat}, (∀ q ∈ l, q < 2 ^ 14) → prodN l < 2 ^ (14 * l.length + 1)
  | [], _ => by decide
  | p :: r, h => by
    have ih := prodN_lt (l := r) fun q hq => h q (.tail _ hq)
    have := Nat.mul_lt_mul'' (h p (.head _)) ih
    rw [prodN, List.length_cons, show 14 * (r.length + 1) + 1 = 14 + (14 * r.length + 1) by omega, Nat.pow_add]
    exact this
theorem prodN_pos : ∀ {l : List Nat}, (∀ q ∈ l, 5 ≤ q) → 0 < prodN l
  | [], _ => by decide
  | p :: r, h => by
    rw [prodN]
    exact Nat.mul_pos (by have := h p (.head _); omega) (prodN_pos fun q hq => h q (.tail _ hq))
theorem prodN_43 {l : List Nat} (h : ∀ q ∈ l, q < 2 ^ 14) (hl : l.length ≤ 3) : prodN l < 2 ^ 43 :=
  Nat.lt_of_lt_of_le (prodN_lt h) (Nat.pow_le_pow_right (by decide) (by omega))
theorem dvd_gcd' {q a b : Int} (h : q ∣ b) : q ∣ ((Int.gcd a b : Nat) : Int) ↔ q ∣ a := by
  constructor
  · intro g; exact Int.dvd_trans g (Int.gcd_dvd_left ..)
  · intro g; exact Int.dvd_coe_gcd g h
/-- early and late, as the law and as secm reckon them -/
theorem fin06 {l : List Nat} (hn : l.Nodup) (hl : ∀ q ∈ l, Prm q) (s : Int) (b c : Nat) :
    let n : Int := (prodN l : Nat)
    let Q1 := runQ (cI n s) n (fstL b) (q0I n s)
    let g : Int := ((prodN (l.filter fun (q : Nat) => decide ((q : Int) ∣ Q1.2)) : Nat) : Int)
    secI n s b c = if 1 < g ∧ g < n then g else ((prodN (l.filter fun (q : Nat) => decide ((q : Int) ∣ Q1.2) || anyZ (cI n s) n q (sndL b c) Q1) : Nat) : Int) := by
  intro n Q1 g
  have e1 := gcd_list hn hl Q1.2
  have e2 := gcd_list hn hl (gacc (cI n s) n (sndL b c) Q1 ((Int.gcd Q1.2 n : Nat) : Int))
  have e3 : (l.filter fun (q : Nat) => decide ((q : Int) ∣ gacc (cI n s) n (sndL b c) Q1 ((Int.gcd Q1.2 n : Nat) : Int))) = l.filter fun (q : Nat) => decide ((q : Int) ∣ Q1.2) || anyZ (cI n s) n q (sndL b c) Q1 := by
    refine List.filter_congr fun q hq => ?_
    have hqn : (q : Int) ∣ n := Int.natCast_dvd_natCast.mpr (dvd_prodN hq)
    have z := gacc_z (A := cI n s) (n := n) (hl q hq) hqn (l := sndL b c) (Q := Q1) (g := ((Int.gcd Q1.2 n : Nat) : Int))
    rw [dvd_gcd' hqn] at z
    cases h : anyZ (cI n s) n q (sndL b c) Q1
    · rw [h] at z
      rw [Bool.or_false]
      congr 1
      apply propext
      rw [z]; simp
    · rw [h] at z
      rw [Bool.or_true]
      exact decide_eq_true (z.mpr (.inr rfl))
  rw [e3] at e2
  unfold secI
  simp only
  have e1' : ((Int.gcd Q1.2 n : Nat) : Int) = g := e1
  show (if 1 < ((Int.gcd Q1.2 n : Nat) : Int) ∧ ((Int.gcd Q1.2 n : Nat) : Int) < n then ((Int.gcd Q1.2 n : Nat) : Int) else ((Int.gcd (gacc (cI n s) n (sndL b c) Q1 ((Int.gcd Q1.2 n : Nat) : Int)) n : Nat) : Int)) = _
  rw [e2, e1']
end Mine
namespace Mine
section
open PySem
variable {P : List Value → Prop}
theorem vs0 (h : P []) : ∀ vs : List Value, vs.length = 0 → P vs
  | [], _ => h
theorem vsS {n : Nat} (h : ∀ a, ∀ vs : List Value, vs.length = n → P (a :: vs)) : ∀ vs : List Value, vs.length = n + 1 → P vs
  | a :: r, e => h a r (Nat.succ.inj e)
end
section
open PySem
variable {P : List Value → Prop}
theorem vs1 (h : ∀ a, P [a]) : ∀ vs : List Value, vs.length = 1 → P vs := vsS fun a => vs0 (h a)
theorem vs2 (h : ∀ a b, P [a, b]) : ∀ vs : List Value, vs.length = 2 → P vs := vsS fun a => vsS fun b => vs0 (h a b)
theorem vs3 (h : ∀ a b c, P [a, b, c]) : ∀ vs : List Value, vs.length = 3 → P vs := vsS fun a => vsS fun b => vsS fun c => vs0 (h a b c)
theorem vs4 (h : ∀ a b c d, P [a, b, c, d]) : ∀ vs : List Value, vs.length = 4 → P vs := vsS fun a => vsS fun b => vsS fun c => vsS fun d => vs0 (h a b c d)
theorem vs5 (h : ∀ a b c d e, P [a, b, c, d, e]) : ∀ vs : List Value, vs.length = 5 → P vs := vsS fun a => vsS fun b => vsS fun c => vsS fun d => vsS fun e => vs0 (h a b c d e)
end
end Mine
namespace Mine
theorem RW.seqK {F Fs : Run} {N : Nat} {σ : St} {P : St → Fl → Prop} (h : ∀ K : St → Fl → Prop, (∀ σ fl, SK Fs N P σ fl → K σ fl) → RW F N σ K) : RW (rSeq F Fs) N σ P := RW.seq (h _ fun _ _ h => h)
theorem KK.use {K P : St → Fl → Prop} {σ : St} {fl : Fl} (hK : ∀ σ fl, P σ fl → K σ fl) (h : P σ fl) : K σ fl := hK _ _ h
end Mine
namespace Mine
theorem sub_next {n t : Nat} (h : t < n) : ∃ u, n - t = u + 1 ∧ u = n - (t + 1) := ⟨_, (Nat.succ_pred_eq_of_pos (Nat.sub_pos_of_lt h)).symm, rfl⟩
theorem tn2 {B : Int} {b : Nat} (h : B.toNat = b) : (B + 1).toNat - 2 = b - 1 := by
  subst h
  cases B with
  | ofNat n => exact Nat.succ_sub_succ n 1
  | negSucc n => cases n <;> rfl
theorem le_toN {B : Int} {b p : Nat} (h : B.toNat = b) (hp : 1 ≤ p) : (p : Int) ≤ B ↔ p ≤ b := by
  subst h
  cases B with
  | ofNat n => exact Int.ofNat_le
  | negSucc n => exact ⟨fun h => absurd (Int.le_trans (Int.natCast_nonneg p) h) (Int.not_le.mpr (Int.negSucc_lt_zero n)), fun h => absurd hp (Nat.not_le_of_lt (Nat.lt_succ_of_le h))⟩
theorem eq_toN {B : Int} {b p : Nat} (h : B.toNat = b) (hp : 1 ≤ p) (hb : p ≤ b) : B = (b : Int) := by
  subst h
  cases B with
  | ofNat n => rfl
  | negSucc n => exact absurd (Nat.le_trans hp hb) (Nat.not_succ_le_zero 0)
noncomputable def maxP (B1 B2 : Int) : Bool := decide ((if B2 > B1 then B2 else B1) ≤ 40 ∧ -1 ≤ (if B2 > B1 then B2 else B1) ∧ max B1.toNat B2.toNat - 1 = ((if B2 > B1 then B2 else B1) + 1 - 2).toNat ∧ ((if B2 > B1 then B2 else B1) + 1 - 2).toNat ≤ 39 ∧ B1.toNat ≤ 22 ∧ B1.toNat ≤ ((if B2 > B1 then B2 else B1) + 1 - 2).toNat + 1 ∧ B1.toNat - 1 ≤ ((if B2 > B1 then B2 else B1) + 1 - 2).toNat)
theorem maxKey : (List.range 24).all (fun i => (List.range 42).all fun j => maxP ((i : Int) - 1) ((j : Int) - 1)) = true := by decide +kernel
theorem pred_of {B : Int} {n : Nat} (h : -1 ≤ B) (h' : B < (n : Int) - 1) : ∃ i : Nat, i < n ∧ B = (i : Int) - 1 := by
  obtain ⟨i, hi⟩ := Int.eq_ofNat_of_zero_le (show 0 ≤ B + 1 by omega)
  exact ⟨i, by omega, by omega⟩
theorem maxM {B1 B2 : Int} (l1 : -1 ≤ B1) (l2 : B1 ≤ 22) (m1 : -1 ≤ B2) (m2 : B2 ≤ 40) : ∃ (b c : Nat) (M : Int) (U : Nat), B1.toNat = b ∧ B2.toNat = c ∧ b ≤ 22 ∧ (if B2 > B1 then B2 else B1) = M ∧ M ≤ 40 ∧ -1 ≤ M ∧ (M + 1 - 2).toNat = U ∧ U ≤ 39 ∧ b ≤ U + 1 ∧
    fstT b U = (fstL b).map eff ∧ sndT b U = sndL b c ∧ (∀ p : Nat, 1 ≤ p → ((p : Int) ≤ B1 ↔ p ≤ b)) ∧ (∀ p : Nat, 1 ≤ p → p ≤ b → B1 = (b : Int)) := by
  have key : maxP B1 B2 = true := by
    obtain ⟨i, hi, e1⟩ := pred_of (n := 24) l1 (Int.lt_of_le_of_lt l2 (by decide))
    obtain ⟨j, hj, e2⟩ := pred_of (n := 42) m1 (Int.lt_of_le_of_lt m2 (by decide))
    have := List.all_eq_true.mp (List.all_eq_true.mp maxKey i (List.mem_range.mpr hi)) j (List.mem_range.mpr hj)
    rw [← e1, ← e2] at this
    exact this
  obtain ⟨k1, k2, k3, k4, k5, k6, k7⟩ := _root_.of_decide_eq_true key
  exact ⟨_, _, _, _, rfl, rfl, k5, rfl, k1, k2, rfl, k4, k6, fstT_end k7, k3 ▸ sndT_end, fun p hp => le_toN rfl hp, fun p hp h => eq_toN rfl hp h⟩
end Mine
end
open PySem PySem.W PyProof.Rows PySem.Spec
set_option linter.unusedVariables false
set_option linter.unusedSimpArgs false
set_option Elab.async false
set_option maxRecDepth 100000
open_top Mine.hd for PySem.Challenge.rw_yt0001_06
namespace Mine
set_option maxHeartbeats 4000000

local macro_rules | `(tactic| kt_len) => `(tactic| first
  | with_reducible assumption
  | (with_reducible refine (?_ : Bd _ (_ + _)); refine Bd.add' (by kt_len) (by kt_len))
  | (with_reducible refine (?_ : Bd _ (_ - _)); refine Bd.sub' (by kt_len) (by kt_len))
  | (with_reducible refine (?_ : Bd _ (_ * _)); refine Bd.mul (by kt_len) (by kt_len))
  | (with_reducible refine (?_ : Bd _ (- _)); refine Bd.neg (by kt_len))
  | (with_reducible refine (?_ : Bd _ (Int.fmod _ _)); refine Bd.fmod' (by with_reducible assumption) (by kt_len))
  | (with_reducible refine (?_ : Bd _ (_ ^ _)); refine Bd.pow (by kt_len) _)
  | with_unfolding_all exact Bd.lit (by decide) (by decide)
  | fail "no size")


theorem ok_gcd {I : GI} (hat : HatI I hd.view_39) (N : Nat) (habs : FunOK I 0 ("abs" : Str) fAbs) : ∃ d, (recsOf hd.view_39)[0]? = some d ∧ d.name = ("gcd" : Str) ∧ ∃ G, FunOK I 1 d.name G ∧
    ∀ (a b : Int), b.natAbs + 1 < N → G [.int a, .int b] = some (.int ((Int.gcd a b : Nat) : Int)) := by
  refine' ⟨_, rfl, rfl, _, FunOK.of N (i := 0) (ns := ["a", "b"]) (m := 2) hat rfl ⟨rfl, by decide, by decide⟩ (by decide) (fun pm cd doc => vs2 fun a b => rfl) rfl rfl ?h, ?g⟩
  case h =>
    dsimp only
    repeat' ((show (_ : Prop)); first | (with_reducible first | exact OpOK.add | exact OpOK.sub | exact OpOK.mul | exact OpOK.mod | exact OpOK.pow | exact OpOK.and | exact OpOK.lt | exact OpOK.le | exact OpOK.gt | exact OpOK.ge | exact OpOK.eq | exact OpOK.ne | exact OpOK.notIn | exact IOpOK.add | exact IOpOK.sub | exact IOpOK.mul | exact IOpOK.div | exact IOpOK.mod | exact EvOK.cint | exact EvOK.cbool | refine' EvOK.v (by with_unfolding_all exact rfl) (by with_unfolding_all exact rfl) (by with_unfolding_all exact rfl) (by with_unfolding_all exact rfl) | refine' EvOK.bin ?_ ?_ ?_ | refine' EvOK.cmp ?_ ?_ ?_ (by with_unfolding_all exact rfl) | refine' EvOK.neg ?_ | refine' EvOK.bool1 ?_ | refine' EvOK.or ?_ ?_ | refine' EvOK.tup ?_ | refine' EvOK.lst ?_ | refine' EvOK.call' (by with_unfolding_all exact rfl) (by with_unfolding_all exact rfl) (by with_unfolding_all exact rfl) (by with_unfolding_all exact fun _ => rfl) (by with_unfolding_all exact rfl) (by with_unfolding_all exact fun _ => ⟨_, _, rfl⟩) (by with_unfolding_all first | assumption | exact FunOK.le (by assumption) (by decide)) ?_ | refine' EvOK.gsub (by with_unfolding_all exact rfl) (by with_unfolding_all exact rfl) (by with_unfolding_all exact rfl) (by with_unfolding_all exact fun _ _ => rfl) (by with_unfolding_all assumption) ?_ | refine' EvOK.subs ?_ ?_ (by with_unfolding_all exact fun _ _ => rfl) | refine' EvOK.comp (by with_unfolding_all exact ⟨by decide, rfl, rfl, by decide, rfl, by decide, by decide⟩) ?_ ?_ ?_ (by with_unfolding_all exact fun _ _ => rfl) | exact EvsOK.nil | refine' EvsOK.cons ?_ ?_ (by with_unfolding_all exact fun _ => rfl) | refine' TestsOK.one ?_ | refine' TrOK.cmp ?_ ?_ ?_ (by with_unfolding_all exact rfl) | refine' TrOK.chain ?_ ?_ ?_ ?_ ?_ (by with_unfolding_all exact rfl) | refine' TrOK.not ?_ | exact TrOK.and0 | exact TrOK.or0 | refine' TrOK.and ?_ ?_ | refine' TrOK.or ?_ ?_ | refine' TrOK.plain ?_ (by with_unfolding_all exact fun _ _ => rfl) | exact RunOK.nil | refine' RunOK.cons ?_ ?_ | exact RunOK.cont | refine' RunOK.ret ?_ | refine' RunOK.ifS ?_ ?_ ?_ | refine' RunOK.whileS ?_ ?_ | refine' RunOK.new' (by with_unfolding_all exact rfl) (by with_unfolding_all exact fun _ => rfl) (by with_unfolding_all exact ⟨rfl, by decide, by decide⟩) ?_ | refine' RunOK.asg' (by with_unfolding_all exact rfl) (by with_unfolding_all exact fun _ => rfl) (by with_unfolding_all exact ⟨rfl, by decide, by decide⟩) ?_ | refine' RunOK.aug' (by with_unfolding_all exact rfl) (by with_unfolding_all exact ⟨rfl, by decide, by decide⟩) ?_ ?_ | refine' RunOK.forM' (by with_unfolding_all exact rfl) (by with_unfolding_all exact rfl) (by with_unfolding_all exact rfl) (by with_unfolding_all exact fun _ _ => rfl) (by with_unfolding_all exact ⟨rfl, by decide, by decide⟩) ?_ | refine' RunOK.for' (by with_unfolding_all exact rfl) (by with_unfolding_all exact fun _ _ => rfl) (by with_unfolding_all exact ⟨rfl, by decide, by decide⟩) ?_ ?_ | refine' RunOK.app' (by with_unfolding_all exact rfl) (by with_unfolding_all exact rfl) (by with_unfolding_all exact fun _ => rfl) (by with_unfolding_all exact fun _ => rfl) (by with_unfolding_all exact fun _ => rfl) (by with_unfolding_all exact ⟨rfl, by decide, by decide⟩) ?_ | refine' RunOK.tupS' (by with_unfolding_all first | exact .cons (.cons .nil) | exact .cons (.cons (.cons .nil)) | exact .cons (.cons (.cons (.cons .nil)))) (by with_unfolding_all exact fun env h => by cases env; cases h; rfl) (by with_unfolding_all exact rfl) (by with_unfolding_all exact fun _ => rfl) (by with_unfolding_all exact ⟨rfl, by decide, by decide⟩) ?_ | refine' RunOK.tupP' (by with_unfolding_all first | exact .cons (.cons .nil) | exact .cons (.cons (.cons .nil)) | exact .cons (.cons (.cons (.cons .nil)))) (by with_unfolding_all exact fun env h => by cases env; cases h; rfl) (by with_unfolding_all exact rfl) (by with_unfolding_all exact fun _ => rfl) (by with_unfolding_all exact ⟨rfl, by decide, by decide⟩) ?_))
  case g =>
    intro a b hN
    have wa : fAbs [.int a] = some (.int (a.natAbs : Int)) := fAbs_nat a
    have wb : fAbs [.int b] = some (.int (b.natAbs : Int)) := fAbs_nat b
    refine CW.eq ?_
    repeat' ((fail_if_success (with_reducible refine (?_ : @Eq _ _ _))); first | (with_reducible first | refine' CK.ret ?_ | refine' SK.next ?_ | refine' SK.ret ?_ | refine' SK.cont ?_ | refine' LK.next ?_ | refine' LK.cont ?_ | refine' RW.nil ?_ | refine' RW.seqK (fun K hK => ?_)) | ((with_reducible refine (?_ : RW _ _ _ _)); with_reducible refine' RW.lenOk (by with_unfolding_all exact rfl) ?_) | (with_reducible first | refine' SW.of ?_ | refine' PutAt.of ?_ ?_) | with_reducible exact SetR.z | (with_reducible first | refine' SetR.s3 ?_ | refine' SetR.s ?_) | (with_reducible refine (?_ : SetR _ (0 + 1) _ _)); refine SetR.s ?_ | ((with_reducible refine (?_ : RW _ _ _ _)); with_reducible refine' RW.retF (E := eVar _) (by with_unfolding_all exact rfl) ?_) | (with_reducible first | refine' RW.asg ?_ | refine' RW.ret ?_) | (fail_if_success (have : StopIf := by with_reducible assumption)); (with_reducible refine' RW.if ?_) | (with_reducible first | refine' RW.tup ?_ | refine' RW.for ?_ | refine' RW.while ?_ | refine' RW.new ?_) | ((with_reducible refine (?_ : RW _ _ _ _)); with_reducible refine' RW.app (by with_unfolding_all exact rfl) (by first | with_reducible assumption | with_unfolding_all exact Nat.le_of_ble_eq_true rfl) ?_) | ((with_reducible refine (?_ : RW _ _ _ _)); with_reducible refine' RW.aug (by with_unfolding_all exact rfl) ?_) | (with_reducible first | refine' TupK.two_t ?_ | refine' TupK.two_f ?_ | refine' TupK.four_f ?_ | refine' IfK.t ?_ | refine' IfK.f ?_) | (with_reducible refine' IfK.gd ?_; with_reducible refine' IfK.decT (by first | with_reducible assumption | with_unfolding_all omega) ?_) | (with_reducible refine' IfK.gd ?_; with_reducible refine' IfK.decF (by first | with_reducible assumption | with_unfolding_all omega) ?_) | (with_reducible first | refine' NotK.t ?_ | refine' NotK.f ?_ | refine' TruthK.bool ?_ | refine' TruthK.int ?_) | ((with_reducible refine (?_ : EW (eVar _) _ _)); with_reducible refine' EW.var (by with_unfolding_all exact rfl) ?_) | (with_reducible first | refine' EW.cst ?_ | refine' EW.e1 ?_ | refine' EW.e2 ?_ | refine' EW.call ?_ | refine' EW.tup ?_ | refine' EW.lst ?_ | refine' EW.or ?_ | refine' EW.e3c ?_ | refine' EW.comp ?_ | refine' EsW.nil ?_ | refine' EsW.cons ?_ | refine' TW.c ?_) | ((with_reducible refine (?_ : TpK _ _)); with_reducible refine' TpK.mk (by with_unfolding_all exact Nat.le_of_ble_eq_true rfl) ?_) | ((with_reducible refine (?_ : LsK _ _)); with_reducible refine' LsK.mk (by with_unfolding_all exact Nat.le_of_ble_eq_true rfl) ?_) | (with_reducible first | refine' TW.tOf ?_ | refine' TW.not ?_ | refine' TW.and ?_ | refine' TW.or ?_) | ((with_reducible refine (?_ : CW _ _ _)); with_reducible refine' CW.of (by with_reducible assumption) ?_) | ((with_reducible refine (?_ : CW fPow3 _ _)); with_reducible refine' CW.pow3 (by with_unfolding_all first | decide | omega) (by with_reducible assumption) ?_) | ((with_reducible refine (?_ : OW _ _ _ _)); with_reducible refine' OW.of (by with_reducible assumption) ?_) | (with_reducible first | refine' OW.add ?_ | refine' OW.addI ?_ | refine' OW.sub ?_ | refine' OW.and ?_ | refine' OW.ord ?_ | refine' OW.eq ?_ | refine' OW.ne ?_) | ((with_reducible refine (?_ : OW fMul _ _ _)); with_reducible refine' OW.mul (by first | with_reducible assumption | with_unfolding_all exact mulOk_sm (by omega) (by omega) | with_unfolding_all exact mulOk_bd (by repeat' kt_len) (by repeat' kt_len) (Nat.le_of_ble_eq_true rfl)) ?_) | ((with_reducible refine (?_ : OW fDiv _ _ _)); with_reducible refine' OW.div (by with_reducible assumption) ?_) | ((with_reducible refine (?_ : OW fMod _ _ _)); with_reducible refine' OW.mod (by first | with_reducible assumption | with_unfolding_all omega) ?_) | ((with_reducible refine (?_ : OW fPow _ _ _)); with_reducible refine' OW.pow (by with_reducible assumption) ?_) | (with_reducible first | refine' UW.neg ?_) | ((with_reducible refine (?_ : UW _ _ _)); with_reducible refine' UW.of (by with_reducible assumption) ?_) | (with_reducible first | refine' CW.max ?_ | refine' CW.range2 ?_) | ((with_reducible refine (?_ : CW _ _ _)); with_reducible refine' CW.fn (by with_unfolding_all (repeat (first | exact StartsAt.nil | apply StartsAt.cons | apply StartsAt.unb))) (by with_unfolding_all exact rfl) ?_) | (with_reducible first | refine' KK.use (by with_reducible assumption) ?_))
    refine WW.inv (fun k σ => ∃ x y : Int, σ = [.imm (.int x), .imm (.int y)] ∧ 0 ≤ x ∧ 0 ≤ y ∧ y ≤ (k : Int) ∧ Int.gcd x y = Int.gcd a b) (k := b.natAbs) ⟨(a.natAbs : Int), (b.natAbs : Int), rfl, by omega, by omega, by omega, rfl⟩ ?_ ?_
    · omega
    · rintro k σ ⟨x, y, rfl, hx, hy, hk, hg⟩
      rcases Int.lt_or_eq_of_le hy with hy' | hy'
      · have y0 : y ≠ 0 := by omega
        repeat' ((fail_if_success (with_reducible refine (?_ : @Eq _ _ _))); first | (with_reducible first | refine' CK.ret ?_ | refine' SK.next ?_ | refine' SK.ret ?_ | refine' SK.cont ?_ | refine' LK.next ?_ | refine' LK.cont ?_ | refine' RW.nil ?_ | refine' RW.seqK (fun K hK => ?_)) | ((with_reducible refine (?_ : RW _ _ _ _)); with_reducible refine' RW.lenOk (by with_unfolding_all exact rfl) ?_) | (with_reducible first | refine' SW.of ?_ | refine' PutAt.of ?_ ?_) | with_reducible exact SetR.z | (with_reducible first | refine' SetR.s3 ?_ | refine' SetR.s ?_) | (with_reducible refine (?_ : SetR _ (0 + 1) _ _)); refine SetR.s ?_ | ((with_reducible refine (?_ : RW _ _ _ _)); with_reducible refine' RW.retF (E := eVar _) (by with_unfolding_all exact rfl) ?_) | (with_reducible first | refine' RW.asg ?_ | refine' RW.ret ?_) | (fail_if_success (have : StopIf := by with_reducible assumption)); (with_reducible refine' RW.if ?_) | (with_reducible first | refine' RW.tup ?_ | refine' RW.for ?_ | refine' RW.while ?_ | refine' RW.new ?_) | ((with_reducible refine (?_ : RW _ _ _ _)); with_reducible refine' RW.app (by with_unfolding_all exact rfl) (by first | with_reducible assumption | with_unfolding_all exact Nat.le_of_ble_eq_true rfl) ?_) | ((with_reducible refine (?_ : RW _ _ _ _)); with_reducible refine' RW.aug (by with_unfolding_all exact rfl) ?_) | (with_reducible first | refine' TupK.two_t ?_ | refine' TupK.two_f ?_ | refine' TupK.four_f ?_ | refine' IfK.t ?_ | refine' IfK.f ?_) | (with_reducible refine' IfK.gd ?_; with_reducible refine' IfK.decT (by first | with_reducible assumption | with_unfolding_all omega) ?_) | (with_reducible refine' IfK.gd ?_; with_reducible refine' IfK.decF (by first | with_reducible assumption | with_unfolding_all omega) ?_) | (with_reducible first | refine' NotK.t ?_ | refine' NotK.f ?_ | refine' TruthK.bool ?_ | refine' TruthK.int ?_) | ((with_reducible refine (?_ : EW (eVar _) _ _)); with_reducible refine' EW.var (by with_unfolding_all exact rfl) ?_) | (with_reducible first | refine' EW.cst ?_ | refine' EW.e1 ?_ | refine' EW.e2 ?_ | refine' EW.call ?_ | refine' EW.tup ?_ | refine' EW.lst ?_ | refine' EW.or ?_ | refine' EW.e3c ?_ | refine' EW.comp ?_ | refine' EsW.nil ?_ | refine' EsW.cons ?_ | refine' TW.c ?_) | ((with_reducible refine (?_ : TpK _ _)); with_reducible refine' TpK.mk (by with_unfolding_all exact Nat.le_of_ble_eq_true rfl) ?_) | ((with_reducible refine (?_ : LsK _ _)); with_reducible refine' LsK.mk (by with_unfolding_all exact Nat.le_of_ble_eq_true rfl) ?_) | (with_reducible first | refine' TW.tOf ?_ | refine' TW.not ?_ | refine' TW.and ?_ | refine' TW.or ?_) | ((with_reducible refine (?_ : CW _ _ _)); with_reducible refine' CW.of (by with_reducible assumption) ?_) | ((with_reducible refine (?_ : CW fPow3 _ _)); with_reducible refine' CW.pow3 (by with_unfolding_all first | decide | omega) (by with_reducible assumption) ?_) | ((with_reducible refine (?_ : OW _ _ _ _)); with_reducible refine' OW.of (by with_reducible assumption) ?_) | (with_reducible first | refine' OW.add ?_ | refine' OW.addI ?_ | refine' OW.sub ?_ | refine' OW.and ?_ | refine' OW.ord ?_ | refine' OW.eq ?_ | refine' OW.ne ?_) | ((with_reducible refine (?_ : OW fMul _ _ _)); with_reducible refine' OW.mul (by first | with_reducible assumption | with_unfolding_all exact mulOk_sm (by omega) (by omega) | with_unfolding_all exact mulOk_bd (by repeat' kt_len) (by repeat' kt_len) (Nat.le_of_ble_eq_true rfl)) ?_) | ((with_reducible refine (?_ : OW fDiv _ _ _)); with_reducible refine' OW.div (by with_reducible assumption) ?_) | ((with_reducible refine (?_ : OW fMod _ _ _)); with_reducible refine' OW.mod (by first | with_reducible assumption | with_unfolding_all omega) ?_) | ((with_reducible refine (?_ : OW fPow _ _ _)); with_reducible refine' OW.pow (by with_reducible assumption) ?_) | (with_reducible first | refine' UW.neg ?_) | ((with_reducible refine (?_ : UW _ _ _)); with_reducible refine' UW.of (by with_reducible assumption) ?_) | (with_reducible first | refine' CW.max ?_ | refine' CW.range2 ?_) | ((with_reducible refine (?_ : CW _ _ _)); with_reducible refine' CW.fn (by with_unfolding_all (repeat (first | exact StartsAt.nil | apply StartsAt.cons | apply StartsAt.unb))) (by with_unfolding_all exact rfl) ?_) | (with_reducible first | refine' KK.use (by with_reducible assumption) ?_))
        have m1 := Int.fmod_nonneg_of_pos x hy'
        have m2 := Int.fmod_lt_of_pos x hy'
        exact ⟨k - 1, by omega, _, _, rfl, hy, m1, by omega, by rw [gcd_fmod hx hy', hg]⟩
      · have y0 : ¬ (y ≠ 0) := by omega
        repeat' ((fail_if_success (with_reducible refine (?_ : @Eq _ _ _))); first | (with_reducible first | refine' CK.ret ?_ | refine' SK.next ?_ | refine' SK.ret ?_ | refine' SK.cont ?_ | refine' LK.next ?_ | refine' LK.cont ?_ | refine' RW.nil ?_ | refine' RW.seqK (fun K hK => ?_)) | ((with_reducible refine (?_ : RW _ _ _ _)); with_reducible refine' RW.lenOk (by with_unfolding_all exact rfl) ?_) | (with_reducible first | refine' SW.of ?_ | refine' PutAt.of ?_ ?_) | with_reducible exact SetR.z | (with_reducible first | refine' SetR.s3 ?_ | refine' SetR.s ?_) | (with_reducible refine (?_ : SetR _ (0 + 1) _ _)); refine SetR.s ?_ | ((with_reducible refine (?_ : RW _ _ _ _)); with_reducible refine' RW.retF (E := eVar _) (by with_unfolding_all exact rfl) ?_) | (with_reducible first | refine' RW.asg ?_ | refine' RW.ret ?_) | (fail_if_success (have : StopIf := by with_reducible assumption)); (with_reducible refine' RW.if ?_) | (with_reducible first | refine' RW.tup ?_ | refine' RW.for ?_ | refine' RW.while ?_ | refine' RW.new ?_) | ((with_reducible refine (?_ : RW _ _ _ _)); with_reducible refine' RW.app (by with_unfolding_all exact rfl) (by first | with_reducible assumption | with_unfolding_all exact Nat.le_of_ble_eq_true rfl) ?_) | ((with_reducible refine (?_ : RW _ _ _ _)); with_reducible refine' RW.aug (by with_unfolding_all exact rfl) ?_) | (with_reducible first | refine' TupK.two_t ?_ | refine' TupK.two_f ?_ | refine' TupK.four_f ?_ | refine' IfK.t ?_ | refine' IfK.f ?_) | (with_reducible refine' IfK.gd ?_; with_reducible refine' IfK.decT (by first | with_reducible assumption | with_unfolding_all omega) ?_) | (with_reducible refine' IfK.gd ?_; with_reducible refine' IfK.decF (by first | with_reducible assumption | with_unfolding_all omega) ?_) | (with_reducible first | refine' NotK.t ?_ | refine' NotK.f ?_ | refine' TruthK.bool ?_ | refine' TruthK.int ?_) | ((with_reducible refine (?_ : EW (eVar _) _ _)); with_reducible refine' EW.var (by with_unfolding_all exact rfl) ?_) | (with_reducible first | refine' EW.cst ?_ | refine' EW.e1 ?_ | refine' EW.e2 ?_ | refine' EW.call ?_ | refine' EW.tup ?_ | refine' EW.lst ?_ | refine' EW.or ?_ | refine' EW.e3c ?_ | refine' EW.comp ?_ | refine' EsW.nil ?_ | refine' EsW.cons ?_ | refine' TW.c ?_) | ((with_reducible refine (?_ : TpK _ _)); with_reducible refine' TpK.mk (by with_unfolding_all exact Nat.le_of_ble_eq_true rfl) ?_) | ((with_reducible refine (?_ : LsK _ _)); with_reducible refine' LsK.mk (by with_unfolding_all exact Nat.le_of_ble_eq_true rfl) ?_) | (with_reducible first | refine' TW.tOf ?_ | refine' TW.not ?_ | refine' TW.and ?_ | refine' TW.or ?_) | ((with_reducible refine (?_ : CW _ _ _)); with_reducible refine' CW.of (by with_reducible assumption) ?_) | ((with_reducible refine (?_ : CW fPow3 _ _)); with_reducible refine' CW.pow3 (by with_unfolding_all first | decide | omega) (by with_reducible assumption) ?_) | ((with_reducible refine (?_ : OW _ _ _ _)); with_reducible refine' OW.of (by with_reducible assumption) ?_) | (with_reducible first | refine' OW.add ?_ | refine' OW.addI ?_ | refine' OW.sub ?_ | refine' OW.and ?_ | refine' OW.ord ?_ | refine' OW.eq ?_ | refine' OW.ne ?_) | ((with_reducible refine (?_ : OW fMul _ _ _)); with_reducible refine' OW.mul (by first | with_reducible assumption | with_unfolding_all exact mulOk_sm (by omega) (by omega) | with_unfolding_all exact mulOk_bd (by repeat' kt_len) (by repeat' kt_len) (Nat.le_of_ble_eq_true rfl)) ?_) | ((with_reducible refine (?_ : OW fDiv _ _ _)); with_reducible refine' OW.div (by with_reducible assumption) ?_) | ((with_reducible refine (?_ : OW fMod _ _ _)); with_reducible refine' OW.mod (by first | with_reducible assumption | with_unfolding_all omega) ?_) | ((with_reducible refine (?_ : OW fPow _ _ _)); with_reducible refine' OW.pow (by with_reducible assumption) ?_) | (with_reducible first | refine' UW.neg ?_) | ((with_reducible refine (?_ : UW _ _ _)); with_reducible refine' UW.of (by with_reducible assumption) ?_) | (with_reducible first | refine' CW.max ?_ | refine' CW.range2 ?_) | ((with_reducible refine (?_ : CW _ _ _)); with_reducible refine' CW.fn (by with_unfolding_all (repeat (first | exact StartsAt.nil | apply StartsAt.cons | apply StartsAt.unb))) (by with_unfolding_all exact rfl) ?_) | (with_reducible first | refine' KK.use (by with_reducible assumption) ?_))
        rw [← hg, ← hy', Int.gcd_zero_right]
        congr 1; omega

theorem ok_primegen {I : GI} (hat : HatI I hd.view_39)  : ∃ d, (recsOf hd.view_39)[1]? = some d ∧ d.name = ("primegen" : Str) ∧ ∃ G, FunOK I 1 d.name G ∧
    ∀ (L : Int), L ≤ 200 → G [.int L] = some (.lst (intsD (natI (pgR (L.toNat - 2))))) := by
  refine' ⟨_, rfl, rfl, _, FunOK.of 1000 (i := 1) (ns := ["limit", "found", "n"]) (m := 1) hat rfl ⟨rfl, by decide, by decide⟩ (by decide) (fun pm cd doc => vs1 fun a => rfl) rfl rfl ?h, ?g⟩
  case h =>
    dsimp only
    repeat' ((show (_ : Prop)); first | (with_reducible first | exact OpOK.add | exact OpOK.sub | exact OpOK.mul | exact OpOK.mod | exact OpOK.pow | exact OpOK.and | exact OpOK.lt | exact OpOK.le | exact OpOK.gt | exact OpOK.ge | exact OpOK.eq | exact OpOK.ne | exact OpOK.notIn | exact IOpOK.add | exact IOpOK.sub | exact IOpOK.mul | exact IOpOK.div | exact IOpOK.mod | exact EvOK.cint | exact EvOK.cbool | refine' EvOK.v (by with_unfolding_all exact rfl) (by with_unfolding_all exact rfl) (by with_unfolding_all exact rfl) (by with_unfolding_all exact rfl) | refine' EvOK.bin ?_ ?_ ?_ | refine' EvOK.cmp ?_ ?_ ?_ (by with_unfolding_all exact rfl) | refine' EvOK.neg ?_ | refine' EvOK.bool1 ?_ | refine' EvOK.or ?_ ?_ | refine' EvOK.tup ?_ | refine' EvOK.lst ?_ | refine' EvOK.call' (by with_unfolding_all exact rfl) (by with_unfolding_all exact rfl) (by with_unfolding_all exact rfl) (by with_unfolding_all exact fun _ => rfl) (by with_unfolding_all exact rfl) (by with_unfolding_all exact fun _ => ⟨_, _, rfl⟩) (by with_unfolding_all first | assumption | exact FunOK.le (by assumption) (by decide)) ?_ | refine' EvOK.gsub (by with_unfolding_all exact rfl) (by with_unfolding_all exact rfl) (by with_unfolding_all exact rfl) (by with_unfolding_all exact fun _ _ => rfl) (by with_unfolding_all assumption) ?_ | refine' EvOK.subs ?_ ?_ (by with_unfolding_all exact fun _ _ => rfl) | refine' EvOK.comp (by with_unfolding_all exact ⟨by decide, rfl, rfl, by decide, rfl, by decide, by decide⟩) ?_ ?_ ?_ (by with_unfolding_all exact fun _ _ => rfl) | exact EvsOK.nil | refine' EvsOK.cons ?_ ?_ (by with_unfolding_all exact fun _ => rfl) | refine' TestsOK.one ?_ | refine' TrOK.cmp ?_ ?_ ?_ (by with_unfolding_all exact rfl) | refine' TrOK.chain ?_ ?_ ?_ ?_ ?_ (by with_unfolding_all exact rfl) | refine' TrOK.not ?_ | exact TrOK.and0 | exact TrOK.or0 | refine' TrOK.and ?_ ?_ | refine' TrOK.or ?_ ?_ | refine' TrOK.plain ?_ (by with_unfolding_all exact fun _ _ => rfl) | exact RunOK.nil | refine' RunOK.cons ?_ ?_ | exact RunOK.cont | refine' RunOK.ret ?_ | refine' RunOK.ifS ?_ ?_ ?_ | refine' RunOK.whileS ?_ ?_ | refine' RunOK.new' (by with_unfolding_all exact rfl) (by with_unfolding_all exact fun _ => rfl) (by with_unfolding_all exact ⟨rfl, by decide, by decide⟩) ?_ | refine' RunOK.asg' (by with_unfolding_all exact rfl) (by with_unfolding_all exact fun _ => rfl) (by with_unfolding_all exact ⟨rfl, by decide, by decide⟩) ?_ | refine' RunOK.aug' (by with_unfolding_all exact rfl) (by with_unfolding_all exact ⟨rfl, by decide, by decide⟩) ?_ ?_ | refine' RunOK.forM' (by with_unfolding_all exact rfl) (by with_unfolding_all exact rfl) (by with_unfolding_all exact rfl) (by with_unfolding_all exact fun _ _ => rfl) (by with_unfolding_all exact ⟨rfl, by decide, by decide⟩) ?_ | refine' RunOK.for' (by with_unfolding_all exact rfl) (by with_unfolding_all exact fun _ _ => rfl) (by with_unfolding_all exact ⟨rfl, by decide, by decide⟩) ?_ ?_ | refine' RunOK.app' (by with_unfolding_all exact rfl) (by with_unfolding_all exact rfl) (by with_unfolding_all exact fun _ => rfl) (by with_unfolding_all exact fun _ => rfl) (by with_unfolding_all exact fun _ => rfl) (by with_unfolding_all exact ⟨rfl, by decide, by decide⟩) ?_ | refine' RunOK.tupS' (by with_unfolding_all first | exact .cons (.cons .nil) | exact .cons (.cons (.cons .nil)) | exact .cons (.cons (.cons (.cons .nil)))) (by with_unfolding_all exact fun env h => by cases env; cases h; rfl) (by with_unfolding_all exact rfl) (by with_unfolding_all exact fun _ => rfl) (by with_unfolding_all exact ⟨rfl, by decide, by decide⟩) ?_ | refine' RunOK.tupP' (by with_unfolding_all first | exact .cons (.cons .nil) | exact .cons (.cons (.cons .nil)) | exact .cons (.cons (.cons (.cons .nil)))) (by with_unfolding_all exact fun env h => by cases env; cases h; rfl) (by with_unfolding_all exact rfl) (by with_unfolding_all exact fun _ => rfl) (by with_unfolding_all exact ⟨rfl, by decide, by decide⟩) ?_))
  case g =>
    intro L hL
    refine CW.eq ?_
    repeat' ((fail_if_success (with_reducible refine (?_ : @Eq _ _ _))); first | (with_reducible first | refine' CK.ret ?_ | refine' SK.next ?_ | refine' SK.ret ?_ | refine' SK.cont ?_ | refine' LK.next ?_ | refine' LK.cont ?_ | refine' RW.nil ?_ | refine' RW.seqK (fun K hK => ?_)) | ((with_reducible refine (?_ : RW _ _ _ _)); with_reducible refine' RW.lenOk (by with_unfolding_all exact rfl) ?_) | (with_reducible first | refine' SW.of ?_ | refine' PutAt.of ?_ ?_) | with_reducible exact SetR.z | (with_reducible first | refine' SetR.s3 ?_ | refine' SetR.s ?_) | (with_reducible refine (?_ : SetR _ (0 + 1) _ _)); refine SetR.s ?_ | ((with_reducible refine (?_ : RW _ _ _ _)); with_reducible refine' RW.retF (E := eVar _) (by with_unfolding_all exact rfl) ?_) | (with_reducible first | refine' RW.asg ?_ | refine' RW.ret ?_) | (fail_if_success (have : StopIf := by with_reducible assumption)); (with_reducible refine' RW.if ?_) | (with_reducible first | refine' RW.tup ?_ | refine' RW.for ?_ | refine' RW.while ?_ | refine' RW.new ?_) | ((with_reducible refine (?_ : RW _ _ _ _)); with_reducible refine' RW.app (by with_unfolding_all exact rfl) (by first | with_reducible assumption | with_unfolding_all exact Nat.le_of_ble_eq_true rfl) ?_) | ((with_reducible refine (?_ : RW _ _ _ _)); with_reducible refine' RW.aug (by with_unfolding_all exact rfl) ?_) | (with_reducible first | refine' TupK.two_t ?_ | refine' TupK.two_f ?_ | refine' TupK.four_f ?_ | refine' IfK.t ?_ | refine' IfK.f ?_) | (with_reducible refine' IfK.gd ?_; with_reducible refine' IfK.decT (by first | with_reducible assumption | with_unfolding_all omega) ?_) | (with_reducible refine' IfK.gd ?_; with_reducible refine' IfK.decF (by first | with_reducible assumption | with_unfolding_all omega) ?_) | (with_reducible first | refine' NotK.t ?_ | refine' NotK.f ?_ | refine' TruthK.bool ?_ | refine' TruthK.int ?_) | ((with_reducible refine (?_ : EW (eVar _) _ _)); with_reducible refine' EW.var (by with_unfolding_all exact rfl) ?_) | (with_reducible first | refine' EW.cst ?_ | refine' EW.e1 ?_ | refine' EW.e2 ?_ | refine' EW.call ?_ | refine' EW.tup ?_ | refine' EW.lst ?_ | refine' EW.or ?_ | refine' EW.e3c ?_ | refine' EW.comp ?_ | refine' EsW.nil ?_ | refine' EsW.cons ?_ | refine' TW.c ?_) | ((with_reducible refine (?_ : TpK _ _)); with_reducible refine' TpK.mk (by with_unfolding_all exact Nat.le_of_ble_eq_true rfl) ?_) | ((with_reducible refine (?_ : LsK _ _)); with_reducible refine' LsK.mk (by with_unfolding_all exact Nat.le_of_ble_eq_true rfl) ?_) | (with_reducible first | refine' TW.tOf ?_ | refine' TW.not ?_ | refine' TW.and ?_ | refine' TW.or ?_) | ((with_reducible refine (?_ : CW _ _ _)); with_reducible refine' CW.of (by with_reducible assumption) ?_) | ((with_reducible refine (?_ : CW fPow3 _ _)); with_reducible refine' CW.pow3 (by with_unfolding_all first | decide | omega) (by with_reducible assumption) ?_) | ((with_reducible refine (?_ : OW _ _ _ _)); with_reducible refine' OW.of (by with_reducible assumption) ?_) | (with_reducible first | refine' OW.add ?_ | refine' OW.addI ?_ | refine' OW.sub ?_ | refine' OW.and ?_ | refine' OW.ord ?_ | refine' OW.eq ?_ | refine' OW.ne ?_) | ((with_reducible refine (?_ : OW fMul _ _ _)); with_reducible refine' OW.mul (by first | with_reducible assumption | with_unfolding_all exact mulOk_sm (by omega) (by omega) | with_unfolding_all exact mulOk_bd (by repeat' kt_len) (by repeat' kt_len) (Nat.le_of_ble_eq_true rfl)) ?_) | ((with_reducible refine (?_ : OW fDiv _ _ _)); with_reducible refine' OW.div (by with_reducible assumption) ?_) | ((with_reducible refine (?_ : OW fMod _ _ _)); with_reducible refine' OW.mod (by first | with_reducible assumption | with_unfolding_all omega) ?_) | ((with_reducible refine (?_ : OW fPow _ _ _)); with_reducible refine' OW.pow (by with_reducible assumption) ?_) | (with_reducible first | refine' UW.neg ?_) | ((with_reducible refine (?_ : UW _ _ _)); with_reducible refine' UW.of (by with_reducible assumption) ?_) | (with_reducible first | refine' CW.max ?_ | refine' CW.range2 ?_) | ((with_reducible refine (?_ : CW _ _ _)); with_reducible refine' CW.fn (by with_unfolding_all (repeat (first | exact StartsAt.nil | apply StartsAt.cons | apply StartsAt.unb))) (by with_unfolding_all exact rfl) ?_) | (with_reducible first | refine' KK.use (by with_reducible assumption) ?_))
    refine ⟨by decide, ?_⟩
    repeat' ((fail_if_success (with_reducible refine (?_ : @Eq _ _ _))); first | (with_reducible first | refine' CK.ret ?_ | refine' SK.next ?_ | refine' SK.ret ?_ | refine' SK.cont ?_ | refine' LK.next ?_ | refine' LK.cont ?_ | refine' RW.nil ?_ | refine' RW.seqK (fun K hK => ?_)) | ((with_reducible refine (?_ : RW _ _ _ _)); with_reducible refine' RW.lenOk (by with_unfolding_all exact rfl) ?_) | (with_reducible first | refine' SW.of ?_ | refine' PutAt.of ?_ ?_) | with_reducible exact SetR.z | (with_reducible first | refine' SetR.s3 ?_ | refine' SetR.s ?_) | (with_reducible refine (?_ : SetR _ (0 + 1) _ _)); refine SetR.s ?_ | ((with_reducible refine (?_ : RW _ _ _ _)); with_reducible refine' RW.retF (E := eVar _) (by with_unfolding_all exact rfl) ?_) | (with_reducible first | refine' RW.asg ?_ | refine' RW.ret ?_) | (fail_if_success (have : StopIf := by with_reducible assumption)); (with_reducible refine' RW.if ?_) | (with_reducible first | refine' RW.tup ?_ | refine' RW.for ?_ | refine' RW.while ?_ | refine' RW.new ?_) | ((with_reducible refine (?_ : RW _ _ _ _)); with_reducible refine' RW.app (by with_unfolding_all exact rfl) (by first | with_reducible assumption | with_unfolding_all exact Nat.le_of_ble_eq_true rfl) ?_) | ((with_reducible refine (?_ : RW _ _ _ _)); with_reducible refine' RW.aug (by with_unfolding_all exact rfl) ?_) | (with_reducible first | refine' TupK.two_t ?_ | refine' TupK.two_f ?_ | refine' TupK.four_f ?_ | refine' IfK.t ?_ | refine' IfK.f ?_) | (with_reducible refine' IfK.gd ?_; with_reducible refine' IfK.decT (by first | with_reducible assumption | with_unfolding_all omega) ?_) | (with_reducible refine' IfK.gd ?_; with_reducible refine' IfK.decF (by first | with_reducible assumption | with_unfolding_all omega) ?_) | (with_reducible first | refine' NotK.t ?_ | refine' NotK.f ?_ | refine' TruthK.bool ?_ | refine' TruthK.int ?_) | ((with_reducible refine (?_ : EW (eVar _) _ _)); with_reducible refine' EW.var (by with_unfolding_all exact rfl) ?_) | (with_reducible first | refine' EW.cst ?_ | refine' EW.e1 ?_ | refine' EW.e2 ?_ | refine' EW.call ?_ | refine' EW.tup ?_ | refine' EW.lst ?_ | refine' EW.or ?_ | refine' EW.e3c ?_ | refine' EW.comp ?_ | refine' EsW.nil ?_ | refine' EsW.cons ?_ | refine' TW.c ?_) | ((with_reducible refine (?_ : TpK _ _)); with_reducible refine' TpK.mk (by with_unfolding_all exact Nat.le_of_ble_eq_true rfl) ?_) | ((with_reducible refine (?_ : LsK _ _)); with_reducible refine' LsK.mk (by with_unfolding_all exact Nat.le_of_ble_eq_true rfl) ?_) | (with_reducible first | refine' TW.tOf ?_ | refine' TW.not ?_ | refine' TW.and ?_ | refine' TW.or ?_) | ((with_reducible refine (?_ : CW _ _ _)); with_reducible refine' CW.of (by with_reducible assumption) ?_) | ((with_reducible refine (?_ : CW fPow3 _ _)); with_reducible refine' CW.pow3 (by with_unfolding_all first | decide | omega) (by with_reducible assumption) ?_) | ((with_reducible refine (?_ : OW _ _ _ _)); with_reducible refine' OW.of (by with_reducible assumption) ?_) | (with_reducible first | refine' OW.add ?_ | refine' OW.addI ?_ | refine' OW.sub ?_ | refine' OW.and ?_ | refine' OW.ord ?_ | refine' OW.eq ?_ | refine' OW.ne ?_) | ((with_reducible refine (?_ : OW fMul _ _ _)); with_reducible refine' OW.mul (by first | with_reducible assumption | with_unfolding_all exact mulOk_sm (by omega) (by omega) | with_unfolding_all exact mulOk_bd (by repeat' kt_len) (by repeat' kt_len) (Nat.le_of_ble_eq_true rfl)) ?_) | ((with_reducible refine (?_ : OW fDiv _ _ _)); with_reducible refine' OW.div (by with_reducible assumption) ?_) | ((with_reducible refine (?_ : OW fMod _ _ _)); with_reducible refine' OW.mod (by first | with_reducible assumption | with_unfolding_all omega) ?_) | ((with_reducible refine (?_ : OW fPow _ _ _)); with_reducible refine' OW.pow (by with_reducible assumption) ?_) | (with_reducible first | refine' UW.neg ?_) | ((with_reducible refine (?_ : UW _ _ _)); with_reducible refine' UW.of (by with_reducible assumption) ?_) | (with_reducible first | refine' CW.max ?_ | refine' CW.range2 ?_) | ((with_reducible refine (?_ : CW _ _ _)); with_reducible refine' CW.fn (by with_unfolding_all (repeat (first | exact StartsAt.nil | apply StartsAt.cons | apply StartsAt.unb))) (by with_unfolding_all exact rfl) ?_) | (with_reducible first | refine' KK.use (by with_reducible assumption) ?_))
    refine WW.inv (fun k σ => ∃ t : Nat, σ = [.imm (.int L), .mt (intsD (natI (pgR t))), .imm (.int ((t : Int) + 2))] ∧ t + k = L.toNat - 2) (k := L.toNat - 2) ⟨0, rfl, by omega⟩ ?_ ?_
    · omega
    rintro k σ ⟨t, rfl, ht⟩
    have pl := pgR_length t
    have el : (intsD (natI (pgR t))).length ≤ 10000 := by rw [intsD_length, natI_length]; omega
    by_cases c : (t : Int) + 2 < L
    · repeat' ((fail_if_success (with_reducible refine (?_ : @Eq _ _ _))); first | (with_reducible first | refine' CK.ret ?_ | refine' SK.next ?_ | refine' SK.ret ?_ | refine' SK.cont ?_ | refine' LK.next ?_ | refine' LK.cont ?_ | refine' RW.nil ?_ | refine' RW.seqK (fun K hK => ?_)) | ((with_reducible refine (?_ : RW _ _ _ _)); with_reducible refine' RW.lenOk (by with_unfolding_all exact rfl) ?_) | (with_reducible first | refine' SW.of ?_ | refine' PutAt.of ?_ ?_) | with_reducible exact SetR.z | (with_reducible first | refine' SetR.s3 ?_ | refine' SetR.s ?_) | (with_reducible refine (?_ : SetR _ (0 + 1) _ _)); refine SetR.s ?_ | ((with_reducible refine (?_ : RW _ _ _ _)); with_reducible refine' RW.retF (E := eVar _) (by with_unfolding_all exact rfl) ?_) | (with_reducible first | refine' RW.asg ?_ | refine' RW.ret ?_) | (fail_if_success (have : StopIf := by with_reducible assumption)); (with_reducible refine' RW.if ?_) | (with_reducible first | refine' RW.tup ?_ | refine' RW.for ?_ | refine' RW.while ?_ | refine' RW.new ?_) | ((with_reducible refine (?_ : RW _ _ _ _)); with_reducible refine' RW.app (by with_unfolding_all exact rfl) (by first | with_reducible assumption | with_unfolding_all exact Nat.le_of_ble_eq_true rfl) ?_) | ((with_reducible refine (?_ : RW _ _ _ _)); with_reducible refine' RW.aug (by with_unfolding_all exact rfl) ?_) | (with_reducible first | refine' TupK.two_t ?_ | refine' TupK.two_f ?_ | refine' TupK.four_f ?_ | refine' IfK.t ?_ | refine' IfK.f ?_) | (with_reducible refine' IfK.gd ?_; with_reducible refine' IfK.decT (by first | with_reducible assumption | with_unfolding_all omega) ?_) | (with_reducible refine' IfK.gd ?_; with_reducible refine' IfK.decF (by first | with_reducible assumption | with_unfolding_all omega) ?_) | (with_reducible first | refine' NotK.t ?_ | refine' NotK.f ?_ | refine' TruthK.bool ?_ | refine' TruthK.int ?_) | ((with_reducible refine (?_ : EW (eVar _) _ _)); with_reducible refine' EW.var (by with_unfolding_all exact rfl) ?_) | (with_reducible first | refine' EW.cst ?_ | refine' EW.e1 ?_ | refine' EW.e2 ?_ | refine' EW.call ?_ | refine' EW.tup ?_ | refine' EW.lst ?_ | refine' EW.or ?_ | refine' EW.e3c ?_ | refine' EW.comp ?_ | refine' EsW.nil ?_ | refine' EsW.cons ?_ | refine' TW.c ?_) | ((with_reducible refine (?_ : TpK _ _)); with_reducible refine' TpK.mk (by with_unfolding_all exact Nat.le_of_ble_eq_true rfl) ?_) | ((with_reducible refine (?_ : LsK _ _)); with_reducible refine' LsK.mk (by with_unfolding_all exact Nat.le_of_ble_eq_true rfl) ?_) | (with_reducible first | refine' TW.tOf ?_ | refine' TW.not ?_ | refine' TW.and ?_ | refine' TW.or ?_) | ((with_reducible refine (?_ : CW _ _ _)); with_reducible refine' CW.of (by with_reducible assumption) ?_) | ((with_reducible refine (?_ : CW fPow3 _ _)); with_reducible refine' CW.pow3 (by with_unfolding_all first | decide | omega) (by with_reducible assumption) ?_) | ((with_reducible refine (?_ : OW _ _ _ _)); with_reducible refine' OW.of (by with_reducible assumption) ?_) | (with_reducible first | refine' OW.add ?_ | refine' OW.addI ?_ | refine' OW.sub ?_ | refine' OW.and ?_ | refine' OW.ord ?_ | refine' OW.eq ?_ | refine' OW.ne ?_) | ((with_reducible refine (?_ : OW fMul _ _ _)); with_reducible refine' OW.mul (by first | with_reducible assumption | with_unfolding_all exact mulOk_sm (by omega) (by omega) | with_unfolding_all exact mulOk_bd (by repeat' kt_len) (by repeat' kt_len) (Nat.le_of_ble_eq_true rfl)) ?_) | ((with_reducible refine (?_ : OW fDiv _ _ _)); with_reducible refine' OW.div (by with_reducible assumption) ?_) | ((with_reducible refine (?_ : OW fMod _ _ _)); with_reducible refine' OW.mod (by first | with_reducible assumption | with_unfolding_all omega) ?_) | ((with_reducible refine (?_ : OW fPow _ _ _)); with_reducible refine' OW.pow (by with_reducible assumption) ?_) | (with_reducible first | refine' UW.neg ?_) | ((with_reducible refine (?_ : UW _ _ _)); with_reducible refine' UW.of (by with_reducible assumption) ?_) | (with_reducible first | refine' CW.max ?_ | refine' CW.range2 ?_) | ((with_reducible refine (?_ : CW _ _ _)); with_reducible refine' CW.fn (by with_unfolding_all (repeat (first | exact StartsAt.nil | apply StartsAt.cons | apply StartsAt.unb))) (by with_unfolding_all exact rfl) ?_) | (with_reducible first | refine' KK.use (by with_reducible assumption) ?_))
      refine CompK.ints (p := fun x => decide (x * x ≤ (t : Int) + 2) && decide (((t : Int) + 2).fmod x = 0)) (g := fun x => x) (items_lst (by rw [intsD_length, natI_length]; omega)) ?_ ?_
      · intro x hx
        obtain ⟨n, hn, rfl⟩ := mem_natI.mp hx
        have hm := pgR_mem hn
        have x0 : (n : Int) ≠ 0 := by omega
        refine ⟨?_, fun _ => by repeat' ((fail_if_success (with_reducible refine (?_ : @Eq _ _ _))); first | (with_reducible first | refine' CK.ret ?_ | refine' SK.next ?_ | refine' SK.ret ?_ | refine' SK.cont ?_ | refine' LK.next ?_ | refine' LK.cont ?_ | refine' RW.nil ?_ | refine' RW.seqK (fun K hK => ?_)) | ((with_reducible refine (?_ : RW _ _ _ _)); with_reducible refine' RW.lenOk (by with_unfolding_all exact rfl) ?_) | (with_reducible first | refine' SW.of ?_ | refine' PutAt.of ?_ ?_) | with_reducible exact SetR.z | (with_reducible first | refine' SetR.s3 ?_ | refine' SetR.s ?_) | (with_reducible refine (?_ : SetR _ (0 + 1) _ _)); refine SetR.s ?_ | ((with_reducible refine (?_ : RW _ _ _ _)); with_reducible refine' RW.retF (E := eVar _) (by with_unfolding_all exact rfl) ?_) | (with_reducible first | refine' RW.asg ?_ | refine' RW.ret ?_) | (fail_if_success (have : StopIf := by with_reducible assumption)); (with_reducible refine' RW.if ?_) | (with_reducible first | refine' RW.tup ?_ | refine' RW.for ?_ | refine' RW.while ?_ | refine' RW.new ?_) | ((with_reducible refine (?_ : RW _ _ _ _)); with_reducible refine' RW.app (by with_unfolding_all exact rfl) (by first | with_reducible assumption | with_unfolding_all exact Nat.le_of_ble_eq_true rfl) ?_) | ((with_reducible refine (?_ : RW _ _ _ _)); with_reducible refine' RW.aug (by with_unfolding_all exact rfl) ?_) | (with_reducible first | refine' TupK.two_t ?_ | refine' TupK.two_f ?_ | refine' TupK.four_f ?_ | refine' IfK.t ?_ | refine' IfK.f ?_) | (with_reducible refine' IfK.gd ?_; with_reducible refine' IfK.decT (by first | with_reducible assumption | with_unfolding_all omega) ?_) | (with_reducible refine' IfK.gd ?_; with_reducible refine' IfK.decF (by first | with_reducible assumption | with_unfolding_all omega) ?_) | (with_reducible first | refine' NotK.t ?_ | refine' NotK.f ?_ | refine' TruthK.bool ?_ | refine' TruthK.int ?_) | ((with_reducible refine (?_ : EW (eVar _) _ _)); with_reducible refine' EW.var (by with_unfolding_all exact rfl) ?_) | (with_reducible first | refine' EW.cst ?_ | refine' EW.e1 ?_ | refine' EW.e2 ?_ | refine' EW.call ?_ | refine' EW.tup ?_ | refine' EW.lst ?_ | refine' EW.or ?_ | refine' EW.e3c ?_ | refine' EW.comp ?_ | refine' EsW.nil ?_ | refine' EsW.cons ?_ | refine' TW.c ?_) | ((with_reducible refine (?_ : TpK _ _)); with_reducible refine' TpK.mk (by with_unfolding_all exact Nat.le_of_ble_eq_true rfl) ?_) | ((with_reducible refine (?_ : LsK _ _)); with_reducible refine' LsK.mk (by with_unfolding_all exact Nat.le_of_ble_eq_true rfl) ?_) | (with_reducible first | refine' TW.tOf ?_ | refine' TW.not ?_ | refine' TW.and ?_ | refine' TW.or ?_) | ((with_reducible refine (?_ : CW _ _ _)); with_reducible refine' CW.of (by with_reducible assumption) ?_) | ((with_reducible refine (?_ : CW fPow3 _ _)); with_reducible refine' CW.pow3 (by with_unfolding_all first | decide | omega) (by with_reducible assumption) ?_) | ((with_reducible refine (?_ : OW _ _ _ _)); with_reducible refine' OW.of (by with_reducible assumption) ?_) | (with_reducible first | refine' OW.add ?_ | refine' OW.addI ?_ | refine' OW.sub ?_ | refine' OW.and ?_ | refine' OW.ord ?_ | refine' OW.eq ?_ | refine' OW.ne ?_) | ((with_reducible refine (?_ : OW fMul _ _ _)); with_reducible refine' OW.mul (by first | with_reducible assumption | with_unfolding_all exact mulOk_sm (by omega) (by omega) | with_unfolding_all exact mulOk_bd (by repeat' kt_len) (by repeat' kt_len) (Nat.le_of_ble_eq_true rfl)) ?_) | ((with_reducible refine (?_ : OW fDiv _ _ _)); with_reducible refine' OW.div (by with_reducible assumption) ?_) | ((with_reducible refine (?_ : OW fMod _ _ _)); with_reducible refine' OW.mod (by first | with_reducible assumption | with_unfolding_all omega) ?_) | ((with_reducible refine (?_ : OW fPow _ _ _)); with_reducible refine' OW.pow (by with_reducible assumption) ?_) | (with_reducible first | refine' UW.neg ?_) | ((with_reducible refine (?_ : UW _ _ _)); with_reducible refine' UW.of (by with_reducible assumption) ?_) | (with_reducible first | refine' CW.max ?_ | refine' CW.range2 ?_) | ((with_reducible refine (?_ : CW _ _ _)); with_reducible refine' CW.fn (by with_unfolding_all (repeat (first | exact StartsAt.nil | apply StartsAt.cons | apply StartsAt.unb))) (by with_unfolding_all exact rfl) ?_) | (with_reducible first | refine' KK.use (by with_reducible assumption) ?_))
                                rfl⟩
        by_cases c1 : (n : Int) * (n : Int) ≤ (t : Int) + 2 <;> by_cases c2 : ((t : Int) + 2).fmod (n : Int) = 0 <;>
        · repeat' ((fail_if_success (with_reducible refine (?_ : @Eq _ _ _))); first | (with_reducible first | refine' CK.ret ?_ | refine' SK.next ?_ | refine' SK.ret ?_ | refine' SK.cont ?_ | refine' LK.next ?_ | refine' LK.cont ?_ | refine' RW.nil ?_ | refine' RW.seqK (fun K hK => ?_)) | ((with_reducible refine (?_ : RW _ _ _ _)); with_reducible refine' RW.lenOk (by with_unfolding_all exact rfl) ?_) | (with_reducible first | refine' SW.of ?_ | refine' PutAt.of ?_ ?_) | with_reducible exact SetR.z | (with_reducible first | refine' SetR.s3 ?_ | refine' SetR.s ?_) | (with_reducible refine (?_ : SetR _ (0 + 1) _ _)); refine SetR.s ?_ | ((with_reducible refine (?_ : RW _ _ _ _)); with_reducible refine' RW.retF (E := eVar _) (by with_unfolding_all exact rfl) ?_) | (with_reducible first | refine' RW.asg ?_ | refine' RW.ret ?_) | (fail_if_success (have : StopIf := by with_reducible assumption)); (with_reducible refine' RW.if ?_) | (with_reducible first | refine' RW.tup ?_ | refine' RW.for ?_ | refine' RW.while ?_ | refine' RW.new ?_) | ((with_reducible refine (?_ : RW _ _ _ _)); with_reducible refine' RW.app (by with_unfolding_all exact rfl) (by first | with_reducible assumption | with_unfolding_all exact Nat.le_of_ble_eq_true rfl) ?_) | ((with_reducible refine (?_ : RW _ _ _ _)); with_reducible refine' RW.aug (by with_unfolding_all exact rfl) ?_) | (with_reducible first | refine' TupK.two_t ?_ | refine' TupK.two_f ?_ | refine' TupK.four_f ?_ | refine' IfK.t ?_ | refine' IfK.f ?_) | (with_reducible refine' IfK.gd ?_; with_reducible refine' IfK.decT (by first | with_reducible assumption | with_unfolding_all omega) ?_) | (with_reducible refine' IfK.gd ?_; with_reducible refine' IfK.decF (by first | with_reducible assumption | with_unfolding_all omega) ?_) | (with_reducible first | refine' NotK.t ?_ | refine' NotK.f ?_ | refine' TruthK.bool ?_ | refine' TruthK.int ?_) | ((with_reducible refine (?_ : EW (eVar _) _ _)); with_reducible refine' EW.var (by with_unfolding_all exact rfl) ?_) | (with_reducible first | refine' EW.cst ?_ | refine' EW.e1 ?_ | refine' EW.e2 ?_ | refine' EW.call ?_ | refine' EW.tup ?_ | refine' EW.lst ?_ | refine' EW.or ?_ | refine' EW.e3c ?_ | refine' EW.comp ?_ | refine' EsW.nil ?_ | refine' EsW.cons ?_ | refine' TW.c ?_) | ((with_reducible refine (?_ : TpK _ _)); with_reducible refine' TpK.mk (by with_unfolding_all exact Nat.le_of_ble_eq_true rfl) ?_) | ((with_reducible refine (?_ : LsK _ _)); with_reducible refine' LsK.mk (by with_unfolding_all exact Nat.le_of_ble_eq_true rfl) ?_) | (with_reducible first | refine' TW.tOf ?_ | refine' TW.not ?_ | refine' TW.and ?_ | refine' TW.or ?_) | ((with_reducible refine (?_ : CW _ _ _)); with_reducible refine' CW.of (by with_reducible assumption) ?_) | ((with_reducible refine (?_ : CW fPow3 _ _)); with_reducible refine' CW.pow3 (by with_unfolding_all first | decide | omega) (by with_reducible assumption) ?_) | ((with_reducible refine (?_ : OW _ _ _ _)); with_reducible refine' OW.of (by with_reducible assumption) ?_) | (with_reducible first | refine' OW.add ?_ | refine' OW.addI ?_ | refine' OW.sub ?_ | refine' OW.and ?_ | refine' OW.ord ?_ | refine' OW.eq ?_ | refine' OW.ne ?_) | ((with_reducible refine (?_ : OW fMul _ _ _)); with_reducible refine' OW.mul (by first | with_reducible assumption | with_unfolding_all exact mulOk_sm (by omega) (by omega) | with_unfolding_all exact mulOk_bd (by repeat' kt_len) (by repeat' kt_len) (Nat.le_of_ble_eq_true rfl)) ?_) | ((with_reducible refine (?_ : OW fDiv _ _ _)); with_reducible refine' OW.div (by with_reducible assumption) ?_) | ((with_reducible refine (?_ : OW fMod _ _ _)); with_reducible refine' OW.mod (by first | with_reducible assumption | with_unfolding_all omega) ?_) | ((with_reducible refine (?_ : OW fPow _ _ _)); with_reducible refine' OW.pow (by with_reducible assumption) ?_) | (with_reducible first | refine' UW.neg ?_) | ((with_reducible refine (?_ : UW _ _ _)); with_reducible refine' UW.of (by with_reducible assumption) ?_) | (with_reducible first | refine' CW.max ?_ | refine' CW.range2 ?_) | ((with_reducible refine (?_ : CW _ _ _)); with_reducible refine' CW.fn (by with_unfolding_all (repeat (first | exact StartsAt.nil | apply StartsAt.cons | apply StartsAt.unb))) (by with_unfolding_all exact rfl) ?_) | (with_reducible first | refine' KK.use (by with_reducible assumption) ?_))
          simp only [c1, c2, decide_true, decide_false]; rfl
      · rw [List.map_id'', filter_natI]
        · have e : (pgR t).filter (fun (n : Nat) => decide ((n : Int) * (n : Int) ≤ (t : Int) + 2) && decide (((t : Int) + 2).fmod (n : Int) = 0)) = (pgR t).filter (pgT (t + 2)) := by
            refine List.filter_congr fun n hn => ?_
            have hm := pgR_mem hn
            unfold pgT
            have e1 : decide ((n : Int) * (n : Int) ≤ (t : Int) + 2) = decide (n * n ≤ t + 2) := by
              rw [← Int.natCast_mul]; congr 1; apply propext; omega
            have e2 : decide (((t : Int) + 2).fmod (n : Int) = 0) = decide ((t + 2) % n = 0) := by
              rw [show (t : Int) + 2 = ((t + 2 : Nat) : Int) by omega, fmod_nat]; congr 1; apply propext; omega
            rw [e1, e2]
          rw [e]
          by_cases hf : ((pgR t).filter (pgT (t + 2))).isEmpty = true
          · refine TruthK.lstE (by rw [List.isEmpty_iff.mp hf]; rfl) ?_
            repeat' ((fail_if_success (with_reducible refine (?_ : @Eq _ _ _))); first | (with_reducible first | refine' CK.ret ?_ | refine' SK.next ?_ | refine' SK.ret ?_ | refine' SK.cont ?_ | refine' LK.next ?_ | refine' LK.cont ?_ | refine' RW.nil ?_ | refine' RW.seqK (fun K hK => ?_)) | ((with_reducible refine (?_ : RW _ _ _ _)); with_reducible refine' RW.lenOk (by with_unfolding_all exact rfl) ?_) | (with_reducible first | refine' SW.of ?_ | refine' PutAt.of ?_ ?_) | with_reducible exact SetR.z | (with_reducible first | refine' SetR.s3 ?_ | refine' SetR.s ?_) | (with_reducible refine (?_ : SetR _ (0 + 1) _ _)); refine SetR.s ?_ | ((with_reducible refine (?_ : RW _ _ _ _)); with_reducible refine' RW.retF (E := eVar _) (by with_unfolding_all exact rfl) ?_) | (with_reducible first | refine' RW.asg ?_ | refine' RW.ret ?_) | (fail_if_success (have : StopIf := by with_reducible assumption)); (with_reducible refine' RW.if ?_) | (with_reducible first | refine' RW.tup ?_ | refine' RW.for ?_ | refine' RW.while ?_ | refine' RW.new ?_) | ((with_reducible refine (?_ : RW _ _ _ _)); with_reducible refine' RW.app (by with_unfolding_all exact rfl) (by first | with_reducible assumption | with_unfolding_all exact Nat.le_of_ble_eq_true rfl) ?_) | ((with_reducible refine (?_ : RW _ _ _ _)); with_reducible refine' RW.aug (by with_unfolding_all exact rfl) ?_) | (with_reducible first | refine' TupK.two_t ?_ | refine' TupK.two_f ?_ | refine' TupK.four_f ?_ | refine' IfK.t ?_ | refine' IfK.f ?_) | (with_reducible refine' IfK.gd ?_; with_reducible refine' IfK.decT (by first | with_reducible assumption | with_unfolding_all omega) ?_) | (with_reducible refine' IfK.gd ?_; with_reducible refine' IfK.decF (by first | with_reducible assumption | with_unfolding_all omega) ?_) | (with_reducible first | refine' NotK.t ?_ | refine' NotK.f ?_ | refine' TruthK.bool ?_ | refine' TruthK.int ?_) | ((with_reducible refine (?_ : EW (eVar _) _ _)); with_reducible refine' EW.var (by with_unfolding_all exact rfl) ?_) | (with_reducible first | refine' EW.cst ?_ | refine' EW.e1 ?_ | refine' EW.e2 ?_ | refine' EW.call ?_ | refine' EW.tup ?_ | refine' EW.lst ?_ | refine' EW.or ?_ | refine' EW.e3c ?_ | refine' EW.comp ?_ | refine' EsW.nil ?_ | refine' EsW.cons ?_ | refine' TW.c ?_) | ((with_reducible refine (?_ : TpK _ _)); with_reducible refine' TpK.mk (by with_unfolding_all exact Nat.le_of_ble_eq_true rfl) ?_) | ((with_reducible refine (?_ : LsK _ _)); with_reducible refine' LsK.mk (by with_unfolding_all exact Nat.le_of_ble_eq_true rfl) ?_) | (with_reducible first | refine' TW.tOf ?_ | refine' TW.not ?_ | refine' TW.and ?_ | refine' TW.or ?_) | ((with_reducible refine (?_ : CW _ _ _)); with_reducible refine' CW.of (by with_reducible assumption) ?_) | ((with_reducible refine (?_ : CW fPow3 _ _)); with_reducible refine' CW.pow3 (by with_unfolding_all first | decide | omega) (by with_reducible assumption) ?_) | ((with_reducible refine (?_ : OW _ _ _ _)); with_reducible refine' OW.of (by with_reducible assumption) ?_) | (with_reducible first | refine' OW.add ?_ | refine' OW.addI ?_ | refine' OW.sub ?_ | refine' OW.and ?_ | refine' OW.ord ?_ | refine' OW.eq ?_ | refine' OW.ne ?_) | ((with_reducible refine (?_ : OW fMul _ _ _)); with_reducible refine' OW.mul (by first | with_reducible assumption | with_unfolding_all exact mulOk_sm (by omega) (by omega) | with_unfolding_all exact mulOk_bd (by repeat' kt_len) (by repeat' kt_len) (Nat.le_of_ble_eq_true rfl)) ?_) | ((with_reducible refine (?_ : OW fDiv _ _ _)); with_reducible refine' OW.div (by with_reducible assumption) ?_) | ((with_reducible refine (?_ : OW fMod _ _ _)); with_reducible refine' OW.mod (by first | with_reducible assumption | with_unfolding_all omega) ?_) | ((with_reducible refine (?_ : OW fPow _ _ _)); with_reducible refine' OW.pow (by with_reducible assumption) ?_) | (with_reducible first | refine' UW.neg ?_) | ((with_reducible refine (?_ : UW _ _ _)); with_reducible refine' UW.of (by with_reducible assumption) ?_) | (with_reducible first | refine' CW.max ?_ | refine' CW.range2 ?_) | ((with_reducible refine (?_ : CW _ _ _)); with_reducible refine' CW.fn (by with_unfolding_all (repeat (first | exact StartsAt.nil | apply StartsAt.cons | apply StartsAt.unb))) (by with_unfolding_all exact rfl) ?_) | (with_reducible first | refine' KK.use (by with_reducible assumption) ?_))
            refine ⟨k - 1, by omega, t + 1, ?_, by omega⟩
            have : pgR (t + 1) = pgR t ++ [t + 2] := by rw [pgR, pgS, if_pos hf]
            rw [this]
            simp [natI, intsD]
            omega
          · refine TruthK.lstN (fun h => hf (by simpa [intsD, natI] using h)) (by rw [intsD_length, natI_length]; exact Nat.le_trans (List.length_filter_le _ _) (by omega)) ?_
            repeat' ((fail_if_success (with_reducible refine (?_ : @Eq _ _ _))); first | (with_reducible first | refine' CK.ret ?_ | refine' SK.next ?_ | refine' SK.ret ?_ | refine' SK.cont ?_ | refine' LK.next ?_ | refine' LK.cont ?_ | refine' RW.nil ?_ | refine' RW.seqK (fun K hK => ?_)) | ((with_reducible refine (?_ : RW _ _ _ _)); with_reducible refine' RW.lenOk (by with_unfolding_all exact rfl) ?_) | (with_reducible first | refine' SW.of ?_ | refine' PutAt.of ?_ ?_) | with_reducible exact SetR.z | (with_reducible first | refine' SetR.s3 ?_ | refine' SetR.s ?_) | (with_reducible refine (?_ : SetR _ (0 + 1) _ _)); refine SetR.s ?_ | ((with_reducible refine (?_ : RW _ _ _ _)); with_reducible refine' RW.retF (E := eVar _) (by with_unfolding_all exact rfl) ?_) | (with_reducible first | refine' RW.asg ?_ | refine' RW.ret ?_) | (fail_if_success (have : StopIf := by with_reducible assumption)); (with_reducible refine' RW.if ?_) | (with_reducible first | refine' RW.tup ?_ | refine' RW.for ?_ | refine' RW.while ?_ | refine' RW.new ?_) | ((with_reducible refine (?_ : RW _ _ _ _)); with_reducible refine' RW.app (by with_unfolding_all exact rfl) (by first | with_reducible assumption | with_unfolding_all exact Nat.le_of_ble_eq_true rfl) ?_) | ((with_reducible refine (?_ : RW _ _ _ _)); with_reducible refine' RW.aug (by with_unfolding_all exact rfl) ?_) | (with_reducible first | refine' TupK.two_t ?_ | refine' TupK.two_f ?_ | refine' TupK.four_f ?_ | refine' IfK.t ?_ | refine' IfK.f ?_) | (with_reducible refine' IfK.gd ?_; with_reducible refine' IfK.decT (by first | with_reducible assumption | with_unfolding_all omega) ?_) | (with_reducible refine' IfK.gd ?_; with_reducible refine' IfK.decF (by first | with_reducible assumption | with_unfolding_all omega) ?_) | (with_reducible first | refine' NotK.t ?_ | refine' NotK.f ?_ | refine' TruthK.bool ?_ | refine' TruthK.int ?_) | ((with_reducible refine (?_ : EW (eVar _) _ _)); with_reducible refine' EW.var (by with_unfolding_all exact rfl) ?_) | (with_reducible first | refine' EW.cst ?_ | refine' EW.e1 ?_ | refine' EW.e2 ?_ | refine' EW.call ?_ | refine' EW.tup ?_ | refine' EW.lst ?_ | refine' EW.or ?_ | refine' EW.e3c ?_ | refine' EW.comp ?_ | refine' EsW.nil ?_ | refine' EsW.cons ?_ | refine' TW.c ?_) | ((with_reducible refine (?_ : TpK _ _)); with_reducible refine' TpK.mk (by with_unfolding_all exact Nat.le_of_ble_eq_true rfl) ?_) | ((with_reducible refine (?_ : LsK _ _)); with_reducible refine' LsK.mk (by with_unfolding_all exact Nat.le_of_ble_eq_true rfl) ?_) | (with_reducible first | refine' TW.tOf ?_ | refine' TW.not ?_ | refine' TW.and ?_ | refine' TW.or ?_) | ((with_reducible refine (?_ : CW _ _ _)); with_reducible refine' CW.of (by with_reducible assumption) ?_) | ((with_reducible refine (?_ : CW fPow3 _ _)); with_reducible refine' CW.pow3 (by with_unfolding_all first | decide | omega) (by with_reducible assumption) ?_) | ((with_reducible refine (?_ : OW _ _ _ _)); with_reducible refine' OW.of (by with_reducible assumption) ?_) | (with_reducible first | refine' OW.add ?_ | refine' OW.addI ?_ | refine' OW.sub ?_ | refine' OW.and ?_ | refine' OW.ord ?_ | refine' OW.eq ?_ | refine' OW.ne ?_) | ((with_reducible refine (?_ : OW fMul _ _ _)); with_reducible refine' OW.mul (by first | with_reducible assumption | with_unfolding_all exact mulOk_sm (by omega) (by omega) | with_unfolding_all exact mulOk_bd (by repeat' kt_len) (by repeat' kt_len) (Nat.le_of_ble_eq_true rfl)) ?_) | ((with_reducible refine (?_ : OW fDiv _ _ _)); with_reducible refine' OW.div (by with_reducible assumption) ?_) | ((with_reducible refine (?_ : OW fMod _ _ _)); with_reducible refine' OW.mod (by first | with_reducible assumption | with_unfolding_all omega) ?_) | ((with_reducible refine (?_ : OW fPow _ _ _)); with_reducible refine' OW.pow (by with_reducible assumption) ?_) | (with_reducible first | refine' UW.neg ?_) | ((with_reducible refine (?_ : UW _ _ _)); with_reducible refine' UW.of (by with_reducible assumption) ?_) | (with_reducible first | refine' CW.max ?_ | refine' CW.range2 ?_) | ((with_reducible refine (?_ : CW _ _ _)); with_reducible refine' CW.fn (by with_unfolding_all (repeat (first | exact StartsAt.nil | apply StartsAt.cons | apply StartsAt.unb))) (by with_unfolding_all exact rfl) ?_) | (with_reducible first | refine' KK.use (by with_reducible assumption) ?_))
            refine ⟨k - 1, by omega, t + 1, ?_, by omega⟩
            have : pgR (t + 1) = pgR t := by rw [pgR, pgS, if_neg hf]
            rw [this, show (((t + 1 : Nat) : Int) + 2) = (t : Int) + 2 + 1 by omega]
        · intro x; rfl
    · have : t = L.toNat - 2 := by omega
      repeat' ((fail_if_success (with_reducible refine (?_ : @Eq _ _ _))); first | (with_reducible first | refine' CK.ret ?_ | refine' SK.next ?_ | refine' SK.ret ?_ | refine' SK.cont ?_ | refine' LK.next ?_ | refine' LK.cont ?_ | refine' RW.nil ?_ | refine' RW.seqK (fun K hK => ?_)) | ((with_reducible refine (?_ : RW _ _ _ _)); with_reducible refine' RW.lenOk (by with_unfolding_all exact rfl) ?_) | (with_reducible first | refine' SW.of ?_ | refine' PutAt.of ?_ ?_) | with_reducible exact SetR.z | (with_reducible first | refine' SetR.s3 ?_ | refine' SetR.s ?_) | (with_reducible refine (?_ : SetR _ (0 + 1) _ _)); refine SetR.s ?_ | ((with_reducible refine (?_ : RW _ _ _ _)); with_reducible refine' RW.retF (E := eVar _) (by with_unfolding_all exact rfl) ?_) | (with_reducible first | refine' RW.asg ?_ | refine' RW.ret ?_) | (fail_if_success (have : StopIf := by with_reducible assumption)); (with_reducible refine' RW.if ?_) | (with_reducible first | refine' RW.tup ?_ | refine' RW.for ?_ | refine' RW.while ?_ | refine' RW.new ?_) | ((with_reducible refine (?_ : RW _ _ _ _)); with_reducible refine' RW.app (by with_unfolding_all exact rfl) (by first | with_reducible assumption | with_unfolding_all exact Nat.le_of_ble_eq_true rfl) ?_) | ((with_reducible refine (?_ : RW _ _ _ _)); with_reducible refine' RW.aug (by with_unfolding_all exact rfl) ?_) | (with_reducible first | refine' TupK.two_t ?_ | refine' TupK.two_f ?_ | refine' TupK.four_f ?_ | refine' IfK.t ?_ | refine' IfK.f ?_) | (with_reducible refine' IfK.gd ?_; with_reducible refine' IfK.decT (by first | with_reducible assumption | with_unfolding_all omega) ?_) | (with_reducible refine' IfK.gd ?_; with_reducible refine' IfK.decF (by first | with_reducible assumption | with_unfolding_all omega) ?_) | (with_reducible first | refine' NotK.t ?_ | refine' NotK.f ?_ | refine' TruthK.bool ?_ | refine' TruthK.int ?_) | ((with_reducible refine (?_ : EW (eVar _) _ _)); with_reducible refine' EW.var (by with_unfolding_all exact rfl) ?_) | (with_reducible first | refine' EW.cst ?_ | refine' EW.e1 ?_ | refine' EW.e2 ?_ | refine' EW.call ?_ | refine' EW.tup ?_ | refine' EW.lst ?_ | refine' EW.or ?_ | refine' EW.e3c ?_ | refine' EW.comp ?_ | refine' EsW.nil ?_ | refine' EsW.cons ?_ | refine' TW.c ?_) | ((with_reducible refine (?_ : TpK _ _)); with_reducible refine' TpK.mk (by with_unfolding_all exact Nat.le_of_ble_eq_true rfl) ?_) | ((with_reducible refine (?_ : LsK _ _)); with_reducible refine' LsK.mk (by with_unfolding_all exact Nat.le_of_ble_eq_true rfl) ?_) | (with_reducible first | refine' TW.tOf ?_ | refine' TW.not ?_ | refine' TW.and ?_ | refine' TW.or ?_) | ((with_reducible refine (?_ : CW _ _ _)); with_reducible refine' CW.of (by with_reducible assumption) ?_) | ((with_reducible refine (?_ : CW fPow3 _ _)); with_reducible refine' CW.pow3 (by with_unfolding_all first | decide | omega) (by with_reducible assumption) ?_) | ((with_reducible refine (?_ : OW _ _ _ _)); with_reducible refine' OW.of (by with_reducible assumption) ?_) | (with_reducible first | refine' OW.add ?_ | refine' OW.addI ?_ | refine' OW.sub ?_ | refine' OW.and ?_ | refine' OW.ord ?_ | refine' OW.eq ?_ | refine' OW.ne ?_) | ((with_reducible refine (?_ : OW fMul _ _ _)); with_reducible refine' OW.mul (by first | with_reducible assumption | with_unfolding_all exact mulOk_sm (by omega) (by omega) | with_unfolding_all exact mulOk_bd (by repeat' kt_len) (by repeat' kt_len) (Nat.le_of_ble_eq_true rfl)) ?_) | ((with_reducible refine (?_ : OW fDiv _ _ _)); with_reducible refine' OW.div (by with_reducible assumption) ?_) | ((with_reducible refine (?_ : OW fMod _ _ _)); with_reducible refine' OW.mod (by first | with_reducible assumption | with_unfolding_all omega) ?_) | ((with_reducible refine (?_ : OW fPow _ _ _)); with_reducible refine' OW.pow (by with_reducible assumption) ?_) | (with_reducible first | refine' UW.neg ?_) | ((with_reducible refine (?_ : UW _ _ _)); with_reducible refine' UW.of (by with_reducible assumption) ?_) | (with_reducible first | refine' CW.max ?_ | refine' CW.range2 ?_) | ((with_reducible refine (?_ : CW _ _ _)); with_reducible refine' CW.fn (by with_unfolding_all (repeat (first | exact StartsAt.nil | apply StartsAt.cons | apply StartsAt.unb))) (by with_unfolding_all exact rfl) ?_) | (with_reducible first | refine' KK.use (by with_reducible assumption) ?_))
      rw [this]

theorem ok_ilog {I : GI} (hat : HatI I hd.view_39)  : ∃ d, (recsOf hd.view_39)[2]? = some d ∧ d.name = ("ilog" : Str) ∧ ∃ G, FunOK I 1 d.name G ∧
    ∀ (x b : Nat), x ≤ 100 → 2 ≤ b → b ≤ 100 → G [.int (x : Int), .int (b : Int)] = some (.int ((ilN x x b : Nat) : Int)) := by
  refine' ⟨_, rfl, rfl, _, FunOK.of 1000 (i := 2) (ns := ["x", "b", "l"]) (m := 2) hat rfl ⟨rfl, by decide, by decide⟩ (by decide) (fun pm cd doc => vs2 fun a b => rfl) rfl rfl ?h, ?g⟩
  case h =>
    dsimp only
    repeat' ((show (_ : Prop)); first | (with_reducible first | exact OpOK.add | exact OpOK.sub | exact OpOK.mul | exact OpOK.mod | exact OpOK.pow | exact OpOK.and | exact OpOK.lt | exact OpOK.le | exact OpOK.gt | exact OpOK.ge | exact OpOK.eq | exact OpOK.ne | exact OpOK.notIn | exact IOpOK.add | exact IOpOK.sub | exact IOpOK.mul | exact IOpOK.div | exact IOpOK.mod | exact EvOK.cint | exact EvOK.cbool | refine' EvOK.v (by with_unfolding_all exact rfl) (by with_unfolding_all exact rfl) (by with_unfolding_all exact rfl) (by with_unfolding_all exact rfl) | refine' EvOK.bin ?_ ?_ ?_ | refine' EvOK.cmp ?_ ?_ ?_ (by with_unfolding_all exact rfl) | refine' EvOK.neg ?_ | refine' EvOK.bool1 ?_ | refine' EvOK.or ?_ ?_ | refine' EvOK.tup ?_ | refine' EvOK.lst ?_ | refine' EvOK.call' (by with_unfolding_all exact rfl) (by with_unfolding_all exact rfl) (by with_unfolding_all exact rfl) (by with_unfolding_all exact fun _ => rfl) (by with_unfolding_all exact rfl) (by with_unfolding_all exact fun _ => ⟨_, _, rfl⟩) (by with_unfolding_all first | assumption | exact FunOK.le (by assumption) (by decide)) ?_ | refine' EvOK.gsub (by with_unfolding_all exact rfl) (by with_unfolding_all exact rfl) (by with_unfolding_all exact rfl) (by with_unfolding_all exact fun _ _ => rfl) (by with_unfolding_all assumption) ?_ | refine' EvOK.subs ?_ ?_ (by with_unfolding_all exact fun _ _ => rfl) | refine' EvOK.comp (by with_unfolding_all exact ⟨by decide, rfl, rfl, by decide, rfl, by decide, by decide⟩) ?_ ?_ ?_ (by with_unfolding_all exact fun _ _ => rfl) | exact EvsOK.nil | refine' EvsOK.cons ?_ ?_ (by with_unfolding_all exact fun _ => rfl) | refine' TestsOK.one ?_ | refine' TrOK.cmp ?_ ?_ ?_ (by with_unfolding_all exact rfl) | refine' TrOK.chain ?_ ?_ ?_ ?_ ?_ (by with_unfolding_all exact rfl) | refine' TrOK.not ?_ | exact TrOK.and0 | exact TrOK.or0 | refine' TrOK.and ?_ ?_ | refine' TrOK.or ?_ ?_ | refine' TrOK.plain ?_ (by with_unfolding_all exact fun _ _ => rfl) | exact RunOK.nil | refine' RunOK.cons ?_ ?_ | exact RunOK.cont | refine' RunOK.ret ?_ | refine' RunOK.ifS ?_ ?_ ?_ | refine' RunOK.whileS ?_ ?_ | refine' RunOK.new' (by with_unfolding_all exact rfl) (by with_unfolding_all exact fun _ => rfl) (by with_unfolding_all exact ⟨rfl, by decide, by decide⟩) ?_ | refine' RunOK.asg' (by with_unfolding_all exact rfl) (by with_unfolding_all exact fun _ => rfl) (by with_unfolding_all exact ⟨rfl, by decide, by decide⟩) ?_ | refine' RunOK.aug' (by with_unfolding_all exact rfl) (by with_unfolding_all exact ⟨rfl, by decide, by decide⟩) ?_ ?_ | refine' RunOK.forM' (by with_unfolding_all exact rfl) (by with_unfolding_all exact rfl) (by with_unfolding_all exact rfl) (by with_unfolding_all exact fun _ _ => rfl) (by with_unfolding_all exact ⟨rfl, by decide, by decide⟩) ?_ | refine' RunOK.for' (by with_unfolding_all exact rfl) (by with_unfolding_all exact fun _ _ => rfl) (by with_unfolding_all exact ⟨rfl, by decide, by decide⟩) ?_ ?_ | refine' RunOK.app' (by with_unfolding_all exact rfl) (by with_unfolding_all exact rfl) (by with_unfolding_all exact fun _ => rfl) (by with_unfolding_all exact fun _ => rfl) (by with_unfolding_all exact fun _ => rfl) (by with_unfolding_all exact ⟨rfl, by decide, by decide⟩) ?_ | refine' RunOK.tupS' (by with_unfolding_all first | exact .cons (.cons .nil) | exact .cons (.cons (.cons .nil)) | exact .cons (.cons (.cons (.cons .nil)))) (by with_unfolding_all exact fun env h => by cases env; cases h; rfl) (by with_unfolding_all exact rfl) (by with_unfolding_all exact fun _ => rfl) (by with_unfolding_all exact ⟨rfl, by decide, by decide⟩) ?_ | refine' RunOK.tupP' (by with_unfolding_all first | exact .cons (.cons .nil) | exact .cons (.cons (.cons .nil)) | exact .cons (.cons (.cons (.cons .nil)))) (by with_unfolding_all exact fun env h => by cases env; cases h; rfl) (by with_unfolding_all exact rfl) (by with_unfolding_all exact fun _ => rfl) (by with_unfolding_all exact ⟨rfl, by decide, by decide⟩) ?_))
  case g =>
    intro x b hx hb hb2
    refine CW.eq ?_
    repeat' ((fail_if_success (with_reducible refine (?_ : @Eq _ _ _))); first | (with_reducible first | refine' CK.ret ?_ | refine' SK.next ?_ | refine' SK.ret ?_ | refine' SK.cont ?_ | refine' LK.next ?_ | refine' LK.cont ?_ | refine' RW.nil ?_ | refine' RW.seqK (fun K hK => ?_)) | ((with_reducible refine (?_ : RW _ _ _ _)); with_reducible refine' RW.lenOk (by with_unfolding_all exact rfl) ?_) | (with_reducible first | refine' SW.of ?_ | refine' PutAt.of ?_ ?_) | with_reducible exact SetR.z | (with_reducible first | refine' SetR.s3 ?_ | refine' SetR.s ?_) | (with_reducible refine (?_ : SetR _ (0 + 1) _ _)); refine SetR.s ?_ | ((with_reducible refine (?_ : RW _ _ _ _)); with_reducible refine' RW.retF (E := eVar _) (by with_unfolding_all exact rfl) ?_) | (with_reducible first | refine' RW.asg ?_ | refine' RW.ret ?_) | (fail_if_success (have : StopIf := by with_reducible assumption)); (with_reducible refine' RW.if ?_) | (with_reducible first | refine' RW.tup ?_ | refine' RW.for ?_ | refine' RW.while ?_ | refine' RW.new ?_) | ((with_reducible refine (?_ : RW _ _ _ _)); with_reducible refine' RW.app (by with_unfolding_all exact rfl) (by first | with_reducible assumption | with_unfolding_all exact Nat.le_of_ble_eq_true rfl) ?_) | ((with_reducible refine (?_ : RW _ _ _ _)); with_reducible refine' RW.aug (by with_unfolding_all exact rfl) ?_) | (with_reducible first | refine' TupK.two_t ?_ | refine' TupK.two_f ?_ | refine' TupK.four_f ?_ | refine' IfK.t ?_ | refine' IfK.f ?_) | (with_reducible refine' IfK.gd ?_; with_reducible refine' IfK.decT (by first | with_reducible assumption | with_unfolding_all omega) ?_) | (with_reducible refine' IfK.gd ?_; with_reducible refine' IfK.decF (by first | with_reducible assumption | with_unfolding_all omega) ?_) | (with_reducible first | refine' NotK.t ?_ | refine' NotK.f ?_ | refine' TruthK.bool ?_ | refine' TruthK.int ?_) | ((with_reducible refine (?_ : EW (eVar _) _ _)); with_reducible refine' EW.var (by with_unfolding_all exact rfl) ?_) | (with_reducible first | refine' EW.cst ?_ | refine' EW.e1 ?_ | refine' EW.e2 ?_ | refine' EW.call ?_ | refine' EW.tup ?_ | refine' EW.lst ?_ | refine' EW.or ?_ | refine' EW.e3c ?_ | refine' EW.comp ?_ | refine' EsW.nil ?_ | refine' EsW.cons ?_ | refine' TW.c ?_) | ((with_reducible refine (?_ : TpK _ _)); with_reducible refine' TpK.mk (by with_unfolding_all exact Nat.le_of_ble_eq_true rfl) ?_) | ((with_reducible refine (?_ : LsK _ _)); with_reducible refine' LsK.mk (by with_unfolding_all exact Nat.le_of_ble_eq_true rfl) ?_) | (with_reducible first | refine' TW.tOf ?_ | refine' TW.not ?_ | refine' TW.and ?_ | refine' TW.or ?_) | ((with_reducible refine (?_ : CW _ _ _)); with_reducible refine' CW.of (by with_reducible assumption) ?_) | ((with_reducible refine (?_ : CW fPow3 _ _)); with_reducible refine' CW.pow3 (by with_unfolding_all first | decide | omega) (by with_reducible assumption) ?_) | ((with_reducible refine (?_ : OW _ _ _ _)); with_reducible refine' OW.of (by with_reducible assumption) ?_) | (with_reducible first | refine' OW.add ?_ | refine' OW.addI ?_ | refine' OW.sub ?_ | refine' OW.and ?_ | refine' OW.ord ?_ | refine' OW.eq ?_ | refine' OW.ne ?_) | ((with_reducible refine (?_ : OW fMul _ _ _)); with_reducible refine' OW.mul (by first | with_reducible assumption | with_unfolding_all exact mulOk_sm (by omega) (by omega) | with_unfolding_all exact mulOk_bd (by repeat' kt_len) (by repeat' kt_len) (Nat.le_of_ble_eq_true rfl)) ?_) | ((with_reducible refine (?_ : OW fDiv _ _ _)); with_reducible refine' OW.div (by with_reducible assumption) ?_) | ((with_reducible refine (?_ : OW fMod _ _ _)); with_reducible refine' OW.mod (by first | with_reducible assumption | with_unfolding_all omega) ?_) | ((with_reducible refine (?_ : OW fPow _ _ _)); with_reducible refine' OW.pow (by with_reducible assumption) ?_) | (with_reducible first | refine' UW.neg ?_) | ((with_reducible refine (?_ : UW _ _ _)); with_reducible refine' UW.of (by with_reducible assumption) ?_) | (with_reducible first | refine' CW.max ?_ | refine' CW.range2 ?_) | ((with_reducible refine (?_ : CW _ _ _)); with_reducible refine' CW.fn (by with_unfolding_all (repeat (first | exact StartsAt.nil | apply StartsAt.cons | apply StartsAt.unb))) (by with_unfolding_all exact rfl) ?_) | (with_reducible first | refine' KK.use (by with_reducible assumption) ?_))
    refine WW.inv (fun k σ => ∃ X l : Nat, σ = [.imm (.int (X : Int)), .imm (.int (b : Int)), .imm (.int (l : Int))] ∧ l + ilN k X b = ilN x x b ∧ X ≤ k) (k := x) ⟨x, 0, rfl, by omega, by omega⟩ (by omega) ?_
    rintro k σ ⟨X, l, rfl, he, hX⟩
    have dv : divOk (X : Int) (b : Int) = true := divOk_bd (n := 8) (by omega) (by
      unfold Bd
      have : (2 : Nat) ^ 8 = 256 := by decide
      omega) (by omega)
    have hb' : (X : Int).fdiv (b : Int) = ((X / b : Nat) : Int) := fdiv_nat X b
    by_cases c : b ≤ X
    · obtain ⟨u, rfl⟩ : ∃ u, k = u + 1 := ⟨k - 1, by omega⟩
      rw [ilN, if_pos c] at he
      have lt : X / b < X := Nat.div_lt_self (by omega) (by omega)
      repeat' ((fail_if_success (with_reducible refine (?_ : @Eq _ _ _))); first | (with_reducible first | refine' CK.ret ?_ | refine' SK.next ?_ | refine' SK.ret ?_ | refine' SK.cont ?_ | refine' LK.next ?_ | refine' LK.cont ?_ | refine' RW.nil ?_ | refine' RW.seqK (fun K hK => ?_)) | ((with_reducible refine (?_ : RW _ _ _ _)); with_reducible refine' RW.lenOk (by with_unfolding_all exact rfl) ?_) | (with_reducible first | refine' SW.of ?_ | refine' PutAt.of ?_ ?_) | with_reducible exact SetR.z | (with_reducible first | refine' SetR.s3 ?_ | refine' SetR.s ?_) | (with_reducible refine (?_ : SetR _ (0 + 1) _ _)); refine SetR.s ?_ | ((with_reducible refine (?_ : RW _ _ _ _)); with_reducible refine' RW.retF (E := eVar _) (by with_unfolding_all exact rfl) ?_) | (with_reducible first | refine' RW.asg ?_ | refine' RW.ret ?_) | (fail_if_success (have : StopIf := by with_reducible assumption)); (with_reducible refine' RW.if ?_) | (with_reducible first | refine' RW.tup ?_ | refine' RW.for ?_ | refine' RW.while ?_ | refine' RW.new ?_) | ((with_reducible refine (?_ : RW _ _ _ _)); with_reducible refine' RW.app (by with_unfolding_all exact rfl) (by first | with_reducible assumption | with_unfolding_all exact Nat.le_of_ble_eq_true rfl) ?_) | ((with_reducible refine (?_ : RW _ _ _ _)); with_reducible refine' RW.aug (by with_unfolding_all exact rfl) ?_) | (with_reducible first | refine' TupK.two_t ?_ | refine' TupK.two_f ?_ | refine' TupK.four_f ?_ | refine' IfK.t ?_ | refine' IfK.f ?_) | (with_reducible refine' IfK.gd ?_; with_reducible refine' IfK.decT (by first | with_reducible assumption | with_unfolding_all omega) ?_) | (with_reducible refine' IfK.gd ?_; with_reducible refine' IfK.decF (by first | with_reducible assumption | with_unfolding_all omega) ?_) | (with_reducible first | refine' NotK.t ?_ | refine' NotK.f ?_ | refine' TruthK.bool ?_ | refine' TruthK.int ?_) | ((with_reducible refine (?_ : EW (eVar _) _ _)); with_reducible refine' EW.var (by with_unfolding_all exact rfl) ?_) | (with_reducible first | refine' EW.cst ?_ | refine' EW.e1 ?_ | refine' EW.e2 ?_ | refine' EW.call ?_ | refine' EW.tup ?_ | refine' EW.lst ?_ | refine' EW.or ?_ | refine' EW.e3c ?_ | refine' EW.comp ?_ | refine' EsW.nil ?_ | refine' EsW.cons ?_ | refine' TW.c ?_) | ((with_reducible refine (?_ : TpK _ _)); with_reducible refine' TpK.mk (by with_unfolding_all exact Nat.le_of_ble_eq_true rfl) ?_) | ((with_reducible refine (?_ : LsK _ _)); with_reducible refine' LsK.mk (by with_unfolding_all exact Nat.le_of_ble_eq_true rfl) ?_) | (with_reducible first | refine' TW.tOf ?_ | refine' TW.not ?_ | refine' TW.and ?_ | refine' TW.or ?_) | ((with_reducible refine (?_ : CW _ _ _)); with_reducible refine' CW.of (by with_reducible assumption) ?_) | ((with_reducible refine (?_ : CW fPow3 _ _)); with_reducible refine' CW.pow3 (by with_unfolding_all first | decide | omega) (by with_reducible assumption) ?_) | ((with_reducible refine (?_ : OW _ _ _ _)); with_reducible refine' OW.of (by with_reducible assumption) ?_) | (with_reducible first | refine' OW.add ?_ | refine' OW.addI ?_ | refine' OW.sub ?_ | refine' OW.and ?_ | refine' OW.ord ?_ | refine' OW.eq ?_ | refine' OW.ne ?_) | ((with_reducible refine (?_ : OW fMul _ _ _)); with_reducible refine' OW.mul (by first | with_reducible assumption | with_unfolding_all exact mulOk_sm (by omega) (by omega) | with_unfolding_all exact mulOk_bd (by repeat' kt_len) (by repeat' kt_len) (Nat.le_of_ble_eq_true rfl)) ?_) | ((with_reducible refine (?_ : OW fDiv _ _ _)); with_reducible refine' OW.div (by with_reducible assumption) ?_) | ((with_reducible refine (?_ : OW fMod _ _ _)); with_reducible refine' OW.mod (by first | with_reducible assumption | with_unfolding_all omega) ?_) | ((with_reducible refine (?_ : OW fPow _ _ _)); with_reducible refine' OW.pow (by with_reducible assumption) ?_) | (with_reducible first | refine' UW.neg ?_) | ((with_reducible refine (?_ : UW _ _ _)); with_reducible refine' UW.of (by with_reducible assumption) ?_) | (with_reducible first | refine' CW.max ?_ | refine' CW.range2 ?_) | ((with_reducible refine (?_ : CW _ _ _)); with_reducible refine' CW.fn (by with_unfolding_all (repeat (first | exact StartsAt.nil | apply StartsAt.cons | apply StartsAt.unb))) (by with_unfolding_all exact rfl) ?_) | (with_reducible first | refine' KK.use (by with_reducible assumption) ?_))
      rw [hb']
      exact ⟨u, by omega, X / b, l + 1, rfl, by omega, by omega⟩
    · have he' : l = ilN x x b := by
        cases k with
        | zero => exact he
        | succ k => rw [ilN, if_neg c] at he; exact he
      repeat' ((fail_if_success (with_reducible refine (?_ : @Eq _ _ _))); first | (with_reducible first | refine' CK.ret ?_ | refine' SK.next ?_ | refine' SK.ret ?_ | refine' SK.cont ?_ | refine' LK.next ?_ | refine' LK.cont ?_ | refine' RW.nil ?_ | refine' RW.seqK (fun K hK => ?_)) | ((with_reducible refine (?_ : RW _ _ _ _)); with_reducible refine' RW.lenOk (by with_unfolding_all exact rfl) ?_) | (with_reducible first | refine' SW.of ?_ | refine' PutAt.of ?_ ?_) | with_reducible exact SetR.z | (with_reducible first | refine' SetR.s3 ?_ | refine' SetR.s ?_) | (with_reducible refine (?_ : SetR _ (0 + 1) _ _)); refine SetR.s ?_ | ((with_reducible refine (?_ : RW _ _ _ _)); with_reducible refine' RW.retF (E := eVar _) (by with_unfolding_all exact rfl) ?_) | (with_reducible first | refine' RW.asg ?_ | refine' RW.ret ?_) | (fail_if_success (have : StopIf := by with_reducible assumption)); (with_reducible refine' RW.if ?_) | (with_reducible first | refine' RW.tup ?_ | refine' RW.for ?_ | refine' RW.while ?_ | refine' RW.new ?_) | ((with_reducible refine (?_ : RW _ _ _ _)); with_reducible refine' RW.app (by with_unfolding_all exact rfl) (by first | with_reducible assumption | with_unfolding_all exact Nat.le_of_ble_eq_true rfl) ?_) | ((with_reducible refine (?_ : RW _ _ _ _)); with_reducible refine' RW.aug (by with_unfolding_all exact rfl) ?_) | (with_reducible first | refine' TupK.two_t ?_ | refine' TupK.two_f ?_ | refine' TupK.four_f ?_ | refine' IfK.t ?_ | refine' IfK.f ?_) | (with_reducible refine' IfK.gd ?_; with_reducible refine' IfK.decT (by first | with_reducible assumption | with_unfolding_all omega) ?_) | (with_reducible refine' IfK.gd ?_; with_reducible refine' IfK.decF (by first | with_reducible assumption | with_unfolding_all omega) ?_) | (with_reducible first | refine' NotK.t ?_ | refine' NotK.f ?_ | refine' TruthK.bool ?_ | refine' TruthK.int ?_) | ((with_reducible refine (?_ : EW (eVar _) _ _)); with_reducible refine' EW.var (by with_unfolding_all exact rfl) ?_) | (with_reducible first | refine' EW.cst ?_ | refine' EW.e1 ?_ | refine' EW.e2 ?_ | refine' EW.call ?_ | refine' EW.tup ?_ | refine' EW.lst ?_ | refine' EW.or ?_ | refine' EW.e3c ?_ | refine' EW.comp ?_ | refine' EsW.nil ?_ | refine' EsW.cons ?_ | refine' TW.c ?_) | ((with_reducible refine (?_ : TpK _ _)); with_reducible refine' TpK.mk (by with_unfolding_all exact Nat.le_of_ble_eq_true rfl) ?_) | ((with_reducible refine (?_ : LsK _ _)); with_reducible refine' LsK.mk (by with_unfolding_all exact Nat.le_of_ble_eq_true rfl) ?_) | (with_reducible first | refine' TW.tOf ?_ | refine' TW.not ?_ | refine' TW.and ?_ | refine' TW.or ?_) | ((with_reducible refine (?_ : CW _ _ _)); with_reducible refine' CW.of (by with_reducible assumption) ?_) | ((with_reducible refine (?_ : CW fPow3 _ _)); with_reducible refine' CW.pow3 (by with_unfolding_all first | decide | omega) (by with_reducible assumption) ?_) | ((with_reducible refine (?_ : OW _ _ _ _)); with_reducible refine' OW.of (by with_reducible assumption) ?_) | (with_reducible first | refine' OW.add ?_ | refine' OW.addI ?_ | refine' OW.sub ?_ | refine' OW.and ?_ | refine' OW.ord ?_ | refine' OW.eq ?_ | refine' OW.ne ?_) | ((with_reducible refine (?_ : OW fMul _ _ _)); with_reducible refine' OW.mul (by first | with_reducible assumption | with_unfolding_all exact mulOk_sm (by omega) (by omega) | with_unfolding_all exact mulOk_bd (by repeat' kt_len) (by repeat' kt_len) (Nat.le_of_ble_eq_true rfl)) ?_) | ((with_reducible refine (?_ : OW fDiv _ _ _)); with_reducible refine' OW.div (by with_reducible assumption) ?_) | ((with_reducible refine (?_ : OW fMod _ _ _)); with_reducible refine' OW.mod (by first | with_reducible assumption | with_unfolding_all omega) ?_) | ((with_reducible refine (?_ : OW fPow _ _ _)); with_reducible refine' OW.pow (by with_reducible assumption) ?_) | (with_reducible first | refine' UW.neg ?_) | ((with_reducible refine (?_ : UW _ _ _)); with_reducible refine' UW.of (by with_reducible assumption) ?_) | (with_reducible first | refine' CW.max ?_ | refine' CW.range2 ?_) | ((with_reducible refine (?_ : CW _ _ _)); with_reducible refine' CW.fn (by with_unfolding_all (repeat (first | exact StartsAt.nil | apply StartsAt.cons | apply StartsAt.unb))) (by with_unfolding_all exact rfl) ?_) | (with_reducible first | refine' KK.use (by with_reducible assumption) ?_))
      rw [he']

theorem ok_ecadd {I : GI} (hat : HatI I hd.view_39) (hpow : FunOK I 0 ("pow" : Str) fPow3) : ∃ d, (recsOf hd.view_39)[3]? = some d ∧ d.name = ("ecadd" : Str) ∧ ∃ G, FunOK I 1 d.name G ∧
    ∀ (P Q R : Int × Int) (n : Int), n ≠ 0 → Bd 2000 n → Bd2 2000 P → Bd2 2000 Q → Bd2 2000 R → G [prD P, prD Q, prD R, .int n] = some (prD (addI P Q R n)) := by
  refine' ⟨_, rfl, rfl, _, FunOK.of 1000 (i := 3) (ns := ["p1", "p2", "p0", "n", "x1", "z1", "x2", "z2", "x0", "z0", "t1", "t2"]) (m := 4) hat rfl ⟨rfl, by decide, by decide⟩ (by decide) (fun pm cd doc => vs4 fun a b c d => rfl) rfl rfl ?h, ?g⟩
  case h =>
    dsimp only
    repeat' ((show (_ : Prop)); first | (with_reducible first | exact OpOK.add | exact OpOK.sub | exact OpOK.mul | exact OpOK.mod | exact OpOK.pow | exact OpOK.and | exact OpOK.lt | exact OpOK.le | exact OpOK.gt | exact OpOK.ge | exact OpOK.eq | exact OpOK.ne | exact OpOK.notIn | exact IOpOK.add | exact IOpOK.sub | exact IOpOK.mul | exact IOpOK.div | exact IOpOK.mod | exact EvOK.cint | exact EvOK.cbool | refine' EvOK.v (by with_unfolding_all exact rfl) (by with_unfolding_all exact rfl) (by with_unfolding_all exact rfl) (by with_unfolding_all exact rfl) | refine' EvOK.bin ?_ ?_ ?_ | refine' EvOK.cmp ?_ ?_ ?_ (by with_unfolding_all exact rfl) | refine' EvOK.neg ?_ | refine' EvOK.bool1 ?_ | refine' EvOK.or ?_ ?_ | refine' EvOK.tup ?_ | refine' EvOK.lst ?_ | refine' EvOK.call' (by with_unfolding_all exact rfl) (by with_unfolding_all exact rfl) (by with_unfolding_all exact rfl) (by with_unfolding_all exact fun _ => rfl) (by with_unfolding_all exact rfl) (by with_unfolding_all exact fun _ => ⟨_, _, rfl⟩) (by with_unfolding_all first | assumption | exact FunOK.le (by assumption) (by decide)) ?_ | refine' EvOK.gsub (by with_unfolding_all exact rfl) (by with_unfolding_all exact rfl) (by with_unfolding_all exact rfl) (by with_unfolding_all exact fun _ _ => rfl) (by with_unfolding_all assumption) ?_ | refine' EvOK.subs ?_ ?_ (by with_unfolding_all exact fun _ _ => rfl) | refine' EvOK.comp (by with_unfolding_all exact ⟨by decide, rfl, rfl, by decide, rfl, by decide, by decide⟩) ?_ ?_ ?_ (by with_unfolding_all exact fun _ _ => rfl) | exact EvsOK.nil | refine' EvsOK.cons ?_ ?_ (by with_unfolding_all exact fun _ => rfl) | refine' TestsOK.one ?_ | refine' TrOK.cmp ?_ ?_ ?_ (by with_unfolding_all exact rfl) | refine' TrOK.chain ?_ ?_ ?_ ?_ ?_ (by with_unfolding_all exact rfl) | refine' TrOK.not ?_ | exact TrOK.and0 | exact TrOK.or0 | refine' TrOK.and ?_ ?_ | refine' TrOK.or ?_ ?_ | refine' TrOK.plain ?_ (by with_unfolding_all exact fun _ _ => rfl) | exact RunOK.nil | refine' RunOK.cons ?_ ?_ | exact RunOK.cont | refine' RunOK.ret ?_ | refine' RunOK.ifS ?_ ?_ ?_ | refine' RunOK.whileS ?_ ?_ | refine' RunOK.new' (by with_unfolding_all exact rfl) (by with_unfolding_all exact fun _ => rfl) (by with_unfolding_all exact ⟨rfl, by decide, by decide⟩) ?_ | refine' RunOK.asg' (by with_unfolding_all exact rfl) (by with_unfolding_all exact fun _ => rfl) (by with_unfolding_all exact ⟨rfl, by decide, by decide⟩) ?_ | refine' RunOK.aug' (by with_unfolding_all exact rfl) (by with_unfolding_all exact ⟨rfl, by decide, by decide⟩) ?_ ?_ | refine' RunOK.forM' (by with_unfolding_all exact rfl) (by with_unfolding_all exact rfl) (by with_unfolding_all exact rfl) (by with_unfolding_all exact fun _ _ => rfl) (by with_unfolding_all exact ⟨rfl, by decide, by decide⟩) ?_ | refine' RunOK.for' (by with_unfolding_all exact rfl) (by with_unfolding_all exact fun _ _ => rfl) (by with_unfolding_all exact ⟨rfl, by decide, by decide⟩) ?_ ?_ | refine' RunOK.app' (by with_unfolding_all exact rfl) (by with_unfolding_all exact rfl) (by with_unfolding_all exact fun _ => rfl) (by with_unfolding_all exact fun _ => rfl) (by with_unfolding_all exact fun _ => rfl) (by with_unfolding_all exact ⟨rfl, by decide, by decide⟩) ?_ | refine' RunOK.tupS' (by with_unfolding_all first | exact .cons (.cons .nil) | exact .cons (.cons (.cons .nil)) | exact .cons (.cons (.cons (.cons .nil)))) (by with_unfolding_all exact fun env h => by cases env; cases h; rfl) (by with_unfolding_all exact rfl) (by with_unfolding_all exact fun _ => rfl) (by with_unfolding_all exact ⟨rfl, by decide, by decide⟩) ?_ | refine' RunOK.tupP' (by with_unfolding_all first | exact .cons (.cons .nil) | exact .cons (.cons (.cons .nil)) | exact .cons (.cons (.cons (.cons .nil)))) (by with_unfolding_all exact fun env h => by cases env; cases h; rfl) (by with_unfolding_all exact rfl) (by with_unfolding_all exact fun _ => rfl) (by with_unfolding_all exact ⟨rfl, by decide, by decide⟩) ?_))
  case g =>
    rintro ⟨x1, z1⟩ ⟨x2, z2⟩ ⟨x0, z0⟩ n h0 hn ⟨a1, a2⟩ ⟨b1, b2⟩ ⟨c1, c2⟩
    simp only at a1 a2 b1 b2 c1 c2
    refine CW.eq ?_
    unfold prD
    repeat' ((fail_if_success (with_reducible refine (?_ : @Eq _ _ _))); first | (with_reducible first | refine' CK.ret ?_ | refine' SK.next ?_ | refine' SK.ret ?_ | refine' SK.cont ?_ | refine' LK.next ?_ | refine' LK.cont ?_ | refine' RW.nil ?_ | refine' RW.seqK (fun K hK => ?_)) | ((with_reducible refine (?_ : RW _ _ _ _)); with_reducible refine' RW.lenOk (by with_unfolding_all exact rfl) ?_) | (with_reducible first | refine' SW.of ?_ | refine' PutAt.of ?_ ?_) | with_reducible exact SetR.z | (with_reducible first | refine' SetR.s3 ?_ | refine' SetR.s ?_) | (with_reducible refine (?_ : SetR _ (0 + 1) _ _)); refine SetR.s ?_ | ((with_reducible refine (?_ : RW _ _ _ _)); with_reducible refine' RW.retF (E := eVar _) (by with_unfolding_all exact rfl) ?_) | (with_reducible first | refine' RW.asg ?_ | refine' RW.ret ?_) | (fail_if_success (have : StopIf := by with_reducible assumption)); (with_reducible refine' RW.if ?_) | (with_reducible first | refine' RW.tup ?_ | refine' RW.for ?_ | refine' RW.while ?_ | refine' RW.new ?_) | ((with_reducible refine (?_ : RW _ _ _ _)); with_reducible refine' RW.app (by with_unfolding_all exact rfl) (by first | with_reducible assumption | with_unfolding_all exact Nat.le_of_ble_eq_true rfl) ?_) | ((with_reducible refine (?_ : RW _ _ _ _)); with_reducible refine' RW.aug (by with_unfolding_all exact rfl) ?_) | (with_reducible first | refine' TupK.two_t ?_ | refine' TupK.two_f ?_ | refine' TupK.four_f ?_ | refine' IfK.t ?_ | refine' IfK.f ?_) | (with_reducible refine' IfK.gd ?_; with_reducible refine' IfK.decT (by first | with_reducible assumption | with_unfolding_all omega) ?_) | (with_reducible refine' IfK.gd ?_; with_reducible refine' IfK.decF (by first | with_reducible assumption | with_unfolding_all omega) ?_) | (with_reducible first | refine' NotK.t ?_ | refine' NotK.f ?_ | refine' TruthK.bool ?_ | refine' TruthK.int ?_) | ((with_reducible refine (?_ : EW (eVar _) _ _)); with_reducible refine' EW.var (by with_unfolding_all exact rfl) ?_) | (with_reducible first | refine' EW.cst ?_ | refine' EW.e1 ?_ | refine' EW.e2 ?_ | refine' EW.call ?_ | refine' EW.tup ?_ | refine' EW.lst ?_ | refine' EW.or ?_ | refine' EW.e3c ?_ | refine' EW.comp ?_ | refine' EsW.nil ?_ | refine' EsW.cons ?_ | refine' TW.c ?_) | ((with_reducible refine (?_ : TpK _ _)); with_reducible refine' TpK.mk (by with_unfolding_all exact Nat.le_of_ble_eq_true rfl) ?_) | ((with_reducible refine (?_ : LsK _ _)); with_reducible refine' LsK.mk (by with_unfolding_all exact Nat.le_of_ble_eq_true rfl) ?_) | (with_reducible first | refine' TW.tOf ?_ | refine' TW.not ?_ | refine' TW.and ?_ | refine' TW.or ?_) | ((with_reducible refine (?_ : CW _ _ _)); with_reducible refine' CW.of (by with_reducible assumption) ?_) | ((with_reducible refine (?_ : CW fPow3 _ _)); with_reducible refine' CW.pow3 (by with_unfolding_all first | decide | omega) (by with_reducible assumption) ?_) | ((with_reducible refine (?_ : OW _ _ _ _)); with_reducible refine' OW.of (by with_reducible assumption) ?_) | (with_reducible first | refine' OW.add ?_ | refine' OW.addI ?_ | refine' OW.sub ?_ | refine' OW.and ?_ | refine' OW.ord ?_ | refine' OW.eq ?_ | refine' OW.ne ?_) | ((with_reducible refine (?_ : OW fMul _ _ _)); with_reducible refine' OW.mul (by first | with_reducible assumption | with_unfolding_all exact mulOk_sm (by omega) (by omega) | with_unfolding_all exact mulOk_bd (by repeat' kt_len) (by repeat' kt_len) (Nat.le_of_ble_eq_true rfl)) ?_) | ((with_reducible refine (?_ : OW fDiv _ _ _)); with_reducible refine' OW.div (by with_reducible assumption) ?_) | ((with_reducible refine (?_ : OW fMod _ _ _)); with_reducible refine' OW.mod (by first | with_reducible assumption | with_unfolding_all omega) ?_) | ((with_reducible refine (?_ : OW fPow _ _ _)); with_reducible refine' OW.pow (by with_reducible assumption) ?_) | (with_reducible first | refine' UW.neg ?_) | ((with_reducible refine (?_ : UW _ _ _)); with_reducible refine' UW.of (by with_reducible assumption) ?_) | (with_reducible first | refine' CW.max ?_ | refine' CW.range2 ?_) | ((with_reducible refine (?_ : CW _ _ _)); with_reducible refine' CW.fn (by with_unfolding_all (repeat (first | exact StartsAt.nil | apply StartsAt.cons | apply StartsAt.unb))) (by with_unfolding_all exact rfl) ?_) | (with_reducible first | refine' KK.use (by with_reducible assumption) ?_))
    rfl

theorem ok_ecdub {I : GI} (hat : HatI I hd.view_39) (hpow : FunOK I 0 ("pow" : Str) fPow3) : ∃ d, (recsOf hd.view_39)[4]? = some d ∧ d.name = ("ecdub" : Str) ∧ ∃ G, FunOK I 1 d.name G ∧
    ∀ (P A : Int × Int) (n : Int), n ≠ 0 → Bd 2000 n → Bd2 2000 P → Bd2 2000 A → G [prD P, prD A, .int n] = some (prD (dubI P A n)) := by
  refine' ⟨_, rfl, rfl, _, FunOK.of 1000 (i := 4) (ns := ["p", "A", "n", "x", "z", "An", "Ad", "t1", "t2", "t"]) (m := 3) hat rfl ⟨rfl, by decide, by decide⟩ (by decide) (fun pm cd doc => vs3 fun a b c => rfl) rfl rfl ?h, ?g⟩
  case h =>
    dsimp only
    repeat' ((show (_ : Prop)); first | (with_reducible first | exact OpOK.add | exact OpOK.sub | exact OpOK.mul | exact OpOK.mod | exact OpOK.pow | exact OpOK.and | exact OpOK.lt | exact OpOK.le | exact OpOK.gt | exact OpOK.ge | exact OpOK.eq | exact OpOK.ne | exact OpOK.notIn | exact IOpOK.add | exact IOpOK.sub | exact IOpOK.mul | exact IOpOK.div | exact IOpOK.mod | exact EvOK.cint | exact EvOK.cbool | refine' EvOK.v (by with_unfolding_all exact rfl) (by with_unfolding_all exact rfl) (by with_unfolding_all exact rfl) (by with_unfolding_all exact rfl) | refine' EvOK.bin ?_ ?_ ?_ | refine' EvOK.cmp ?_ ?_ ?_ (by with_unfolding_all exact rfl) | refine' EvOK.neg ?_ | refine' EvOK.bool1 ?_ | refine' EvOK.or ?_ ?_ | refine' EvOK.tup ?_ | refine' EvOK.lst ?_ | refine' EvOK.call' (by with_unfolding_all exact rfl) (by with_unfolding_all exact rfl) (by with_unfolding_all exact rfl) (by with_unfolding_all exact fun _ => rfl) (by with_unfolding_all exact rfl) (by with_unfolding_all exact fun _ => ⟨_, _, rfl⟩) (by with_unfolding_all first | assumption | exact FunOK.le (by assumption) (by decide)) ?_ | refine' EvOK.gsub (by with_unfolding_all exact rfl) (by with_unfolding_all exact rfl) (by with_unfolding_all exact rfl) (by with_unfolding_all exact fun _ _ => rfl) (by with_unfolding_all assumption) ?_ | refine' EvOK.subs ?_ ?_ (by with_unfolding_all exact fun _ _ => rfl) | refine' EvOK.comp (by with_unfolding_all exact ⟨by decide, rfl, rfl, by decide, rfl, by decide, by decide⟩) ?_ ?_ ?_ (by with_unfolding_all exact fun _ _ => rfl) | exact EvsOK.nil | refine' EvsOK.cons ?_ ?_ (by with_unfolding_all exact fun _ => rfl) | refine' TestsOK.one ?_ | refine' TrOK.cmp ?_ ?_ ?_ (by with_unfolding_all exact rfl) | refine' TrOK.chain ?_ ?_ ?_ ?_ ?_ (by with_unfolding_all exact rfl) | refine' TrOK.not ?_ | exact TrOK.and0 | exact TrOK.or0 | refine' TrOK.and ?_ ?_ | refine' TrOK.or ?_ ?_ | refine' TrOK.plain ?_ (by with_unfolding_all exact fun _ _ => rfl) | exact RunOK.nil | refine' RunOK.cons ?_ ?_ | exact RunOK.cont | refine' RunOK.ret ?_ | refine' RunOK.ifS ?_ ?_ ?_ | refine' RunOK.whileS ?_ ?_ | refine' RunOK.new' (by with_unfolding_all exact rfl) (by with_unfolding_all exact fun _ => rfl) (by with_unfolding_all exact ⟨rfl, by decide, by decide⟩) ?_ | refine' RunOK.asg' (by with_unfolding_all exact rfl) (by with_unfolding_all exact fun _ => rfl) (by with_unfolding_all exact ⟨rfl, by decide, by decide⟩) ?_ | refine' RunOK.aug' (by with_unfolding_all exact rfl) (by with_unfolding_all exact ⟨rfl, by decide, by decide⟩) ?_ ?_ | refine' RunOK.forM' (by with_unfolding_all exact rfl) (by with_unfolding_all exact rfl) (by with_unfolding_all exact rfl) (by with_unfolding_all exact fun _ _ => rfl) (by with_unfolding_all exact ⟨rfl, by decide, by decide⟩) ?_ | refine' RunOK.for' (by with_unfolding_all exact rfl) (by with_unfolding_all exact fun _ _ => rfl) (by with_unfolding_all exact ⟨rfl, by decide, by decide⟩) ?_ ?_ | refine' RunOK.app' (by with_unfolding_all exact rfl) (by with_unfolding_all exact rfl) (by with_unfolding_all exact fun _ => rfl) (by with_unfolding_all exact fun _ => rfl) (by with_unfolding_all exact fun _ => rfl) (by with_unfolding_all exact ⟨rfl, by decide, by decide⟩) ?_ | refine' RunOK.tupS' (by with_unfolding_all first | exact .cons (.cons .nil) | exact .cons (.cons (.cons .nil)) | exact .cons (.cons (.cons (.cons .nil)))) (by with_unfolding_all exact fun env h => by cases env; cases h; rfl) (by with_unfolding_all exact rfl) (by with_unfolding_all exact fun _ => rfl) (by with_unfolding_all exact ⟨rfl, by decide, by decide⟩) ?_ | refine' RunOK.tupP' (by with_unfolding_all first | exact .cons (.cons .nil) | exact .cons (.cons (.cons .nil)) | exact .cons (.cons (.cons (.cons .nil)))) (by with_unfolding_all exact fun env h => by cases env; cases h; rfl) (by with_unfolding_all exact rfl) (by with_unfolding_all exact fun _ => rfl) (by with_unfolding_all exact ⟨rfl, by decide, by decide⟩) ?_))
  case g =>
    rintro ⟨x, z⟩ ⟨An, Ad⟩ n h0 hn ⟨a1, a2⟩ ⟨b1, b2⟩
    simp only at a1 a2 b1 b2
    refine CW.eq ?_
    unfold prD
    repeat' ((fail_if_success (with_reducible refine (?_ : @Eq _ _ _))); first | (with_reducible first | refine' CK.ret ?_ | refine' SK.next ?_ | refine' SK.ret ?_ | refine' SK.cont ?_ | refine' LK.next ?_ | refine' LK.cont ?_ | refine' RW.nil ?_ | refine' RW.seqK (fun K hK => ?_)) | ((with_reducible refine (?_ : RW _ _ _ _)); with_reducible refine' RW.lenOk (by with_unfolding_all exact rfl) ?_) | (with_reducible first | refine' SW.of ?_ | refine' PutAt.of ?_ ?_) | with_reducible exact SetR.z | (with_reducible first | refine' SetR.s3 ?_ | refine' SetR.s ?_) | (with_reducible refine (?_ : SetR _ (0 + 1) _ _)); refine SetR.s ?_ | ((with_reducible refine (?_ : RW _ _ _ _)); with_reducible refine' RW.retF (E := eVar _) (by with_unfolding_all exact rfl) ?_) | (with_reducible first | refine' RW.asg ?_ | refine' RW.ret ?_) | (fail_if_success (have : StopIf := by with_reducible assumption)); (with_reducible refine' RW.if ?_) | (with_reducible first | refine' RW.tup ?_ | refine' RW.for ?_ | refine' RW.while ?_ | refine' RW.new ?_) | ((with_reducible refine (?_ : RW _ _ _ _)); with_reducible refine' RW.app (by with_unfolding_all exact rfl) (by first | with_reducible assumption | with_unfolding_all exact Nat.le_of_ble_eq_true rfl) ?_) | ((with_reducible refine (?_ : RW _ _ _ _)); with_reducible refine' RW.aug (by with_unfolding_all exact rfl) ?_) | (with_reducible first | refine' TupK.two_t ?_ | refine' TupK.two_f ?_ | refine' TupK.four_f ?_ | refine' IfK.t ?_ | refine' IfK.f ?_) | (with_reducible refine' IfK.gd ?_; with_reducible refine' IfK.decT (by first | with_reducible assumption | with_unfolding_all omega) ?_) | (with_reducible refine' IfK.gd ?_; with_reducible refine' IfK.decF (by first | with_reducible assumption | with_unfolding_all omega) ?_) | (with_reducible first | refine' NotK.t ?_ | refine' NotK.f ?_ | refine' TruthK.bool ?_ | refine' TruthK.int ?_) | ((with_reducible refine (?_ : EW (eVar _) _ _)); with_reducible refine' EW.var (by with_unfolding_all exact rfl) ?_) | (with_reducible first | refine' EW.cst ?_ | refine' EW.e1 ?_ | refine' EW.e2 ?_ | refine' EW.call ?_ | refine' EW.tup ?_ | refine' EW.lst ?_ | refine' EW.or ?_ | refine' EW.e3c ?_ | refine' EW.comp ?_ | refine' EsW.nil ?_ | refine' EsW.cons ?_ | refine' TW.c ?_) | ((with_reducible refine (?_ : TpK _ _)); with_reducible refine' TpK.mk (by with_unfolding_all exact Nat.le_of_ble_eq_true rfl) ?_) | ((with_reducible refine (?_ : LsK _ _)); with_reducible refine' LsK.mk (by with_unfolding_all exact Nat.le_of_ble_eq_true rfl) ?_) | (with_reducible first | refine' TW.tOf ?_ | refine' TW.not ?_ | refine' TW.and ?_ | refine' TW.or ?_) | ((with_reducible refine (?_ : CW _ _ _)); with_reducible refine' CW.of (by with_reducible assumption) ?_) | ((with_reducible refine (?_ : CW fPow3 _ _)); with_reducible refine' CW.pow3 (by with_unfolding_all first | decide | omega) (by with_reducible assumption) ?_) | ((with_reducible refine (?_ : OW _ _ _ _)); with_reducible refine' OW.of (by with_reducible assumption) ?_) | (with_reducible first | refine' OW.add ?_ | refine' OW.addI ?_ | refine' OW.sub ?_ | refine' OW.and ?_ | refine' OW.ord ?_ | refine' OW.eq ?_ | refine' OW.ne ?_) | ((with_reducible refine (?_ : OW fMul _ _ _)); with_reducible refine' OW.mul (by first | with_reducible assumption | with_unfolding_all exact mulOk_sm (by omega) (by omega) | with_unfolding_all exact mulOk_bd (by repeat' kt_len) (by repeat' kt_len) (Nat.le_of_ble_eq_true rfl)) ?_) | ((with_reducible refine (?_ : OW fDiv _ _ _)); with_reducible refine' OW.div (by with_reducible assumption) ?_) | ((with_reducible refine (?_ : OW fMod _ _ _)); with_reducible refine' OW.mod (by first | with_reducible assumption | with_unfolding_all omega) ?_) | ((with_reducible refine (?_ : OW fPow _ _ _)); with_reducible refine' OW.pow (by with_reducible assumption) ?_) | (with_reducible first | refine' UW.neg ?_) | ((with_reducible refine (?_ : UW _ _ _)); with_reducible refine' UW.of (by with_reducible assumption) ?_) | (with_reducible first | refine' CW.max ?_ | refine' CW.range2 ?_) | ((with_reducible refine (?_ : CW _ _ _)); with_reducible refine' CW.fn (by with_unfolding_all (repeat (first | exact StartsAt.nil | apply StartsAt.cons | apply StartsAt.unb))) (by with_unfolding_all exact rfl) ?_) | (with_reducible first | refine' KK.use (by with_reducible assumption) ?_))
    rfl

theorem ok_ecmul {I : GI} (hat : HatI I hd.view_39) (hpow : FunOK I 0 ("pow" : Str) fPow3) {f0 f1 : List D → Option D} (h0 : FunOK I 1 ("ecadd" : Str) f0) (h1 : FunOK I 1 ("ecdub" : Str) f1) (s0 : ∀ (P Q R : Int × Int) (n : Int), n ≠ 0 → Bd 2000 n → Bd2 2000 P → Bd2 2000 Q → Bd2 2000 R → f0 [prD P, prD Q, prD R, .int n] = some (prD (addI P Q R n))) (s1 : ∀ (P A : Int × Int) (n : Int), n ≠ 0 → Bd 2000 n → Bd2 2000 P → Bd2 2000 A → f1 [prD P, prD A, .int n] = some (prD (dubI P A n))) : ∃ d, (recsOf hd.view_39)[5]? = some d ∧ d.name = ("ecmul" : Str) ∧ ∃ G, FunOK I 2 d.name G ∧
    ∀ (m : Int) (P A : Int × Int) (n : Int), n ≠ 0 → Bd 2000 n → Bd2 2000 P → Bd2 2000 A → (m = 0 → G [.int m, prD P, prD A, .int n] = some (prD (0, 0))) ∧ (m < 0 ∨ m = 1 → G [.int m, prD P, prD A, .int n] = some (prD P)) ∧ (m = 2 → G [.int m, prD P, prD A, .int n] = some (prD (dubI P A n))) ∧ (∀ J : Nat, J ≤ 900 → (2 : Int) ^ (J + 1) < m → m ≤ 2 ^ (J + 2) → G [.int m, prD P, prD A, .int n] = some (prD (ladI P A n m.toNat (J + 1) (dubI P A n) P))) := by
  refine' ⟨_, rfl, rfl, _, FunOK.of 1000 (i := 5) (ns := ["m", "p", "A", "n", "q", "b", "r"]) (m := 4) hat rfl ⟨rfl, by decide, by decide⟩ (by decide) (fun pm cd doc => vs4 fun a b c d => rfl) rfl rfl ?h, ?g⟩
  case h =>
    dsimp only
    repeat' ((show (_ : Prop)); first | (with_reducible first | exact OpOK.add | exact OpOK.sub | exact OpOK.mul | exact OpOK.mod | exact OpOK.pow | exact OpOK.and | exact OpOK.lt | exact OpOK.le | exact OpOK.gt | exact OpOK.ge | exact OpOK.eq | exact OpOK.ne | exact OpOK.notIn | exact IOpOK.add | exact IOpOK.sub | exact IOpOK.mul | exact IOpOK.div | exact IOpOK.mod | exact EvOK.cint | exact EvOK.cbool | refine' EvOK.v (by with_unfolding_all exact rfl) (by with_unfolding_all exact rfl) (by with_unfolding_all exact rfl) (by with_unfolding_all exact rfl) | refine' EvOK.bin ?_ ?_ ?_ | refine' EvOK.cmp ?_ ?_ ?_ (by with_unfolding_all exact rfl) | refine' EvOK.neg ?_ | refine' EvOK.bool1 ?_ | refine' EvOK.or ?_ ?_ | refine' EvOK.tup ?_ | refine' EvOK.lst ?_ | refine' EvOK.call' (by with_unfolding_all exact rfl) (by with_unfolding_all exact rfl) (by with_unfolding_all exact rfl) (by with_unfolding_all exact fun _ => rfl) (by with_unfolding_all exact rfl) (by with_unfolding_all exact fun _ => ⟨_, _, rfl⟩) (by with_unfolding_all first | assumption | exact FunOK.le (by assumption) (by decide)) ?_ | refine' EvOK.gsub (by with_unfolding_all exact rfl) (by with_unfolding_all exact rfl) (by with_unfolding_all exact rfl) (by with_unfolding_all exact fun _ _ => rfl) (by with_unfolding_all assumption) ?_ | refine' EvOK.subs ?_ ?_ (by with_unfolding_all exact fun _ _ => rfl) | refine' EvOK.comp (by with_unfolding_all exact ⟨by decide, rfl, rfl, by decide, rfl, by decide, by decide⟩) ?_ ?_ ?_ (by with_unfolding_all exact fun _ _ => rfl) | exact EvsOK.nil | refine' EvsOK.cons ?_ ?_ (by with_unfolding_all exact fun _ => rfl) | refine' TestsOK.one ?_ | refine' TrOK.cmp ?_ ?_ ?_ (by with_unfolding_all exact rfl) | refine' TrOK.chain ?_ ?_ ?_ ?_ ?_ (by with_unfolding_all exact rfl) | refine' TrOK.not ?_ | exact TrOK.and0 | exact TrOK.or0 | refine' TrOK.and ?_ ?_ | refine' TrOK.or ?_ ?_ | refine' TrOK.plain ?_ (by with_unfolding_all exact fun _ _ => rfl) | exact RunOK.nil | refine' RunOK.cons ?_ ?_ | exact RunOK.cont | refine' RunOK.ret ?_ | refine' RunOK.ifS ?_ ?_ ?_ | refine' RunOK.whileS ?_ ?_ | refine' RunOK.new' (by with_unfolding_all exact rfl) (by with_unfolding_all exact fun _ => rfl) (by with_unfolding_all exact ⟨rfl, by decide, by decide⟩) ?_ | refine' RunOK.asg' (by with_unfolding_all exact rfl) (by with_unfolding_all exact fun _ => rfl) (by with_unfolding_all exact ⟨rfl, by decide, by decide⟩) ?_ | refine' RunOK.aug' (by with_unfolding_all exact rfl) (by with_unfolding_all exact ⟨rfl, by decide, by decide⟩) ?_ ?_ | refine' RunOK.forM' (by with_unfolding_all exact rfl) (by with_unfolding_all exact rfl) (by with_unfolding_all exact rfl) (by with_unfolding_all exact fun _ _ => rfl) (by with_unfolding_all exact ⟨rfl, by decide, by decide⟩) ?_ | refine' RunOK.for' (by with_unfolding_all exact rfl) (by with_unfolding_all exact fun _ _ => rfl) (by with_unfolding_all exact ⟨rfl, by decide, by decide⟩) ?_ ?_ | refine' RunOK.app' (by with_unfolding_all exact rfl) (by with_unfolding_all exact rfl) (by with_unfolding_all exact fun _ => rfl) (by with_unfolding_all exact fun _ => rfl) (by with_unfolding_all exact fun _ => rfl) (by with_unfolding_all exact ⟨rfl, by decide, by decide⟩) ?_ | refine' RunOK.tupS' (by with_unfolding_all first | exact .cons (.cons .nil) | exact .cons (.cons (.cons .nil)) | exact .cons (.cons (.cons (.cons .nil)))) (by with_unfolding_all exact fun env h => by cases env; cases h; rfl) (by with_unfolding_all exact rfl) (by with_unfolding_all exact fun _ => rfl) (by with_unfolding_all exact ⟨rfl, by decide, by decide⟩) ?_ | refine' RunOK.tupP' (by with_unfolding_all first | exact .cons (.cons .nil) | exact .cons (.cons (.cons .nil)) | exact .cons (.cons (.cons (.cons .nil)))) (by with_unfolding_all exact fun env h => by cases env; cases h; rfl) (by with_unfolding_all exact rfl) (by with_unfolding_all exact fun _ => rfl) (by with_unfolding_all exact ⟨rfl, by decide, by decide⟩) ?_))
  case g =>
    intro m P A n h0 hn hP hA
    have wd := s1 P A n h0 hn hP hA
    refine ⟨fun e => ?_, fun e => ?_, fun e => ?_, fun J hJ l1 l2 => ?_⟩
    · refine CW.eq ?_
      subst e
      repeat' ((fail_if_success (with_reducible refine (?_ : @Eq _ _ _))); first | (with_reducible first | refine' CK.ret ?_ | refine' SK.next ?_ | refine' SK.ret ?_ | refine' SK.cont ?_ | refine' LK.next ?_ | refine' LK.cont ?_ | refine' RW.nil ?_ | refine' RW.seqK (fun K hK => ?_)) | ((with_reducible refine (?_ : RW _ _ _ _)); with_reducible refine' RW.lenOk (by with_unfolding_all exact rfl) ?_) | (with_reducible first | refine' SW.of ?_ | refine' PutAt.of ?_ ?_) | with_reducible exact SetR.z | (with_reducible first | refine' SetR.s3 ?_ | refine' SetR.s ?_) | (with_reducible refine (?_ : SetR _ (0 + 1) _ _)); refine SetR.s ?_ | ((with_reducible refine (?_ : RW _ _ _ _)); with_reducible refine' RW.retF (E := eVar _) (by with_unfolding_all exact rfl) ?_) | (with_reducible first | refine' RW.asg ?_ | refine' RW.ret ?_) | (fail_if_success (have : StopIf := by with_reducible assumption)); (with_reducible refine' RW.if ?_) | (with_reducible first | refine' RW.tup ?_ | refine' RW.for ?_ | refine' RW.while ?_ | refine' RW.new ?_) | ((with_reducible refine (?_ : RW _ _ _ _)); with_reducible refine' RW.app (by with_unfolding_all exact rfl) (by first | with_reducible assumption | with_unfolding_all exact Nat.le_of_ble_eq_true rfl) ?_) | ((with_reducible refine (?_ : RW _ _ _ _)); with_reducible refine' RW.aug (by with_unfolding_all exact rfl) ?_) | (with_reducible first | refine' TupK.two_t ?_ | refine' TupK.two_f ?_ | refine' TupK.four_f ?_ | refine' IfK.t ?_ | refine' IfK.f ?_) | (with_reducible refine' IfK.gd ?_; with_reducible refine' IfK.decT (by first | with_reducible assumption | with_unfolding_all omega) ?_) | (with_reducible refine' IfK.gd ?_; with_reducible refine' IfK.decF (by first | with_reducible assumption | with_unfolding_all omega) ?_) | (with_reducible first | refine' NotK.t ?_ | refine' NotK.f ?_ | refine' TruthK.bool ?_ | refine' TruthK.int ?_) | ((with_reducible refine (?_ : EW (eVar _) _ _)); with_reducible refine' EW.var (by with_unfolding_all exact rfl) ?_) | (with_reducible first | refine' EW.cst ?_ | refine' EW.e1 ?_ | refine' EW.e2 ?_ | refine' EW.call ?_ | refine' EW.tup ?_ | refine' EW.lst ?_ | refine' EW.or ?_ | refine' EW.e3c ?_ | refine' EW.comp ?_ | refine' EsW.nil ?_ | refine' EsW.cons ?_ | refine' TW.c ?_) | ((with_reducible refine (?_ : TpK _ _)); with_reducible refine' TpK.mk (by with_unfolding_all exact Nat.le_of_ble_eq_true rfl) ?_) | ((with_reducible refine (?_ : LsK _ _)); with_reducible refine' LsK.mk (by with_unfolding_all exact Nat.le_of_ble_eq_true rfl) ?_) | (with_reducible first | refine' TW.tOf ?_ | refine' TW.not ?_ | refine' TW.and ?_ | refine' TW.or ?_) | ((with_reducible refine (?_ : CW _ _ _)); with_reducible refine' CW.of (by with_reducible assumption) ?_) | ((with_reducible refine (?_ : CW fPow3 _ _)); with_reducible refine' CW.pow3 (by with_unfolding_all first | decide | omega) (by with_reducible assumption) ?_) | ((with_reducible refine (?_ : OW _ _ _ _)); with_reducible refine' OW.of (by with_reducible assumption) ?_) | (with_reducible first | refine' OW.add ?_ | refine' OW.addI ?_ | refine' OW.sub ?_ | refine' OW.and ?_ | refine' OW.ord ?_ | refine' OW.eq ?_ | refine' OW.ne ?_) | ((with_reducible refine (?_ : OW fMul _ _ _)); with_reducible refine' OW.mul (by first | with_reducible assumption | with_unfolding_all exact mulOk_sm (by omega) (by omega) | with_unfolding_all exact mulOk_bd (by repeat' kt_len) (by repeat' kt_len) (Nat.le_of_ble_eq_true rfl)) ?_) | ((with_reducible refine (?_ : OW fDiv _ _ _)); with_reducible refine' OW.div (by with_reducible assumption) ?_) | ((with_reducible refine (?_ : OW fMod _ _ _)); with_reducible refine' OW.mod (by first | with_reducible assumption | with_unfolding_all omega) ?_) | ((with_reducible refine (?_ : OW fPow _ _ _)); with_reducible refine' OW.pow (by with_reducible assumption) ?_) | (with_reducible first | refine' UW.neg ?_) | ((with_reducible refine (?_ : UW _ _ _)); with_reducible refine' UW.of (by with_reducible assumption) ?_) | (with_reducible first | refine' CW.max ?_ | refine' CW.range2 ?_) | ((with_reducible refine (?_ : CW _ _ _)); with_reducible refine' CW.fn (by with_unfolding_all (repeat (first | exact StartsAt.nil | apply StartsAt.cons | apply StartsAt.unb))) (by with_unfolding_all exact rfl) ?_) | (with_reducible first | refine' KK.use (by with_reducible assumption) ?_))
      rfl
    · refine CW.eq ?_
      have m0 : ¬ m = 0 := by omega
      rcases e with e | e
      · have m1 : ¬ m = 1 := by omega
        have m2 : ¬ m = 2 := by omega
        have m3 : ¬ (1:Int) < m := by omega
        have dv : divOk 1 4 = true := rfl
        repeat' ((fail_if_success (with_reducible refine (?_ : @Eq _ _ _))); first | (with_reducible first | refine' CK.ret ?_ | refine' SK.next ?_ | refine' SK.ret ?_ | refine' SK.cont ?_ | refine' LK.next ?_ | refine' LK.cont ?_ | refine' RW.nil ?_ | refine' RW.seqK (fun K hK => ?_)) | ((with_reducible refine (?_ : RW _ _ _ _)); with_reducible refine' RW.lenOk (by with_unfolding_all exact rfl) ?_) | (with_reducible first | refine' SW.of ?_ | refine' PutAt.of ?_ ?_) | with_reducible exact SetR.z | (with_reducible first | refine' SetR.s3 ?_ | refine' SetR.s ?_) | (with_reducible refine (?_ : SetR _ (0 + 1) _ _)); refine SetR.s ?_ | ((with_reducible refine (?_ : RW _ _ _ _)); with_reducible refine' RW.retF (E := eVar _) (by with_unfolding_all exact rfl) ?_) | (with_reducible first | refine' RW.asg ?_ | refine' RW.ret ?_) | (fail_if_success (have : StopIf := by with_reducible assumption)); (with_reducible refine' RW.if ?_) | (with_reducible first | refine' RW.tup ?_ | refine' RW.for ?_ | refine' RW.while ?_ | refine' RW.new ?_) | ((with_reducible refine (?_ : RW _ _ _ _)); with_reducible refine' RW.app (by with_unfolding_all exact rfl) (by first | with_reducible assumption | with_unfolding_all exact Nat.le_of_ble_eq_true rfl) ?_) | ((with_reducible refine (?_ : RW _ _ _ _)); with_reducible refine' RW.aug (by with_unfolding_all exact rfl) ?_) | (with_reducible first | refine' TupK.two_t ?_ | refine' TupK.two_f ?_ | refine' TupK.four_f ?_ | refine' IfK.t ?_ | refine' IfK.f ?_) | (with_reducible refine' IfK.gd ?_; with_reducible refine' IfK.decT (by first | with_reducible assumption | with_unfolding_all omega) ?_) | (with_reducible refine' IfK.gd ?_; with_reducible refine' IfK.decF (by first | with_reducible assumption | with_unfolding_all omega) ?_) | (with_reducible first | refine' NotK.t ?_ | refine' NotK.f ?_ | refine' TruthK.bool ?_ | refine' TruthK.int ?_) | ((with_reducible refine (?_ : EW (eVar _) _ _)); with_reducible refine' EW.var (by with_unfolding_all exact rfl) ?_) | (with_reducible first | refine' EW.cst ?_ | refine' EW.e1 ?_ | refine' EW.e2 ?_ | refine' EW.call ?_ | refine' EW.tup ?_ | refine' EW.lst ?_ | refine' EW.or ?_ | refine' EW.e3c ?_ | refine' EW.comp ?_ | refine' EsW.nil ?_ | refine' EsW.cons ?_ | refine' TW.c ?_) | ((with_reducible refine (?_ : TpK _ _)); with_reducible refine' TpK.mk (by with_unfolding_all exact Nat.le_of_ble_eq_true rfl) ?_) | ((with_reducible refine (?_ : LsK _ _)); with_reducible refine' LsK.mk (by with_unfolding_all exact Nat.le_of_ble_eq_true rfl) ?_) | (with_reducible first | refine' TW.tOf ?_ | refine' TW.not ?_ | refine' TW.and ?_ | refine' TW.or ?_) | ((with_reducible refine (?_ : CW _ _ _)); with_reducible refine' CW.of (by with_reducible assumption) ?_) | ((with_reducible refine (?_ : CW fPow3 _ _)); with_reducible refine' CW.pow3 (by with_unfolding_all first | decide | omega) (by with_reducible assumption) ?_) | ((with_reducible refine (?_ : OW _ _ _ _)); with_reducible refine' OW.of (by with_reducible assumption) ?_) | (with_reducible first | refine' OW.add ?_ | refine' OW.addI ?_ | refine' OW.sub ?_ | refine' OW.and ?_ | refine' OW.ord ?_ | refine' OW.eq ?_ | refine' OW.ne ?_) | ((with_reducible refine (?_ : OW fMul _ _ _)); with_reducible refine' OW.mul (by first | with_reducible assumption | with_unfolding_all exact mulOk_sm (by omega) (by omega) | with_unfolding_all exact mulOk_bd (by repeat' kt_len) (by repeat' kt_len) (Nat.le_of_ble_eq_true rfl)) ?_) | ((with_reducible refine (?_ : OW fDiv _ _ _)); with_reducible refine' OW.div (by with_reducible assumption) ?_) | ((with_reducible refine (?_ : OW fMod _ _ _)); with_reducible refine' OW.mod (by first | with_reducible assumption | with_unfolding_all omega) ?_) | ((with_reducible refine (?_ : OW fPow _ _ _)); with_reducible refine' OW.pow (by with_reducible assumption) ?_) | (with_reducible first | refine' UW.neg ?_) | ((with_reducible refine (?_ : UW _ _ _)); with_reducible refine' UW.of (by with_reducible assumption) ?_) | (with_reducible first | refine' CW.max ?_ | refine' CW.range2 ?_) | ((with_reducible refine (?_ : CW _ _ _)); with_reducible refine' CW.fn (by with_unfolding_all (repeat (first | exact StartsAt.nil | apply StartsAt.cons | apply StartsAt.unb))) (by with_unfolding_all exact rfl) ?_) | (with_reducible first | refine' KK.use (by with_reducible assumption) ?_))
        refine WW.inv (fun k σ => σ = [.imm (.int m), .imm (prD P), .imm (prD A), .imm (.int n), .imm (prD (dubI P A n)), .imm (.int 1), .unb]) (k := 0) rfl (by omega) ?_
        rintro k σ rfl
        repeat' ((fail_if_success (with_reducible refine (?_ : @Eq _ _ _))); first | (with_reducible first | refine' CK.ret ?_ | refine' SK.next ?_ | refine' SK.ret ?_ | refine' SK.cont ?_ | refine' LK.next ?_ | refine' LK.cont ?_ | refine' RW.nil ?_ | refine' RW.seqK (fun K hK => ?_)) | ((with_reducible refine (?_ : RW _ _ _ _)); with_reducible refine' RW.lenOk (by with_unfolding_all exact rfl) ?_) | (with_reducible first | refine' SW.of ?_ | refine' PutAt.of ?_ ?_) | with_reducible exact SetR.z | (with_reducible first | refine' SetR.s3 ?_ | refine' SetR.s ?_) | (with_reducible refine (?_ : SetR _ (0 + 1) _ _)); refine SetR.s ?_ | ((with_reducible refine (?_ : RW _ _ _ _)); with_reducible refine' RW.retF (E := eVar _) (by with_unfolding_all exact rfl) ?_) | (with_reducible first | refine' RW.asg ?_ | refine' RW.ret ?_) | (fail_if_success (have : StopIf := by with_reducible assumption)); (with_reducible refine' RW.if ?_) | (with_reducible first | refine' RW.tup ?_ | refine' RW.for ?_ | refine' RW.while ?_ | refine' RW.new ?_) | ((with_reducible refine (?_ : RW _ _ _ _)); with_reducible refine' RW.app (by with_unfolding_all exact rfl) (by first | with_reducible assumption | with_unfolding_all exact Nat.le_of_ble_eq_true rfl) ?_) | ((with_reducible refine (?_ : RW _ _ _ _)); with_reducible refine' RW.aug (by with_unfolding_all exact rfl) ?_) | (with_reducible first | refine' TupK.two_t ?_ | refine' TupK.two_f ?_ | refine' TupK.four_f ?_ | refine' IfK.t ?_ | refine' IfK.f ?_) | (with_reducible refine' IfK.gd ?_; with_reducible refine' IfK.decT (by first | with_reducible assumption | with_unfolding_all omega) ?_) | (with_reducible refine' IfK.gd ?_; with_reducible refine' IfK.decF (by first | with_reducible assumption | with_unfolding_all omega) ?_) | (with_reducible first | refine' NotK.t ?_ | refine' NotK.f ?_ | refine' TruthK.bool ?_ | refine' TruthK.int ?_) | ((with_reducible refine (?_ : EW (eVar _) _ _)); with_reducible refine' EW.var (by with_unfolding_all exact rfl) ?_) | (with_reducible first | refine' EW.cst ?_ | refine' EW.e1 ?_ | refine' EW.e2 ?_ | refine' EW.call ?_ | refine' EW.tup ?_ | refine' EW.lst ?_ | refine' EW.or ?_ | refine' EW.e3c ?_ | refine' EW.comp ?_ | refine' EsW.nil ?_ | refine' EsW.cons ?_ | refine' TW.c ?_) | ((with_reducible refine (?_ : TpK _ _)); with_reducible refine' TpK.mk (by with_unfolding_all exact Nat.le_of_ble_eq_true rfl) ?_) | ((with_reducible refine (?_ : LsK _ _)); with_reducible refine' LsK.mk (by with_unfolding_all exact Nat.le_of_ble_eq_true rfl) ?_) | (with_reducible first | refine' TW.tOf ?_ | refine' TW.not ?_ | refine' TW.and ?_ | refine' TW.or ?_) | ((with_reducible refine (?_ : CW _ _ _)); with_reducible refine' CW.of (by with_reducible assumption) ?_) | ((with_reducible refine (?_ : CW fPow3 _ _)); with_reducible refine' CW.pow3 (by with_unfolding_all first | decide | omega) (by with_reducible assumption) ?_) | ((with_reducible refine (?_ : OW _ _ _ _)); with_reducible refine' OW.of (by with_reducible assumption) ?_) | (with_reducible first | refine' OW.add ?_ | refine' OW.addI ?_ | refine' OW.sub ?_ | refine' OW.and ?_ | refine' OW.ord ?_ | refine' OW.eq ?_ | refine' OW.ne ?_) | ((with_reducible refine (?_ : OW fMul _ _ _)); with_reducible refine' OW.mul (by first | with_reducible assumption | with_unfolding_all exact mulOk_sm (by omega) (by omega) | with_unfolding_all exact mulOk_bd (by repeat' kt_len) (by repeat' kt_len) (Nat.le_of_ble_eq_true rfl)) ?_) | ((with_reducible refine (?_ : OW fDiv _ _ _)); with_reducible refine' OW.div (by with_reducible assumption) ?_) | ((with_reducible refine (?_ : OW fMod _ _ _)); with_reducible refine' OW.mod (by first | with_reducible assumption | with_unfolding_all omega) ?_) | ((with_reducible refine (?_ : OW fPow _ _ _)); with_reducible refine' OW.pow (by with_reducible assumption) ?_) | (with_reducible first | refine' UW.neg ?_) | ((with_reducible refine (?_ : UW _ _ _)); with_reducible refine' UW.of (by with_reducible assumption) ?_) | (with_reducible first | refine' CW.max ?_ | refine' CW.range2 ?_) | ((with_reducible refine (?_ : CW _ _ _)); with_reducible refine' CW.fn (by with_unfolding_all (repeat (first | exact StartsAt.nil | apply StartsAt.cons | apply StartsAt.unb))) (by with_unfolding_all exact rfl) ?_) | (with_reducible first | refine' KK.use (by with_reducible assumption) ?_))
        refine WW.inv (fun k σ => σ = [.imm (.int m), .imm (prD P), .imm (prD A), .imm (.int n), .imm (prD (dubI P A n)), .imm (.int 0), .imm (prD P)]) (k := 0) rfl (by omega) ?_
        rintro k σ rfl
        have z : ¬ ((0:Int) ≠ 0) := by omega
        repeat' ((fail_if_success (with_reducible refine (?_ : @Eq _ _ _))); first | (with_reducible first | refine' CK.ret ?_ | refine' SK.next ?_ | refine' SK.ret ?_ | refine' SK.cont ?_ | refine' LK.next ?_ | refine' LK.cont ?_ | refine' RW.nil ?_ | refine' RW.seqK (fun K hK => ?_)) | ((with_reducible refine (?_ : RW _ _ _ _)); with_reducible refine' RW.lenOk (by with_unfolding_all exact rfl) ?_) | (with_reducible first | refine' SW.of ?_ | refine' PutAt.of ?_ ?_) | with_reducible exact SetR.z | (with_reducible first | refine' SetR.s3 ?_ | refine' SetR.s ?_) | (with_reducible refine (?_ : SetR _ (0 + 1) _ _)); refine SetR.s ?_ | ((with_reducible refine (?_ : RW _ _ _ _)); with_reducible refine' RW.retF (E := eVar _) (by with_unfolding_all exact rfl) ?_) | (with_reducible first | refine' RW.asg ?_ | refine' RW.ret ?_) | (fail_if_success (have : StopIf := by with_reducible assumption)); (with_reducible refine' RW.if ?_) | (with_reducible first | refine' RW.tup ?_ | refine' RW.for ?_ | refine' RW.while ?_ | refine' RW.new ?_) | ((with_reducible refine (?_ : RW _ _ _ _)); with_reducible refine' RW.app (by with_unfolding_all exact rfl) (by first | with_reducible assumption | with_unfolding_all exact Nat.le_of_ble_eq_true rfl) ?_) | ((with_reducible refine (?_ : RW _ _ _ _)); with_reducible refine' RW.aug (by with_unfolding_all exact rfl) ?_) | (with_reducible first | refine' TupK.two_t ?_ | refine' TupK.two_f ?_ | refine' TupK.four_f ?_ | refine' IfK.t ?_ | refine' IfK.f ?_) | (with_reducible refine' IfK.gd ?_; with_reducible refine' IfK.decT (by first | with_reducible assumption | with_unfolding_all omega) ?_) | (with_reducible refine' IfK.gd ?_; with_reducible refine' IfK.decF (by first | with_reducible assumption | with_unfolding_all omega) ?_) | (with_reducible first | refine' NotK.t ?_ | refine' NotK.f ?_ | refine' TruthK.bool ?_ | refine' TruthK.int ?_) | ((with_reducible refine (?_ : EW (eVar _) _ _)); with_reducible refine' EW.var (by with_unfolding_all exact rfl) ?_) | (with_reducible first | refine' EW.cst ?_ | refine' EW.e1 ?_ | refine' EW.e2 ?_ | refine' EW.call ?_ | refine' EW.tup ?_ | refine' EW.lst ?_ | refine' EW.or ?_ | refine' EW.e3c ?_ | refine' EW.comp ?_ | refine' EsW.nil ?_ | refine' EsW.cons ?_ | refine' TW.c ?_) | ((with_reducible refine (?_ : TpK _ _)); with_reducible refine' TpK.mk (by with_unfolding_all exact Nat.le_of_ble_eq_true rfl) ?_) | ((with_reducible refine (?_ : LsK _ _)); with_reducible refine' LsK.mk (by with_unfolding_all exact Nat.le_of_ble_eq_true rfl) ?_) | (with_reducible first | refine' TW.tOf ?_ | refine' TW.not ?_ | refine' TW.and ?_ | refine' TW.or ?_) | ((with_reducible refine (?_ : CW _ _ _)); with_reducible refine' CW.of (by with_reducible assumption) ?_) | ((with_reducible refine (?_ : CW fPow3 _ _)); with_reducible refine' CW.pow3 (by with_unfolding_all first | decide | omega) (by with_reducible assumption) ?_) | ((with_reducible refine (?_ : OW _ _ _ _)); with_reducible refine' OW.of (by with_reducible assumption) ?_) | (with_reducible first | refine' OW.add ?_ | refine' OW.addI ?_ | refine' OW.sub ?_ | refine' OW.and ?_ | refine' OW.ord ?_ | refine' OW.eq ?_ | refine' OW.ne ?_) | ((with_reducible refine (?_ : OW fMul _ _ _)); with_reducible refine' OW.mul (by first | with_reducible assumption | with_unfolding_all exact mulOk_sm (by omega) (by omega) | with_unfolding_all exact mulOk_bd (by repeat' kt_len) (by repeat' kt_len) (Nat.le_of_ble_eq_true rfl)) ?_) | ((with_reducible refine (?_ : OW fDiv _ _ _)); with_reducible refine' OW.div (by with_reducible assumption) ?_) | ((with_reducible refine (?_ : OW fMod _ _ _)); with_reducible refine' OW.mod (by first | with_reducible assumption | with_unfolding_all omega) ?_) | ((with_reducible refine (?_ : OW fPow _ _ _)); with_reducible refine' OW.pow (by with_reducible assumption) ?_) | (with_reducible first | refine' UW.neg ?_) | ((with_reducible refine (?_ : UW _ _ _)); with_reducible refine' UW.of (by with_reducible assumption) ?_) | (with_reducible first | refine' CW.max ?_ | refine' CW.range2 ?_) | ((with_reducible refine (?_ : CW _ _ _)); with_reducible refine' CW.fn (by with_unfolding_all (repeat (first | exact StartsAt.nil | apply StartsAt.cons | apply StartsAt.unb))) (by with_unfolding_all exact rfl) ?_) | (with_reducible first | refine' KK.use (by with_reducible assumption) ?_))
        rfl
      · repeat' ((fail_if_success (with_reducible refine (?_ : @Eq _ _ _))); first | (with_reducible first | refine' CK.ret ?_ | refine' SK.next ?_ | refine' SK.ret ?_ | refine' SK.cont ?_ | refine' LK.next ?_ | refine' LK.cont ?_ | refine' RW.nil ?_ | refine' RW.seqK (fun K hK => ?_)) | ((with_reducible refine (?_ : RW _ _ _ _)); with_reducible refine' RW.lenOk (by with_unfolding_all exact rfl) ?_) | (with_reducible first | refine' SW.of ?_ | refine' PutAt.of ?_ ?_) | with_reducible exact SetR.z | (with_reducible first | refine' SetR.s3 ?_ | refine' SetR.s ?_) | (with_reducible refine (?_ : SetR _ (0 + 1) _ _)); refine SetR.s ?_ | ((with_reducible refine (?_ : RW _ _ _ _)); with_reducible refine' RW.retF (E := eVar _) (by with_unfolding_all exact rfl) ?_) | (with_reducible first | refine' RW.asg ?_ | refine' RW.ret ?_) | (fail_if_success (have : StopIf := by with_reducible assumption)); (with_reducible refine' RW.if ?_) | (with_reducible first | refine' RW.tup ?_ | refine' RW.for ?_ | refine' RW.while ?_ | refine' RW.new ?_) | ((with_reducible refine (?_ : RW _ _ _ _)); with_reducible refine' RW.app (by with_unfolding_all exact rfl) (by first | with_reducible assumption | with_unfolding_all exact Nat.le_of_ble_eq_true rfl) ?_) | ((with_reducible refine (?_ : RW _ _ _ _)); with_reducible refine' RW.aug (by with_unfolding_all exact rfl) ?_) | (with_reducible first | refine' TupK.two_t ?_ | refine' TupK.two_f ?_ | refine' TupK.four_f ?_ | refine' IfK.t ?_ | refine' IfK.f ?_) | (with_reducible refine' IfK.gd ?_; with_reducible refine' IfK.decT (by first | with_reducible assumption | with_unfolding_all omega) ?_) | (with_reducible refine' IfK.gd ?_; with_reducible refine' IfK.decF (by first | with_reducible assumption | with_unfolding_all omega) ?_) | (with_reducible first | refine' NotK.t ?_ | refine' NotK.f ?_ | refine' TruthK.bool ?_ | refine' TruthK.int ?_) | ((with_reducible refine (?_ : EW (eVar _) _ _)); with_reducible refine' EW.var (by with_unfolding_all exact rfl) ?_) | (with_reducible first | refine' EW.cst ?_ | refine' EW.e1 ?_ | refine' EW.e2 ?_ | refine' EW.call ?_ | refine' EW.tup ?_ | refine' EW.lst ?_ | refine' EW.or ?_ | refine' EW.e3c ?_ | refine' EW.comp ?_ | refine' EsW.nil ?_ | refine' EsW.cons ?_ | refine' TW.c ?_) | ((with_reducible refine (?_ : TpK _ _)); with_reducible refine' TpK.mk (by with_unfolding_all exact Nat.le_of_ble_eq_true rfl) ?_) | ((with_reducible refine (?_ : LsK _ _)); with_reducible refine' LsK.mk (by with_unfolding_all exact Nat.le_of_ble_eq_true rfl) ?_) | (with_reducible first | refine' TW.tOf ?_ | refine' TW.not ?_ | refine' TW.and ?_ | refine' TW.or ?_) | ((with_reducible refine (?_ : CW _ _ _)); with_reducible refine' CW.of (by with_reducible assumption) ?_) | ((with_reducible refine (?_ : CW fPow3 _ _)); with_reducible refine' CW.pow3 (by with_unfolding_all first | decide | omega) (by with_reducible assumption) ?_) | ((with_reducible refine (?_ : OW _ _ _ _)); with_reducible refine' OW.of (by with_reducible assumption) ?_) | (with_reducible first | refine' OW.add ?_ | refine' OW.addI ?_ | refine' OW.sub ?_ | refine' OW.and ?_ | refine' OW.ord ?_ | refine' OW.eq ?_ | refine' OW.ne ?_) | ((with_reducible refine (?_ : OW fMul _ _ _)); with_reducible refine' OW.mul (by first | with_reducible assumption | with_unfolding_all exact mulOk_sm (by omega) (by omega) | with_unfolding_all exact mulOk_bd (by repeat' kt_len) (by repeat' kt_len) (Nat.le_of_ble_eq_true rfl)) ?_) | ((with_reducible refine (?_ : OW fDiv _ _ _)); with_reducible refine' OW.div (by with_reducible assumption) ?_) | ((with_reducible refine (?_ : OW fMod _ _ _)); with_reducible refine' OW.mod (by first | with_reducible assumption | with_unfolding_all omega) ?_) | ((with_reducible refine (?_ : OW fPow _ _ _)); with_reducible refine' OW.pow (by with_reducible assumption) ?_) | (with_reducible first | refine' UW.neg ?_) | ((with_reducible refine (?_ : UW _ _ _)); with_reducible refine' UW.of (by with_reducible assumption) ?_) | (with_reducible first | refine' CW.max ?_ | refine' CW.range2 ?_) | ((with_reducible refine (?_ : CW _ _ _)); with_reducible refine' CW.fn (by with_unfolding_all (repeat (first | exact StartsAt.nil | apply StartsAt.cons | apply StartsAt.unb))) (by with_unfolding_all exact rfl) ?_) | (with_reducible first | refine' KK.use (by with_reducible assumption) ?_))
        rfl
    · refine CW.eq ?_
      have m0 : ¬ m = 0 := by omega
      have m1 : ¬ m = 1 := by omega
      repeat' ((fail_if_success (with_reducible refine (?_ : @Eq _ _ _))); first | (with_reducible first | refine' CK.ret ?_ | refine' SK.next ?_ | refine' SK.ret ?_ | refine' SK.cont ?_ | refine' LK.next ?_ | refine' LK.cont ?_ | refine' RW.nil ?_ | refine' RW.seqK (fun K hK => ?_)) | ((with_reducible refine (?_ : RW _ _ _ _)); with_reducible refine' RW.lenOk (by with_unfolding_all exact rfl) ?_) | (with_reducible first | refine' SW.of ?_ | refine' PutAt.of ?_ ?_) | with_reducible exact SetR.z | (with_reducible first | refine' SetR.s3 ?_ | refine' SetR.s ?_) | (with_reducible refine (?_ : SetR _ (0 + 1) _ _)); refine SetR.s ?_ | ((with_reducible refine (?_ : RW _ _ _ _)); with_reducible refine' RW.retF (E := eVar _) (by with_unfolding_all exact rfl) ?_) | (with_reducible first | refine' RW.asg ?_ | refine' RW.ret ?_) | (fail_if_success (have : StopIf := by with_reducible assumption)); (with_reducible refine' RW.if ?_) | (with_reducible first | refine' RW.tup ?_ | refine' RW.for ?_ | refine' RW.while ?_ | refine' RW.new ?_) | ((with_reducible refine (?_ : RW _ _ _ _)); with_reducible refine' RW.app (by with_unfolding_all exact rfl) (by first | with_reducible assumption | with_unfolding_all exact Nat.le_of_ble_eq_true rfl) ?_) | ((with_reducible refine (?_ : RW _ _ _ _)); with_reducible refine' RW.aug (by with_unfolding_all exact rfl) ?_) | (with_reducible first | refine' TupK.two_t ?_ | refine' TupK.two_f ?_ | refine' TupK.four_f ?_ | refine' IfK.t ?_ | refine' IfK.f ?_) | (with_reducible refine' IfK.gd ?_; with_reducible refine' IfK.decT (by first | with_reducible assumption | with_unfolding_all omega) ?_) | (with_reducible refine' IfK.gd ?_; with_reducible refine' IfK.decF (by first | with_reducible assumption | with_unfolding_all omega) ?_) | (with_reducible first | refine' NotK.t ?_ | refine' NotK.f ?_ | refine' TruthK.bool ?_ | refine' TruthK.int ?_) | ((with_reducible refine (?_ : EW (eVar _) _ _)); with_reducible refine' EW.var (by with_unfolding_all exact rfl) ?_) | (with_reducible first | refine' EW.cst ?_ | refine' EW.e1 ?_ | refine' EW.e2 ?_ | refine' EW.call ?_ | refine' EW.tup ?_ | refine' EW.lst ?_ | refine' EW.or ?_ | refine' EW.e3c ?_ | refine' EW.comp ?_ | refine' EsW.nil ?_ | refine' EsW.cons ?_ | refine' TW.c ?_) | ((with_reducible refine (?_ : TpK _ _)); with_reducible refine' TpK.mk (by with_unfolding_all exact Nat.le_of_ble_eq_true rfl) ?_) | ((with_reducible refine (?_ : LsK _ _)); with_reducible refine' LsK.mk (by with_unfolding_all exact Nat.le_of_ble_eq_true rfl) ?_) | (with_reducible first | refine' TW.tOf ?_ | refine' TW.not ?_ | refine' TW.and ?_ | refine' TW.or ?_) | ((with_reducible refine (?_ : CW _ _ _)); with_reducible refine' CW.of (by with_reducible assumption) ?_) | ((with_reducible refine (?_ : CW fPow3 _ _)); with_reducible refine' CW.pow3 (by with_unfolding_all first | decide | omega) (by with_reducible assumption) ?_) | ((with_reducible refine (?_ : OW _ _ _ _)); with_reducible refine' OW.of (by with_reducible assumption) ?_) | (with_reducible first | refine' OW.add ?_ | refine' OW.addI ?_ | refine' OW.sub ?_ | refine' OW.and ?_ | refine' OW.ord ?_ | refine' OW.eq ?_ | refine' OW.ne ?_) | ((with_reducible refine (?_ : OW fMul _ _ _)); with_reducible refine' OW.mul (by first | with_reducible assumption | with_unfolding_all exact mulOk_sm (by omega) (by omega) | with_unfolding_all exact mulOk_bd (by repeat' kt_len) (by repeat' kt_len) (Nat.le_of_ble_eq_true rfl)) ?_) | ((with_reducible refine (?_ : OW fDiv _ _ _)); with_reducible refine' OW.div (by with_reducible assumption) ?_) | ((with_reducible refine (?_ : OW fMod _ _ _)); with_reducible refine' OW.mod (by first | with_reducible assumption | with_unfolding_all omega) ?_) | ((with_reducible refine (?_ : OW fPow _ _ _)); with_reducible refine' OW.pow (by with_reducible assumption) ?_) | (with_reducible first | refine' UW.neg ?_) | ((with_reducible refine (?_ : UW _ _ _)); with_reducible refine' UW.of (by with_reducible assumption) ?_) | (with_reducible first | refine' CW.max ?_ | refine' CW.range2 ?_) | ((with_reducible refine (?_ : CW _ _ _)); with_reducible refine' CW.fn (by with_unfolding_all (repeat (first | exact StartsAt.nil | apply StartsAt.cons | apply StartsAt.unb))) (by with_unfolding_all exact rfl) ?_) | (with_reducible first | refine' KK.use (by with_reducible assumption) ?_))
      rfl
    · have p1 := Nat.two_pow_pos J
      obtain ⟨M, rfl⟩ : ∃ M : Nat, m = (M : Int) := ⟨m.toNat, by
        have : (0:Int) < 2 ^ (J + 1) := Int.pow_pos (by decide)
        omega⟩
      have l1' : 2 ^ (J + 1) < M := by
        have : (((2:Nat) ^ (J + 1) : Nat) : Int) = 2 ^ (J + 1) := by simp
        omega
      have l2' : M ≤ 2 ^ (J + 2) := by
        have : (((2:Nat) ^ (J + 2) : Nat) : Int) = 2 ^ (J + 2) := by simp
        omega
      have j2 : 2 ≤ 2 ^ (J + 1) := by rw [Nat.pow_succ]; omega
      rw [Int.toNat_natCast]
      refine CW.eq ?_
      have m0 : ¬ (M : Int) = 0 := by omega
      have m1 : ¬ (M : Int) = 1 := by omega
      have m2 : ¬ (M : Int) = 2 := by omega
      repeat' ((fail_if_success (with_reducible refine (?_ : @Eq _ _ _))); first | (with_reducible first | refine' CK.ret ?_ | refine' SK.next ?_ | refine' SK.ret ?_ | refine' SK.cont ?_ | refine' LK.next ?_ | refine' LK.cont ?_ | refine' RW.nil ?_ | refine' RW.seqK (fun K hK => ?_)) | ((with_reducible refine (?_ : RW _ _ _ _)); with_reducible refine' RW.lenOk (by with_unfolding_all exact rfl) ?_) | (with_reducible first | refine' SW.of ?_ | refine' PutAt.of ?_ ?_) | with_reducible exact SetR.z | (with_reducible first | refine' SetR.s3 ?_ | refine' SetR.s ?_) | (with_reducible refine (?_ : SetR _ (0 + 1) _ _)); refine SetR.s ?_ | ((with_reducible refine (?_ : RW _ _ _ _)); with_reducible refine' RW.retF (E := eVar _) (by with_unfolding_all exact rfl) ?_) | (with_reducible first | refine' RW.asg ?_ | refine' RW.ret ?_) | (fail_if_success (have : StopIf := by with_reducible assumption)); (with_reducible refine' RW.if ?_) | (with_reducible first | refine' RW.tup ?_ | refine' RW.for ?_ | refine' RW.while ?_ | refine' RW.new ?_) | ((with_reducible refine (?_ : RW _ _ _ _)); with_reducible refine' RW.app (by with_unfolding_all exact rfl) (by first | with_reducible assumption | with_unfolding_all exact Nat.le_of_ble_eq_true rfl) ?_) | ((with_reducible refine (?_ : RW _ _ _ _)); with_reducible refine' RW.aug (by with_unfolding_all exact rfl) ?_) | (with_reducible first | refine' TupK.two_t ?_ | refine' TupK.two_f ?_ | refine' TupK.four_f ?_ | refine' IfK.t ?_ | refine' IfK.f ?_) | (with_reducible refine' IfK.gd ?_; with_reducible refine' IfK.decT (by first | with_reducible assumption | with_unfolding_all omega) ?_) | (with_reducible refine' IfK.gd ?_; with_reducible refine' IfK.decF (by first | with_reducible assumption | with_unfolding_all omega) ?_) | (with_reducible first | refine' NotK.t ?_ | refine' NotK.f ?_ | refine' TruthK.bool ?_ | refine' TruthK.int ?_) | ((with_reducible refine (?_ : EW (eVar _) _ _)); with_reducible refine' EW.var (by with_unfolding_all exact rfl) ?_) | (with_reducible first | refine' EW.cst ?_ | refine' EW.e1 ?_ | refine' EW.e2 ?_ | refine' EW.call ?_ | refine' EW.tup ?_ | refine' EW.lst ?_ | refine' EW.or ?_ | refine' EW.e3c ?_ | refine' EW.comp ?_ | refine' EsW.nil ?_ | refine' EsW.cons ?_ | refine' TW.c ?_) | ((with_reducible refine (?_ : TpK _ _)); with_reducible refine' TpK.mk (by with_unfolding_all exact Nat.le_of_ble_eq_true rfl) ?_) | ((with_reducible refine (?_ : LsK _ _)); with_reducible refine' LsK.mk (by with_unfolding_all exact Nat.le_of_ble_eq_true rfl) ?_) | (with_reducible first | refine' TW.tOf ?_ | refine' TW.not ?_ | refine' TW.and ?_ | refine' TW.or ?_) | ((with_reducible refine (?_ : CW _ _ _)); with_reducible refine' CW.of (by with_reducible assumption) ?_) | ((with_reducible refine (?_ : CW fPow3 _ _)); with_reducible refine' CW.pow3 (by with_unfolding_all first | decide | omega) (by with_reducible assumption) ?_) | ((with_reducible refine (?_ : OW _ _ _ _)); with_reducible refine' OW.of (by with_reducible assumption) ?_) | (with_reducible first | refine' OW.add ?_ | refine' OW.addI ?_ | refine' OW.sub ?_ | refine' OW.and ?_ | refine' OW.ord ?_ | refine' OW.eq ?_ | refine' OW.ne ?_) | ((with_reducible refine (?_ : OW fMul _ _ _)); with_reducible refine' OW.mul (by first | with_reducible assumption | with_unfolding_all exact mulOk_sm (by omega) (by omega) | with_unfolding_all exact mulOk_bd (by repeat' kt_len) (by repeat' kt_len) (Nat.le_of_ble_eq_true rfl)) ?_) | ((with_reducible refine (?_ : OW fDiv _ _ _)); with_reducible refine' OW.div (by with_reducible assumption) ?_) | ((with_reducible refine (?_ : OW fMod _ _ _)); with_reducible refine' OW.mod (by first | with_reducible assumption | with_unfolding_all omega) ?_) | ((with_reducible refine (?_ : OW fPow _ _ _)); with_reducible refine' OW.pow (by with_reducible assumption) ?_) | (with_reducible first | refine' UW.neg ?_) | ((with_reducible refine (?_ : UW _ _ _)); with_reducible refine' UW.of (by with_reducible assumption) ?_) | (with_reducible first | refine' CW.max ?_ | refine' CW.range2 ?_) | ((with_reducible refine (?_ : CW _ _ _)); with_reducible refine' CW.fn (by with_unfolding_all (repeat (first | exact StartsAt.nil | apply StartsAt.cons | apply StartsAt.unb))) (by with_unfolding_all exact rfl) ?_) | (with_reducible first | refine' KK.use (by with_reducible assumption) ?_))
      refine WW.inv (fun k σ => ∃ j, j + k = J + 2 ∧ σ = [.imm (.int (M : Int)), .imm (prD P), .imm (prD A), .imm (.int n), .imm (prD (dubI P A n)), .imm (.int ((2 ^ j : Nat) : Int)), .unb]) (k := J + 2) ⟨0, by omega, rfl⟩ (by omega) ?_
      rintro k σ ⟨j, hj, rfl⟩
      rcases Nat.eq_zero_or_pos k with hk | hk
      · have ej : j = J + 2 := by omega
        subst ej
        have lt : ¬ (((2 ^ (J + 2) : Nat) : Int) < (M : Int)) := by omega
        have dv : divOk ((2 ^ (J + 2) : Nat) : Int) 4 = true := rfl
        repeat' ((fail_if_success (with_reducible refine (?_ : @Eq _ _ _))); first | (with_reducible first | refine' CK.ret ?_ | refine' SK.next ?_ | refine' SK.ret ?_ | refine' SK.cont ?_ | refine' LK.next ?_ | refine' LK.cont ?_ | refine' RW.nil ?_ | refine' RW.seqK (fun K hK => ?_)) | ((with_reducible refine (?_ : RW _ _ _ _)); with_reducible refine' RW.lenOk (by with_unfolding_all exact rfl) ?_) | (with_reducible first | refine' SW.of ?_ | refine' PutAt.of ?_ ?_) | with_reducible exact SetR.z | (with_reducible first | refine' SetR.s3 ?_ | refine' SetR.s ?_) | (with_reducible refine (?_ : SetR _ (0 + 1) _ _)); refine SetR.s ?_ | ((with_reducible refine (?_ : RW _ _ _ _)); with_reducible refine' RW.retF (E := eVar _) (by with_unfolding_all exact rfl) ?_) | (with_reducible first | refine' RW.asg ?_ | refine' RW.ret ?_) | (fail_if_success (have : StopIf := by with_reducible assumption)); (with_reducible refine' RW.if ?_) | (with_reducible first | refine' RW.tup ?_ | refine' RW.for ?_ | refine' RW.while ?_ | refine' RW.new ?_) | ((with_reducible refine (?_ : RW _ _ _ _)); with_reducible refine' RW.app (by with_unfolding_all exact rfl) (by first | with_reducible assumption | with_unfolding_all exact Nat.le_of_ble_eq_true rfl) ?_) | ((with_reducible refine (?_ : RW _ _ _ _)); with_reducible refine' RW.aug (by with_unfolding_all exact rfl) ?_) | (with_reducible first | refine' TupK.two_t ?_ | refine' TupK.two_f ?_ | refine' TupK.four_f ?_ | refine' IfK.t ?_ | refine' IfK.f ?_) | (with_reducible refine' IfK.gd ?_; with_reducible refine' IfK.decT (by first | with_reducible assumption | with_unfolding_all omega) ?_) | (with_reducible refine' IfK.gd ?_; with_reducible refine' IfK.decF (by first | with_reducible assumption | with_unfolding_all omega) ?_) | (with_reducible first | refine' NotK.t ?_ | refine' NotK.f ?_ | refine' TruthK.bool ?_ | refine' TruthK.int ?_) | ((with_reducible refine (?_ : EW (eVar _) _ _)); with_reducible refine' EW.var (by with_unfolding_all exact rfl) ?_) | (with_reducible first | refine' EW.cst ?_ | refine' EW.e1 ?_ | refine' EW.e2 ?_ | refine' EW.call ?_ | refine' EW.tup ?_ | refine' EW.lst ?_ | refine' EW.or ?_ | refine' EW.e3c ?_ | refine' EW.comp ?_ | refine' EsW.nil ?_ | refine' EsW.cons ?_ | refine' TW.c ?_) | ((with_reducible refine (?_ : TpK _ _)); with_reducible refine' TpK.mk (by with_unfolding_all exact Nat.le_of_ble_eq_true rfl) ?_) | ((with_reducible refine (?_ : LsK _ _)); with_reducible refine' LsK.mk (by with_unfolding_all exact Nat.le_of_ble_eq_true rfl) ?_) | (with_reducible first | refine' TW.tOf ?_ | refine' TW.not ?_ | refine' TW.and ?_ | refine' TW.or ?_) | ((with_reducible refine (?_ : CW _ _ _)); with_reducible refine' CW.of (by with_reducible assumption) ?_) | ((with_reducible refine (?_ : CW fPow3 _ _)); with_reducible refine' CW.pow3 (by with_unfolding_all first | decide | omega) (by with_reducible assumption) ?_) | ((with_reducible refine (?_ : OW _ _ _ _)); with_reducible refine' OW.of (by with_reducible assumption) ?_) | (with_reducible first | refine' OW.add ?_ | refine' OW.addI ?_ | refine' OW.sub ?_ | refine' OW.and ?_ | refine' OW.ord ?_ | refine' OW.eq ?_ | refine' OW.ne ?_) | ((with_reducible refine (?_ : OW fMul _ _ _)); with_reducible refine' OW.mul (by first | with_reducible assumption | with_unfolding_all exact mulOk_sm (by omega) (by omega) | with_unfolding_all exact mulOk_bd (by repeat' kt_len) (by repeat' kt_len) (Nat.le_of_ble_eq_true rfl)) ?_) | ((with_reducible refine (?_ : OW fDiv _ _ _)); with_reducible refine' OW.div (by with_reducible assumption) ?_) | ((with_reducible refine (?_ : OW fMod _ _ _)); with_reducible refine' OW.mod (by first | with_reducible assumption | with_unfolding_all omega) ?_) | ((with_reducible refine (?_ : OW fPow _ _ _)); with_reducible refine' OW.pow (by with_reducible assumption) ?_) | (with_reducible first | refine' UW.neg ?_) | ((with_reducible refine (?_ : UW _ _ _)); with_reducible refine' UW.of (by with_reducible assumption) ?_) | (with_reducible first | refine' CW.max ?_ | refine' CW.range2 ?_) | ((with_reducible refine (?_ : CW _ _ _)); with_reducible refine' CW.fn (by with_unfolding_all (repeat (first | exact StartsAt.nil | apply StartsAt.cons | apply StartsAt.unb))) (by with_unfolding_all exact rfl) ?_) | (with_reducible first | refine' KK.use (by with_reducible assumption) ?_))
        have e4 : (((2 ^ (J + 2) : Nat) : Int)).fdiv 4 = ((bval (J + 1) : Nat) : Int) := by
          rw [show (4 : Int) = ((4 : Nat) : Int) from rfl, fdiv_nat]
          congr 1
          show 2 ^ (J + 2) / 4 = 2 ^ J
          rw [Nat.pow_succ, Nat.pow_succ, Nat.mul_assoc, Nat.mul_div_cancel _ (by decide)]
        rw [e4]
        refine WW.inv (fun k σ => ∃ q r : Int × Int, Bd2 2000 q ∧ Bd2 2000 r ∧ ladI P A n M k q r = ladI P A n M (J + 1) (dubI P A n) P ∧ σ = [.imm (.int (M : Int)), .imm (prD P), .imm (prD A), .imm (.int n), .imm (prD q), .imm (.int ((bval k : Nat) : Int)), .imm (prD r)]) (k := J + 1) ⟨_, _, dubI_bd h0 hn, hP, rfl, rfl⟩ (by omega) ?_
        rintro k σ ⟨q, r, bq, br, hl, rfl⟩
        cases k with
        | zero =>
          have z : ¬ (((bval 0 : Nat) : Int) ≠ 0) := fun h => h rfl
          repeat' ((fail_if_success (with_reducible refine (?_ : @Eq _ _ _))); first | (with_reducible first | refine' CK.ret ?_ | refine' SK.next ?_ | refine' SK.ret ?_ | refine' SK.cont ?_ | refine' LK.next ?_ | refine' LK.cont ?_ | refine' RW.nil ?_ | refine' RW.seqK (fun K hK => ?_)) | ((with_reducible refine (?_ : RW _ _ _ _)); with_reducible refine' RW.lenOk (by with_unfolding_all exact rfl) ?_) | (with_reducible first | refine' SW.of ?_ | refine' PutAt.of ?_ ?_) | with_reducible exact SetR.z | (with_reducible first | refine' SetR.s3 ?_ | refine' SetR.s ?_) | (with_reducible refine (?_ : SetR _ (0 + 1) _ _)); refine SetR.s ?_ | ((with_reducible refine (?_ : RW _ _ _ _)); with_reducible refine' RW.retF (E := eVar _) (by with_unfolding_all exact rfl) ?_) | (with_reducible first | refine' RW.asg ?_ | refine' RW.ret ?_) | (fail_if_success (have : StopIf := by with_reducible assumption)); (with_reducible refine' RW.if ?_) | (with_reducible first | refine' RW.tup ?_ | refine' RW.for ?_ | refine' RW.while ?_ | refine' RW.new ?_) | ((with_reducible refine (?_ : RW _ _ _ _)); with_reducible refine' RW.app (by with_unfolding_all exact rfl) (by first | with_reducible assumption | with_unfolding_all exact Nat.le_of_ble_eq_true rfl) ?_) | ((with_reducible refine (?_ : RW _ _ _ _)); with_reducible refine' RW.aug (by with_unfolding_all exact rfl) ?_) | (with_reducible first | refine' TupK.two_t ?_ | refine' TupK.two_f ?_ | refine' TupK.four_f ?_ | refine' IfK.t ?_ | refine' IfK.f ?_) | (with_reducible refine' IfK.gd ?_; with_reducible refine' IfK.decT (by first | with_reducible assumption | with_unfolding_all omega) ?_) | (with_reducible refine' IfK.gd ?_; with_reducible refine' IfK.decF (by first | with_reducible assumption | with_unfolding_all omega) ?_) | (with_reducible first | refine' NotK.t ?_ | refine' NotK.f ?_ | refine' TruthK.bool ?_ | refine' TruthK.int ?_) | ((with_reducible refine (?_ : EW (eVar _) _ _)); with_reducible refine' EW.var (by with_unfolding_all exact rfl) ?_) | (with_reducible first | refine' EW.cst ?_ | refine' EW.e1 ?_ | refine' EW.e2 ?_ | refine' EW.call ?_ | refine' EW.tup ?_ | refine' EW.lst ?_ | refine' EW.or ?_ | refine' EW.e3c ?_ | refine' EW.comp ?_ | refine' EsW.nil ?_ | refine' EsW.cons ?_ | refine' TW.c ?_) | ((with_reducible refine (?_ : TpK _ _)); with_reducible refine' TpK.mk (by with_unfolding_all exact Nat.le_of_ble_eq_true rfl) ?_) | ((with_reducible refine (?_ : LsK _ _)); with_reducible refine' LsK.mk (by with_unfolding_all exact Nat.le_of_ble_eq_true rfl) ?_) | (with_reducible first | refine' TW.tOf ?_ | refine' TW.not ?_ | refine' TW.and ?_ | refine' TW.or ?_) | ((with_reducible refine (?_ : CW _ _ _)); with_reducible refine' CW.of (by with_reducible assumption) ?_) | ((with_reducible refine (?_ : CW fPow3 _ _)); with_reducible refine' CW.pow3 (by with_unfolding_all first | decide | omega) (by with_reducible assumption) ?_) | ((with_reducible refine (?_ : OW _ _ _ _)); with_reducible refine' OW.of (by with_reducible assumption) ?_) | (with_reducible first | refine' OW.add ?_ | refine' OW.addI ?_ | refine' OW.sub ?_ | refine' OW.and ?_ | refine' OW.ord ?_ | refine' OW.eq ?_ | refine' OW.ne ?_) | ((with_reducible refine (?_ : OW fMul _ _ _)); with_reducible refine' OW.mul (by first | with_reducible assumption | with_unfolding_all exact mulOk_sm (by omega) (by omega) | with_unfolding_all exact mulOk_bd (by repeat' kt_len) (by repeat' kt_len) (Nat.le_of_ble_eq_true rfl)) ?_) | ((with_reducible refine (?_ : OW fDiv _ _ _)); with_reducible refine' OW.div (by with_reducible assumption) ?_) | ((with_reducible refine (?_ : OW fMod _ _ _)); with_reducible refine' OW.mod (by first | with_reducible assumption | with_unfolding_all omega) ?_) | ((with_reducible refine (?_ : OW fPow _ _ _)); with_reducible refine' OW.pow (by with_reducible assumption) ?_) | (with_reducible first | refine' UW.neg ?_) | ((with_reducible refine (?_ : UW _ _ _)); with_reducible refine' UW.of (by with_reducible assumption) ?_) | (with_reducible first | refine' CW.max ?_ | refine' CW.range2 ?_) | ((with_reducible refine (?_ : CW _ _ _)); with_reducible refine' CW.fn (by with_unfolding_all (repeat (first | exact StartsAt.nil | apply StartsAt.cons | apply StartsAt.unb))) (by with_unfolding_all exact rfl) ?_) | (with_reducible first | refine' KK.use (by with_reducible assumption) ?_))
          rw [← hl]; rfl
        | succ k =>
          have pk := Nat.two_pow_pos k
          have z : ((bval (k + 1) : Nat) : Int) ≠ 0 := by
            show ((2 ^ k : Nat) : Int) ≠ 0
            omega
          have dv : divOk ((bval (k + 1) : Nat) : Int) 2 = true := rfl
          have hb : (((bval (k + 1) : Nat) : Int)).fdiv 2 = ((bval k : Nat) : Int) := by
            rw [show (2 : Int) = ((2 : Nat) : Int) from rfl, fdiv_nat, bval_half]
          have ba : Builtin.bitAnd (M : Int) ((bval (k + 1) : Nat) : Int) = if M.testBit k = true then ((2 ^ k : Nat) : Int) else 0 := band_bit M k
          by_cases t : M.testBit k = true
          · rw [if_pos t] at ba
            have nz : Builtin.bitAnd (M : Int) ((bval (k + 1) : Nat) : Int) ≠ 0 := by rw [ba]; omega
            have w1 := s1 q A n h0 hn bq hA
            have w2 := s0 q r P n h0 hn bq br hP
            repeat' ((fail_if_success (with_reducible refine (?_ : @Eq _ _ _))); first | (with_reducible first | refine' CK.ret ?_ | refine' SK.next ?_ | refine' SK.ret ?_ | refine' SK.cont ?_ | refine' LK.next ?_ | refine' LK.cont ?_ | refine' RW.nil ?_ | refine' RW.seqK (fun K hK => ?_)) | ((with_reducible refine (?_ : RW _ _ _ _)); with_reducible refine' RW.lenOk (by with_unfolding_all exact rfl) ?_) | (with_reducible first | refine' SW.of ?_ | refine' PutAt.of ?_ ?_) | with_reducible exact SetR.z | (with_reducible first | refine' SetR.s3 ?_ | refine' SetR.s ?_) | (with_reducible refine (?_ : SetR _ (0 + 1) _ _)); refine SetR.s ?_ | ((with_reducible refine (?_ : RW _ _ _ _)); with_reducible refine' RW.retF (E := eVar _) (by with_unfolding_all exact rfl) ?_) | (with_reducible first | refine' RW.asg ?_ | refine' RW.ret ?_) | (fail_if_success (have : StopIf := by with_reducible assumption)); (with_reducible refine' RW.if ?_) | (with_reducible first | refine' RW.tup ?_ | refine' RW.for ?_ | refine' RW.while ?_ | refine' RW.new ?_) | ((with_reducible refine (?_ : RW _ _ _ _)); with_reducible refine' RW.app (by with_unfolding_all exact rfl) (by first | with_reducible assumption | with_unfolding_all exact Nat.le_of_ble_eq_true rfl) ?_) | ((with_reducible refine (?_ : RW _ _ _ _)); with_reducible refine' RW.aug (by with_unfolding_all exact rfl) ?_) | (with_reducible first | refine' TupK.two_t ?_ | refine' TupK.two_f ?_ | refine' TupK.four_f ?_ | refine' IfK.t ?_ | refine' IfK.f ?_) | (with_reducible refine' IfK.gd ?_; with_reducible refine' IfK.decT (by first | with_reducible assumption | with_unfolding_all omega) ?_) | (with_reducible refine' IfK.gd ?_; with_reducible refine' IfK.decF (by first | with_reducible assumption | with_unfolding_all omega) ?_) | (with_reducible first | refine' NotK.t ?_ | refine' NotK.f ?_ | refine' TruthK.bool ?_ | refine' TruthK.int ?_) | ((with_reducible refine (?_ : EW (eVar _) _ _)); with_reducible refine' EW.var (by with_unfolding_all exact rfl) ?_) | (with_reducible first | refine' EW.cst ?_ | refine' EW.e1 ?_ | refine' EW.e2 ?_ | refine' EW.call ?_ | refine' EW.tup ?_ | refine' EW.lst ?_ | refine' EW.or ?_ | refine' EW.e3c ?_ | refine' EW.comp ?_ | refine' EsW.nil ?_ | refine' EsW.cons ?_ | refine' TW.c ?_) | ((with_reducible refine (?_ : TpK _ _)); with_reducible refine' TpK.mk (by with_unfolding_all exact Nat.le_of_ble_eq_true rfl) ?_) | ((with_reducible refine (?_ : LsK _ _)); with_reducible refine' LsK.mk (by with_unfolding_all exact Nat.le_of_ble_eq_true rfl) ?_) | (with_reducible first | refine' TW.tOf ?_ | refine' TW.not ?_ | refine' TW.and ?_ | refine' TW.or ?_) | ((with_reducible refine (?_ : CW _ _ _)); with_reducible refine' CW.of (by with_reducible assumption) ?_) | ((with_reducible refine (?_ : CW fPow3 _ _)); with_reducible refine' CW.pow3 (by with_unfolding_all first | decide | omega) (by with_reducible assumption) ?_) | ((with_reducible refine (?_ : OW _ _ _ _)); with_reducible refine' OW.of (by with_reducible assumption) ?_) | (with_reducible first | refine' OW.add ?_ | refine' OW.addI ?_ | refine' OW.sub ?_ | refine' OW.and ?_ | refine' OW.ord ?_ | refine' OW.eq ?_ | refine' OW.ne ?_) | ((with_reducible refine (?_ : OW fMul _ _ _)); with_reducible refine' OW.mul (by first | with_reducible assumption | with_unfolding_all exact mulOk_sm (by omega) (by omega) | with_unfolding_all exact mulOk_bd (by repeat' kt_len) (by repeat' kt_len) (Nat.le_of_ble_eq_true rfl)) ?_) | ((with_reducible refine (?_ : OW fDiv _ _ _)); with_reducible refine' OW.div (by with_reducible assumption) ?_) | ((with_reducible refine (?_ : OW fMod _ _ _)); with_reducible refine' OW.mod (by first | with_reducible assumption | with_unfolding_all omega) ?_) | ((with_reducible refine (?_ : OW fPow _ _ _)); with_reducible refine' OW.pow (by with_reducible assumption) ?_) | (with_reducible first | refine' UW.neg ?_) | ((with_reducible refine (?_ : UW _ _ _)); with_reducible refine' UW.of (by with_reducible assumption) ?_) | (with_reducible first | refine' CW.max ?_ | refine' CW.range2 ?_) | ((with_reducible refine (?_ : CW _ _ _)); with_reducible refine' CW.fn (by with_unfolding_all (repeat (first | exact StartsAt.nil | apply StartsAt.cons | apply StartsAt.unb))) (by with_unfolding_all exact rfl) ?_) | (with_reducible first | refine' KK.use (by with_reducible assumption) ?_))
            rw [hb]
            exact ⟨k, by omega, _, _, dubI_bd h0 hn, addI_bd h0 hn, by rw [← hl, ladI, if_pos t], rfl⟩
          · rw [if_neg t] at ba
            have nz : ¬ (Builtin.bitAnd (M : Int) ((bval (k + 1) : Nat) : Int) ≠ 0) := by rw [ba]; exact fun h => h rfl
            have w1 := s1 r A n h0 hn br hA
            have w2 := s0 r q P n h0 hn br bq hP
            repeat' ((fail_if_success (with_reducible refine (?_ : @Eq _ _ _))); first | (with_reducible first | refine' CK.ret ?_ | refine' SK.next ?_ | refine' SK.ret ?_ | refine' SK.cont ?_ | refine' LK.next ?_ | refine' LK.cont ?_ | refine' RW.nil ?_ | refine' RW.seqK (fun K hK => ?_)) | ((with_reducible refine (?_ : RW _ _ _ _)); with_reducible refine' RW.lenOk (by with_unfolding_all exact rfl) ?_) | (with_reducible first | refine' SW.of ?_ | refine' PutAt.of ?_ ?_) | with_reducible exact SetR.z | (with_reducible first | refine' SetR.s3 ?_ | refine' SetR.s ?_) | (with_reducible refine (?_ : SetR _ (0 + 1) _ _)); refine SetR.s ?_ | ((with_reducible refine (?_ : RW _ _ _ _)); with_reducible refine' RW.retF (E := eVar _) (by with_unfolding_all exact rfl) ?_) | (with_reducible first | refine' RW.asg ?_ | refine' RW.ret ?_) | (fail_if_success (have : StopIf := by with_reducible assumption)); (with_reducible refine' RW.if ?_) | (with_reducible first | refine' RW.tup ?_ | refine' RW.for ?_ | refine' RW.while ?_ | refine' RW.new ?_) | ((with_reducible refine (?_ : RW _ _ _ _)); with_reducible refine' RW.app (by with_unfolding_all exact rfl) (by first | with_reducible assumption | with_unfolding_all exact Nat.le_of_ble_eq_true rfl) ?_) | ((with_reducible refine (?_ : RW _ _ _ _)); with_reducible refine' RW.aug (by with_unfolding_all exact rfl) ?_) | (with_reducible first | refine' TupK.two_t ?_ | refine' TupK.two_f ?_ | refine' TupK.four_f ?_ | refine' IfK.t ?_ | refine' IfK.f ?_) | (with_reducible refine' IfK.gd ?_; with_reducible refine' IfK.decT (by first | with_reducible assumption | with_unfolding_all omega) ?_) | (with_reducible refine' IfK.gd ?_; with_reducible refine' IfK.decF (by first | with_reducible assumption | with_unfolding_all omega) ?_) | (with_reducible first | refine' NotK.t ?_ | refine' NotK.f ?_ | refine' TruthK.bool ?_ | refine' TruthK.int ?_) | ((with_reducible refine (?_ : EW (eVar _) _ _)); with_reducible refine' EW.var (by with_unfolding_all exact rfl) ?_) | (with_reducible first | refine' EW.cst ?_ | refine' EW.e1 ?_ | refine' EW.e2 ?_ | refine' EW.call ?_ | refine' EW.tup ?_ | refine' EW.lst ?_ | refine' EW.or ?_ | refine' EW.e3c ?_ | refine' EW.comp ?_ | refine' EsW.nil ?_ | refine' EsW.cons ?_ | refine' TW.c ?_) | ((with_reducible refine (?_ : TpK _ _)); with_reducible refine' TpK.mk (by with_unfolding_all exact Nat.le_of_ble_eq_true rfl) ?_) | ((with_reducible refine (?_ : LsK _ _)); with_reducible refine' LsK.mk (by with_unfolding_all exact Nat.le_of_ble_eq_true rfl) ?_) | (with_reducible first | refine' TW.tOf ?_ | refine' TW.not ?_ | refine' TW.and ?_ | refine' TW.or ?_) | ((with_reducible refine (?_ : CW _ _ _)); with_reducible refine' CW.of (by with_reducible assumption) ?_) | ((with_reducible refine (?_ : CW fPow3 _ _)); with_reducible refine' CW.pow3 (by with_unfolding_all first | decide | omega) (by with_reducible assumption) ?_) | ((with_reducible refine (?_ : OW _ _ _ _)); with_reducible refine' OW.of (by with_reducible assumption) ?_) | (with_reducible first | refine' OW.add ?_ | refine' OW.addI ?_ | refine' OW.sub ?_ | refine' OW.and ?_ | refine' OW.ord ?_ | refine' OW.eq ?_ | refine' OW.ne ?_) | ((with_reducible refine (?_ : OW fMul _ _ _)); with_reducible refine' OW.mul (by first | with_reducible assumption | with_unfolding_all exact mulOk_sm (by omega) (by omega) | with_unfolding_all exact mulOk_bd (by repeat' kt_len) (by repeat' kt_len) (Nat.le_of_ble_eq_true rfl)) ?_) | ((with_reducible refine (?_ : OW fDiv _ _ _)); with_reducible refine' OW.div (by with_reducible assumption) ?_) | ((with_reducible refine (?_ : OW fMod _ _ _)); with_reducible refine' OW.mod (by first | with_reducible assumption | with_unfolding_all omega) ?_) | ((with_reducible refine (?_ : OW fPow _ _ _)); with_reducible refine' OW.pow (by with_reducible assumption) ?_) | (with_reducible first | refine' UW.neg ?_) | ((with_reducible refine (?_ : UW _ _ _)); with_reducible refine' UW.of (by with_reducible assumption) ?_) | (with_reducible first | refine' CW.max ?_ | refine' CW.range2 ?_) | ((with_reducible refine (?_ : CW _ _ _)); with_reducible refine' CW.fn (by with_unfolding_all (repeat (first | exact StartsAt.nil | apply StartsAt.cons | apply StartsAt.unb))) (by with_unfolding_all exact rfl) ?_) | (with_reducible first | refine' KK.use (by with_reducible assumption) ?_))
            rw [hb]
            exact ⟨k, by omega, _, _, addI_bd h0 hn, dubI_bd h0 hn, by rw [← hl, ladI, if_neg t], rfl⟩
      · have pj : 2 ^ j ≤ 2 ^ (J + 1) := Nat.pow_le_pow_right (by decide) (by omega)
        have lt : (((2 ^ j : Nat) : Int) < (M : Int)) := by omega
        have bj : Bd 1000 ((2 ^ j : Nat) : Int) := Bd.two (by omega)
        repeat' ((fail_if_success (with_reducible refine (?_ : @Eq _ _ _))); first | (with_reducible first | refine' CK.ret ?_ | refine' SK.next ?_ | refine' SK.ret ?_ | refine' SK.cont ?_ | refine' LK.next ?_ | refine' LK.cont ?_ | refine' RW.nil ?_ | refine' RW.seqK (fun K hK => ?_)) | ((with_reducible refine (?_ : RW _ _ _ _)); with_reducible refine' RW.lenOk (by with_unfolding_all exact rfl) ?_) | (with_reducible first | refine' SW.of ?_ | refine' PutAt.of ?_ ?_) | with_reducible exact SetR.z | (with_reducible first | refine' SetR.s3 ?_ | refine' SetR.s ?_) | (with_reducible refine (?_ : SetR _ (0 + 1) _ _)); refine SetR.s ?_ | ((with_reducible refine (?_ : RW _ _ _ _)); with_reducible refine' RW.retF (E := eVar _) (by with_unfolding_all exact rfl) ?_) | (with_reducible first | refine' RW.asg ?_ | refine' RW.ret ?_) | (fail_if_success (have : StopIf := by with_reducible assumption)); (with_reducible refine' RW.if ?_) | (with_reducible first | refine' RW.tup ?_ | refine' RW.for ?_ | refine' RW.while ?_ | refine' RW.new ?_) | ((with_reducible refine (?_ : RW _ _ _ _)); with_reducible refine' RW.app (by with_unfolding_all exact rfl) (by first | with_reducible assumption | with_unfolding_all exact Nat.le_of_ble_eq_true rfl) ?_) | ((with_reducible refine (?_ : RW _ _ _ _)); with_reducible refine' RW.aug (by with_unfolding_all exact rfl) ?_) | (with_reducible first | refine' TupK.two_t ?_ | refine' TupK.two_f ?_ | refine' TupK.four_f ?_ | refine' IfK.t ?_ | refine' IfK.f ?_) | (with_reducible refine' IfK.gd ?_; with_reducible refine' IfK.decT (by first | with_reducible assumption | with_unfolding_all omega) ?_) | (with_reducible refine' IfK.gd ?_; with_reducible refine' IfK.decF (by first | with_reducible assumption | with_unfolding_all omega) ?_) | (with_reducible first | refine' NotK.t ?_ | refine' NotK.f ?_ | refine' TruthK.bool ?_ | refine' TruthK.int ?_) | ((with_reducible refine (?_ : EW (eVar _) _ _)); with_reducible refine' EW.var (by with_unfolding_all exact rfl) ?_) | (with_reducible first | refine' EW.cst ?_ | refine' EW.e1 ?_ | refine' EW.e2 ?_ | refine' EW.call ?_ | refine' EW.tup ?_ | refine' EW.lst ?_ | refine' EW.or ?_ | refine' EW.e3c ?_ | refine' EW.comp ?_ | refine' EsW.nil ?_ | refine' EsW.cons ?_ | refine' TW.c ?_) | ((with_reducible refine (?_ : TpK _ _)); with_reducible refine' TpK.mk (by with_unfolding_all exact Nat.le_of_ble_eq_true rfl) ?_) | ((with_reducible refine (?_ : LsK _ _)); with_reducible refine' LsK.mk (by with_unfolding_all exact Nat.le_of_ble_eq_true rfl) ?_) | (with_reducible first | refine' TW.tOf ?_ | refine' TW.not ?_ | refine' TW.and ?_ | refine' TW.or ?_) | ((with_reducible refine (?_ : CW _ _ _)); with_reducible refine' CW.of (by with_reducible assumption) ?_) | ((with_reducible refine (?_ : CW fPow3 _ _)); with_reducible refine' CW.pow3 (by with_unfolding_all first | decide | omega) (by with_reducible assumption) ?_) | ((with_reducible refine (?_ : OW _ _ _ _)); with_reducible refine' OW.of (by with_reducible assumption) ?_) | (with_reducible first | refine' OW.add ?_ | refine' OW.addI ?_ | refine' OW.sub ?_ | refine' OW.and ?_ | refine' OW.ord ?_ | refine' OW.eq ?_ | refine' OW.ne ?_) | ((with_reducible refine (?_ : OW fMul _ _ _)); with_reducible refine' OW.mul (by first | with_reducible assumption | with_unfolding_all exact mulOk_sm (by omega) (by omega) | with_unfolding_all exact mulOk_bd (by repeat' kt_len) (by repeat' kt_len) (Nat.le_of_ble_eq_true rfl)) ?_) | ((with_reducible refine (?_ : OW fDiv _ _ _)); with_reducible refine' OW.div (by with_reducible assumption) ?_) | ((with_reducible refine (?_ : OW fMod _ _ _)); with_reducible refine' OW.mod (by first | with_reducible assumption | with_unfolding_all omega) ?_) | ((with_reducible refine (?_ : OW fPow _ _ _)); with_reducible refine' OW.pow (by with_reducible assumption) ?_) | (with_reducible first | refine' UW.neg ?_) | ((with_reducible refine (?_ : UW _ _ _)); with_reducible refine' UW.of (by with_reducible assumption) ?_) | (with_reducible first | refine' CW.max ?_ | refine' CW.range2 ?_) | ((with_reducible refine (?_ : CW _ _ _)); with_reducible refine' CW.fn (by with_unfolding_all (repeat (first | exact StartsAt.nil | apply StartsAt.cons | apply StartsAt.unb))) (by with_unfolding_all exact rfl) ?_) | (with_reducible first | refine' KK.use (by with_reducible assumption) ?_))
        exact ⟨k - 1, by omega, j + 1, by omega, by rw [Nat.pow_succ, Int.natCast_mul]; rfl⟩

theorem ok__law_draw {I : GI} (hat : HatI I hd.view_39) (hlen : FunOK I 0 ("len" : Str) fLen) : ∃ d, (recsOf hd.view_39)[7]? = some d ∧ d.name = ("_law_draw" : Str) ∧ ∃ G, FunOK I 1 d.name G ∧
    ∀ (ns : List Int) (p : Nat), ns.length ≤ 63 → p ≤ 100 → G [.lst (intsD ns), .int (p : Nat)] = some (.int (drawJ ns p)) := by
  refine' ⟨_, rfl, rfl, _, FunOK.of 1000 (i := 7) (ns := ["script", "at", "wide"]) (m := 2) hat rfl ⟨rfl, by decide, by decide⟩ (by decide) (fun pm cd doc => vs2 fun a b => rfl) rfl rfl ?h, ?g⟩
  case h =>
    dsimp only
    repeat' ((show (_ : Prop)); first | (with_reducible first | exact OpOK.add | exact OpOK.sub | exact OpOK.mul | exact OpOK.mod | exact OpOK.pow | exact OpOK.and | exact OpOK.lt | exact OpOK.le | exact OpOK.gt | exact OpOK.ge | exact OpOK.eq | exact OpOK.ne | exact OpOK.notIn | exact IOpOK.add | exact IOpOK.sub | exact IOpOK.mul | exact IOpOK.div | exact IOpOK.mod | exact EvOK.cint | exact EvOK.cbool | refine' EvOK.v (by with_unfolding_all exact rfl) (by with_unfolding_all exact rfl) (by with_unfolding_all exact rfl) (by with_unfolding_all exact rfl) | refine' EvOK.bin ?_ ?_ ?_ | refine' EvOK.cmp ?_ ?_ ?_ (by with_unfolding_all exact rfl) | refine' EvOK.neg ?_ | refine' EvOK.bool1 ?_ | refine' EvOK.or ?_ ?_ | refine' EvOK.tup ?_ | refine' EvOK.lst ?_ | refine' EvOK.call' (by with_unfolding_all exact rfl) (by with_unfolding_all exact rfl) (by with_unfolding_all exact rfl) (by with_unfolding_all exact fun _ => rfl) (by with_unfolding_all exact rfl) (by with_unfolding_all exact fun _ => ⟨_, _, rfl⟩) (by with_unfolding_all first | assumption | exact FunOK.le (by assumption) (by decide)) ?_ | refine' EvOK.gsub (by with_unfolding_all exact rfl) (by with_unfolding_all exact rfl) (by with_unfolding_all exact rfl) (by with_unfolding_all exact fun _ _ => rfl) (by with_unfolding_all assumption) ?_ | refine' EvOK.subs ?_ ?_ (by with_unfolding_all exact fun _ _ => rfl) | refine' EvOK.comp (by with_unfolding_all exact ⟨by decide, rfl, rfl, by decide, rfl, by decide, by decide⟩) ?_ ?_ ?_ (by with_unfolding_all exact fun _ _ => rfl) | exact EvsOK.nil | refine' EvsOK.cons ?_ ?_ (by with_unfolding_all exact fun _ => rfl) | refine' TestsOK.one ?_ | refine' TrOK.cmp ?_ ?_ ?_ (by with_unfolding_all exact rfl) | refine' TrOK.chain ?_ ?_ ?_ ?_ ?_ (by with_unfolding_all exact rfl) | refine' TrOK.not ?_ | exact TrOK.and0 | exact TrOK.or0 | refine' TrOK.and ?_ ?_ | refine' TrOK.or ?_ ?_ | refine' TrOK.plain ?_ (by with_unfolding_all exact fun _ _ => rfl) | exact RunOK.nil | refine' RunOK.cons ?_ ?_ | exact RunOK.cont | refine' RunOK.ret ?_ | refine' RunOK.ifS ?_ ?_ ?_ | refine' RunOK.whileS ?_ ?_ | refine' RunOK.new' (by with_unfolding_all exact rfl) (by with_unfolding_all exact fun _ => rfl) (by with_unfolding_all exact ⟨rfl, by decide, by decide⟩) ?_ | refine' RunOK.asg' (by with_unfolding_all exact rfl) (by with_unfolding_all exact fun _ => rfl) (by with_unfolding_all exact ⟨rfl, by decide, by decide⟩) ?_ | refine' RunOK.aug' (by with_unfolding_all exact rfl) (by with_unfolding_all exact ⟨rfl, by decide, by decide⟩) ?_ ?_ | refine' RunOK.forM' (by with_unfolding_all exact rfl) (by with_unfolding_all exact rfl) (by with_unfolding_all exact rfl) (by with_unfolding_all exact fun _ _ => rfl) (by with_unfolding_all exact ⟨rfl, by decide, by decide⟩) ?_ | refine' RunOK.for' (by with_unfolding_all exact rfl) (by with_unfolding_all exact fun _ _ => rfl) (by with_unfolding_all exact ⟨rfl, by decide, by decide⟩) ?_ ?_ | refine' RunOK.app' (by with_unfolding_all exact rfl) (by with_unfolding_all exact rfl) (by with_unfolding_all exact fun _ => rfl) (by with_unfolding_all exact fun _ => rfl) (by with_unfolding_all exact fun _ => rfl) (by with_unfolding_all exact ⟨rfl, by decide, by decide⟩) ?_ | refine' RunOK.tupS' (by with_unfolding_all first | exact .cons (.cons .nil) | exact .cons (.cons (.cons .nil)) | exact .cons (.cons (.cons (.cons .nil)))) (by with_unfolding_all exact fun env h => by cases env; cases h; rfl) (by with_unfolding_all exact rfl) (by with_unfolding_all exact fun _ => rfl) (by with_unfolding_all exact ⟨rfl, by decide, by decide⟩) ?_ | refine' RunOK.tupP' (by with_unfolding_all first | exact .cons (.cons .nil) | exact .cons (.cons (.cons .nil)) | exact .cons (.cons (.cons (.cons .nil)))) (by with_unfolding_all exact fun env h => by cases env; cases h; rfl) (by with_unfolding_all exact rfl) (by with_unfolding_all exact fun _ => rfl) (by with_unfolding_all exact ⟨rfl, by decide, by decide⟩) ?_))
  case g =>
    intro ns p h1 h2
    have w1 := fLen_ints (l := ns) (by omega)
    obtain ⟨T, wp, eW, hW⟩ := wide_T
    refine CW.eq ?_
    unfold drawJ
    rw [eW]
    clear eW
    cases q : ns[p]? with
    | some x =>
      have lt : (p : Int) < (ns.length : Int) := by have := (List.getElem?_eq_some_iff.mp q).1; omega
      have w2 := fSubs_ints q (by omega)
      by_cases x0 : x < 0
      · repeat' ((fail_if_success (with_reducible refine (?_ : @Eq _ _ _))); first | (with_reducible first | refine' CK.ret ?_ | refine' SK.next ?_ | refine' SK.ret ?_ | refine' SK.cont ?_ | refine' LK.next ?_ | refine' LK.cont ?_ | refine' RW.nil ?_ | refine' RW.seqK (fun K hK => ?_)) | ((with_reducible refine (?_ : RW _ _ _ _)); with_reducible refine' RW.lenOk (by with_unfolding_all exact rfl) ?_) | (with_reducible first | refine' SW.of ?_ | refine' PutAt.of ?_ ?_) | with_reducible exact SetR.z | (with_reducible first | refine' SetR.s3 ?_ | refine' SetR.s ?_) | (with_reducible refine (?_ : SetR _ (0 + 1) _ _)); refine SetR.s ?_ | ((with_reducible refine (?_ : RW _ _ _ _)); with_reducible refine' RW.retF (E := eVar _) (by with_unfolding_all exact rfl) ?_) | (with_reducible first | refine' RW.asg ?_ | refine' RW.ret ?_) | (fail_if_success (have : StopIf := by with_reducible assumption)); (with_reducible refine' RW.if ?_) | (with_reducible first | refine' RW.tup ?_ | refine' RW.for ?_ | refine' RW.while ?_ | refine' RW.new ?_) | ((with_reducible refine (?_ : RW _ _ _ _)); with_reducible refine' RW.app (by with_unfolding_all exact rfl) (by first | with_reducible assumption | with_unfolding_all exact Nat.le_of_ble_eq_true rfl) ?_) | ((with_reducible refine (?_ : RW _ _ _ _)); with_reducible refine' RW.aug (by with_unfolding_all exact rfl) ?_) | (with_reducible first | refine' TupK.two_t ?_ | refine' TupK.two_f ?_ | refine' TupK.four_f ?_ | refine' IfK.t ?_ | refine' IfK.f ?_) | (with_reducible refine' IfK.gd ?_; with_reducible refine' IfK.decT (by first | with_reducible assumption | with_unfolding_all omega) ?_) | (with_reducible refine' IfK.gd ?_; with_reducible refine' IfK.decF (by first | with_reducible assumption | with_unfolding_all omega) ?_) | (with_reducible first | refine' NotK.t ?_ | refine' NotK.f ?_ | refine' TruthK.bool ?_ | refine' TruthK.int ?_) | ((with_reducible refine (?_ : EW (eVar _) _ _)); with_reducible refine' EW.var (by with_unfolding_all exact rfl) ?_) | (with_reducible first | refine' EW.cst ?_ | refine' EW.e1 ?_ | refine' EW.e2 ?_ | refine' EW.call ?_ | refine' EW.tup ?_ | refine' EW.lst ?_ | refine' EW.or ?_ | refine' EW.e3c ?_ | refine' EW.comp ?_ | refine' EsW.nil ?_ | refine' EsW.cons ?_ | refine' TW.c ?_) | ((with_reducible refine (?_ : TpK _ _)); with_reducible refine' TpK.mk (by with_unfolding_all exact Nat.le_of_ble_eq_true rfl) ?_) | ((with_reducible refine (?_ : LsK _ _)); with_reducible refine' LsK.mk (by with_unfolding_all exact Nat.le_of_ble_eq_true rfl) ?_) | (with_reducible first | refine' TW.tOf ?_ | refine' TW.not ?_ | refine' TW.and ?_ | refine' TW.or ?_) | ((with_reducible refine (?_ : CW _ _ _)); with_reducible refine' CW.of (by with_reducible assumption) ?_) | ((with_reducible refine (?_ : CW fPow3 _ _)); with_reducible refine' CW.pow3 (by with_unfolding_all first | decide | omega) (by with_reducible assumption) ?_) | ((with_reducible refine (?_ : OW _ _ _ _)); with_reducible refine' OW.of (by with_reducible assumption) ?_) | (with_reducible first | refine' OW.add ?_ | refine' OW.addI ?_ | refine' OW.sub ?_ | refine' OW.and ?_ | refine' OW.ord ?_ | refine' OW.eq ?_ | refine' OW.ne ?_) | ((with_reducible refine (?_ : OW fMul _ _ _)); with_reducible refine' OW.mul (by first | with_reducible assumption | with_unfolding_all exact mulOk_sm (by omega) (by omega) | with_unfolding_all exact mulOk_bd (by repeat' kt_len) (by repeat' kt_len) (Nat.le_of_ble_eq_true rfl)) ?_) | ((with_reducible refine (?_ : OW fDiv _ _ _)); with_reducible refine' OW.div (by with_reducible assumption) ?_) | ((with_reducible refine (?_ : OW fMod _ _ _)); with_reducible refine' OW.mod (by first | with_reducible assumption | with_unfolding_all omega) ?_) | ((with_reducible refine (?_ : OW fPow _ _ _)); with_reducible refine' OW.pow (by with_reducible assumption) ?_) | (with_reducible first | refine' UW.neg ?_) | ((with_reducible refine (?_ : UW _ _ _)); with_reducible refine' UW.of (by with_reducible assumption) ?_) | (with_reducible first | refine' CW.max ?_ | refine' CW.range2 ?_) | ((with_reducible refine (?_ : CW _ _ _)); with_reducible refine' CW.fn (by with_unfolding_all (repeat (first | exact StartsAt.nil | apply StartsAt.cons | apply StartsAt.unb))) (by with_unfolding_all exact rfl) ?_) | (with_reducible first | refine' KK.use (by with_reducible assumption) ?_))
        simp only [x0, if_true]
      · repeat' ((fail_if_success (with_reducible refine (?_ : @Eq _ _ _))); first | (with_reducible first | refine' CK.ret ?_ | refine' SK.next ?_ | refine' SK.ret ?_ | refine' SK.cont ?_ | refine' LK.next ?_ | refine' LK.cont ?_ | refine' RW.nil ?_ | refine' RW.seqK (fun K hK => ?_)) | ((with_reducible refine (?_ : RW _ _ _ _)); with_reducible refine' RW.lenOk (by with_unfolding_all exact rfl) ?_) | (with_reducible first | refine' SW.of ?_ | refine' PutAt.of ?_ ?_) | with_reducible exact SetR.z | (with_reducible first | refine' SetR.s3 ?_ | refine' SetR.s ?_) | (with_reducible refine (?_ : SetR _ (0 + 1) _ _)); refine SetR.s ?_ | ((with_reducible refine (?_ : RW _ _ _ _)); with_reducible refine' RW.retF (E := eVar _) (by with_unfolding_all exact rfl) ?_) | (with_reducible first | refine' RW.asg ?_ | refine' RW.ret ?_) | (fail_if_success (have : StopIf := by with_reducible assumption)); (with_reducible refine' RW.if ?_) | (with_reducible first | refine' RW.tup ?_ | refine' RW.for ?_ | refine' RW.while ?_ | refine' RW.new ?_) | ((with_reducible refine (?_ : RW _ _ _ _)); with_reducible refine' RW.app (by with_unfolding_all exact rfl) (by first | with_reducible assumption | with_unfolding_all exact Nat.le_of_ble_eq_true rfl) ?_) | ((with_reducible refine (?_ : RW _ _ _ _)); with_reducible refine' RW.aug (by with_unfolding_all exact rfl) ?_) | (with_reducible first | refine' TupK.two_t ?_ | refine' TupK.two_f ?_ | refine' TupK.four_f ?_ | refine' IfK.t ?_ | refine' IfK.f ?_) | (with_reducible refine' IfK.gd ?_; with_reducible refine' IfK.decT (by first | with_reducible assumption | with_unfolding_all omega) ?_) | (with_reducible refine' IfK.gd ?_; with_reducible refine' IfK.decF (by first | with_reducible assumption | with_unfolding_all omega) ?_) | (with_reducible first | refine' NotK.t ?_ | refine' NotK.f ?_ | refine' TruthK.bool ?_ | refine' TruthK.int ?_) | ((with_reducible refine (?_ : EW (eVar _) _ _)); with_reducible refine' EW.var (by with_unfolding_all exact rfl) ?_) | (with_reducible first | refine' EW.cst ?_ | refine' EW.e1 ?_ | refine' EW.e2 ?_ | refine' EW.call ?_ | refine' EW.tup ?_ | refine' EW.lst ?_ | refine' EW.or ?_ | refine' EW.e3c ?_ | refine' EW.comp ?_ | refine' EsW.nil ?_ | refine' EsW.cons ?_ | refine' TW.c ?_) | ((with_reducible refine (?_ : TpK _ _)); with_reducible refine' TpK.mk (by with_unfolding_all exact Nat.le_of_ble_eq_true rfl) ?_) | ((with_reducible refine (?_ : LsK _ _)); with_reducible refine' LsK.mk (by with_unfolding_all exact Nat.le_of_ble_eq_true rfl) ?_) | (with_reducible first | refine' TW.tOf ?_ | refine' TW.not ?_ | refine' TW.and ?_ | refine' TW.or ?_) | ((with_reducible refine (?_ : CW _ _ _)); with_reducible refine' CW.of (by with_reducible assumption) ?_) | ((with_reducible refine (?_ : CW fPow3 _ _)); with_reducible refine' CW.pow3 (by with_unfolding_all first | decide | omega) (by with_reducible assumption) ?_) | ((with_reducible refine (?_ : OW _ _ _ _)); with_reducible refine' OW.of (by with_reducible assumption) ?_) | (with_reducible first | refine' OW.add ?_ | refine' OW.addI ?_ | refine' OW.sub ?_ | refine' OW.and ?_ | refine' OW.ord ?_ | refine' OW.eq ?_ | refine' OW.ne ?_) | ((with_reducible refine (?_ : OW fMul _ _ _)); with_reducible refine' OW.mul (by first | with_reducible assumption | with_unfolding_all exact mulOk_sm (by omega) (by omega) | with_unfolding_all exact mulOk_bd (by repeat' kt_len) (by repeat' kt_len) (Nat.le_of_ble_eq_true rfl)) ?_) | ((with_reducible refine (?_ : OW fDiv _ _ _)); with_reducible refine' OW.div (by with_reducible assumption) ?_) | ((with_reducible refine (?_ : OW fMod _ _ _)); with_reducible refine' OW.mod (by first | with_reducible assumption | with_unfolding_all omega) ?_) | ((with_reducible refine (?_ : OW fPow _ _ _)); with_reducible refine' OW.pow (by with_reducible assumption) ?_) | (with_reducible first | refine' UW.neg ?_) | ((with_reducible refine (?_ : UW _ _ _)); with_reducible refine' UW.of (by with_reducible assumption) ?_) | (with_reducible first | refine' CW.max ?_ | refine' CW.range2 ?_) | ((with_reducible refine (?_ : CW _ _ _)); with_reducible refine' CW.fn (by with_unfolding_all (repeat (first | exact StartsAt.nil | apply StartsAt.cons | apply StartsAt.unb))) (by with_unfolding_all exact rfl) ?_) | (with_reducible first | refine' KK.use (by with_reducible assumption) ?_))
        simp only [x0, if_false]
    | none =>
      have lt : ¬ (p : Int) < (ns.length : Int) := by have := List.getElem?_eq_none_iff.mp q; omega
      repeat' ((fail_if_success (with_reducible refine (?_ : @Eq _ _ _))); first | (with_reducible first | refine' CK.ret ?_ | refine' SK.next ?_ | refine' SK.ret ?_ | refine' SK.cont ?_ | refine' LK.next ?_ | refine' LK.cont ?_ | refine' RW.nil ?_ | refine' RW.seqK (fun K hK => ?_)) | ((with_reducible refine (?_ : RW _ _ _ _)); with_reducible refine' RW.lenOk (by with_unfolding_all exact rfl) ?_) | (with_reducible first | refine' SW.of ?_ | refine' PutAt.of ?_ ?_) | with_reducible exact SetR.z | (with_reducible first | refine' SetR.s3 ?_ | refine' SetR.s ?_) | (with_reducible refine (?_ : SetR _ (0 + 1) _ _)); refine SetR.s ?_ | ((with_reducible refine (?_ : RW _ _ _ _)); with_reducible refine' RW.retF (E := eVar _) (by with_unfolding_all exact rfl) ?_) | (with_reducible first | refine' RW.asg ?_ | refine' RW.ret ?_) | (fail_if_success (have : StopIf := by with_reducible assumption)); (with_reducible refine' RW.if ?_) | (with_reducible first | refine' RW.tup ?_ | refine' RW.for ?_ | refine' RW.while ?_ | refine' RW.new ?_) | ((with_reducible refine (?_ : RW _ _ _ _)); with_reducible refine' RW.app (by with_unfolding_all exact rfl) (by first | with_reducible assumption | with_unfolding_all exact Nat.le_of_ble_eq_true rfl) ?_) | ((with_reducible refine (?_ : RW _ _ _ _)); with_reducible refine' RW.aug (by with_unfolding_all exact rfl) ?_) | (with_reducible first | refine' TupK.two_t ?_ | refine' TupK.two_f ?_ | refine' TupK.four_f ?_ | refine' IfK.t ?_ | refine' IfK.f ?_) | (with_reducible refine' IfK.gd ?_; with_reducible refine' IfK.decT (by first | with_reducible assumption | with_unfolding_all omega) ?_) | (with_reducible refine' IfK.gd ?_; with_reducible refine' IfK.decF (by first | with_reducible assumption | with_unfolding_all omega) ?_) | (with_reducible first | refine' NotK.t ?_ | refine' NotK.f ?_ | refine' TruthK.bool ?_ | refine' TruthK.int ?_) | ((with_reducible refine (?_ : EW (eVar _) _ _)); with_reducible refine' EW.var (by with_unfolding_all exact rfl) ?_) | (with_reducible first | refine' EW.cst ?_ | refine' EW.e1 ?_ | refine' EW.e2 ?_ | refine' EW.call ?_ | refine' EW.tup ?_ | refine' EW.lst ?_ | refine' EW.or ?_ | refine' EW.e3c ?_ | refine' EW.comp ?_ | refine' EsW.nil ?_ | refine' EsW.cons ?_ | refine' TW.c ?_) | ((with_reducible refine (?_ : TpK _ _)); with_reducible refine' TpK.mk (by with_unfolding_all exact Nat.le_of_ble_eq_true rfl) ?_) | ((with_reducible refine (?_ : LsK _ _)); with_reducible refine' LsK.mk (by with_unfolding_all exact Nat.le_of_ble_eq_true rfl) ?_) | (with_reducible first | refine' TW.tOf ?_ | refine' TW.not ?_ | refine' TW.and ?_ | refine' TW.or ?_) | ((with_reducible refine (?_ : CW _ _ _)); with_reducible refine' CW.of (by with_reducible assumption) ?_) | ((with_reducible refine (?_ : CW fPow3 _ _)); with_reducible refine' CW.pow3 (by with_unfolding_all first | decide | omega) (by with_reducible assumption) ?_) | ((with_reducible refine (?_ : OW _ _ _ _)); with_reducible refine' OW.of (by with_reducible assumption) ?_) | (with_reducible first | refine' OW.add ?_ | refine' OW.addI ?_ | refine' OW.sub ?_ | refine' OW.and ?_ | refine' OW.ord ?_ | refine' OW.eq ?_ | refine' OW.ne ?_) | ((with_reducible refine (?_ : OW fMul _ _ _)); with_reducible refine' OW.mul (by first | with_reducible assumption | with_unfolding_all exact mulOk_sm (by omega) (by omega) | with_unfolding_all exact mulOk_bd (by repeat' kt_len) (by repeat' kt_len) (Nat.le_of_ble_eq_true rfl)) ?_) | ((with_reducible refine (?_ : OW fDiv _ _ _)); with_reducible refine' OW.div (by with_reducible assumption) ?_) | ((with_reducible refine (?_ : OW fMod _ _ _)); with_reducible refine' OW.mod (by first | with_reducible assumption | with_unfolding_all omega) ?_) | ((with_reducible refine (?_ : OW fPow _ _ _)); with_reducible refine' OW.pow (by with_reducible assumption) ?_) | (with_reducible first | refine' UW.neg ?_) | ((with_reducible refine (?_ : UW _ _ _)); with_reducible refine' UW.of (by with_reducible assumption) ?_) | (with_reducible first | refine' CW.max ?_ | refine' CW.range2 ?_) | ((with_reducible refine (?_ : CW _ _ _)); with_reducible refine' CW.fn (by with_unfolding_all (repeat (first | exact StartsAt.nil | apply StartsAt.cons | apply StartsAt.unb))) (by with_unfolding_all exact rfl) ?_) | (with_reducible first | refine' KK.use (by with_reducible assumption) ?_))
      rfl

theorem ok__law_sum {I : GI} (hat : HatI I hd.view_39) (hpow : FunOK I 0 ("pow" : Str) fPow3) : ∃ d, (recsOf hd.view_39)[8]? = some d ∧ d.name = ("_law_sum" : Str) ∧ ∃ G, FunOK I 1 d.name G ∧
    ∀ (A B : PI) (a2 a4 p : Int), 2 ≤ p → Bd 2000 p → Bd 2000 a2 → Bd 2000 a4 → BdP 2000 A → BdP 2000 B → G [ptD A, ptD B, .int a2, .int a4, .int p] = some (ptD (sumI p a2 a4 A B)) := by
  refine' ⟨_, rfl, rfl, _, FunOK.of 1000 (i := 8) (ns := ["one", "two", "a2", "a4", "p", "x1", "y1", "x2", "y2", "s", "x3"]) (m := 5) hat rfl ⟨rfl, by decide, by decide⟩ (by decide) (fun pm cd doc => vs5 fun a b c d e => rfl) rfl rfl ?h, ?g⟩
  case h =>
    dsimp only
    repeat' ((show (_ : Prop)); first | (with_reducible first | exact OpOK.add | exact OpOK.sub | exact OpOK.mul | exact OpOK.mod | exact OpOK.pow | exact OpOK.and | exact OpOK.lt | exact OpOK.le | exact OpOK.gt | exact OpOK.ge | exact OpOK.eq | exact OpOK.ne | exact OpOK.notIn | exact IOpOK.add | exact IOpOK.sub | exact IOpOK.mul | exact IOpOK.div | exact IOpOK.mod | exact EvOK.cint | exact EvOK.cbool | refine' EvOK.v (by with_unfolding_all exact rfl) (by with_unfolding_all exact rfl) (by with_unfolding_all exact rfl) (by with_unfolding_all exact rfl) | refine' EvOK.bin ?_ ?_ ?_ | refine' EvOK.cmp ?_ ?_ ?_ (by with_unfolding_all exact rfl) | refine' EvOK.neg ?_ | refine' EvOK.bool1 ?_ | refine' EvOK.or ?_ ?_ | refine' EvOK.tup ?_ | refine' EvOK.lst ?_ | refine' EvOK.call' (by with_unfolding_all exact rfl) (by with_unfolding_all exact rfl) (by with_unfolding_all exact rfl) (by with_unfolding_all exact fun _ => rfl) (by with_unfolding_all exact rfl) (by with_unfolding_all exact fun _ => ⟨_, _, rfl⟩) (by with_unfolding_all first | assumption | exact FunOK.le (by assumption) (by decide)) ?_ | refine' EvOK.gsub (by with_unfolding_all exact rfl) (by with_unfolding_all exact rfl) (by with_unfolding_all exact rfl) (by with_unfolding_all exact fun _ _ => rfl) (by with_unfolding_all assumption) ?_ | refine' EvOK.subs ?_ ?_ (by with_unfolding_all exact fun _ _ => rfl) | refine' EvOK.comp (by with_unfolding_all exact ⟨by decide, rfl, rfl, by decide, rfl, by decide, by decide⟩) ?_ ?_ ?_ (by with_unfolding_all exact fun _ _ => rfl) | exact EvsOK.nil | refine' EvsOK.cons ?_ ?_ (by with_unfolding_all exact fun _ => rfl) | refine' TestsOK.one ?_ | refine' TrOK.cmp ?_ ?_ ?_ (by with_unfolding_all exact rfl) | refine' TrOK.chain ?_ ?_ ?_ ?_ ?_ (by with_unfolding_all exact rfl) | refine' TrOK.not ?_ | exact TrOK.and0 | exact TrOK.or0 | refine' TrOK.and ?_ ?_ | refine' TrOK.or ?_ ?_ | refine' TrOK.plain ?_ (by with_unfolding_all exact fun _ _ => rfl) | exact RunOK.nil | refine' RunOK.cons ?_ ?_ | exact RunOK.cont | refine' RunOK.ret ?_ | refine' RunOK.ifS ?_ ?_ ?_ | refine' RunOK.whileS ?_ ?_ | refine' RunOK.new' (by with_unfolding_all exact rfl) (by with_unfolding_all exact fun _ => rfl) (by with_unfolding_all exact ⟨rfl, by decide, by decide⟩) ?_ | refine' RunOK.asg' (by with_unfolding_all exact rfl) (by with_unfolding_all exact fun _ => rfl) (by with_unfolding_all exact ⟨rfl, by decide, by decide⟩) ?_ | refine' RunOK.aug' (by with_unfolding_all exact rfl) (by with_unfolding_all exact ⟨rfl, by decide, by decide⟩) ?_ ?_ | refine' RunOK.forM' (by with_unfolding_all exact rfl) (by with_unfolding_all exact rfl) (by with_unfolding_all exact rfl) (by with_unfolding_all exact fun _ _ => rfl) (by with_unfolding_all exact ⟨rfl, by decide, by decide⟩) ?_ | refine' RunOK.for' (by with_unfolding_all exact rfl) (by with_unfolding_all exact fun _ _ => rfl) (by with_unfolding_all exact ⟨rfl, by decide, by decide⟩) ?_ ?_ | refine' RunOK.app' (by with_unfolding_all exact rfl) (by with_unfolding_all exact rfl) (by with_unfolding_all exact fun _ => rfl) (by with_unfolding_all exact fun _ => rfl) (by with_unfolding_all exact fun _ => rfl) (by with_unfolding_all exact ⟨rfl, by decide, by decide⟩) ?_ | refine' RunOK.tupS' (by with_unfolding_all first | exact .cons (.cons .nil) | exact .cons (.cons (.cons .nil)) | exact .cons (.cons (.cons (.cons .nil)))) (by with_unfolding_all exact fun env h => by cases env; cases h; rfl) (by with_unfolding_all exact rfl) (by with_unfolding_all exact fun _ => rfl) (by with_unfolding_all exact ⟨rfl, by decide, by decide⟩) ?_ | refine' RunOK.tupP' (by with_unfolding_all first | exact .cons (.cons .nil) | exact .cons (.cons (.cons .nil)) | exact .cons (.cons (.cons (.cons .nil)))) (by with_unfolding_all exact fun env h => by cases env; cases h; rfl) (by with_unfolding_all exact rfl) (by with_unfolding_all exact fun _ => rfl) (by with_unfolding_all exact ⟨rfl, by decide, by decide⟩) ?_))
  case g =>
    intro A B a2 a4 p hp bp b2 b4 bA bB
    have p0 : p ≠ 0 := by omega
    refine CW.eq ?_
    cases A with
    | none =>
      have w1 := fEq_unit0
      repeat' ((fail_if_success (with_reducible refine (?_ : @Eq _ _ _))); first | (with_reducible first | refine' CK.ret ?_ | refine' SK.next ?_ | refine' SK.ret ?_ | refine' SK.cont ?_ | refine' LK.next ?_ | refine' LK.cont ?_ | refine' RW.nil ?_ | refine' RW.seqK (fun K hK => ?_)) | ((with_reducible refine (?_ : RW _ _ _ _)); with_reducible refine' RW.lenOk (by with_unfolding_all exact rfl) ?_) | (with_reducible first | refine' SW.of ?_ | refine' PutAt.of ?_ ?_) | with_reducible exact SetR.z | (with_reducible first | refine' SetR.s3 ?_ | refine' SetR.s ?_) | (with_reducible refine (?_ : SetR _ (0 + 1) _ _)); refine SetR.s ?_ | ((with_reducible refine (?_ : RW _ _ _ _)); with_reducible refine' RW.retF (E := eVar _) (by with_unfolding_all exact rfl) ?_) | (with_reducible first | refine' RW.asg ?_ | refine' RW.ret ?_) | (fail_if_success (have : StopIf := by with_reducible assumption)); (with_reducible refine' RW.if ?_) | (with_reducible first | refine' RW.tup ?_ | refine' RW.for ?_ | refine' RW.while ?_ | refine' RW.new ?_) | ((with_reducible refine (?_ : RW _ _ _ _)); with_reducible refine' RW.app (by with_unfolding_all exact rfl) (by first | with_reducible assumption | with_unfolding_all exact Nat.le_of_ble_eq_true rfl) ?_) | ((with_reducible refine (?_ : RW _ _ _ _)); with_reducible refine' RW.aug (by with_unfolding_all exact rfl) ?_) | (with_reducible first | refine' TupK.two_t ?_ | refine' TupK.two_f ?_ | refine' TupK.four_f ?_ | refine' IfK.t ?_ | refine' IfK.f ?_) | (with_reducible refine' IfK.gd ?_; with_reducible refine' IfK.decT (by first | with_reducible assumption | with_unfolding_all omega) ?_) | (with_reducible refine' IfK.gd ?_; with_reducible refine' IfK.decF (by first | with_reducible assumption | with_unfolding_all omega) ?_) | (with_reducible first | refine' NotK.t ?_ | refine' NotK.f ?_ | refine' TruthK.bool ?_ | refine' TruthK.int ?_) | ((with_reducible refine (?_ : EW (eVar _) _ _)); with_reducible refine' EW.var (by with_unfolding_all exact rfl) ?_) | (with_reducible first | refine' EW.cst ?_ | refine' EW.e1 ?_ | refine' EW.e2 ?_ | refine' EW.call ?_ | refine' EW.tup ?_ | refine' EW.lst ?_ | refine' EW.or ?_ | refine' EW.e3c ?_ | refine' EW.comp ?_ | refine' EsW.nil ?_ | refine' EsW.cons ?_ | refine' TW.c ?_) | ((with_reducible refine (?_ : TpK _ _)); with_reducible refine' TpK.mk (by with_unfolding_all exact Nat.le_of_ble_eq_true rfl) ?_) | ((with_reducible refine (?_ : LsK _ _)); with_reducible refine' LsK.mk (by with_unfolding_all exact Nat.le_of_ble_eq_true rfl) ?_) | (with_reducible first | refine' TW.tOf ?_ | refine' TW.not ?_ | refine' TW.and ?_ | refine' TW.or ?_) | ((with_reducible refine (?_ : CW _ _ _)); with_reducible refine' CW.of (by with_reducible assumption) ?_) | ((with_reducible refine (?_ : CW fPow3 _ _)); with_reducible refine' CW.pow3 (by with_unfolding_all first | decide | omega) (by with_reducible assumption) ?_) | ((with_reducible refine (?_ : OW _ _ _ _)); with_reducible refine' OW.of (by with_reducible assumption) ?_) | (with_reducible first | refine' OW.add ?_ | refine' OW.addI ?_ | refine' OW.sub ?_ | refine' OW.and ?_ | refine' OW.ord ?_ | refine' OW.eq ?_ | refine' OW.ne ?_) | ((with_reducible refine (?_ : OW fMul _ _ _)); with_reducible refine' OW.mul (by first | with_reducible assumption | with_unfolding_all exact mulOk_sm (by omega) (by omega) | with_unfolding_all exact mulOk_bd (by repeat' kt_len) (by repeat' kt_len) (Nat.le_of_ble_eq_true rfl)) ?_) | ((with_reducible refine (?_ : OW fDiv _ _ _)); with_reducible refine' OW.div (by with_reducible assumption) ?_) | ((with_reducible refine (?_ : OW fMod _ _ _)); with_reducible refine' OW.mod (by first | with_reducible assumption | with_unfolding_all omega) ?_) | ((with_reducible refine (?_ : OW fPow _ _ _)); with_reducible refine' OW.pow (by with_reducible assumption) ?_) | (with_reducible first | refine' UW.neg ?_) | ((with_reducible refine (?_ : UW _ _ _)); with_reducible refine' UW.of (by with_reducible assumption) ?_) | (with_reducible first | refine' CW.max ?_ | refine' CW.range2 ?_) | ((with_reducible refine (?_ : CW _ _ _)); with_reducible refine' CW.fn (by with_unfolding_all (repeat (first | exact StartsAt.nil | apply StartsAt.cons | apply StartsAt.unb))) (by with_unfolding_all exact rfl) ?_) | (with_reducible first | refine' KK.use (by with_reducible assumption) ?_))
      rfl
    | some A =>
      have w1 := fEq_unit1 A
      cases B with
      | none =>
        have w2 := fEq_unit0
        repeat' ((fail_if_success (with_reducible refine (?_ : @Eq _ _ _))); first | (with_reducible first | refine' CK.ret ?_ | refine' SK.next ?_ | refine' SK.ret ?_ | refine' SK.cont ?_ | refine' LK.next ?_ | refine' LK.cont ?_ | refine' RW.nil ?_ | refine' RW.seqK (fun K hK => ?_)) | ((with_reducible refine (?_ : RW _ _ _ _)); with_reducible refine' RW.lenOk (by with_unfolding_all exact rfl) ?_) | (with_reducible first | refine' SW.of ?_ | refine' PutAt.of ?_ ?_) | with_reducible exact SetR.z | (with_reducible first | refine' SetR.s3 ?_ | refine' SetR.s ?_) | (with_reducible refine (?_ : SetR _ (0 + 1) _ _)); refine SetR.s ?_ | ((with_reducible refine (?_ : RW _ _ _ _)); with_reducible refine' RW.retF (E := eVar _) (by with_unfolding_all exact rfl) ?_) | (with_reducible first | refine' RW.asg ?_ | refine' RW.ret ?_) | (fail_if_success (have : StopIf := by with_reducible assumption)); (with_reducible refine' RW.if ?_) | (with_reducible first | refine' RW.tup ?_ | refine' RW.for ?_ | refine' RW.while ?_ | refine' RW.new ?_) | ((with_reducible refine (?_ : RW _ _ _ _)); with_reducible refine' RW.app (by with_unfolding_all exact rfl) (by first | with_reducible assumption | with_unfolding_all exact Nat.le_of_ble_eq_true rfl) ?_) | ((with_reducible refine (?_ : RW _ _ _ _)); with_reducible refine' RW.aug (by with_unfolding_all exact rfl) ?_) | (with_reducible first | refine' TupK.two_t ?_ | refine' TupK.two_f ?_ | refine' TupK.four_f ?_ | refine' IfK.t ?_ | refine' IfK.f ?_) | (with_reducible refine' IfK.gd ?_; with_reducible refine' IfK.decT (by first | with_reducible assumption | with_unfolding_all omega) ?_) | (with_reducible refine' IfK.gd ?_; with_reducible refine' IfK.decF (by first | with_reducible assumption | with_unfolding_all omega) ?_) | (with_reducible first | refine' NotK.t ?_ | refine' NotK.f ?_ | refine' TruthK.bool ?_ | refine' TruthK.int ?_) | ((with_reducible refine (?_ : EW (eVar _) _ _)); with_reducible refine' EW.var (by with_unfolding_all exact rfl) ?_) | (with_reducible first | refine' EW.cst ?_ | refine' EW.e1 ?_ | refine' EW.e2 ?_ | refine' EW.call ?_ | refine' EW.tup ?_ | refine' EW.lst ?_ | refine' EW.or ?_ | refine' EW.e3c ?_ | refine' EW.comp ?_ | refine' EsW.nil ?_ | refine' EsW.cons ?_ | refine' TW.c ?_) | ((with_reducible refine (?_ : TpK _ _)); with_reducible refine' TpK.mk (by with_unfolding_all exact Nat.le_of_ble_eq_true rfl) ?_) | ((with_reducible refine (?_ : LsK _ _)); with_reducible refine' LsK.mk (by with_unfolding_all exact Nat.le_of_ble_eq_true rfl) ?_) | (with_reducible first | refine' TW.tOf ?_ | refine' TW.not ?_ | refine' TW.and ?_ | refine' TW.or ?_) | ((with_reducible refine (?_ : CW _ _ _)); with_reducible refine' CW.of (by with_reducible assumption) ?_) | ((with_reducible refine (?_ : CW fPow3 _ _)); with_reducible refine' CW.pow3 (by with_unfolding_all first | decide | omega) (by with_reducible assumption) ?_) | ((with_reducible refine (?_ : OW _ _ _ _)); with_reducible refine' OW.of (by with_reducible assumption) ?_) | (with_reducible first | refine' OW.add ?_ | refine' OW.addI ?_ | refine' OW.sub ?_ | refine' OW.and ?_ | refine' OW.ord ?_ | refine' OW.eq ?_ | refine' OW.ne ?_) | ((with_reducible refine (?_ : OW fMul _ _ _)); with_reducible refine' OW.mul (by first | with_reducible assumption | with_unfolding_all exact mulOk_sm (by omega) (by omega) | with_unfolding_all exact mulOk_bd (by repeat' kt_len) (by repeat' kt_len) (Nat.le_of_ble_eq_true rfl)) ?_) | ((with_reducible refine (?_ : OW fDiv _ _ _)); with_reducible refine' OW.div (by with_reducible assumption) ?_) | ((with_reducible refine (?_ : OW fMod _ _ _)); with_reducible refine' OW.mod (by first | with_reducible assumption | with_unfolding_all omega) ?_) | ((with_reducible refine (?_ : OW fPow _ _ _)); with_reducible refine' OW.pow (by with_reducible assumption) ?_) | (with_reducible first | refine' UW.neg ?_) | ((with_reducible refine (?_ : UW _ _ _)); with_reducible refine' UW.of (by with_reducible assumption) ?_) | (with_reducible first | refine' CW.max ?_ | refine' CW.range2 ?_) | ((with_reducible refine (?_ : CW _ _ _)); with_reducible refine' CW.fn (by with_unfolding_all (repeat (first | exact StartsAt.nil | apply StartsAt.cons | apply StartsAt.unb))) (by with_unfolding_all exact rfl) ?_) | (with_reducible first | refine' KK.use (by with_reducible assumption) ?_))
        rfl
      | some B =>
        have w2 := fEq_unit1 B
        obtain ⟨x1, y1⟩ := A
        obtain ⟨x2, y2⟩ := B
        obtain ⟨c1, c2⟩ := bA
        obtain ⟨d1, d2⟩ := bB
        simp only at c1 c2 d1 d2
        unfold ptD at w1 w2 ⊢
        simp only at w1 w2 ⊢
        have e2 : 0 ≤ p - 2 := by omega
        unfold sumI
        simp only
        by_cases hx : x1 = x2
        · by_cases hy : (y1 + y2).fmod p = 0
          · rw [if_pos hx, if_pos hy]
            repeat' ((fail_if_success (with_reducible refine (?_ : @Eq _ _ _))); first | (with_reducible first | refine' CK.ret ?_ | refine' SK.next ?_ | refine' SK.ret ?_ | refine' SK.cont ?_ | refine' LK.next ?_ | refine' LK.cont ?_ | refine' RW.nil ?_ | refine' RW.seqK (fun K hK => ?_)) | ((with_reducible refine (?_ : RW _ _ _ _)); with_reducible refine' RW.lenOk (by with_unfolding_all exact rfl) ?_) | (with_reducible first | refine' SW.of ?_ | refine' PutAt.of ?_ ?_) | with_reducible exact SetR.z | (with_reducible first | refine' SetR.s3 ?_ | refine' SetR.s ?_) | (with_reducible refine (?_ : SetR _ (0 + 1) _ _)); refine SetR.s ?_ | ((with_reducible refine (?_ : RW _ _ _ _)); with_reducible refine' RW.retF (E := eVar _) (by with_unfolding_all exact rfl) ?_) | (with_reducible first | refine' RW.asg ?_ | refine' RW.ret ?_) | (fail_if_success (have : StopIf := by with_reducible assumption)); (with_reducible refine' RW.if ?_) | (with_reducible first | refine' RW.tup ?_ | refine' RW.for ?_ | refine' RW.while ?_ | refine' RW.new ?_) | ((with_reducible refine (?_ : RW _ _ _ _)); with_reducible refine' RW.app (by with_unfolding_all exact rfl) (by first | with_reducible assumption | with_unfolding_all exact Nat.le_of_ble_eq_true rfl) ?_) | ((with_reducible refine (?_ : RW _ _ _ _)); with_reducible refine' RW.aug (by with_unfolding_all exact rfl) ?_) | (with_reducible first | refine' TupK.two_t ?_ | refine' TupK.two_f ?_ | refine' TupK.four_f ?_ | refine' IfK.t ?_ | refine' IfK.f ?_) | (with_reducible refine' IfK.gd ?_; with_reducible refine' IfK.decT (by first | with_reducible assumption | with_unfolding_all omega) ?_) | (with_reducible refine' IfK.gd ?_; with_reducible refine' IfK.decF (by first | with_reducible assumption | with_unfolding_all omega) ?_) | (with_reducible first | refine' NotK.t ?_ | refine' NotK.f ?_ | refine' TruthK.bool ?_ | refine' TruthK.int ?_) | ((with_reducible refine (?_ : EW (eVar _) _ _)); with_reducible refine' EW.var (by with_unfolding_all exact rfl) ?_) | (with_reducible first | refine' EW.cst ?_ | refine' EW.e1 ?_ | refine' EW.e2 ?_ | refine' EW.call ?_ | refine' EW.tup ?_ | refine' EW.lst ?_ | refine' EW.or ?_ | refine' EW.e3c ?_ | refine' EW.comp ?_ | refine' EsW.nil ?_ | refine' EsW.cons ?_ | refine' TW.c ?_) | ((with_reducible refine (?_ : TpK _ _)); with_reducible refine' TpK.mk (by with_unfolding_all exact Nat.le_of_ble_eq_true rfl) ?_) | ((with_reducible refine (?_ : LsK _ _)); with_reducible refine' LsK.mk (by with_unfolding_all exact Nat.le_of_ble_eq_true rfl) ?_) | (with_reducible first | refine' TW.tOf ?_ | refine' TW.not ?_ | refine' TW.and ?_ | refine' TW.or ?_) | ((with_reducible refine (?_ : CW _ _ _)); with_reducible refine' CW.of (by with_reducible assumption) ?_) | ((with_reducible refine (?_ : CW fPow3 _ _)); with_reducible refine' CW.pow3 (by with_unfolding_all first | decide | omega) (by with_reducible assumption) ?_) | ((with_reducible refine (?_ : OW _ _ _ _)); with_reducible refine' OW.of (by with_reducible assumption) ?_) | (with_reducible first | refine' OW.add ?_ | refine' OW.addI ?_ | refine' OW.sub ?_ | refine' OW.and ?_ | refine' OW.ord ?_ | refine' OW.eq ?_ | refine' OW.ne ?_) | ((with_reducible refine (?_ : OW fMul _ _ _)); with_reducible refine' OW.mul (by first | with_reducible assumption | with_unfolding_all exact mulOk_sm (by omega) (by omega) | with_unfolding_all exact mulOk_bd (by repeat' kt_len) (by repeat' kt_len) (Nat.le_of_ble_eq_true rfl)) ?_) | ((with_reducible refine (?_ : OW fDiv _ _ _)); with_reducible refine' OW.div (by with_reducible assumption) ?_) | ((with_reducible refine (?_ : OW fMod _ _ _)); with_reducible refine' OW.mod (by first | with_reducible assumption | with_unfolding_all omega) ?_) | ((with_reducible refine (?_ : OW fPow _ _ _)); with_reducible refine' OW.pow (by with_reducible assumption) ?_) | (with_reducible first | refine' UW.neg ?_) | ((with_reducible refine (?_ : UW _ _ _)); with_reducible refine' UW.of (by with_reducible assumption) ?_) | (with_reducible first | refine' CW.max ?_ | refine' CW.range2 ?_) | ((with_reducible refine (?_ : CW _ _ _)); with_reducible refine' CW.fn (by with_unfolding_all (repeat (first | exact StartsAt.nil | apply StartsAt.cons | apply StartsAt.unb))) (by with_unfolding_all exact rfl) ?_) | (with_reducible first | refine' KK.use (by with_reducible assumption) ?_))
            rfl
          · rw [if_pos hx, if_neg hy]
            repeat' ((fail_if_success (with_reducible refine (?_ : @Eq _ _ _))); first | (with_reducible first | refine' CK.ret ?_ | refine' SK.next ?_ | refine' SK.ret ?_ | refine' SK.cont ?_ | refine' LK.next ?_ | refine' LK.cont ?_ | refine' RW.nil ?_ | refine' RW.seqK (fun K hK => ?_)) | ((with_reducible refine (?_ : RW _ _ _ _)); with_reducible refine' RW.lenOk (by with_unfolding_all exact rfl) ?_) | (with_reducible first | refine' SW.of ?_ | refine' PutAt.of ?_ ?_) | with_reducible exact SetR.z | (with_reducible first | refine' SetR.s3 ?_ | refine' SetR.s ?_) | (with_reducible refine (?_ : SetR _ (0 + 1) _ _)); refine SetR.s ?_ | ((with_reducible refine (?_ : RW _ _ _ _)); with_reducible refine' RW.retF (E := eVar _) (by with_unfolding_all exact rfl) ?_) | (with_reducible first | refine' RW.asg ?_ | refine' RW.ret ?_) | (fail_if_success (have : StopIf := by with_reducible assumption)); (with_reducible refine' RW.if ?_) | (with_reducible first | refine' RW.tup ?_ | refine' RW.for ?_ | refine' RW.while ?_ | refine' RW.new ?_) | ((with_reducible refine (?_ : RW _ _ _ _)); with_reducible refine' RW.app (by with_unfolding_all exact rfl) (by first | with_reducible assumption | with_unfolding_all exact Nat.le_of_ble_eq_true rfl) ?_) | ((with_reducible refine (?_ : RW _ _ _ _)); with_reducible refine' RW.aug (by with_unfolding_all exact rfl) ?_) | (with_reducible first | refine' TupK.two_t ?_ | refine' TupK.two_f ?_ | refine' TupK.four_f ?_ | refine' IfK.t ?_ | refine' IfK.f ?_) | (with_reducible refine' IfK.gd ?_; with_reducible refine' IfK.decT (by first | with_reducible assumption | with_unfolding_all omega) ?_) | (with_reducible refine' IfK.gd ?_; with_reducible refine' IfK.decF (by first | with_reducible assumption | with_unfolding_all omega) ?_) | (with_reducible first | refine' NotK.t ?_ | refine' NotK.f ?_ | refine' TruthK.bool ?_ | refine' TruthK.int ?_) | ((with_reducible refine (?_ : EW (eVar _) _ _)); with_reducible refine' EW.var (by with_unfolding_all exact rfl) ?_) | (with_reducible first | refine' EW.cst ?_ | refine' EW.e1 ?_ | refine' EW.e2 ?_ | refine' EW.call ?_ | refine' EW.tup ?_ | refine' EW.lst ?_ | refine' EW.or ?_ | refine' EW.e3c ?_ | refine' EW.comp ?_ | refine' EsW.nil ?_ | refine' EsW.cons ?_ | refine' TW.c ?_) | ((with_reducible refine (?_ : TpK _ _)); with_reducible refine' TpK.mk (by with_unfolding_all exact Nat.le_of_ble_eq_true rfl) ?_) | ((with_reducible refine (?_ : LsK _ _)); with_reducible refine' LsK.mk (by with_unfolding_all exact Nat.le_of_ble_eq_true rfl) ?_) | (with_reducible first | refine' TW.tOf ?_ | refine' TW.not ?_ | refine' TW.and ?_ | refine' TW.or ?_) | ((with_reducible refine (?_ : CW _ _ _)); with_reducible refine' CW.of (by with_reducible assumption) ?_) | ((with_reducible refine (?_ : CW fPow3 _ _)); with_reducible refine' CW.pow3 (by with_unfolding_all first | decide | omega) (by with_reducible assumption) ?_) | ((with_reducible refine (?_ : OW _ _ _ _)); with_reducible refine' OW.of (by with_reducible assumption) ?_) | (with_reducible first | refine' OW.add ?_ | refine' OW.addI ?_ | refine' OW.sub ?_ | refine' OW.and ?_ | refine' OW.ord ?_ | refine' OW.eq ?_ | refine' OW.ne ?_) | ((with_reducible refine (?_ : OW fMul _ _ _)); with_reducible refine' OW.mul (by first | with_reducible assumption | with_unfolding_all exact mulOk_sm (by omega) (by omega) | with_unfolding_all exact mulOk_bd (by repeat' kt_len) (by repeat' kt_len) (Nat.le_of_ble_eq_true rfl)) ?_) | ((with_reducible refine (?_ : OW fDiv _ _ _)); with_reducible refine' OW.div (by with_reducible assumption) ?_) | ((with_reducible refine (?_ : OW fMod _ _ _)); with_reducible refine' OW.mod (by first | with_reducible assumption | with_unfolding_all omega) ?_) | ((with_reducible refine (?_ : OW fPow _ _ _)); with_reducible refine' OW.pow (by with_reducible assumption) ?_) | (with_reducible first | refine' UW.neg ?_) | ((with_reducible refine (?_ : UW _ _ _)); with_reducible refine' UW.of (by with_reducible assumption) ?_) | (with_reducible first | refine' CW.max ?_ | refine' CW.range2 ?_) | ((with_reducible refine (?_ : CW _ _ _)); with_reducible refine' CW.fn (by with_unfolding_all (repeat (first | exact StartsAt.nil | apply StartsAt.cons | apply StartsAt.unb))) (by with_unfolding_all exact rfl) ?_) | (with_reducible first | refine' KK.use (by with_reducible assumption) ?_))
            rfl
        · rw [if_neg hx]
          repeat' ((fail_if_success (with_reducible refine (?_ : @Eq _ _ _))); first | (with_reducible first | refine' CK.ret ?_ | refine' SK.next ?_ | refine' SK.ret ?_ | refine' SK.cont ?_ | refine' LK.next ?_ | refine' LK.cont ?_ | refine' RW.nil ?_ | refine' RW.seqK (fun K hK => ?_)) | ((with_reducible refine (?_ : RW _ _ _ _)); with_reducible refine' RW.lenOk (by with_unfolding_all exact rfl) ?_) | (with_reducible first | refine' SW.of ?_ | refine' PutAt.of ?_ ?_) | with_reducible exact SetR.z | (with_reducible first | refine' SetR.s3 ?_ | refine' SetR.s ?_) | (with_reducible refine (?_ : SetR _ (0 + 1) _ _)); refine SetR.s ?_ | ((with_reducible refine (?_ : RW _ _ _ _)); with_reducible refine' RW.retF (E := eVar _) (by with_unfolding_all exact rfl) ?_) | (with_reducible first | refine' RW.asg ?_ | refine' RW.ret ?_) | (fail_if_success (have : StopIf := by with_reducible assumption)); (with_reducible refine' RW.if ?_) | (with_reducible first | refine' RW.tup ?_ | refine' RW.for ?_ | refine' RW.while ?_ | refine' RW.new ?_) | ((with_reducible refine (?_ : RW _ _ _ _)); with_reducible refine' RW.app (by with_unfolding_all exact rfl) (by first | with_reducible assumption | with_unfolding_all exact Nat.le_of_ble_eq_true rfl) ?_) | ((with_reducible refine (?_ : RW _ _ _ _)); with_reducible refine' RW.aug (by with_unfolding_all exact rfl) ?_) | (with_reducible first | refine' TupK.two_t ?_ | refine' TupK.two_f ?_ | refine' TupK.four_f ?_ | refine' IfK.t ?_ | refine' IfK.f ?_) | (with_reducible refine' IfK.gd ?_; with_reducible refine' IfK.decT (by first | with_reducible assumption | with_unfolding_all omega) ?_) | (with_reducible refine' IfK.gd ?_; with_reducible refine' IfK.decF (by first | with_reducible assumption | with_unfolding_all omega) ?_) | (with_reducible first | refine' NotK.t ?_ | refine' NotK.f ?_ | refine' TruthK.bool ?_ | refine' TruthK.int ?_) | ((with_reducible refine (?_ : EW (eVar _) _ _)); with_reducible refine' EW.var (by with_unfolding_all exact rfl) ?_) | (with_reducible first | refine' EW.cst ?_ | refine' EW.e1 ?_ | refine' EW.e2 ?_ | refine' EW.call ?_ | refine' EW.tup ?_ | refine' EW.lst ?_ | refine' EW.or ?_ | refine' EW.e3c ?_ | refine' EW.comp ?_ | refine' EsW.nil ?_ | refine' EsW.cons ?_ | refine' TW.c ?_) | ((with_reducible refine (?_ : TpK _ _)); with_reducible refine' TpK.mk (by with_unfolding_all exact Nat.le_of_ble_eq_true rfl) ?_) | ((with_reducible refine (?_ : LsK _ _)); with_reducible refine' LsK.mk (by with_unfolding_all exact Nat.le_of_ble_eq_true rfl) ?_) | (with_reducible first | refine' TW.tOf ?_ | refine' TW.not ?_ | refine' TW.and ?_ | refine' TW.or ?_) | ((with_reducible refine (?_ : CW _ _ _)); with_reducible refine' CW.of (by with_reducible assumption) ?_) | ((with_reducible refine (?_ : CW fPow3 _ _)); with_reducible refine' CW.pow3 (by with_unfolding_all first | decide | omega) (by with_reducible assumption) ?_) | ((with_reducible refine (?_ : OW _ _ _ _)); with_reducible refine' OW.of (by with_reducible assumption) ?_) | (with_reducible first | refine' OW.add ?_ | refine' OW.addI ?_ | refine' OW.sub ?_ | refine' OW.and ?_ | refine' OW.ord ?_ | refine' OW.eq ?_ | refine' OW.ne ?_) | ((with_reducible refine (?_ : OW fMul _ _ _)); with_reducible refine' OW.mul (by first | with_reducible assumption | with_unfolding_all exact mulOk_sm (by omega) (by omega) | with_unfolding_all exact mulOk_bd (by repeat' kt_len) (by repeat' kt_len) (Nat.le_of_ble_eq_true rfl)) ?_) | ((with_reducible refine (?_ : OW fDiv _ _ _)); with_reducible refine' OW.div (by with_reducible assumption) ?_) | ((with_reducible refine (?_ : OW fMod _ _ _)); with_reducible refine' OW.mod (by first | with_reducible assumption | with_unfolding_all omega) ?_) | ((with_reducible refine (?_ : OW fPow _ _ _)); with_reducible refine' OW.pow (by with_reducible assumption) ?_) | (with_reducible first | refine' UW.neg ?_) | ((with_reducible refine (?_ : UW _ _ _)); with_reducible refine' UW.of (by with_reducible assumption) ?_) | (with_reducible first | refine' CW.max ?_ | refine' CW.range2 ?_) | ((with_reducible refine (?_ : CW _ _ _)); with_reducible refine' CW.fn (by with_unfolding_all (repeat (first | exact StartsAt.nil | apply StartsAt.cons | apply StartsAt.unb))) (by with_unfolding_all exact rfl) ?_) | (with_reducible first | refine' KK.use (by with_reducible assumption) ?_))
          rfl

theorem ok__law_times {I : GI} (hat : HatI I hd.view_39) {f4 : List D → Option D} (h4 : FunOK I 1 ("_law_sum" : Str) f4) (s4 : ∀ (A B : PI) (a2 a4 p : Int), 2 ≤ p → Bd 2000 p → Bd 2000 a2 → Bd 2000 a4 → BdP 2000 A → BdP 2000 B → f4 [ptD A, ptD B, .int a2, .int a4, .int p] = some (ptD (sumI p a2 a4 A B))) : ∃ d, (recsOf hd.view_39)[9]? = some d ∧ d.name = ("_law_times" : Str) ∧ ∃ G, FunOK I 2 d.name G ∧
    ∀ (HH : Nat → PI → Prop) (m j : Nat) (A : PI) (a2 a4 p : Int), 2 ≤ p → Bd 1000 p → Bd 1000 a2 → Bd 1000 a4 → HH 0 none → (∀ {i j : Nat} {A B : PI}, HH i A → HH j B → HH (i + j) (sumI p a2 a4 A B)) → (∀ {i : Nat} {A : PI}, HH i A → Can p A) → HH j A → m < 2 ^ 900 → CW G [.int (m : Int), ptD A, .int a2, .int a4, .int p] (fun d => ∃ R, d = ptD R ∧ HH (m * j) R) := by
  refine' ⟨_, rfl, rfl, _, FunOK.of 1000 (i := 9) (ns := ["m", "point", "a2", "a4", "p", "total"]) (m := 5) hat rfl ⟨rfl, by decide, by decide⟩ (by decide) (fun pm cd doc => vs5 fun a b c d e => rfl) rfl rfl ?h, ?g⟩
  case h =>
    dsimp only
    repeat' ((show (_ : Prop)); first | (with_reducible first | exact OpOK.add | exact OpOK.sub | exact OpOK.mul | exact OpOK.mod | exact OpOK.pow | exact OpOK.and | exact OpOK.lt | exact OpOK.le | exact OpOK.gt | exact OpOK.ge | exact OpOK.eq | exact OpOK.ne | exact OpOK.notIn | exact IOpOK.add | exact IOpOK.sub | exact IOpOK.mul | exact IOpOK.div | exact IOpOK.mod | exact EvOK.cint | exact EvOK.cbool | refine' EvOK.v (by with_unfolding_all exact rfl) (by with_unfolding_all exact rfl) (by with_unfolding_all exact rfl) (by with_unfolding_all exact rfl) | refine' EvOK.bin ?_ ?_ ?_ | refine' EvOK.cmp ?_ ?_ ?_ (by with_unfolding_all exact rfl) | refine' EvOK.neg ?_ | refine' EvOK.bool1 ?_ | refine' EvOK.or ?_ ?_ | refine' EvOK.tup ?_ | refine' EvOK.lst ?_ | refine' EvOK.call' (by with_unfolding_all exact rfl) (by with_unfolding_all exact rfl) (by with_unfolding_all exact rfl) (by with_unfolding_all exact fun _ => rfl) (by with_unfolding_all exact rfl) (by with_unfolding_all exact fun _ => ⟨_, _, rfl⟩) (by with_unfolding_all first | assumption | exact FunOK.le (by assumption) (by decide)) ?_ | refine' EvOK.gsub (by with_unfolding_all exact rfl) (by with_unfolding_all exact rfl) (by with_unfolding_all exact rfl) (by with_unfolding_all exact fun _ _ => rfl) (by with_unfolding_all assumption) ?_ | refine' EvOK.subs ?_ ?_ (by with_unfolding_all exact fun _ _ => rfl) | refine' EvOK.comp (by with_unfolding_all exact ⟨by decide, rfl, rfl, by decide, rfl, by decide, by decide⟩) ?_ ?_ ?_ (by with_unfolding_all exact fun _ _ => rfl) | exact EvsOK.nil | refine' EvsOK.cons ?_ ?_ (by with_unfolding_all exact fun _ => rfl) | refine' TestsOK.one ?_ | refine' TrOK.cmp ?_ ?_ ?_ (by with_unfolding_all exact rfl) | refine' TrOK.chain ?_ ?_ ?_ ?_ ?_ (by with_unfolding_all exact rfl) | refine' TrOK.not ?_ | exact TrOK.and0 | exact TrOK.or0 | refine' TrOK.and ?_ ?_ | refine' TrOK.or ?_ ?_ | refine' TrOK.plain ?_ (by with_unfolding_all exact fun _ _ => rfl) | exact RunOK.nil | refine' RunOK.cons ?_ ?_ | exact RunOK.cont | refine' RunOK.ret ?_ | refine' RunOK.ifS ?_ ?_ ?_ | refine' RunOK.whileS ?_ ?_ | refine' RunOK.new' (by with_unfolding_all exact rfl) (by with_unfolding_all exact fun _ => rfl) (by with_unfolding_all exact ⟨rfl, by decide, by decide⟩) ?_ | refine' RunOK.asg' (by with_unfolding_all exact rfl) (by with_unfolding_all exact fun _ => rfl) (by with_unfolding_all exact ⟨rfl, by decide, by decide⟩) ?_ | refine' RunOK.aug' (by with_unfolding_all exact rfl) (by with_unfolding_all exact ⟨rfl, by decide, by decide⟩) ?_ ?_ | refine' RunOK.forM' (by with_unfolding_all exact rfl) (by with_unfolding_all exact rfl) (by with_unfolding_all exact rfl) (by with_unfolding_all exact fun _ _ => rfl) (by with_unfolding_all exact ⟨rfl, by decide, by decide⟩) ?_ | refine' RunOK.for' (by with_unfolding_all exact rfl) (by with_unfolding_all exact fun _ _ => rfl) (by with_unfolding_all exact ⟨rfl, by decide, by decide⟩) ?_ ?_ | refine' RunOK.app' (by with_unfolding_all exact rfl) (by with_unfolding_all exact rfl) (by with_unfolding_all exact fun _ => rfl) (by with_unfolding_all exact fun _ => rfl) (by with_unfolding_all exact fun _ => rfl) (by with_unfolding_all exact ⟨rfl, by decide, by decide⟩) ?_ | refine' RunOK.tupS' (by with_unfolding_all first | exact .cons (.cons .nil) | exact .cons (.cons (.cons .nil)) | exact .cons (.cons (.cons (.cons .nil)))) (by with_unfolding_all exact fun env h => by cases env; cases h; rfl) (by with_unfolding_all exact rfl) (by with_unfolding_all exact fun _ => rfl) (by with_unfolding_all exact ⟨rfl, by decide, by decide⟩) ?_ | refine' RunOK.tupP' (by with_unfolding_all first | exact .cons (.cons .nil) | exact .cons (.cons (.cons .nil)) | exact .cons (.cons (.cons (.cons .nil)))) (by with_unfolding_all exact fun env h => by cases env; cases h; rfl) (by with_unfolding_all exact rfl) (by with_unfolding_all exact fun _ => rfl) (by with_unfolding_all exact ⟨rfl, by decide, by decide⟩) ?_))
  case g =>
    intro HH m j A a2 a4 p hp bp1 b21 b41 hz hadd hcan hA hm
    have bp : Bd 2000 p := bp1.mono (by omega)
    have b2 : Bd 2000 a2 := b21.mono (by omega)
    have b4 : Bd 2000 a4 := b41.mono (by omega)
    repeat' ((fail_if_success (with_reducible refine (?_ : @Eq _ _ _))); first | (with_reducible first | refine' CK.ret ?_ | refine' SK.next ?_ | refine' SK.ret ?_ | refine' SK.cont ?_ | refine' LK.next ?_ | refine' LK.cont ?_ | refine' RW.nil ?_ | refine' RW.seqK (fun K hK => ?_)) | ((with_reducible refine (?_ : RW _ _ _ _)); with_reducible refine' RW.lenOk (by with_unfolding_all exact rfl) ?_) | (with_reducible first | refine' SW.of ?_ | refine' PutAt.of ?_ ?_) | with_reducible exact SetR.z | (with_reducible first | refine' SetR.s3 ?_ | refine' SetR.s ?_) | (with_reducible refine (?_ : SetR _ (0 + 1) _ _)); refine SetR.s ?_ | ((with_reducible refine (?_ : RW _ _ _ _)); with_reducible refine' RW.retF (E := eVar _) (by with_unfolding_all exact rfl) ?_) | (with_reducible first | refine' RW.asg ?_ | refine' RW.ret ?_) | (fail_if_success (have : StopIf := by with_reducible assumption)); (with_reducible refine' RW.if ?_) | (with_reducible first | refine' RW.tup ?_ | refine' RW.for ?_ | refine' RW.while ?_ | refine' RW.new ?_) | ((with_reducible refine (?_ : RW _ _ _ _)); with_reducible refine' RW.app (by with_unfolding_all exact rfl) (by first | with_reducible assumption | with_unfolding_all exact Nat.le_of_ble_eq_true rfl) ?_) | ((with_reducible refine (?_ : RW _ _ _ _)); with_reducible refine' RW.aug (by with_unfolding_all exact rfl) ?_) | (with_reducible first | refine' TupK.two_t ?_ | refine' TupK.two_f ?_ | refine' TupK.four_f ?_ | refine' IfK.t ?_ | refine' IfK.f ?_) | (with_reducible refine' IfK.gd ?_; with_reducible refine' IfK.decT (by first | with_reducible assumption | with_unfolding_all omega) ?_) | (with_reducible refine' IfK.gd ?_; with_reducible refine' IfK.decF (by first | with_reducible assumption | with_unfolding_all omega) ?_) | (with_reducible first | refine' NotK.t ?_ | refine' NotK.f ?_ | refine' TruthK.bool ?_ | refine' TruthK.int ?_) | ((with_reducible refine (?_ : EW (eVar _) _ _)); with_reducible refine' EW.var (by with_unfolding_all exact rfl) ?_) | (with_reducible first | refine' EW.cst ?_ | refine' EW.e1 ?_ | refine' EW.e2 ?_ | refine' EW.call ?_ | refine' EW.tup ?_ | refine' EW.lst ?_ | refine' EW.or ?_ | refine' EW.e3c ?_ | refine' EW.comp ?_ | refine' EsW.nil ?_ | refine' EsW.cons ?_ | refine' TW.c ?_) | ((with_reducible refine (?_ : TpK _ _)); with_reducible refine' TpK.mk (by with_unfolding_all exact Nat.le_of_ble_eq_true rfl) ?_) | ((with_reducible refine (?_ : LsK _ _)); with_reducible refine' LsK.mk (by with_unfolding_all exact Nat.le_of_ble_eq_true rfl) ?_) | (with_reducible first | refine' TW.tOf ?_ | refine' TW.not ?_ | refine' TW.and ?_ | refine' TW.or ?_) | ((with_reducible refine (?_ : CW _ _ _)); with_reducible refine' CW.of (by with_reducible assumption) ?_) | ((with_reducible refine (?_ : CW fPow3 _ _)); with_reducible refine' CW.pow3 (by with_unfolding_all first | decide | omega) (by with_reducible assumption) ?_) | ((with_reducible refine (?_ : OW _ _ _ _)); with_reducible refine' OW.of (by with_reducible assumption) ?_) | (with_reducible first | refine' OW.add ?_ | refine' OW.addI ?_ | refine' OW.sub ?_ | refine' OW.and ?_ | refine' OW.ord ?_ | refine' OW.eq ?_ | refine' OW.ne ?_) | ((with_reducible refine (?_ : OW fMul _ _ _)); with_reducible refine' OW.mul (by first | with_reducible assumption | with_unfolding_all exact mulOk_sm (by omega) (by omega) | with_unfolding_all exact mulOk_bd (by repeat' kt_len) (by repeat' kt_len) (Nat.le_of_ble_eq_true rfl)) ?_) | ((with_reducible refine (?_ : OW fDiv _ _ _)); with_reducible refine' OW.div (by with_reducible assumption) ?_) | ((with_reducible refine (?_ : OW fMod _ _ _)); with_reducible refine' OW.mod (by first | with_reducible assumption | with_unfolding_all omega) ?_) | ((with_reducible refine (?_ : OW fPow _ _ _)); with_reducible refine' OW.pow (by with_reducible assumption) ?_) | (with_reducible first | refine' UW.neg ?_) | ((with_reducible refine (?_ : UW _ _ _)); with_reducible refine' UW.of (by with_reducible assumption) ?_) | (with_reducible first | refine' CW.max ?_ | refine' CW.range2 ?_) | ((with_reducible refine (?_ : CW _ _ _)); with_reducible refine' CW.fn (by with_unfolding_all (repeat (first | exact StartsAt.nil | apply StartsAt.cons | apply StartsAt.unb))) (by with_unfolding_all exact rfl) ?_) | (with_reducible first | refine' KK.use (by with_reducible assumption) ?_))
    refine WW.inv (fun k σ => ∃ (M jj tt : Nat) (X T : PI), σ = [.imm (.int (M : Int)), .imm (ptD X), .imm (.int a2), .imm (.int a4), .imm (.int p), .imm (ptD T)] ∧ HH jj X ∧ HH tt T ∧ tt + M * jj = m * j ∧ M < 2 ^ k) (k := 900) ⟨m, j, 0, A, none, rfl, hA, hz, by omega, hm⟩ (by omega) ?_
    rintro k σ ⟨M, jj, tt, X, T, rfl, hX, hT, he, hM⟩
    have ws := s4 T X a2 a4 p hp bp b2 b4 (can_bd bp (hcan hT)) (can_bd bp (hcan hX))
    have wd := s4 X X a2 a4 p hp bp b2 b4 (can_bd bp (hcan hX)) (can_bd bp (hcan hX))
    have dv : divOk (M : Int) 2 = true := rfl
    have hb : (M : Int).fdiv 2 = ((M / 2 : Nat) : Int) := by
      rw [show (2 : Int) = ((2 : Nat) : Int) from rfl, fdiv_nat]
    have hmm : (M : Int).fmod 2 = ((M % 2 : Nat) : Int) := by
      rw [show (2 : Int) = ((2 : Nat) : Int) from rfl, fmod_nat]
    by_cases c : 0 < M
    · have k0 : 0 < k := by
        rcases Nat.eq_zero_or_pos k with e | e
        · rw [e, Nat.pow_zero] at hM; omega
        · exact e
      obtain ⟨u, rfl⟩ : ∃ u, k = u + 1 := ⟨k - 1, by omega⟩
      rw [Nat.pow_succ] at hM
      have dm := Nat.div_add_mod M 2
      generalize M / 2 = q at *
      by_cases o : M % 2 = 1
      · have o' : (M : Int).fmod 2 = 1 := by rw [hmm, o]; rfl
        rw [o] at dm
        repeat' ((fail_if_success (with_reducible refine (?_ : @Eq _ _ _))); first | (with_reducible first | refine' CK.ret ?_ | refine' SK.next ?_ | refine' SK.ret ?_ | refine' SK.cont ?_ | refine' LK.next ?_ | refine' LK.cont ?_ | refine' RW.nil ?_ | refine' RW.seqK (fun K hK => ?_)) | ((with_reducible refine (?_ : RW _ _ _ _)); with_reducible refine' RW.lenOk (by with_unfolding_all exact rfl) ?_) | (with_reducible first | refine' SW.of ?_ | refine' PutAt.of ?_ ?_) | with_reducible exact SetR.z | (with_reducible first | refine' SetR.s3 ?_ | refine' SetR.s ?_) | (with_reducible refine (?_ : SetR _ (0 + 1) _ _)); refine SetR.s ?_ | ((with_reducible refine (?_ : RW _ _ _ _)); with_reducible refine' RW.retF (E := eVar _) (by with_unfolding_all exact rfl) ?_) | (with_reducible first | refine' RW.asg ?_ | refine' RW.ret ?_) | (fail_if_success (have : StopIf := by with_reducible assumption)); (with_reducible refine' RW.if ?_) | (with_reducible first | refine' RW.tup ?_ | refine' RW.for ?_ | refine' RW.while ?_ | refine' RW.new ?_) | ((with_reducible refine (?_ : RW _ _ _ _)); with_reducible refine' RW.app (by with_unfolding_all exact rfl) (by first | with_reducible assumption | with_unfolding_all exact Nat.le_of_ble_eq_true rfl) ?_) | ((with_reducible refine (?_ : RW _ _ _ _)); with_reducible refine' RW.aug (by with_unfolding_all exact rfl) ?_) | (with_reducible first | refine' TupK.two_t ?_ | refine' TupK.two_f ?_ | refine' TupK.four_f ?_ | refine' IfK.t ?_ | refine' IfK.f ?_) | (with_reducible refine' IfK.gd ?_; with_reducible refine' IfK.decT (by first | with_reducible assumption | with_unfolding_all omega) ?_) | (with_reducible refine' IfK.gd ?_; with_reducible refine' IfK.decF (by first | with_reducible assumption | with_unfolding_all omega) ?_) | (with_reducible first | refine' NotK.t ?_ | refine' NotK.f ?_ | refine' TruthK.bool ?_ | refine' TruthK.int ?_) | ((with_reducible refine (?_ : EW (eVar _) _ _)); with_reducible refine' EW.var (by with_unfolding_all exact rfl) ?_) | (with_reducible first | refine' EW.cst ?_ | refine' EW.e1 ?_ | refine' EW.e2 ?_ | refine' EW.call ?_ | refine' EW.tup ?_ | refine' EW.lst ?_ | refine' EW.or ?_ | refine' EW.e3c ?_ | refine' EW.comp ?_ | refine' EsW.nil ?_ | refine' EsW.cons ?_ | refine' TW.c ?_) | ((with_reducible refine (?_ : TpK _ _)); with_reducible refine' TpK.mk (by with_unfolding_all exact Nat.le_of_ble_eq_true rfl) ?_) | ((with_reducible refine (?_ : LsK _ _)); with_reducible refine' LsK.mk (by with_unfolding_all exact Nat.le_of_ble_eq_true rfl) ?_) | (with_reducible first | refine' TW.tOf ?_ | refine' TW.not ?_ | refine' TW.and ?_ | refine' TW.or ?_) | ((with_reducible refine (?_ : CW _ _ _)); with_reducible refine' CW.of (by with_reducible assumption) ?_) | ((with_reducible refine (?_ : CW fPow3 _ _)); with_reducible refine' CW.pow3 (by with_unfolding_all first | decide | omega) (by with_reducible assumption) ?_) | ((with_reducible refine (?_ : OW _ _ _ _)); with_reducible refine' OW.of (by with_reducible assumption) ?_) | (with_reducible first | refine' OW.add ?_ | refine' OW.addI ?_ | refine' OW.sub ?_ | refine' OW.and ?_ | refine' OW.ord ?_ | refine' OW.eq ?_ | refine' OW.ne ?_) | ((with_reducible refine (?_ : OW fMul _ _ _)); with_reducible refine' OW.mul (by first | with_reducible assumption | with_unfolding_all exact mulOk_sm (by omega) (by omega) | with_unfolding_all exact mulOk_bd (by repeat' kt_len) (by repeat' kt_len) (Nat.le_of_ble_eq_true rfl)) ?_) | ((with_reducible refine (?_ : OW fDiv _ _ _)); with_reducible refine' OW.div (by with_reducible assumption) ?_) | ((with_reducible refine (?_ : OW fMod _ _ _)); with_reducible refine' OW.mod (by first | with_reducible assumption | with_unfolding_all omega) ?_) | ((with_reducible refine (?_ : OW fPow _ _ _)); with_reducible refine' OW.pow (by with_reducible assumption) ?_) | (with_reducible first | refine' UW.neg ?_) | ((with_reducible refine (?_ : UW _ _ _)); with_reducible refine' UW.of (by with_reducible assumption) ?_) | (with_reducible first | refine' CW.max ?_ | refine' CW.range2 ?_) | ((with_reducible refine (?_ : CW _ _ _)); with_reducible refine' CW.fn (by with_unfolding_all (repeat (first | exact StartsAt.nil | apply StartsAt.cons | apply StartsAt.unb))) (by with_unfolding_all exact rfl) ?_) | (with_reducible first | refine' KK.use (by with_reducible assumption) ?_))
        rw [hb]
        refine ⟨u, by omega, q, jj + jj, tt + jj, _, _, rfl, hadd hX hX, hadd hT hX, ?_, by omega⟩
        rw [← he, ← dm, Nat.mul_add, Nat.add_mul, Nat.mul_assoc, Nat.two_mul]; omega
      · have o' : ¬ (M : Int).fmod 2 = 1 := by rw [hmm]; omega
        have o2 : M % 2 = 0 := by omega
        rw [o2] at dm
        repeat' ((fail_if_success (with_reducible refine (?_ : @Eq _ _ _))); first | (with_reducible first | refine' CK.ret ?_ | refine' SK.next ?_ | refine' SK.ret ?_ | refine' SK.cont ?_ | refine' LK.next ?_ | refine' LK.cont ?_ | refine' RW.nil ?_ | refine' RW.seqK (fun K hK => ?_)) | ((with_reducible refine (?_ : RW _ _ _ _)); with_reducible refine' RW.lenOk (by with_unfolding_all exact rfl) ?_) | (with_reducible first | refine' SW.of ?_ | refine' PutAt.of ?_ ?_) | with_reducible exact SetR.z | (with_reducible first | refine' SetR.s3 ?_ | refine' SetR.s ?_) | (with_reducible refine (?_ : SetR _ (0 + 1) _ _)); refine SetR.s ?_ | ((with_reducible refine (?_ : RW _ _ _ _)); with_reducible refine' RW.retF (E := eVar _) (by with_unfolding_all exact rfl) ?_) | (with_reducible first | refine' RW.asg ?_ | refine' RW.ret ?_) | (fail_if_success (have : StopIf := by with_reducible assumption)); (with_reducible refine' RW.if ?_) | (with_reducible first | refine' RW.tup ?_ | refine' RW.for ?_ | refine' RW.while ?_ | refine' RW.new ?_) | ((with_reducible refine (?_ : RW _ _ _ _)); with_reducible refine' RW.app (by with_unfolding_all exact rfl) (by first | with_reducible assumption | with_unfolding_all exact Nat.le_of_ble_eq_true rfl) ?_) | ((with_reducible refine (?_ : RW _ _ _ _)); with_reducible refine' RW.aug (by with_unfolding_all exact rfl) ?_) | (with_reducible first | refine' TupK.two_t ?_ | refine' TupK.two_f ?_ | refine' TupK.four_f ?_ | refine' IfK.t ?_ | refine' IfK.f ?_) | (with_reducible refine' IfK.gd ?_; with_reducible refine' IfK.decT (by first | with_reducible assumption | with_unfolding_all omega) ?_) | (with_reducible refine' IfK.gd ?_; with_reducible refine' IfK.decF (by first | with_reducible assumption | with_unfolding_all omega) ?_) | (with_reducible first | refine' NotK.t ?_ | refine' NotK.f ?_ | refine' TruthK.bool ?_ | refine' TruthK.int ?_) | ((with_reducible refine (?_ : EW (eVar _) _ _)); with_reducible refine' EW.var (by with_unfolding_all exact rfl) ?_) | (with_reducible first | refine' EW.cst ?_ | refine' EW.e1 ?_ | refine' EW.e2 ?_ | refine' EW.call ?_ | refine' EW.tup ?_ | refine' EW.lst ?_ | refine' EW.or ?_ | refine' EW.e3c ?_ | refine' EW.comp ?_ | refine' EsW.nil ?_ | refine' EsW.cons ?_ | refine' TW.c ?_) | ((with_reducible refine (?_ : TpK _ _)); with_reducible refine' TpK.mk (by with_unfolding_all exact Nat.le_of_ble_eq_true rfl) ?_) | ((with_reducible refine (?_ : LsK _ _)); with_reducible refine' LsK.mk (by with_unfolding_all exact Nat.le_of_ble_eq_true rfl) ?_) | (with_reducible first | refine' TW.tOf ?_ | refine' TW.not ?_ | refine' TW.and ?_ | refine' TW.or ?_) | ((with_reducible refine (?_ : CW _ _ _)); with_reducible refine' CW.of (by with_reducible assumption) ?_) | ((with_reducible refine (?_ : CW fPow3 _ _)); with_reducible refine' CW.pow3 (by with_unfolding_all first | decide | omega) (by with_reducible assumption) ?_) | ((with_reducible refine (?_ : OW _ _ _ _)); with_reducible refine' OW.of (by with_reducible assumption) ?_) | (with_reducible first | refine' OW.add ?_ | refine' OW.addI ?_ | refine' OW.sub ?_ | refine' OW.and ?_ | refine' OW.ord ?_ | refine' OW.eq ?_ | refine' OW.ne ?_) | ((with_reducible refine (?_ : OW fMul _ _ _)); with_reducible refine' OW.mul (by first | with_reducible assumption | with_unfolding_all exact mulOk_sm (by omega) (by omega) | with_unfolding_all exact mulOk_bd (by repeat' kt_len) (by repeat' kt_len) (Nat.le_of_ble_eq_true rfl)) ?_) | ((with_reducible refine (?_ : OW fDiv _ _ _)); with_reducible refine' OW.div (by with_reducible assumption) ?_) | ((with_reducible refine (?_ : OW fMod _ _ _)); with_reducible refine' OW.mod (by first | with_reducible assumption | with_unfolding_all omega) ?_) | ((with_reducible refine (?_ : OW fPow _ _ _)); with_reducible refine' OW.pow (by with_reducible assumption) ?_) | (with_reducible first | refine' UW.neg ?_) | ((with_reducible refine (?_ : UW _ _ _)); with_reducible refine' UW.of (by with_reducible assumption) ?_) | (with_reducible first | refine' CW.max ?_ | refine' CW.range2 ?_) | ((with_reducible refine (?_ : CW _ _ _)); with_reducible refine' CW.fn (by with_unfolding_all (repeat (first | exact StartsAt.nil | apply StartsAt.cons | apply StartsAt.unb))) (by with_unfolding_all exact rfl) ?_) | (with_reducible first | refine' KK.use (by with_reducible assumption) ?_))
        rw [hb]
        refine ⟨u, by omega, q, jj + jj, tt, _, _, rfl, hadd hX hX, hT, ?_, by omega⟩
        rw [← he, ← dm, Nat.mul_add, Nat.add_mul, Nat.mul_assoc, Nat.two_mul]; omega
    · have c0 : M = 0 := by omega
      subst c0
      repeat' ((fail_if_success (with_reducible refine (?_ : @Eq _ _ _))); first | (with_reducible first | refine' CK.ret ?_ | refine' SK.next ?_ | refine' SK.ret ?_ | refine' SK.cont ?_ | refine' LK.next ?_ | refine' LK.cont ?_ | refine' RW.nil ?_ | refine' RW.seqK (fun K hK => ?_)) | ((with_reducible refine (?_ : RW _ _ _ _)); with_reducible refine' RW.lenOk (by with_unfolding_all exact rfl) ?_) | (with_reducible first | refine' SW.of ?_ | refine' PutAt.of ?_ ?_) | with_reducible exact SetR.z | (with_reducible first | refine' SetR.s3 ?_ | refine' SetR.s ?_) | (with_reducible refine (?_ : SetR _ (0 + 1) _ _)); refine SetR.s ?_ | ((with_reducible refine (?_ : RW _ _ _ _)); with_reducible refine' RW.retF (E := eVar _) (by with_unfolding_all exact rfl) ?_) | (with_reducible first | refine' RW.asg ?_ | refine' RW.ret ?_) | (fail_if_success (have : StopIf := by with_reducible assumption)); (with_reducible refine' RW.if ?_) | (with_reducible first | refine' RW.tup ?_ | refine' RW.for ?_ | refine' RW.while ?_ | refine' RW.new ?_) | ((with_reducible refine (?_ : RW _ _ _ _)); with_reducible refine' RW.app (by with_unfolding_all exact rfl) (by first | with_reducible assumption | with_unfolding_all exact Nat.le_of_ble_eq_true rfl) ?_) | ((with_reducible refine (?_ : RW _ _ _ _)); with_reducible refine' RW.aug (by with_unfolding_all exact rfl) ?_) | (with_reducible first | refine' TupK.two_t ?_ | refine' TupK.two_f ?_ | refine' TupK.four_f ?_ | refine' IfK.t ?_ | refine' IfK.f ?_) | (with_reducible refine' IfK.gd ?_; with_reducible refine' IfK.decT (by first | with_reducible assumption | with_unfolding_all omega) ?_) | (with_reducible refine' IfK.gd ?_; with_reducible refine' IfK.decF (by first | with_reducible assumption | with_unfolding_all omega) ?_) | (with_reducible first | refine' NotK.t ?_ | refine' NotK.f ?_ | refine' TruthK.bool ?_ | refine' TruthK.int ?_) | ((with_reducible refine (?_ : EW (eVar _) _ _)); with_reducible refine' EW.var (by with_unfolding_all exact rfl) ?_) | (with_reducible first | refine' EW.cst ?_ | refine' EW.e1 ?_ | refine' EW.e2 ?_ | refine' EW.call ?_ | refine' EW.tup ?_ | refine' EW.lst ?_ | refine' EW.or ?_ | refine' EW.e3c ?_ | refine' EW.comp ?_ | refine' EsW.nil ?_ | refine' EsW.cons ?_ | refine' TW.c ?_) | ((with_reducible refine (?_ : TpK _ _)); with_reducible refine' TpK.mk (by with_unfolding_all exact Nat.le_of_ble_eq_true rfl) ?_) | ((with_reducible refine (?_ : LsK _ _)); with_reducible refine' LsK.mk (by with_unfolding_all exact Nat.le_of_ble_eq_true rfl) ?_) | (with_reducible first | refine' TW.tOf ?_ | refine' TW.not ?_ | refine' TW.and ?_ | refine' TW.or ?_) | ((with_reducible refine (?_ : CW _ _ _)); with_reducible refine' CW.of (by with_reducible assumption) ?_) | ((with_reducible refine (?_ : CW fPow3 _ _)); with_reducible refine' CW.pow3 (by with_unfolding_all first | decide | omega) (by with_reducible assumption) ?_) | ((with_reducible refine (?_ : OW _ _ _ _)); with_reducible refine' OW.of (by with_reducible assumption) ?_) | (with_reducible first | refine' OW.add ?_ | refine' OW.addI ?_ | refine' OW.sub ?_ | refine' OW.and ?_ | refine' OW.ord ?_ | refine' OW.eq ?_ | refine' OW.ne ?_) | ((with_reducible refine (?_ : OW fMul _ _ _)); with_reducible refine' OW.mul (by first | with_reducible assumption | with_unfolding_all exact mulOk_sm (by omega) (by omega) | with_unfolding_all exact mulOk_bd (by repeat' kt_len) (by repeat' kt_len) (Nat.le_of_ble_eq_true rfl)) ?_) | ((with_reducible refine (?_ : OW fDiv _ _ _)); with_reducible refine' OW.div (by with_reducible assumption) ?_) | ((with_reducible refine (?_ : OW fMod _ _ _)); with_reducible refine' OW.mod (by first | with_reducible assumption | with_unfolding_all omega) ?_) | ((with_reducible refine (?_ : OW fPow _ _ _)); with_reducible refine' OW.pow (by with_reducible assumption) ?_) | (with_reducible first | refine' UW.neg ?_) | ((with_reducible refine (?_ : UW _ _ _)); with_reducible refine' UW.of (by with_reducible assumption) ?_) | (with_reducible first | refine' CW.max ?_ | refine' CW.range2 ?_) | ((with_reducible refine (?_ : CW _ _ _)); with_reducible refine' CW.fn (by with_unfolding_all (repeat (first | exact StartsAt.nil | apply StartsAt.cons | apply StartsAt.unb))) (by with_unfolding_all exact rfl) ?_) | (with_reducible first | refine' KK.use (by with_reducible assumption) ?_))
      rw [Nat.zero_mul, Nat.add_zero] at he
      exact ⟨_, rfl, by rw [← he]; exact hT⟩

theorem ok__law_curve {I : GI} (hat : HatI I hd.view_39)  : ∃ d, (recsOf hd.view_39)[10]? = some d ∧ d.name = ("_law_curve" : Str) ∧ ∃ G, FunOK I 1 d.name G ∧
    ∀ (a x p : Int), p ≠ 0 → Bd 1000 p → Bd 1000 a → Bd 1000 x → G [.int a, .int x, .int p] = some (curveD (curveI p a x)) := by
  refine' ⟨_, rfl, rfl, _, FunOK.of 1000 (i := 10) (ns := ["a", "x", "p", "b"]) (m := 3) hat rfl ⟨rfl, by decide, by decide⟩ (by decide) (fun pm cd doc => vs3 fun a b c => rfl) rfl rfl ?h, ?g⟩
  case h =>
    dsimp only
    repeat' ((show (_ : Prop)); first | (with_reducible first | exact OpOK.add | exact OpOK.sub | exact OpOK.mul | exact OpOK.mod | exact OpOK.pow | exact OpOK.and | exact OpOK.lt | exact OpOK.le | exact OpOK.gt | exact OpOK.ge | exact OpOK.eq | exact OpOK.ne | exact OpOK.notIn | exact IOpOK.add | exact IOpOK.sub | exact IOpOK.mul | exact IOpOK.div | exact IOpOK.mod | exact EvOK.cint | exact EvOK.cbool | refine' EvOK.v (by with_unfolding_all exact rfl) (by with_unfolding_all exact rfl) (by with_unfolding_all exact rfl) (by with_unfolding_all exact rfl) | refine' EvOK.bin ?_ ?_ ?_ | refine' EvOK.cmp ?_ ?_ ?_ (by with_unfolding_all exact rfl) | refine' EvOK.neg ?_ | refine' EvOK.bool1 ?_ | refine' EvOK.or ?_ ?_ | refine' EvOK.tup ?_ | refine' EvOK.lst ?_ | refine' EvOK.call' (by with_unfolding_all exact rfl) (by with_unfolding_all exact rfl) (by with_unfolding_all exact rfl) (by with_unfolding_all exact fun _ => rfl) (by with_unfolding_all exact rfl) (by with_unfolding_all exact fun _ => ⟨_, _, rfl⟩) (by with_unfolding_all first | assumption | exact FunOK.le (by assumption) (by decide)) ?_ | refine' EvOK.gsub (by with_unfolding_all exact rfl) (by with_unfolding_all exact rfl) (by with_unfolding_all exact rfl) (by with_unfolding_all exact fun _ _ => rfl) (by with_unfolding_all assumption) ?_ | refine' EvOK.subs ?_ ?_ (by with_unfolding_all exact fun _ _ => rfl) | refine' EvOK.comp (by with_unfolding_all exact ⟨by decide, rfl, rfl, by decide, rfl, by decide, by decide⟩) ?_ ?_ ?_ (by with_unfolding_all exact fun _ _ => rfl) | exact EvsOK.nil | refine' EvsOK.cons ?_ ?_ (by with_unfolding_all exact fun _ => rfl) | refine' TestsOK.one ?_ | refine' TrOK.cmp ?_ ?_ ?_ (by with_unfolding_all exact rfl) | refine' TrOK.chain ?_ ?_ ?_ ?_ ?_ (by with_unfolding_all exact rfl) | refine' TrOK.not ?_ | exact TrOK.and0 | exact TrOK.or0 | refine' TrOK.and ?_ ?_ | refine' TrOK.or ?_ ?_ | refine' TrOK.plain ?_ (by with_unfolding_all exact fun _ _ => rfl) | exact RunOK.nil | refine' RunOK.cons ?_ ?_ | exact RunOK.cont | refine' RunOK.ret ?_ | refine' RunOK.ifS ?_ ?_ ?_ | refine' RunOK.whileS ?_ ?_ | refine' RunOK.new' (by with_unfolding_all exact rfl) (by with_unfolding_all exact fun _ => rfl) (by with_unfolding_all exact ⟨rfl, by decide, by decide⟩) ?_ | refine' RunOK.asg' (by with_unfolding_all exact rfl) (by with_unfolding_all exact fun _ => rfl) (by with_unfolding_all exact ⟨rfl, by decide, by decide⟩) ?_ | refine' RunOK.aug' (by with_unfolding_all exact rfl) (by with_unfolding_all exact ⟨rfl, by decide, by decide⟩) ?_ ?_ | refine' RunOK.forM' (by with_unfolding_all exact rfl) (by with_unfolding_all exact rfl) (by with_unfolding_all exact rfl) (by with_unfolding_all exact fun _ _ => rfl) (by with_unfolding_all exact ⟨rfl, by decide, by decide⟩) ?_ | refine' RunOK.for' (by with_unfolding_all exact rfl) (by with_unfolding_all exact fun _ _ => rfl) (by with_unfolding_all exact ⟨rfl, by decide, by decide⟩) ?_ ?_ | refine' RunOK.app' (by with_unfolding_all exact rfl) (by with_unfolding_all exact rfl) (by with_unfolding_all exact fun _ => rfl) (by with_unfolding_all exact fun _ => rfl) (by with_unfolding_all exact fun _ => rfl) (by with_unfolding_all exact ⟨rfl, by decide, by decide⟩) ?_ | refine' RunOK.tupS' (by with_unfolding_all first | exact .cons (.cons .nil) | exact .cons (.cons (.cons .nil)) | exact .cons (.cons (.cons (.cons .nil)))) (by with_unfolding_all exact fun env h => by cases env; cases h; rfl) (by with_unfolding_all exact rfl) (by with_unfolding_all exact fun _ => rfl) (by with_unfolding_all exact ⟨rfl, by decide, by decide⟩) ?_ | refine' RunOK.tupP' (by with_unfolding_all first | exact .cons (.cons .nil) | exact .cons (.cons (.cons .nil)) | exact .cons (.cons (.cons (.cons .nil)))) (by with_unfolding_all exact fun env h => by cases env; cases h; rfl) (by with_unfolding_all exact rfl) (by with_unfolding_all exact fun _ => rfl) (by with_unfolding_all exact ⟨rfl, by decide, by decide⟩) ?_))
  case g =>
    intro a x p p0 bp ba bx
    refine CW.eq ?_
    unfold curveI
    by_cases h : (x * x * x + a * x * x + x).fmod p = 0
    · rw [if_pos h]
      repeat' ((fail_if_success (with_reducible refine (?_ : @Eq _ _ _))); first | (with_reducible first | refine' CK.ret ?_ | refine' SK.next ?_ | refine' SK.ret ?_ | refine' SK.cont ?_ | refine' LK.next ?_ | refine' LK.cont ?_ | refine' RW.nil ?_ | refine' RW.seqK (fun K hK => ?_)) | ((with_reducible refine (?_ : RW _ _ _ _)); with_reducible refine' RW.lenOk (by with_unfolding_all exact rfl) ?_) | (with_reducible first | refine' SW.of ?_ | refine' PutAt.of ?_ ?_) | with_reducible exact SetR.z | (with_reducible first | refine' SetR.s3 ?_ | refine' SetR.s ?_) | (with_reducible refine (?_ : SetR _ (0 + 1) _ _)); refine SetR.s ?_ | ((with_reducible refine (?_ : RW _ _ _ _)); with_reducible refine' RW.retF (E := eVar _) (by with_unfolding_all exact rfl) ?_) | (with_reducible first | refine' RW.asg ?_ | refine' RW.ret ?_) | (fail_if_success (have : StopIf := by with_reducible assumption)); (with_reducible refine' RW.if ?_) | (with_reducible first | refine' RW.tup ?_ | refine' RW.for ?_ | refine' RW.while ?_ | refine' RW.new ?_) | ((with_reducible refine (?_ : RW _ _ _ _)); with_reducible refine' RW.app (by with_unfolding_all exact rfl) (by first | with_reducible assumption | with_unfolding_all exact Nat.le_of_ble_eq_true rfl) ?_) | ((with_reducible refine (?_ : RW _ _ _ _)); with_reducible refine' RW.aug (by with_unfolding_all exact rfl) ?_) | (with_reducible first | refine' TupK.two_t ?_ | refine' TupK.two_f ?_ | refine' TupK.four_f ?_ | refine' IfK.t ?_ | refine' IfK.f ?_) | (with_reducible refine' IfK.gd ?_; with_reducible refine' IfK.decT (by first | with_reducible assumption | with_unfolding_all omega) ?_) | (with_reducible refine' IfK.gd ?_; with_reducible refine' IfK.decF (by first | with_reducible assumption | with_unfolding_all omega) ?_) | (with_reducible first | refine' NotK.t ?_ | refine' NotK.f ?_ | refine' TruthK.bool ?_ | refine' TruthK.int ?_) | ((with_reducible refine (?_ : EW (eVar _) _ _)); with_reducible refine' EW.var (by with_unfolding_all exact rfl) ?_) | (with_reducible first | refine' EW.cst ?_ | refine' EW.e1 ?_ | refine' EW.e2 ?_ | refine' EW.call ?_ | refine' EW.tup ?_ | refine' EW.lst ?_ | refine' EW.or ?_ | refine' EW.e3c ?_ | refine' EW.comp ?_ | refine' EsW.nil ?_ | refine' EsW.cons ?_ | refine' TW.c ?_) | ((with_reducible refine (?_ : TpK _ _)); with_reducible refine' TpK.mk (by with_unfolding_all exact Nat.le_of_ble_eq_true rfl) ?_) | ((with_reducible refine (?_ : LsK _ _)); with_reducible refine' LsK.mk (by with_unfolding_all exact Nat.le_of_ble_eq_true rfl) ?_) | (with_reducible first | refine' TW.tOf ?_ | refine' TW.not ?_ | refine' TW.and ?_ | refine' TW.or ?_) | ((with_reducible refine (?_ : CW _ _ _)); with_reducible refine' CW.of (by with_reducible assumption) ?_) | ((with_reducible refine (?_ : CW fPow3 _ _)); with_reducible refine' CW.pow3 (by with_unfolding_all first | decide | omega) (by with_reducible assumption) ?_) | ((with_reducible refine (?_ : OW _ _ _ _)); with_reducible refine' OW.of (by with_reducible assumption) ?_) | (with_reducible first | refine' OW.add ?_ | refine' OW.addI ?_ | refine' OW.sub ?_ | refine' OW.and ?_ | refine' OW.ord ?_ | refine' OW.eq ?_ | refine' OW.ne ?_) | ((with_reducible refine (?_ : OW fMul _ _ _)); with_reducible refine' OW.mul (by first | with_reducible assumption | with_unfolding_all exact mulOk_sm (by omega) (by omega) | with_unfolding_all exact mulOk_bd (by repeat' kt_len) (by repeat' kt_len) (Nat.le_of_ble_eq_true rfl)) ?_) | ((with_reducible refine (?_ : OW fDiv _ _ _)); with_reducible refine' OW.div (by with_reducible assumption) ?_) | ((with_reducible refine (?_ : OW fMod _ _ _)); with_reducible refine' OW.mod (by first | with_reducible assumption | with_unfolding_all omega) ?_) | ((with_reducible refine (?_ : OW fPow _ _ _)); with_reducible refine' OW.pow (by with_reducible assumption) ?_) | (with_reducible first | refine' UW.neg ?_) | ((with_reducible refine (?_ : UW _ _ _)); with_reducible refine' UW.of (by with_reducible assumption) ?_) | (with_reducible first | refine' CW.max ?_ | refine' CW.range2 ?_) | ((with_reducible refine (?_ : CW _ _ _)); with_reducible refine' CW.fn (by with_unfolding_all (repeat (first | exact StartsAt.nil | apply StartsAt.cons | apply StartsAt.unb))) (by with_unfolding_all exact rfl) ?_) | (with_reducible first | refine' KK.use (by with_reducible assumption) ?_))
      rfl
    · rw [if_neg h]
      repeat' ((fail_if_success (with_reducible refine (?_ : @Eq _ _ _))); first | (with_reducible first | refine' CK.ret ?_ | refine' SK.next ?_ | refine' SK.ret ?_ | refine' SK.cont ?_ | refine' LK.next ?_ | refine' LK.cont ?_ | refine' RW.nil ?_ | refine' RW.seqK (fun K hK => ?_)) | ((with_reducible refine (?_ : RW _ _ _ _)); with_reducible refine' RW.lenOk (by with_unfolding_all exact rfl) ?_) | (with_reducible first | refine' SW.of ?_ | refine' PutAt.of ?_ ?_) | with_reducible exact SetR.z | (with_reducible first | refine' SetR.s3 ?_ | refine' SetR.s ?_) | (with_reducible refine (?_ : SetR _ (0 + 1) _ _)); refine SetR.s ?_ | ((with_reducible refine (?_ : RW _ _ _ _)); with_reducible refine' RW.retF (E := eVar _) (by with_unfolding_all exact rfl) ?_) | (with_reducible first | refine' RW.asg ?_ | refine' RW.ret ?_) | (fail_if_success (have : StopIf := by with_reducible assumption)); (with_reducible refine' RW.if ?_) | (with_reducible first | refine' RW.tup ?_ | refine' RW.for ?_ | refine' RW.while ?_ | refine' RW.new ?_) | ((with_reducible refine (?_ : RW _ _ _ _)); with_reducible refine' RW.app (by with_unfolding_all exact rfl) (by first | with_reducible assumption | with_unfolding_all exact Nat.le_of_ble_eq_true rfl) ?_) | ((with_reducible refine (?_ : RW _ _ _ _)); with_reducible refine' RW.aug (by with_unfolding_all exact rfl) ?_) | (with_reducible first | refine' TupK.two_t ?_ | refine' TupK.two_f ?_ | refine' TupK.four_f ?_ | refine' IfK.t ?_ | refine' IfK.f ?_) | (with_reducible refine' IfK.gd ?_; with_reducible refine' IfK.decT (by first | with_reducible assumption | with_unfolding_all omega) ?_) | (with_reducible refine' IfK.gd ?_; with_reducible refine' IfK.decF (by first | with_reducible assumption | with_unfolding_all omega) ?_) | (with_reducible first | refine' NotK.t ?_ | refine' NotK.f ?_ | refine' TruthK.bool ?_ | refine' TruthK.int ?_) | ((with_reducible refine (?_ : EW (eVar _) _ _)); with_reducible refine' EW.var (by with_unfolding_all exact rfl) ?_) | (with_reducible first | refine' EW.cst ?_ | refine' EW.e1 ?_ | refine' EW.e2 ?_ | refine' EW.call ?_ | refine' EW.tup ?_ | refine' EW.lst ?_ | refine' EW.or ?_ | refine' EW.e3c ?_ | refine' EW.comp ?_ | refine' EsW.nil ?_ | refine' EsW.cons ?_ | refine' TW.c ?_) | ((with_reducible refine (?_ : TpK _ _)); with_reducible refine' TpK.mk (by with_unfolding_all exact Nat.le_of_ble_eq_true rfl) ?_) | ((with_reducible refine (?_ : LsK _ _)); with_reducible refine' LsK.mk (by with_unfolding_all exact Nat.le_of_ble_eq_true rfl) ?_) | (with_reducible first | refine' TW.tOf ?_ | refine' TW.not ?_ | refine' TW.and ?_ | refine' TW.or ?_) | ((with_reducible refine (?_ : CW _ _ _)); with_reducible refine' CW.of (by with_reducible assumption) ?_) | ((with_reducible refine (?_ : CW fPow3 _ _)); with_reducible refine' CW.pow3 (by with_unfolding_all first | decide | omega) (by with_reducible assumption) ?_) | ((with_reducible refine (?_ : OW _ _ _ _)); with_reducible refine' OW.of (by with_reducible assumption) ?_) | (with_reducible first | refine' OW.add ?_ | refine' OW.addI ?_ | refine' OW.sub ?_ | refine' OW.and ?_ | refine' OW.ord ?_ | refine' OW.eq ?_ | refine' OW.ne ?_) | ((with_reducible refine (?_ : OW fMul _ _ _)); with_reducible refine' OW.mul (by first | with_reducible assumption | with_unfolding_all exact mulOk_sm (by omega) (by omega) | with_unfolding_all exact mulOk_bd (by repeat' kt_len) (by repeat' kt_len) (Nat.le_of_ble_eq_true rfl)) ?_) | ((with_reducible refine (?_ : OW fDiv _ _ _)); with_reducible refine' OW.div (by with_reducible assumption) ?_) | ((with_reducible refine (?_ : OW fMod _ _ _)); with_reducible refine' OW.mod (by first | with_reducible assumption | with_unfolding_all omega) ?_) | ((with_reducible refine (?_ : OW fPow _ _ _)); with_reducible refine' OW.pow (by with_reducible assumption) ?_) | (with_reducible first | refine' UW.neg ?_) | ((with_reducible refine (?_ : UW _ _ _)); with_reducible refine' UW.of (by with_reducible assumption) ?_) | (with_reducible first | refine' CW.max ?_ | refine' CW.range2 ?_) | ((with_reducible refine (?_ : CW _ _ _)); with_reducible refine' CW.fn (by with_unfolding_all (repeat (first | exact StartsAt.nil | apply StartsAt.cons | apply StartsAt.unb))) (by with_unfolding_all exact rfl) ?_) | (with_reducible first | refine' KK.use (by with_reducible assumption) ?_))
      rfl

theorem ok_secm {I : GI} (hat : HatI I hd.view_39) (hpow : FunOK I 0 ("pow" : Str) fPow3) {f0 f1 f2 f5 : List D → Option D} (h0 : FunOK I 1 ("gcd" : Str) f0) (h1 : FunOK I 1 ("primegen" : Str) f1) (h2 : FunOK I 1 ("ilog" : Str) f2) (h5 : FunOK I 2 ("ecmul" : Str) f5) (s0 : ∀ (a b : Int), b.natAbs + 1 < 2 ^ 1000 → f0 [.int a, .int b] = some (.int ((Int.gcd a b : Nat) : Int)))(s1 : ∀ (L : Int), L ≤ 200 → f1 [.int L] = some (.lst (intsD (natI (pgR (L.toNat - 2))))))(s2 : ∀ (x b : Nat), x ≤ 100 → 2 ≤ b → b ≤ 100 → f2 [.int (x : Int), .int (b : Int)] = some (.int ((ilN x x b : Nat) : Int)))(s5 : ∀ (m : Int) (P A : Int × Int) (n : Int), n ≠ 0 → Bd 2000 n → Bd2 2000 P → Bd2 2000 A → (m = 0 → f5 [.int m, prD P, prD A, .int n] = some (prD (0, 0))) ∧ (m < 0 ∨ m = 1 → f5 [.int m, prD P, prD A, .int n] = some (prD P)) ∧ (m = 2 → f5 [.int m, prD P, prD A, .int n] = some (prD (dubI P A n))) ∧ (∀ J : Nat, J ≤ 900 → (2 : Int) ^ (J + 1) < m → m ≤ 2 ^ (J + 2) → f5 [.int m, prD P, prD A, .int n] = some (prD (ladI P A n m.toNat (J + 1) (dubI P A n) P)))) : ∃ d, (recsOf hd.view_39)[6]? = some d ∧ d.name = ("secm" : Str) ∧ ∃ G, FunOK I 3 d.name G ∧
    ∀ (n s B1 B2 : Int), 0 < n → Bd 100 n → Bd 300 s → -1 ≤ B1 → B1 ≤ 22 → -1 ≤ B2 → B2 ≤ 40 → G [.int n, .int B1, .int B2, .int s] = some (.int (secI n s B1.toNat B2.toNat)) := by
  refine' ⟨_, rfl, rfl, _, FunOK.of 1000 (i := 6) (ns := ["n", "B1", "B2", "seed", "u", "v", "p", "Q", "C", "g"]) (m := 4) hat rfl ⟨rfl, by decide, by decide⟩ (by decide) (fun pm cd doc => vs4 fun a b c d => rfl) rfl rfl ?h, ?g⟩
  case h =>
    dsimp only
    repeat' (first | (with_reducible refine' RunOK.for' (by with_unfolding_all exact rfl) (by with_unfolding_all exact fun _ _ => rfl) (by with_unfolding_all exact ⟨rfl, by decide, by decide⟩) ?_ ?_) | ((show (_ : Prop)); first | (with_reducible first | exact OpOK.add | exact OpOK.sub | exact OpOK.mul | exact OpOK.mod | exact OpOK.pow | exact OpOK.and | exact OpOK.lt | exact OpOK.le | exact OpOK.gt | exact OpOK.ge | exact OpOK.eq | exact OpOK.ne | exact OpOK.notIn | exact IOpOK.add | exact IOpOK.sub | exact IOpOK.mul | exact IOpOK.div | exact IOpOK.mod | exact EvOK.cint | exact EvOK.cbool | refine' EvOK.v (by with_unfolding_all exact rfl) (by with_unfolding_all exact rfl) (by with_unfolding_all exact rfl) (by with_unfolding_all exact rfl) | refine' EvOK.bin ?_ ?_ ?_ | refine' EvOK.cmp ?_ ?_ ?_ (by with_unfolding_all exact rfl) | refine' EvOK.neg ?_ | refine' EvOK.bool1 ?_ | refine' EvOK.or ?_ ?_ | refine' EvOK.tup ?_ | refine' EvOK.lst ?_ | refine' EvOK.call' (by with_unfolding_all exact rfl) (by with_unfolding_all exact rfl) (by with_unfolding_all exact rfl) (by with_unfolding_all exact fun _ => rfl) (by with_unfolding_all exact rfl) (by with_unfolding_all exact fun _ => ⟨_, _, rfl⟩) (by with_unfolding_all first | assumption | exact FunOK.le (by assumption) (by decide)) ?_ | refine' EvOK.gsub (by with_unfolding_all exact rfl) (by with_unfolding_all exact rfl) (by with_unfolding_all exact rfl) (by with_unfolding_all exact fun _ _ => rfl) (by with_unfolding_all assumption) ?_ | refine' EvOK.subs ?_ ?_ (by with_unfolding_all exact fun _ _ => rfl) | refine' EvOK.comp (by with_unfolding_all exact ⟨by decide, rfl, rfl, by decide, rfl, by decide, by decide⟩) ?_ ?_ ?_ (by with_unfolding_all exact fun _ _ => rfl) | exact EvsOK.nil | refine' EvsOK.cons ?_ ?_ (by with_unfolding_all exact fun _ => rfl) | refine' TestsOK.one ?_ | refine' TrOK.cmp ?_ ?_ ?_ (by with_unfolding_all exact rfl) | refine' TrOK.chain ?_ ?_ ?_ ?_ ?_ (by with_unfolding_all exact rfl) | refine' TrOK.not ?_ | exact TrOK.and0 | exact TrOK.or0 | refine' TrOK.and ?_ ?_ | refine' TrOK.or ?_ ?_ | refine' TrOK.plain ?_ (by with_unfolding_all exact fun _ _ => rfl) | exact RunOK.nil | refine' RunOK.cons ?_ ?_ | exact RunOK.cont | refine' RunOK.ret ?_ | refine' RunOK.ifS ?_ ?_ ?_ | refine' RunOK.whileS ?_ ?_ | refine' RunOK.new' (by with_unfolding_all exact rfl) (by with_unfolding_all exact fun _ => rfl) (by with_unfolding_all exact ⟨rfl, by decide, by decide⟩) ?_ | refine' RunOK.asg' (by with_unfolding_all exact rfl) (by with_unfolding_all exact fun _ => rfl) (by with_unfolding_all exact ⟨rfl, by decide, by decide⟩) ?_ | refine' RunOK.aug' (by with_unfolding_all exact rfl) (by with_unfolding_all exact ⟨rfl, by decide, by decide⟩) ?_ ?_ | refine' RunOK.forM' (by with_unfolding_all exact rfl) (by with_unfolding_all exact rfl) (by with_unfolding_all exact rfl) (by with_unfolding_all exact fun _ _ => rfl) (by with_unfolding_all exact ⟨rfl, by decide, by decide⟩) ?_ | refine' RunOK.for' (by with_unfolding_all exact rfl) (by with_unfolding_all exact fun _ _ => rfl) (by with_unfolding_all exact ⟨rfl, by decide, by decide⟩) ?_ ?_ | refine' RunOK.app' (by with_unfolding_all exact rfl) (by with_unfolding_all exact rfl) (by with_unfolding_all exact fun _ => rfl) (by with_unfolding_all exact fun _ => rfl) (by with_unfolding_all exact fun _ => rfl) (by with_unfolding_all exact ⟨rfl, by decide, by decide⟩) ?_ | refine' RunOK.tupS' (by with_unfolding_all first | exact .cons (.cons .nil) | exact .cons (.cons (.cons .nil)) | exact .cons (.cons (.cons (.cons .nil)))) (by with_unfolding_all exact fun env h => by cases env; cases h; rfl) (by with_unfolding_all exact rfl) (by with_unfolding_all exact fun _ => rfl) (by with_unfolding_all exact ⟨rfl, by decide, by decide⟩) ?_ | refine' RunOK.tupP' (by with_unfolding_all first | exact .cons (.cons .nil) | exact .cons (.cons (.cons .nil)) | exact .cons (.cons (.cons (.cons .nil)))) (by with_unfolding_all exact fun env h => by cases env; cases h; rfl) (by with_unfolding_all exact rfl) (by with_unfolding_all exact fun _ => rfl) (by with_unfolding_all exact ⟨rfl, by decide, by decide⟩) ?_)))
  case g =>
    intro n s B1 B2 n0 bn bs l1 l2 m1 m2
    have nn : n ≠ 0 := by omega
    have bn2 : Bd 2000 n := bn.mono (by omega)
    obtain ⟨b, hb, hb2⟩ : ∃ b, B1.toNat = b ∧ b ≤ 22 := ⟨_, rfl, by omega⟩
    obtain ⟨c, hc, hc2⟩ : ∃ c, B2.toNat = c ∧ c ≤ 40 := ⟨_, rfl, by omega⟩
    rw [hb, hc]
    have w1 := s1 (B1 + 1) (by omega)
    have w2 := s1 (B2 + 1) (by omega)
    rw [tn2 hb] at w1
    rw [tn2 hc] at w2
    have hle : ∀ p : Nat, 1 ≤ p → ((p : Int) ≤ B1 ↔ p ≤ b) := fun p hp => le_toN hb hp
    have heq : ∀ p : Nat, 1 ≤ p → p ≤ b → B1 = (b : Int) := fun p hp h => eq_toN hb hp h
    clear l1 l2 m1 m2 hb hc
    have ps : powOk s 2 = true := powOk_bd (k := 2) bs (by omega)
    have bC : Bd2 2000 (cI n s) := ⟨Bd.fmod' nn bn2, Bd.fmod' nn bn2⟩
    have bQ0 : Bd2 2000 (q0I n s) := ⟨Bd.fmod' nn bn2, Bd.fmod' nn bn2⟩
    have pl := pgR_length (b - 1)
    have pl2 := pgR_length (c - 1)
    have ng : n.natAbs + 1 < 2 ^ 1000 := by
      have h1 : n.natAbs < 2 ^ 100 := bn
      have h2 : (2:Nat) ^ 101 ≤ 2 ^ 1000 := Nat.pow_le_pow_right (by decide) (by omega)
      have h3 : (2:Nat) ^ 101 = 2 ^ 100 * 2 := Nat.pow_succ ..
      have h4 : 1 < (2:Nat) ^ 100 := Nat.one_lt_two_pow (by omega)
      generalize (2:Nat) ^ 1000 = w at *
      omega
    refine CW.eq ?_
    repeat' ((fail_if_success (with_reducible refine (?_ : @Eq _ _ _))); first | (with_reducible first | refine' CK.ret ?_ | refine' SK.next ?_ | refine' SK.ret ?_ | refine' SK.cont ?_ | refine' LK.next ?_ | refine' LK.cont ?_ | refine' RW.nil ?_ | refine' RW.seqK (fun K hK => ?_)) | ((with_reducible refine (?_ : RW _ _ _ _)); with_reducible refine' RW.lenOk (by with_unfolding_all exact rfl) ?_) | (with_reducible first | refine' SW.of ?_ | refine' PutAt.of ?_ ?_) | with_reducible exact SetR.z | (with_reducible first | refine' SetR.s3 ?_ | refine' SetR.s ?_) | (with_reducible refine (?_ : SetR _ (0 + 1) _ _)); refine SetR.s ?_ | ((with_reducible refine (?_ : RW _ _ _ _)); with_reducible refine' RW.retF (E := eVar _) (by with_unfolding_all exact rfl) ?_) | (with_reducible first | refine' RW.asg ?_ | refine' RW.ret ?_) | (fail_if_success (have : StopIf := by with_reducible assumption)); (with_reducible refine' RW.if ?_) | (with_reducible first | refine' RW.tup ?_ | refine' RW.for ?_ | refine' RW.while ?_ | refine' RW.new ?_) | ((with_reducible refine (?_ : RW _ _ _ _)); with_reducible refine' RW.app (by with_unfolding_all exact rfl) (by first | with_reducible assumption | with_unfolding_all exact Nat.le_of_ble_eq_true rfl) ?_) | ((with_reducible refine (?_ : RW _ _ _ _)); with_reducible refine' RW.aug (by with_unfolding_all exact rfl) ?_) | (with_reducible first | refine' TupK.two_t ?_ | refine' TupK.two_f ?_ | refine' TupK.four_f ?_ | refine' IfK.t ?_ | refine' IfK.f ?_) | (with_reducible refine' IfK.gd ?_; with_reducible refine' IfK.decT (by first | with_reducible assumption | with_unfolding_all omega) ?_) | (with_reducible refine' IfK.gd ?_; with_reducible refine' IfK.decF (by first | with_reducible assumption | with_unfolding_all omega) ?_) | (with_reducible first | refine' NotK.t ?_ | refine' NotK.f ?_ | refine' TruthK.bool ?_ | refine' TruthK.int ?_) | ((with_reducible refine (?_ : EW (eVar _) _ _)); with_reducible refine' EW.var (by with_unfolding_all exact rfl) ?_) | (with_reducible first | refine' EW.cst ?_ | refine' EW.e1 ?_ | refine' EW.e2 ?_ | refine' EW.call ?_ | refine' EW.tup ?_ | refine' EW.lst ?_ | refine' EW.or ?_ | refine' EW.e3c ?_ | refine' EW.comp ?_ | refine' EsW.nil ?_ | refine' EsW.cons ?_ | refine' TW.c ?_) | ((with_reducible refine (?_ : TpK _ _)); with_reducible refine' TpK.mk (by with_unfolding_all exact Nat.le_of_ble_eq_true rfl) ?_) | ((with_reducible refine (?_ : LsK _ _)); with_reducible refine' LsK.mk (by with_unfolding_all exact Nat.le_of_ble_eq_true rfl) ?_) | (with_reducible first | refine' TW.tOf ?_ | refine' TW.not ?_ | refine' TW.and ?_ | refine' TW.or ?_) | ((with_reducible refine (?_ : CW _ _ _)); with_reducible refine' CW.of (by with_reducible assumption) ?_) | ((with_reducible refine (?_ : CW fPow3 _ _)); with_reducible refine' CW.pow3 (by with_unfolding_all first | decide | omega) (by with_reducible assumption) ?_) | ((with_reducible refine (?_ : OW _ _ _ _)); with_reducible refine' OW.of (by with_reducible assumption) ?_) | (with_reducible first | refine' OW.add ?_ | refine' OW.addI ?_ | refine' OW.sub ?_ | refine' OW.and ?_ | refine' OW.ord ?_ | refine' OW.eq ?_ | refine' OW.ne ?_) | ((with_reducible refine (?_ : OW fMul _ _ _)); with_reducible refine' OW.mul (by first | with_reducible assumption | with_unfolding_all exact mulOk_sm (by omega) (by omega) | with_unfolding_all exact mulOk_bd (by repeat' kt_len) (by repeat' kt_len) (Nat.le_of_ble_eq_true rfl)) ?_) | ((with_reducible refine (?_ : OW fDiv _ _ _)); with_reducible refine' OW.div (by with_reducible assumption) ?_) | ((with_reducible refine (?_ : OW fMod _ _ _)); with_reducible refine' OW.mod (by first | with_reducible assumption | with_unfolding_all omega) ?_) | ((with_reducible refine (?_ : OW fPow _ _ _)); with_reducible refine' OW.pow (by with_reducible assumption) ?_) | (with_reducible first | refine' UW.neg ?_) | ((with_reducible refine (?_ : UW _ _ _)); with_reducible refine' UW.of (by with_reducible assumption) ?_) | (with_reducible first | refine' CW.max ?_ | refine' CW.range2 ?_) | ((with_reducible refine (?_ : CW _ _ _)); with_reducible refine' CW.fn (by with_unfolding_all (repeat (first | exact StartsAt.nil | apply StartsAt.cons | apply StartsAt.unb))) (by with_unfolding_all exact rfl) ?_) | (with_reducible first | refine' KK.use (by with_reducible assumption) ?_))
    refine ForK.of rfl (items_lst (by rw [intsD_length, natI_length]; omega)) (LW.inv (fun ds σ => ∃ (l : List Nat) (Q : Int × Int) (sl : Slot), ds = intsD (natI l) ∧ (∀ p ∈ l, p ∈ pgR (b - 1)) ∧ Bd2 2000 Q ∧ runQ (cI n s) n (l.map fun p => p ^ ilN b b p) Q = runQ (cI n s) n (fstL b) (q0I n s) ∧ σ = [.imm (.int n), .imm (.int B1), .imm (.int B2), .imm (.int s), .imm (.int (uI n s)), .imm (.int (vI n s)), sl, .imm (prD Q), .imm (prD (cI n s)), .unb]) ⟨pgR (b - 1), q0I n s, _, rfl, fun _ h => h, bQ0, rfl, rfl⟩ ?_ ?_)
    · rintro d' ds σ ⟨l, Q, sl, e, hl, bQ, hr, rfl⟩
      cases l with
      | nil => cases e
      | cons p l =>
        cases e
        have hp := pgR_mem (hl p (.head _))
        have hB : B1 = (b : Int) := heq p (Nat.le_of_lt hp.1) (by omega)
        subst hB
        have wil := s2 b p (by omega) (by omega) (by omega)
        obtain ⟨g1, g2, g3⟩ := ilN_ok hb2 hp.1 (by omega) (by omega)
        have hm2 : 2 ≤ p ^ ilN b b p ∧ p ^ ilN b b p ≤ 22 := fst_ok hb2 (List.mem_map.mpr ⟨p, hl p (.head _), rfl⟩)
        have po : powOk (p : Int) ((ilN b b p : Nat) : Int) = true := powOk_bd (n := 10) (k := ilN b b p) (Bd.sm (by omega) (by omega)) (by omega)
        have wm := mul_all s5 (m := p ^ ilN b b p) hm2.1 (Nat.lt_of_le_of_lt hm2.2 (by decide)) (t := Q) (A := cI n s) n0 bn2 bQ bC
        have ce : ((p ^ ilN b b p : Nat) : Int) = (p : Int) ^ (((ilN b b p : Nat) : Int)).toNat := by rw [Int.toNat_natCast]; simp
        rw [ce] at wm
        refine ⟨rfl, ?_⟩
        repeat' ((fail_if_success (with_reducible refine (?_ : @Eq _ _ _))); first | (with_reducible first | refine' CK.ret ?_ | refine' SK.next ?_ | refine' SK.ret ?_ | refine' SK.cont ?_ | refine' LK.next ?_ | refine' LK.cont ?_ | refine' RW.nil ?_ | refine' RW.seqK (fun K hK => ?_)) | ((with_reducible refine (?_ : RW _ _ _ _)); with_reducible refine' RW.lenOk (by with_unfolding_all exact rfl) ?_) | (with_reducible first | refine' SW.of ?_ | refine' PutAt.of ?_ ?_) | with_reducible exact SetR.z | (with_reducible first | refine' SetR.s3 ?_ | refine' SetR.s ?_) | (with_reducible refine (?_ : SetR _ (0 + 1) _ _)); refine SetR.s ?_ | ((with_reducible refine (?_ : RW _ _ _ _)); with_reducible refine' RW.retF (E := eVar _) (by with_unfolding_all exact rfl) ?_) | (with_reducible first | refine' RW.asg ?_ | refine' RW.ret ?_) | (fail_if_success (have : StopIf := by with_reducible assumption)); (with_reducible refine' RW.if ?_) | (with_reducible first | refine' RW.tup ?_ | refine' RW.for ?_ | refine' RW.while ?_ | refine' RW.new ?_) | ((with_reducible refine (?_ : RW _ _ _ _)); with_reducible refine' RW.app (by with_unfolding_all exact rfl) (by first | with_reducible assumption | with_unfolding_all exact Nat.le_of_ble_eq_true rfl) ?_) | ((with_reducible refine (?_ : RW _ _ _ _)); with_reducible refine' RW.aug (by with_unfolding_all exact rfl) ?_) | (with_reducible first | refine' TupK.two_t ?_ | refine' TupK.two_f ?_ | refine' TupK.four_f ?_ | refine' IfK.t ?_ | refine' IfK.f ?_) | (with_reducible refine' IfK.gd ?_; with_reducible refine' IfK.decT (by first | with_reducible assumption | with_unfolding_all omega) ?_) | (with_reducible refine' IfK.gd ?_; with_reducible refine' IfK.decF (by first | with_reducible assumption | with_unfolding_all omega) ?_) | (with_reducible first | refine' NotK.t ?_ | refine' NotK.f ?_ | refine' TruthK.bool ?_ | refine' TruthK.int ?_) | ((with_reducible refine (?_ : EW (eVar _) _ _)); with_reducible refine' EW.var (by with_unfolding_all exact rfl) ?_) | (with_reducible first | refine' EW.cst ?_ | refine' EW.e1 ?_ | refine' EW.e2 ?_ | refine' EW.call ?_ | refine' EW.tup ?_ | refine' EW.lst ?_ | refine' EW.or ?_ | refine' EW.e3c ?_ | refine' EW.comp ?_ | refine' EsW.nil ?_ | refine' EsW.cons ?_ | refine' TW.c ?_) | ((with_reducible refine (?_ : TpK _ _)); with_reducible refine' TpK.mk (by with_unfolding_all exact Nat.le_of_ble_eq_true rfl) ?_) | ((with_reducible refine (?_ : LsK _ _)); with_reducible refine' LsK.mk (by with_unfolding_all exact Nat.le_of_ble_eq_true rfl) ?_) | (with_reducible first | refine' TW.tOf ?_ | refine' TW.not ?_ | refine' TW.and ?_ | refine' TW.or ?_) | ((with_reducible refine (?_ : CW _ _ _)); with_reducible refine' CW.of (by with_reducible assumption) ?_) | ((with_reducible refine (?_ : CW fPow3 _ _)); with_reducible refine' CW.pow3 (by with_unfolding_all first | decide | omega) (by with_reducible assumption) ?_) | ((with_reducible refine (?_ : OW _ _ _ _)); with_reducible refine' OW.of (by with_reducible assumption) ?_) | (with_reducible first | refine' OW.add ?_ | refine' OW.addI ?_ | refine' OW.sub ?_ | refine' OW.and ?_ | refine' OW.ord ?_ | refine' OW.eq ?_ | refine' OW.ne ?_) | ((with_reducible refine (?_ : OW fMul _ _ _)); with_reducible refine' OW.mul (by first | with_reducible assumption | with_unfolding_all exact mulOk_sm (by omega) (by omega) | with_unfolding_all exact mulOk_bd (by repeat' kt_len) (by repeat' kt_len) (Nat.le_of_ble_eq_true rfl)) ?_) | ((with_reducible refine (?_ : OW fDiv _ _ _)); with_reducible refine' OW.div (by with_reducible assumption) ?_) | ((with_reducible refine (?_ : OW fMod _ _ _)); with_reducible refine' OW.mod (by first | with_reducible assumption | with_unfolding_all omega) ?_) | ((with_reducible refine (?_ : OW fPow _ _ _)); with_reducible refine' OW.pow (by with_reducible assumption) ?_) | (with_reducible first | refine' UW.neg ?_) | ((with_reducible refine (?_ : UW _ _ _)); with_reducible refine' UW.of (by with_reducible assumption) ?_) | (with_reducible first | refine' CW.max ?_ | refine' CW.range2 ?_) | ((with_reducible refine (?_ : CW _ _ _)); with_reducible refine' CW.fn (by with_unfolding_all (repeat (first | exact StartsAt.nil | apply StartsAt.cons | apply StartsAt.unb))) (by with_unfolding_all exact rfl) ?_) | (with_reducible first | refine' KK.use (by with_reducible assumption) ?_))
        exact ⟨l, _, _, rfl, fun x hx => hl x (.tail _ hx), (mulF_rng hm2.1 n0).bd bn2, hr, rfl⟩
    rintro σ ⟨l, Q, sl, e, hl, bQ, hr, rfl⟩
    cases l with
    | cons p l => cases e
    | nil =>
      have hQ : Q = runQ (cI n s) n (fstL b) (q0I n s) := hr
      clear hr
      try refine KK.use (by with_reducible assumption) ?_
      unfold secI
      simp only
      rw [← hQ]
      clear hQ
      have wq : fSubs (prD Q) (.int 1) = some (.int Q.2) := rfl
      have wg := s0 Q.2 n ng
      have gle : Int.gcd Q.2 n ≤ n.natAbs := Nat.le_of_dvd (by omega) (Int.gcd_dvd_natAbs_right ..)
      have bg : Bd 100 ((Int.gcd Q.2 n : Nat) : Int) := by
        have h1 : n.natAbs < 2 ^ 100 := bn
        unfold Bd
        rw [Int.natAbs_natCast]; omega
      generalize ((Int.gcd Q.2 n : Nat) : Int) = g at *
      by_cases cc : 1 < g ∧ g < n
      · obtain ⟨c1, c2⟩ := cc
        rw [if_pos ⟨c1, c2⟩]
        repeat' ((fail_if_success (with_reducible refine (?_ : @Eq _ _ _))); first | (with_reducible first | refine' CK.ret ?_ | refine' SK.next ?_ | refine' SK.ret ?_ | refine' SK.cont ?_ | refine' LK.next ?_ | refine' LK.cont ?_ | refine' RW.nil ?_ | refine' RW.seqK (fun K hK => ?_)) | ((with_reducible refine (?_ : RW _ _ _ _)); with_reducible refine' RW.lenOk (by with_unfolding_all exact rfl) ?_) | (with_reducible first | refine' SW.of ?_ | refine' PutAt.of ?_ ?_) | with_reducible exact SetR.z | (with_reducible first | refine' SetR.s3 ?_ | refine' SetR.s ?_) | (with_reducible refine (?_ : SetR _ (0 + 1) _ _)); refine SetR.s ?_ | ((with_reducible refine (?_ : RW _ _ _ _)); with_reducible refine' RW.retF (E := eVar _) (by with_unfolding_all exact rfl) ?_) | (with_reducible first | refine' RW.asg ?_ | refine' RW.ret ?_) | (fail_if_success (have : StopIf := by with_reducible assumption)); (with_reducible refine' RW.if ?_) | (with_reducible first | refine' RW.tup ?_ | refine' RW.for ?_ | refine' RW.while ?_ | refine' RW.new ?_) | ((with_reducible refine (?_ : RW _ _ _ _)); with_reducible refine' RW.app (by with_unfolding_all exact rfl) (by first | with_reducible assumption | with_unfolding_all exact Nat.le_of_ble_eq_true rfl) ?_) | ((with_reducible refine (?_ : RW _ _ _ _)); with_reducible refine' RW.aug (by with_unfolding_all exact rfl) ?_) | (with_reducible first | refine' TupK.two_t ?_ | refine' TupK.two_f ?_ | refine' TupK.four_f ?_ | refine' IfK.t ?_ | refine' IfK.f ?_) | (with_reducible refine' IfK.gd ?_; with_reducible refine' IfK.decT (by first | with_reducible assumption | with_unfolding_all omega) ?_) | (with_reducible refine' IfK.gd ?_; with_reducible refine' IfK.decF (by first | with_reducible assumption | with_unfolding_all omega) ?_) | (with_reducible first | refine' NotK.t ?_ | refine' NotK.f ?_ | refine' TruthK.bool ?_ | refine' TruthK.int ?_) | ((with_reducible refine (?_ : EW (eVar _) _ _)); with_reducible refine' EW.var (by with_unfolding_all exact rfl) ?_) | (with_reducible first | refine' EW.cst ?_ | refine' EW.e1 ?_ | refine' EW.e2 ?_ | refine' EW.call ?_ | refine' EW.tup ?_ | refine' EW.lst ?_ | refine' EW.or ?_ | refine' EW.e3c ?_ | refine' EW.comp ?_ | refine' EsW.nil ?_ | refine' EsW.cons ?_ | refine' TW.c ?_) | ((with_reducible refine (?_ : TpK _ _)); with_reducible refine' TpK.mk (by with_unfolding_all exact Nat.le_of_ble_eq_true rfl) ?_) | ((with_reducible refine (?_ : LsK _ _)); with_reducible refine' LsK.mk (by with_unfolding_all exact Nat.le_of_ble_eq_true rfl) ?_) | (with_reducible first | refine' TW.tOf ?_ | refine' TW.not ?_ | refine' TW.and ?_ | refine' TW.or ?_) | ((with_reducible refine (?_ : CW _ _ _)); with_reducible refine' CW.of (by with_reducible assumption) ?_) | ((with_reducible refine (?_ : CW fPow3 _ _)); with_reducible refine' CW.pow3 (by with_unfolding_all first | decide | omega) (by with_reducible assumption) ?_) | ((with_reducible refine (?_ : OW _ _ _ _)); with_reducible refine' OW.of (by with_reducible assumption) ?_) | (with_reducible first | refine' OW.add ?_ | refine' OW.addI ?_ | refine' OW.sub ?_ | refine' OW.and ?_ | refine' OW.ord ?_ | refine' OW.eq ?_ | refine' OW.ne ?_) | ((with_reducible refine (?_ : OW fMul _ _ _)); with_reducible refine' OW.mul (by first | with_reducible assumption | with_unfolding_all exact mulOk_sm (by omega) (by omega) | with_unfolding_all exact mulOk_bd (by repeat' kt_len) (by repeat' kt_len) (Nat.le_of_ble_eq_true rfl)) ?_) | ((with_reducible refine (?_ : OW fDiv _ _ _)); with_reducible refine' OW.div (by with_reducible assumption) ?_) | ((with_reducible refine (?_ : OW fMod _ _ _)); with_reducible refine' OW.mod (by first | with_reducible assumption | with_unfolding_all omega) ?_) | ((with_reducible refine (?_ : OW fPow _ _ _)); with_reducible refine' OW.pow (by with_reducible assumption) ?_) | (with_reducible first | refine' UW.neg ?_) | ((with_reducible refine (?_ : UW _ _ _)); with_reducible refine' UW.of (by with_reducible assumption) ?_) | (with_reducible first | refine' CW.max ?_ | refine' CW.range2 ?_) | ((with_reducible refine (?_ : CW _ _ _)); with_reducible refine' CW.fn (by with_unfolding_all (repeat (first | exact StartsAt.nil | apply StartsAt.cons | apply StartsAt.unb))) (by with_unfolding_all exact rfl) ?_) | (with_reducible first | refine' KK.use (by with_reducible assumption) ?_))
        rfl
      rw [if_neg cc]
      have stop : StopIf := trivial
      repeat' ((fail_if_success (with_reducible refine (?_ : @Eq _ _ _))); first | (with_reducible first | refine' CK.ret ?_ | refine' SK.next ?_ | refine' SK.ret ?_ | refine' SK.cont ?_ | refine' LK.next ?_ | refine' LK.cont ?_ | refine' RW.nil ?_ | refine' RW.seqK (fun K hK => ?_)) | ((with_reducible refine (?_ : RW _ _ _ _)); with_reducible refine' RW.lenOk (by with_unfolding_all exact rfl) ?_) | (with_reducible first | refine' SW.of ?_ | refine' PutAt.of ?_ ?_) | with_reducible exact SetR.z | (with_reducible first | refine' SetR.s3 ?_ | refine' SetR.s ?_) | (with_reducible refine (?_ : SetR _ (0 + 1) _ _)); refine SetR.s ?_ | ((with_reducible refine (?_ : RW _ _ _ _)); with_reducible refine' RW.retF (E := eVar _) (by with_unfolding_all exact rfl) ?_) | (with_reducible first | refine' RW.asg ?_ | refine' RW.ret ?_) | (fail_if_success (have : StopIf := by with_reducible assumption)); (with_reducible refine' RW.if ?_) | (with_reducible first | refine' RW.tup ?_ | refine' RW.for ?_ | refine' RW.while ?_ | refine' RW.new ?_) | ((with_reducible refine (?_ : RW _ _ _ _)); with_reducible refine' RW.app (by with_unfolding_all exact rfl) (by first | with_reducible assumption | with_unfolding_all exact Nat.le_of_ble_eq_true rfl) ?_) | ((with_reducible refine (?_ : RW _ _ _ _)); with_reducible refine' RW.aug (by with_unfolding_all exact rfl) ?_) | (with_reducible first | refine' TupK.two_t ?_ | refine' TupK.two_f ?_ | refine' TupK.four_f ?_ | refine' IfK.t ?_ | refine' IfK.f ?_) | (with_reducible refine' IfK.gd ?_; with_reducible refine' IfK.decT (by first | with_reducible assumption | with_unfolding_all omega) ?_) | (with_reducible refine' IfK.gd ?_; with_reducible refine' IfK.decF (by first | with_reducible assumption | with_unfolding_all omega) ?_) | (with_reducible first | refine' NotK.t ?_ | refine' NotK.f ?_ | refine' TruthK.bool ?_ | refine' TruthK.int ?_) | ((with_reducible refine (?_ : EW (eVar _) _ _)); with_reducible refine' EW.var (by with_unfolding_all exact rfl) ?_) | (with_reducible first | refine' EW.cst ?_ | refine' EW.e1 ?_ | refine' EW.e2 ?_ | refine' EW.call ?_ | refine' EW.tup ?_ | refine' EW.lst ?_ | refine' EW.or ?_ | refine' EW.e3c ?_ | refine' EW.comp ?_ | refine' EsW.nil ?_ | refine' EsW.cons ?_ | refine' TW.c ?_) | ((with_reducible refine (?_ : TpK _ _)); with_reducible refine' TpK.mk (by with_unfolding_all exact Nat.le_of_ble_eq_true rfl) ?_) | ((with_reducible refine (?_ : LsK _ _)); with_reducible refine' LsK.mk (by with_unfolding_all exact Nat.le_of_ble_eq_true rfl) ?_) | (with_reducible first | refine' TW.tOf ?_ | refine' TW.not ?_ | refine' TW.and ?_ | refine' TW.or ?_) | ((with_reducible refine (?_ : CW _ _ _)); with_reducible refine' CW.of (by with_reducible assumption) ?_) | ((with_reducible refine (?_ : CW fPow3 _ _)); with_reducible refine' CW.pow3 (by with_unfolding_all first | decide | omega) (by with_reducible assumption) ?_) | ((with_reducible refine (?_ : OW _ _ _ _)); with_reducible refine' OW.of (by with_reducible assumption) ?_) | (with_reducible first | refine' OW.add ?_ | refine' OW.addI ?_ | refine' OW.sub ?_ | refine' OW.and ?_ | refine' OW.ord ?_ | refine' OW.eq ?_ | refine' OW.ne ?_) | ((with_reducible refine (?_ : OW fMul _ _ _)); with_reducible refine' OW.mul (by first | with_reducible assumption | with_unfolding_all exact mulOk_sm (by omega) (by omega) | with_unfolding_all exact mulOk_bd (by repeat' kt_len) (by repeat' kt_len) (Nat.le_of_ble_eq_true rfl)) ?_) | ((with_reducible refine (?_ : OW fDiv _ _ _)); with_reducible refine' OW.div (by with_reducible assumption) ?_) | ((with_reducible refine (?_ : OW fMod _ _ _)); with_reducible refine' OW.mod (by first | with_reducible assumption | with_unfolding_all omega) ?_) | ((with_reducible refine (?_ : OW fPow _ _ _)); with_reducible refine' OW.pow (by with_reducible assumption) ?_) | (with_reducible first | refine' UW.neg ?_) | ((with_reducible refine (?_ : UW _ _ _)); with_reducible refine' UW.of (by with_reducible assumption) ?_) | (with_reducible first | refine' CW.max ?_ | refine' CW.range2 ?_) | ((with_reducible refine (?_ : CW _ _ _)); with_reducible refine' CW.fn (by with_unfolding_all (repeat (first | exact StartsAt.nil | apply StartsAt.cons | apply StartsAt.unb))) (by with_unfolding_all exact rfl) ?_) | (with_reducible first | refine' KK.use (by with_reducible assumption) ?_))
      clear stop
      refine RW.mid (fun σ => σ = [.imm (.int n), .imm (.int B1), .imm (.int B2), .imm (.int s), .imm (.int (uI n s)), .imm (.int (vI n s)), sl, .imm (prD Q), .imm (prD (cI n s)), .imm (.int g)]) ?_ ?_
      · by_cases c1 : 1 < g
        · have c2 : ¬ g < n := fun h => cc ⟨c1, h⟩
          repeat' ((fail_if_success (with_reducible refine (?_ : @Eq _ _ _))); first | (with_reducible first | refine' CK.ret ?_ | refine' SK.next ?_ | refine' SK.ret ?_ | refine' SK.cont ?_ | refine' LK.next ?_ | refine' LK.cont ?_ | refine' RW.nil ?_ | refine' RW.seqK (fun K hK => ?_)) | ((with_reducible refine (?_ : RW _ _ _ _)); with_reducible refine' RW.lenOk (by with_unfolding_all exact rfl) ?_) | (with_reducible first | refine' SW.of ?_ | refine' PutAt.of ?_ ?_) | with_reducible exact SetR.z | (with_reducible first | refine' SetR.s3 ?_ | refine' SetR.s ?_) | (with_reducible refine (?_ : SetR _ (0 + 1) _ _)); refine SetR.s ?_ | ((with_reducible refine (?_ : RW _ _ _ _)); with_reducible refine' RW.retF (E := eVar _) (by with_unfolding_all exact rfl) ?_) | (with_reducible first | refine' RW.asg ?_ | refine' RW.ret ?_) | (fail_if_success (have : StopIf := by with_reducible assumption)); (with_reducible refine' RW.if ?_) | (with_reducible first | refine' RW.tup ?_ | refine' RW.for ?_ | refine' RW.while ?_ | refine' RW.new ?_) | ((with_reducible refine (?_ : RW _ _ _ _)); with_reducible refine' RW.app (by with_unfolding_all exact rfl) (by first | with_reducible assumption | with_unfolding_all exact Nat.le_of_ble_eq_true rfl) ?_) | ((with_reducible refine (?_ : RW _ _ _ _)); with_reducible refine' RW.aug (by with_unfolding_all exact rfl) ?_) | (with_reducible first | refine' TupK.two_t ?_ | refine' TupK.two_f ?_ | refine' TupK.four_f ?_ | refine' IfK.t ?_ | refine' IfK.f ?_) | (with_reducible refine' IfK.gd ?_; with_reducible refine' IfK.decT (by first | with_reducible assumption | with_unfolding_all omega) ?_) | (with_reducible refine' IfK.gd ?_; with_reducible refine' IfK.decF (by first | with_reducible assumption | with_unfolding_all omega) ?_) | (with_reducible first | refine' NotK.t ?_ | refine' NotK.f ?_ | refine' TruthK.bool ?_ | refine' TruthK.int ?_) | ((with_reducible refine (?_ : EW (eVar _) _ _)); with_reducible refine' EW.var (by with_unfolding_all exact rfl) ?_) | (with_reducible first | refine' EW.cst ?_ | refine' EW.e1 ?_ | refine' EW.e2 ?_ | refine' EW.call ?_ | refine' EW.tup ?_ | refine' EW.lst ?_ | refine' EW.or ?_ | refine' EW.e3c ?_ | refine' EW.comp ?_ | refine' EsW.nil ?_ | refine' EsW.cons ?_ | refine' TW.c ?_) | ((with_reducible refine (?_ : TpK _ _)); with_reducible refine' TpK.mk (by with_unfolding_all exact Nat.le_of_ble_eq_true rfl) ?_) | ((with_reducible refine (?_ : LsK _ _)); with_reducible refine' LsK.mk (by with_unfolding_all exact Nat.le_of_ble_eq_true rfl) ?_) | (with_reducible first | refine' TW.tOf ?_ | refine' TW.not ?_ | refine' TW.and ?_ | refine' TW.or ?_) | ((with_reducible refine (?_ : CW _ _ _)); with_reducible refine' CW.of (by with_reducible assumption) ?_) | ((with_reducible refine (?_ : CW fPow3 _ _)); with_reducible refine' CW.pow3 (by with_unfolding_all first | decide | omega) (by with_reducible assumption) ?_) | ((with_reducible refine (?_ : OW _ _ _ _)); with_reducible refine' OW.of (by with_reducible assumption) ?_) | (with_reducible first | refine' OW.add ?_ | refine' OW.addI ?_ | refine' OW.sub ?_ | refine' OW.and ?_ | refine' OW.ord ?_ | refine' OW.eq ?_ | refine' OW.ne ?_) | ((with_reducible refine (?_ : OW fMul _ _ _)); with_reducible refine' OW.mul (by first | with_reducible assumption | with_unfolding_all exact mulOk_sm (by omega) (by omega) | with_unfolding_all exact mulOk_bd (by repeat' kt_len) (by repeat' kt_len) (Nat.le_of_ble_eq_true rfl)) ?_) | ((with_reducible refine (?_ : OW fDiv _ _ _)); with_reducible refine' OW.div (by with_reducible assumption) ?_) | ((with_reducible refine (?_ : OW fMod _ _ _)); with_reducible refine' OW.mod (by first | with_reducible assumption | with_unfolding_all omega) ?_) | ((with_reducible refine (?_ : OW fPow _ _ _)); with_reducible refine' OW.pow (by with_reducible assumption) ?_) | (with_reducible first | refine' UW.neg ?_) | ((with_reducible refine (?_ : UW _ _ _)); with_reducible refine' UW.of (by with_reducible assumption) ?_) | (with_reducible first | refine' CW.max ?_ | refine' CW.range2 ?_) | ((with_reducible refine (?_ : CW _ _ _)); with_reducible refine' CW.fn (by with_unfolding_all (repeat (first | exact StartsAt.nil | apply StartsAt.cons | apply StartsAt.unb))) (by with_unfolding_all exact rfl) ?_) | (with_reducible first | refine' KK.use (by with_reducible assumption) ?_))
          exact ⟨rfl, rfl⟩
        · repeat' ((fail_if_success (with_reducible refine (?_ : @Eq _ _ _))); first | (with_reducible first | refine' CK.ret ?_ | refine' SK.next ?_ | refine' SK.ret ?_ | refine' SK.cont ?_ | refine' LK.next ?_ | refine' LK.cont ?_ | refine' RW.nil ?_ | refine' RW.seqK (fun K hK => ?_)) | ((with_reducible refine (?_ : RW _ _ _ _)); with_reducible refine' RW.lenOk (by with_unfolding_all exact rfl) ?_) | (with_reducible first | refine' SW.of ?_ | refine' PutAt.of ?_ ?_) | with_reducible exact SetR.z | (with_reducible first | refine' SetR.s3 ?_ | refine' SetR.s ?_) | (with_reducible refine (?_ : SetR _ (0 + 1) _ _)); refine SetR.s ?_ | ((with_reducible refine (?_ : RW _ _ _ _)); with_reducible refine' RW.retF (E := eVar _) (by with_unfolding_all exact rfl) ?_) | (with_reducible first | refine' RW.asg ?_ | refine' RW.ret ?_) | (fail_if_success (have : StopIf := by with_reducible assumption)); (with_reducible refine' RW.if ?_) | (with_reducible first | refine' RW.tup ?_ | refine' RW.for ?_ | refine' RW.while ?_ | refine' RW.new ?_) | ((with_reducible refine (?_ : RW _ _ _ _)); with_reducible refine' RW.app (by with_unfolding_all exact rfl) (by first | with_reducible assumption | with_unfolding_all exact Nat.le_of_ble_eq_true rfl) ?_) | ((with_reducible refine (?_ : RW _ _ _ _)); with_reducible refine' RW.aug (by with_unfolding_all exact rfl) ?_) | (with_reducible first | refine' TupK.two_t ?_ | refine' TupK.two_f ?_ | refine' TupK.four_f ?_ | refine' IfK.t ?_ | refine' IfK.f ?_) | (with_reducible refine' IfK.gd ?_; with_reducible refine' IfK.decT (by first | with_reducible assumption | with_unfolding_all omega) ?_) | (with_reducible refine' IfK.gd ?_; with_reducible refine' IfK.decF (by first | with_reducible assumption | with_unfolding_all omega) ?_) | (with_reducible first | refine' NotK.t ?_ | refine' NotK.f ?_ | refine' TruthK.bool ?_ | refine' TruthK.int ?_) | ((with_reducible refine (?_ : EW (eVar _) _ _)); with_reducible refine' EW.var (by with_unfolding_all exact rfl) ?_) | (with_reducible first | refine' EW.cst ?_ | refine' EW.e1 ?_ | refine' EW.e2 ?_ | refine' EW.call ?_ | refine' EW.tup ?_ | refine' EW.lst ?_ | refine' EW.or ?_ | refine' EW.e3c ?_ | refine' EW.comp ?_ | refine' EsW.nil ?_ | refine' EsW.cons ?_ | refine' TW.c ?_) | ((with_reducible refine (?_ : TpK _ _)); with_reducible refine' TpK.mk (by with_unfolding_all exact Nat.le_of_ble_eq_true rfl) ?_) | ((with_reducible refine (?_ : LsK _ _)); with_reducible refine' LsK.mk (by with_unfolding_all exact Nat.le_of_ble_eq_true rfl) ?_) | (with_reducible first | refine' TW.tOf ?_ | refine' TW.not ?_ | refine' TW.and ?_ | refine' TW.or ?_) | ((with_reducible refine (?_ : CW _ _ _)); with_reducible refine' CW.of (by with_reducible assumption) ?_) | ((with_reducible refine (?_ : CW fPow3 _ _)); with_reducible refine' CW.pow3 (by with_unfolding_all first | decide | omega) (by with_reducible assumption) ?_) | ((with_reducible refine (?_ : OW _ _ _ _)); with_reducible refine' OW.of (by with_reducible assumption) ?_) | (with_reducible first | refine' OW.add ?_ | refine' OW.addI ?_ | refine' OW.sub ?_ | refine' OW.and ?_ | refine' OW.ord ?_ | refine' OW.eq ?_ | refine' OW.ne ?_) | ((with_reducible refine (?_ : OW fMul _ _ _)); with_reducible refine' OW.mul (by first | with_reducible assumption | with_unfolding_all exact mulOk_sm (by omega) (by omega) | with_unfolding_all exact mulOk_bd (by repeat' kt_len) (by repeat' kt_len) (Nat.le_of_ble_eq_true rfl)) ?_) | ((with_reducible refine (?_ : OW fDiv _ _ _)); with_reducible refine' OW.div (by with_reducible assumption) ?_) | ((with_reducible refine (?_ : OW fMod _ _ _)); with_reducible refine' OW.mod (by first | with_reducible assumption | with_unfolding_all omega) ?_) | ((with_reducible refine (?_ : OW fPow _ _ _)); with_reducible refine' OW.pow (by with_reducible assumption) ?_) | (with_reducible first | refine' UW.neg ?_) | ((with_reducible refine (?_ : UW _ _ _)); with_reducible refine' UW.of (by with_reducible assumption) ?_) | (with_reducible first | refine' CW.max ?_ | refine' CW.range2 ?_) | ((with_reducible refine (?_ : CW _ _ _)); with_reducible refine' CW.fn (by with_unfolding_all (repeat (first | exact StartsAt.nil | apply StartsAt.cons | apply StartsAt.unb))) (by with_unfolding_all exact rfl) ?_) | (with_reducible first | refine' KK.use (by with_reducible assumption) ?_))
          exact ⟨rfl, rfl⟩
      rintro σ rfl
      repeat' ((fail_if_success (with_reducible refine (?_ : @Eq _ _ _))); first | (with_reducible first | refine' CK.ret ?_ | refine' SK.next ?_ | refine' SK.ret ?_ | refine' SK.cont ?_ | refine' LK.next ?_ | refine' LK.cont ?_ | refine' RW.nil ?_ | refine' RW.seqK (fun K hK => ?_)) | ((with_reducible refine (?_ : RW _ _ _ _)); with_reducible refine' RW.lenOk (by with_unfolding_all exact rfl) ?_) | (with_reducible first | refine' SW.of ?_ | refine' PutAt.of ?_ ?_) | with_reducible exact SetR.z | (with_reducible first | refine' SetR.s3 ?_ | refine' SetR.s ?_) | (with_reducible refine (?_ : SetR _ (0 + 1) _ _)); refine SetR.s ?_ | ((with_reducible refine (?_ : RW _ _ _ _)); with_reducible refine' RW.retF (E := eVar _) (by with_unfolding_all exact rfl) ?_) | (with_reducible first | refine' RW.asg ?_ | refine' RW.ret ?_) | (fail_if_success (have : StopIf := by with_reducible assumption)); (with_reducible refine' RW.if ?_) | (with_reducible first | refine' RW.tup ?_ | refine' RW.for ?_ | refine' RW.while ?_ | refine' RW.new ?_) | ((with_reducible refine (?_ : RW _ _ _ _)); with_reducible refine' RW.app (by with_unfolding_all exact rfl) (by first | with_reducible assumption | with_unfolding_all exact Nat.le_of_ble_eq_true rfl) ?_) | ((with_reducible refine (?_ : RW _ _ _ _)); with_reducible refine' RW.aug (by with_unfolding_all exact rfl) ?_) | (with_reducible first | refine' TupK.two_t ?_ | refine' TupK.two_f ?_ | refine' TupK.four_f ?_ | refine' IfK.t ?_ | refine' IfK.f ?_) | (with_reducible refine' IfK.gd ?_; with_reducible refine' IfK.decT (by first | with_reducible assumption | with_unfolding_all omega) ?_) | (with_reducible refine' IfK.gd ?_; with_reducible refine' IfK.decF (by first | with_reducible assumption | with_unfolding_all omega) ?_) | (with_reducible first | refine' NotK.t ?_ | refine' NotK.f ?_ | refine' TruthK.bool ?_ | refine' TruthK.int ?_) | ((with_reducible refine (?_ : EW (eVar _) _ _)); with_reducible refine' EW.var (by with_unfolding_all exact rfl) ?_) | (with_reducible first | refine' EW.cst ?_ | refine' EW.e1 ?_ | refine' EW.e2 ?_ | refine' EW.call ?_ | refine' EW.tup ?_ | refine' EW.lst ?_ | refine' EW.or ?_ | refine' EW.e3c ?_ | refine' EW.comp ?_ | refine' EsW.nil ?_ | refine' EsW.cons ?_ | refine' TW.c ?_) | ((with_reducible refine (?_ : TpK _ _)); with_reducible refine' TpK.mk (by with_unfolding_all exact Nat.le_of_ble_eq_true rfl) ?_) | ((with_reducible refine (?_ : LsK _ _)); with_reducible refine' LsK.mk (by with_unfolding_all exact Nat.le_of_ble_eq_true rfl) ?_) | (with_reducible first | refine' TW.tOf ?_ | refine' TW.not ?_ | refine' TW.and ?_ | refine' TW.or ?_) | ((with_reducible refine (?_ : CW _ _ _)); with_reducible refine' CW.of (by with_reducible assumption) ?_) | ((with_reducible refine (?_ : CW fPow3 _ _)); with_reducible refine' CW.pow3 (by with_unfolding_all first | decide | omega) (by with_reducible assumption) ?_) | ((with_reducible refine (?_ : OW _ _ _ _)); with_reducible refine' OW.of (by with_reducible assumption) ?_) | (with_reducible first | refine' OW.add ?_ | refine' OW.addI ?_ | refine' OW.sub ?_ | refine' OW.and ?_ | refine' OW.ord ?_ | refine' OW.eq ?_ | refine' OW.ne ?_) | ((with_reducible refine (?_ : OW fMul _ _ _)); with_reducible refine' OW.mul (by first | with_reducible assumption | with_unfolding_all exact mulOk_sm (by omega) (by omega) | with_unfolding_all exact mulOk_bd (by repeat' kt_len) (by repeat' kt_len) (Nat.le_of_ble_eq_true rfl)) ?_) | ((with_reducible refine (?_ : OW fDiv _ _ _)); with_reducible refine' OW.div (by with_reducible assumption) ?_) | ((with_reducible refine (?_ : OW fMod _ _ _)); with_reducible refine' OW.mod (by first | with_reducible assumption | with_unfolding_all omega) ?_) | ((with_reducible refine (?_ : OW fPow _ _ _)); with_reducible refine' OW.pow (by with_reducible assumption) ?_) | (with_reducible first | refine' UW.neg ?_) | ((with_reducible refine (?_ : UW _ _ _)); with_reducible refine' UW.of (by with_reducible assumption) ?_) | (with_reducible first | refine' CW.max ?_ | refine' CW.range2 ?_) | ((with_reducible refine (?_ : CW _ _ _)); with_reducible refine' CW.fn (by with_unfolding_all (repeat (first | exact StartsAt.nil | apply StartsAt.cons | apply StartsAt.unb))) (by with_unfolding_all exact rfl) ?_) | (with_reducible first | refine' KK.use (by with_reducible assumption) ?_))
      refine ForK.of rfl (items_lst (by rw [intsD_length, natI_length]; omega)) (LW.inv (fun ds σ => ∃ (l : List Nat) (Q' : Int × Int) (g' : Int) (sl : Slot), ds = intsD (natI l) ∧ (∀ p ∈ l, p ∈ pgR (c - 1)) ∧ Bd2 2000 Q' ∧ Bd 100 g' ∧ gacc (cI n s) n (l.filter fun p => decide (b < p)) Q' g' = gacc (cI n s) n (sndL b c) Q g ∧ σ = [.imm (.int n), .imm (.int B1), .imm (.int B2), .imm (.int s), .imm (.int (uI n s)), .imm (.int (vI n s)), sl, .imm (prD Q'), .imm (prD (cI n s)), .imm (.int g')]) ⟨pgR (c - 1), Q, g, _, rfl, fun _ h => h, bQ, bg, rfl, rfl⟩ ?_ ?_)
      · rintro d' ds σ ⟨l, Q', g', sl', e, hl, bQ', bg', hr, rfl⟩
        cases l with
        | nil => cases e
        | cons p l =>
          cases e
          have hp := pgR_mem (hl p (.head _))
          refine ⟨rfl, ?_⟩
          by_cases cb : b < p
          · rw [List.filter_cons, if_pos (decide_eq_true cb)] at hr
            have cb' : ¬ (p : Int) ≤ B1 := fun h => absurd ((hle p (Nat.le_of_lt hp.1)).mp h) (Nat.not_le_of_lt cb)
            have wm := mul_all s5 (m := p) hp.1 (Nat.lt_of_le_of_lt (show p ≤ 100 by omega) (by decide)) (t := Q') (A := cI n s) n0 bn2 bQ' bC
            obtain ⟨bm1, bm2⟩ : Bd2 2000 (mulF p Q' (cI n s) n) := (mulF_rng hp.1 n0).bd bn2
            have wq' : fSubs (prD (mulF p Q' (cI n s) n)) (.int 1) = some (.int (mulF p Q' (cI n s) n).2) := rfl
            repeat' ((fail_if_success (with_reducible refine (?_ : @Eq _ _ _))); first | (with_reducible first | refine' CK.ret ?_ | refine' SK.next ?_ | refine' SK.ret ?_ | refine' SK.cont ?_ | refine' LK.next ?_ | refine' LK.cont ?_ | refine' RW.nil ?_ | refine' RW.seqK (fun K hK => ?_)) | ((with_reducible refine (?_ : RW _ _ _ _)); with_reducible refine' RW.lenOk (by with_unfolding_all exact rfl) ?_) | (with_reducible first | refine' SW.of ?_ | refine' PutAt.of ?_ ?_) | with_reducible exact SetR.z | (with_reducible first | refine' SetR.s3 ?_ | refine' SetR.s ?_) | (with_reducible refine (?_ : SetR _ (0 + 1) _ _)); refine SetR.s ?_ | ((with_reducible refine (?_ : RW _ _ _ _)); with_reducible refine' RW.retF (E := eVar _) (by with_unfolding_all exact rfl) ?_) | (with_reducible first | refine' RW.asg ?_ | refine' RW.ret ?_) | (fail_if_success (have : StopIf := by with_reducible assumption)); (with_reducible refine' RW.if ?_) | (with_reducible first | refine' RW.tup ?_ | refine' RW.for ?_ | refine' RW.while ?_ | refine' RW.new ?_) | ((with_reducible refine (?_ : RW _ _ _ _)); with_reducible refine' RW.app (by with_unfolding_all exact rfl) (by first | with_reducible assumption | with_unfolding_all exact Nat.le_of_ble_eq_true rfl) ?_) | ((with_reducible refine (?_ : RW _ _ _ _)); with_reducible refine' RW.aug (by with_unfolding_all exact rfl) ?_) | (with_reducible first | refine' TupK.two_t ?_ | refine' TupK.two_f ?_ | refine' TupK.four_f ?_ | refine' IfK.t ?_ | refine' IfK.f ?_) | (with_reducible refine' IfK.gd ?_; with_reducible refine' IfK.decT (by first | with_reducible assumption | with_unfolding_all omega) ?_) | (with_reducible refine' IfK.gd ?_; with_reducible refine' IfK.decF (by first | with_reducible assumption | with_unfolding_all omega) ?_) | (with_reducible first | refine' NotK.t ?_ | refine' NotK.f ?_ | refine' TruthK.bool ?_ | refine' TruthK.int ?_) | ((with_reducible refine (?_ : EW (eVar _) _ _)); with_reducible refine' EW.var (by with_unfolding_all exact rfl) ?_) | (with_reducible first | refine' EW.cst ?_ | refine' EW.e1 ?_ | refine' EW.e2 ?_ | refine' EW.call ?_ | refine' EW.tup ?_ | refine' EW.lst ?_ | refine' EW.or ?_ | refine' EW.e3c ?_ | refine' EW.comp ?_ | refine' EsW.nil ?_ | refine' EsW.cons ?_ | refine' TW.c ?_) | ((with_reducible refine (?_ : TpK _ _)); with_reducible refine' TpK.mk (by with_unfolding_all exact Nat.le_of_ble_eq_true rfl) ?_) | ((with_reducible refine (?_ : LsK _ _)); with_reducible refine' LsK.mk (by with_unfolding_all exact Nat.le_of_ble_eq_true rfl) ?_) | (with_reducible first | refine' TW.tOf ?_ | refine' TW.not ?_ | refine' TW.and ?_ | refine' TW.or ?_) | ((with_reducible refine (?_ : CW _ _ _)); with_reducible refine' CW.of (by with_reducible assumption) ?_) | ((with_reducible refine (?_ : CW fPow3 _ _)); with_reducible refine' CW.pow3 (by with_unfolding_all first | decide | omega) (by with_reducible assumption) ?_) | ((with_reducible refine (?_ : OW _ _ _ _)); with_reducible refine' OW.of (by with_reducible assumption) ?_) | (with_reducible first | refine' OW.add ?_ | refine' OW.addI ?_ | refine' OW.sub ?_ | refine' OW.and ?_ | refine' OW.ord ?_ | refine' OW.eq ?_ | refine' OW.ne ?_) | ((with_reducible refine (?_ : OW fMul _ _ _)); with_reducible refine' OW.mul (by first | with_reducible assumption | with_unfolding_all exact mulOk_sm (by omega) (by omega) | with_unfolding_all exact mulOk_bd (by repeat' kt_len) (by repeat' kt_len) (Nat.le_of_ble_eq_true rfl)) ?_) | ((with_reducible refine (?_ : OW fDiv _ _ _)); with_reducible refine' OW.div (by with_reducible assumption) ?_) | ((with_reducible refine (?_ : OW fMod _ _ _)); with_reducible refine' OW.mod (by first | with_reducible assumption | with_unfolding_all omega) ?_) | ((with_reducible refine (?_ : OW fPow _ _ _)); with_reducible refine' OW.pow (by with_reducible assumption) ?_) | (with_reducible first | refine' UW.neg ?_) | ((with_reducible refine (?_ : UW _ _ _)); with_reducible refine' UW.of (by with_reducible assumption) ?_) | (with_reducible first | refine' CW.max ?_ | refine' CW.range2 ?_) | ((with_reducible refine (?_ : CW _ _ _)); with_reducible refine' CW.fn (by with_unfolding_all (repeat (first | exact StartsAt.nil | apply StartsAt.cons | apply StartsAt.unb))) (by with_unfolding_all exact rfl) ?_) | (with_reducible first | refine' KK.use (by with_reducible assumption) ?_))
            exact ⟨l, _, _, _, rfl, fun x hx => hl x (.tail _ hx), ⟨bm1, bm2⟩, Bd.fmod' nn bn, hr, rfl⟩
          · rw [List.filter_cons, if_neg (by simpa using cb)] at hr
            have cb' : (p : Int) ≤ B1 := (hle p (Nat.le_of_lt hp.1)).mpr (Nat.le_of_not_lt cb)
            repeat' ((fail_if_success (with_reducible refine (?_ : @Eq _ _ _))); first | (with_reducible first | refine' CK.ret ?_ | refine' SK.next ?_ | refine' SK.ret ?_ | refine' SK.cont ?_ | refine' LK.next ?_ | refine' LK.cont ?_ | refine' RW.nil ?_ | refine' RW.seqK (fun K hK => ?_)) | ((with_reducible refine (?_ : RW _ _ _ _)); with_reducible refine' RW.lenOk (by with_unfolding_all exact rfl) ?_) | (with_reducible first | refine' SW.of ?_ | refine' PutAt.of ?_ ?_) | with_reducible exact SetR.z | (with_reducible first | refine' SetR.s3 ?_ | refine' SetR.s ?_) | (with_reducible refine (?_ : SetR _ (0 + 1) _ _)); refine SetR.s ?_ | ((with_reducible refine (?_ : RW _ _ _ _)); with_reducible refine' RW.retF (E := eVar _) (by with_unfolding_all exact rfl) ?_) | (with_reducible first | refine' RW.asg ?_ | refine' RW.ret ?_) | (fail_if_success (have : StopIf := by with_reducible assumption)); (with_reducible refine' RW.if ?_) | (with_reducible first | refine' RW.tup ?_ | refine' RW.for ?_ | refine' RW.while ?_ | refine' RW.new ?_) | ((with_reducible refine (?_ : RW _ _ _ _)); with_reducible refine' RW.app (by with_unfolding_all exact rfl) (by first | with_reducible assumption | with_unfolding_all exact Nat.le_of_ble_eq_true rfl) ?_) | ((with_reducible refine (?_ : RW _ _ _ _)); with_reducible refine' RW.aug (by with_unfolding_all exact rfl) ?_) | (with_reducible first | refine' TupK.two_t ?_ | refine' TupK.two_f ?_ | refine' TupK.four_f ?_ | refine' IfK.t ?_ | refine' IfK.f ?_) | (with_reducible refine' IfK.gd ?_; with_reducible refine' IfK.decT (by first | with_reducible assumption | with_unfolding_all omega) ?_) | (with_reducible refine' IfK.gd ?_; with_reducible refine' IfK.decF (by first | with_reducible assumption | with_unfolding_all omega) ?_) | (with_reducible first | refine' NotK.t ?_ | refine' NotK.f ?_ | refine' TruthK.bool ?_ | refine' TruthK.int ?_) | ((with_reducible refine (?_ : EW (eVar _) _ _)); with_reducible refine' EW.var (by with_unfolding_all exact rfl) ?_) | (with_reducible first | refine' EW.cst ?_ | refine' EW.e1 ?_ | refine' EW.e2 ?_ | refine' EW.call ?_ | refine' EW.tup ?_ | refine' EW.lst ?_ | refine' EW.or ?_ | refine' EW.e3c ?_ | refine' EW.comp ?_ | refine' EsW.nil ?_ | refine' EsW.cons ?_ | refine' TW.c ?_) | ((with_reducible refine (?_ : TpK _ _)); with_reducible refine' TpK.mk (by with_unfolding_all exact Nat.le_of_ble_eq_true rfl) ?_) | ((with_reducible refine (?_ : LsK _ _)); with_reducible refine' LsK.mk (by with_unfolding_all exact Nat.le_of_ble_eq_true rfl) ?_) | (with_reducible first | refine' TW.tOf ?_ | refine' TW.not ?_ | refine' TW.and ?_ | refine' TW.or ?_) | ((with_reducible refine (?_ : CW _ _ _)); with_reducible refine' CW.of (by with_reducible assumption) ?_) | ((with_reducible refine (?_ : CW fPow3 _ _)); with_reducible refine' CW.pow3 (by with_unfolding_all first | decide | omega) (by with_reducible assumption) ?_) | ((with_reducible refine (?_ : OW _ _ _ _)); with_reducible refine' OW.of (by with_reducible assumption) ?_) | (with_reducible first | refine' OW.add ?_ | refine' OW.addI ?_ | refine' OW.sub ?_ | refine' OW.and ?_ | refine' OW.ord ?_ | refine' OW.eq ?_ | refine' OW.ne ?_) | ((with_reducible refine (?_ : OW fMul _ _ _)); with_reducible refine' OW.mul (by first | with_reducible assumption | with_unfolding_all exact mulOk_sm (by omega) (by omega) | with_unfolding_all exact mulOk_bd (by repeat' kt_len) (by repeat' kt_len) (Nat.le_of_ble_eq_true rfl)) ?_) | ((with_reducible refine (?_ : OW fDiv _ _ _)); with_reducible refine' OW.div (by with_reducible assumption) ?_) | ((with_reducible refine (?_ : OW fMod _ _ _)); with_reducible refine' OW.mod (by first | with_reducible assumption | with_unfolding_all omega) ?_) | ((with_reducible refine (?_ : OW fPow _ _ _)); with_reducible refine' OW.pow (by with_reducible assumption) ?_) | (with_reducible first | refine' UW.neg ?_) | ((with_reducible refine (?_ : UW _ _ _)); with_reducible refine' UW.of (by with_reducible assumption) ?_) | (with_reducible first | refine' CW.max ?_ | refine' CW.range2 ?_) | ((with_reducible refine (?_ : CW _ _ _)); with_reducible refine' CW.fn (by with_unfolding_all (repeat (first | exact StartsAt.nil | apply StartsAt.cons | apply StartsAt.unb))) (by with_unfolding_all exact rfl) ?_) | (with_reducible first | refine' KK.use (by with_reducible assumption) ?_))
            refine ⟨_, _, rfl, ?_⟩
            repeat' ((fail_if_success (with_reducible refine (?_ : @Eq _ _ _))); first | (with_reducible first | refine' CK.ret ?_ | refine' SK.next ?_ | refine' SK.ret ?_ | refine' SK.cont ?_ | refine' LK.next ?_ | refine' LK.cont ?_ | refine' RW.nil ?_ | refine' RW.seqK (fun K hK => ?_)) | ((with_reducible refine (?_ : RW _ _ _ _)); with_reducible refine' RW.lenOk (by with_unfolding_all exact rfl) ?_) | (with_reducible first | refine' SW.of ?_ | refine' PutAt.of ?_ ?_) | with_reducible exact SetR.z | (with_reducible first | refine' SetR.s3 ?_ | refine' SetR.s ?_) | (with_reducible refine (?_ : SetR _ (0 + 1) _ _)); refine SetR.s ?_ | ((with_reducible refine (?_ : RW _ _ _ _)); with_reducible refine' RW.retF (E := eVar _) (by with_unfolding_all exact rfl) ?_) | (with_reducible first | refine' RW.asg ?_ | refine' RW.ret ?_) | (fail_if_success (have : StopIf := by with_reducible assumption)); (with_reducible refine' RW.if ?_) | (with_reducible first | refine' RW.tup ?_ | refine' RW.for ?_ | refine' RW.while ?_ | refine' RW.new ?_) | ((with_reducible refine (?_ : RW _ _ _ _)); with_reducible refine' RW.app (by with_unfolding_all exact rfl) (by first | with_reducible assumption | with_unfolding_all exact Nat.le_of_ble_eq_true rfl) ?_) | ((with_reducible refine (?_ : RW _ _ _ _)); with_reducible refine' RW.aug (by with_unfolding_all exact rfl) ?_) | (with_reducible first | refine' TupK.two_t ?_ | refine' TupK.two_f ?_ | refine' TupK.four_f ?_ | refine' IfK.t ?_ | refine' IfK.f ?_) | (with_reducible refine' IfK.gd ?_; with_reducible refine' IfK.decT (by first | with_reducible assumption | with_unfolding_all omega) ?_) | (with_reducible refine' IfK.gd ?_; with_reducible refine' IfK.decF (by first | with_reducible assumption | with_unfolding_all omega) ?_) | (with_reducible first | refine' NotK.t ?_ | refine' NotK.f ?_ | refine' TruthK.bool ?_ | refine' TruthK.int ?_) | ((with_reducible refine (?_ : EW (eVar _) _ _)); with_reducible refine' EW.var (by with_unfolding_all exact rfl) ?_) | (with_reducible first | refine' EW.cst ?_ | refine' EW.e1 ?_ | refine' EW.e2 ?_ | refine' EW.call ?_ | refine' EW.tup ?_ | refine' EW.lst ?_ | refine' EW.or ?_ | refine' EW.e3c ?_ | refine' EW.comp ?_ | refine' EsW.nil ?_ | refine' EsW.cons ?_ | refine' TW.c ?_) | ((with_reducible refine (?_ : TpK _ _)); with_reducible refine' TpK.mk (by with_unfolding_all exact Nat.le_of_ble_eq_true rfl) ?_) | ((with_reducible refine (?_ : LsK _ _)); with_reducible refine' LsK.mk (by with_unfolding_all exact Nat.le_of_ble_eq_true rfl) ?_) | (with_reducible first | refine' TW.tOf ?_ | refine' TW.not ?_ | refine' TW.and ?_ | refine' TW.or ?_) | ((with_reducible refine (?_ : CW _ _ _)); with_reducible refine' CW.of (by with_reducible assumption) ?_) | ((with_reducible refine (?_ : CW fPow3 _ _)); with_reducible refine' CW.pow3 (by with_unfolding_all first | decide | omega) (by with_reducible assumption) ?_) | ((with_reducible refine (?_ : OW _ _ _ _)); with_reducible refine' OW.of (by with_reducible assumption) ?_) | (with_reducible first | refine' OW.add ?_ | refine' OW.addI ?_ | refine' OW.sub ?_ | refine' OW.and ?_ | refine' OW.ord ?_ | refine' OW.eq ?_ | refine' OW.ne ?_) | ((with_reducible refine (?_ : OW fMul _ _ _)); with_reducible refine' OW.mul (by first | with_reducible assumption | with_unfolding_all exact mulOk_sm (by omega) (by omega) | with_unfolding_all exact mulOk_bd (by repeat' kt_len) (by repeat' kt_len) (Nat.le_of_ble_eq_true rfl)) ?_) | ((with_reducible refine (?_ : OW fDiv _ _ _)); with_reducible refine' OW.div (by with_reducible assumption) ?_) | ((with_reducible refine (?_ : OW fMod _ _ _)); with_reducible refine' OW.mod (by first | with_reducible assumption | with_unfolding_all omega) ?_) | ((with_reducible refine (?_ : OW fPow _ _ _)); with_reducible refine' OW.pow (by with_reducible assumption) ?_) | (with_reducible first | refine' UW.neg ?_) | ((with_reducible refine (?_ : UW _ _ _)); with_reducible refine' UW.of (by with_reducible assumption) ?_) | (with_reducible first | refine' CW.max ?_ | refine' CW.range2 ?_) | ((with_reducible refine (?_ : CW _ _ _)); with_reducible refine' CW.fn (by with_unfolding_all (repeat (first | exact StartsAt.nil | apply StartsAt.cons | apply StartsAt.unb))) (by with_unfolding_all exact rfl) ?_) | (with_reducible first | refine' KK.use (by with_reducible assumption) ?_))
            exact ⟨l, Q', g', .imm (.int (p : Int)), rfl, fun x hx => hl x (.tail _ hx), bQ', bg', hr, rfl⟩
      rintro σ ⟨l, Q', g', sl', e, hl, bQ', bg', hr, rfl⟩
      cases l with
      | cons p l => cases e
      | nil =>
        have hg' : g' = gacc (cI n s) n (sndL b c) Q g := hr
        have wg2 := s0 g' n ng
        repeat' ((fail_if_success (with_reducible refine (?_ : @Eq _ _ _))); first | (with_reducible first | refine' CK.ret ?_ | refine' SK.next ?_ | refine' SK.ret ?_ | refine' SK.cont ?_ | refine' LK.next ?_ | refine' LK.cont ?_ | refine' RW.nil ?_ | refine' RW.seqK (fun K hK => ?_)) | ((with_reducible refine (?_ : RW _ _ _ _)); with_reducible refine' RW.lenOk (by with_unfolding_all exact rfl) ?_) | (with_reducible first | refine' SW.of ?_ | refine' PutAt.of ?_ ?_) | with_reducible exact SetR.z | (with_reducible first | refine' SetR.s3 ?_ | refine' SetR.s ?_) | (with_reducible refine (?_ : SetR _ (0 + 1) _ _)); refine SetR.s ?_ | ((with_reducible refine (?_ : RW _ _ _ _)); with_reducible refine' RW.retF (E := eVar _) (by with_unfolding_all exact rfl) ?_) | (with_reducible first | refine' RW.asg ?_ | refine' RW.ret ?_) | (fail_if_success (have : StopIf := by with_reducible assumption)); (with_reducible refine' RW.if ?_) | (with_reducible first | refine' RW.tup ?_ | refine' RW.for ?_ | refine' RW.while ?_ | refine' RW.new ?_) | ((with_reducible refine (?_ : RW _ _ _ _)); with_reducible refine' RW.app (by with_unfolding_all exact rfl) (by first | with_reducible assumption | with_unfolding_all exact Nat.le_of_ble_eq_true rfl) ?_) | ((with_reducible refine (?_ : RW _ _ _ _)); with_reducible refine' RW.aug (by with_unfolding_all exact rfl) ?_) | (with_reducible first | refine' TupK.two_t ?_ | refine' TupK.two_f ?_ | refine' TupK.four_f ?_ | refine' IfK.t ?_ | refine' IfK.f ?_) | (with_reducible refine' IfK.gd ?_; with_reducible refine' IfK.decT (by first | with_reducible assumption | with_unfolding_all omega) ?_) | (with_reducible refine' IfK.gd ?_; with_reducible refine' IfK.decF (by first | with_reducible assumption | with_unfolding_all omega) ?_) | (with_reducible first | refine' NotK.t ?_ | refine' NotK.f ?_ | refine' TruthK.bool ?_ | refine' TruthK.int ?_) | ((with_reducible refine (?_ : EW (eVar _) _ _)); with_reducible refine' EW.var (by with_unfolding_all exact rfl) ?_) | (with_reducible first | refine' EW.cst ?_ | refine' EW.e1 ?_ | refine' EW.e2 ?_ | refine' EW.call ?_ | refine' EW.tup ?_ | refine' EW.lst ?_ | refine' EW.or ?_ | refine' EW.e3c ?_ | refine' EW.comp ?_ | refine' EsW.nil ?_ | refine' EsW.cons ?_ | refine' TW.c ?_) | ((with_reducible refine (?_ : TpK _ _)); with_reducible refine' TpK.mk (by with_unfolding_all exact Nat.le_of_ble_eq_true rfl) ?_) | ((with_reducible refine (?_ : LsK _ _)); with_reducible refine' LsK.mk (by with_unfolding_all exact Nat.le_of_ble_eq_true rfl) ?_) | (with_reducible first | refine' TW.tOf ?_ | refine' TW.not ?_ | refine' TW.and ?_ | refine' TW.or ?_) | ((with_reducible refine (?_ : CW _ _ _)); with_reducible refine' CW.of (by with_reducible assumption) ?_) | ((with_reducible refine (?_ : CW fPow3 _ _)); with_reducible refine' CW.pow3 (by with_unfolding_all first | decide | omega) (by with_reducible assumption) ?_) | ((with_reducible refine (?_ : OW _ _ _ _)); with_reducible refine' OW.of (by with_reducible assumption) ?_) | (with_reducible first | refine' OW.add ?_ | refine' OW.addI ?_ | refine' OW.sub ?_ | refine' OW.and ?_ | refine' OW.ord ?_ | refine' OW.eq ?_ | refine' OW.ne ?_) | ((with_reducible refine (?_ : OW fMul _ _ _)); with_reducible refine' OW.mul (by first | with_reducible assumption | with_unfolding_all exact mulOk_sm (by omega) (by omega) | with_unfolding_all exact mulOk_bd (by repeat' kt_len) (by repeat' kt_len) (Nat.le_of_ble_eq_true rfl)) ?_) | ((with_reducible refine (?_ : OW fDiv _ _ _)); with_reducible refine' OW.div (by with_reducible assumption) ?_) | ((with_reducible refine (?_ : OW fMod _ _ _)); with_reducible refine' OW.mod (by first | with_reducible assumption | with_unfolding_all omega) ?_) | ((with_reducible refine (?_ : OW fPow _ _ _)); with_reducible refine' OW.pow (by with_reducible assumption) ?_) | (with_reducible first | refine' UW.neg ?_) | ((with_reducible refine (?_ : UW _ _ _)); with_reducible refine' UW.of (by with_reducible assumption) ?_) | (with_reducible first | refine' CW.max ?_ | refine' CW.range2 ?_) | ((with_reducible refine (?_ : CW _ _ _)); with_reducible refine' CW.fn (by with_unfolding_all (repeat (first | exact StartsAt.nil | apply StartsAt.cons | apply StartsAt.unb))) (by with_unfolding_all exact rfl) ?_) | (with_reducible first | refine' KK.use (by with_reducible assumption) ?_))
        rw [hg']

theorem ok__law_counts {I : GI} (hat : HatI I hd.view_39) (hmax : FunOK I 0 ("max" : Str) fMax) (hrange : FunOK I 0 ("range" : Str) fRange) : ∃ d, (recsOf hd.view_39)[11]? = some d ∧ d.name = ("_law_counts" : Str) ∧ ∃ G, FunOK I 1 d.name G ∧
    ∀ (B1 B2 : Int), -1 ≤ B1 → B1 ≤ 22 → -1 ≤ B2 → B2 ≤ 40 → G [.int B1, .int B2] = some (.tup [.lst (intsD (natI ((fstL B1.toNat).map eff))), .lst (intsD (natI (sndL B1.toNat B2.toNat)))]) := by
  refine' ⟨_, rfl, rfl, _, FunOK.of 1000 (i := 11) (ns := ["b1", "b2", "first", "second", "p", "power"]) (m := 2) hat rfl ⟨rfl, by decide, by decide⟩ (by decide) (fun pm cd doc => vs2 fun a b => rfl) rfl rfl ?h, ?g⟩
  case h =>
    dsimp only
    repeat' ((show (_ : Prop)); first | (with_reducible first | exact OpOK.add | exact OpOK.sub | exact OpOK.mul | exact OpOK.mod | exact OpOK.pow | exact OpOK.and | exact OpOK.lt | exact OpOK.le | exact OpOK.gt | exact OpOK.ge | exact OpOK.eq | exact OpOK.ne | exact OpOK.notIn | exact IOpOK.add | exact IOpOK.sub | exact IOpOK.mul | exact IOpOK.div | exact IOpOK.mod | exact EvOK.cint | exact EvOK.cbool | refine' EvOK.v (by with_unfolding_all exact rfl) (by with_unfolding_all exact rfl) (by with_unfolding_all exact rfl) (by with_unfolding_all exact rfl) | refine' EvOK.bin ?_ ?_ ?_ | refine' EvOK.cmp ?_ ?_ ?_ (by with_unfolding_all exact rfl) | refine' EvOK.neg ?_ | refine' EvOK.bool1 ?_ | refine' EvOK.or ?_ ?_ | refine' EvOK.tup ?_ | refine' EvOK.lst ?_ | refine' EvOK.call' (by with_unfolding_all exact rfl) (by with_unfolding_all exact rfl) (by with_unfolding_all exact rfl) (by with_unfolding_all exact fun _ => rfl) (by with_unfolding_all exact rfl) (by with_unfolding_all exact fun _ => ⟨_, _, rfl⟩) (by with_unfolding_all first | assumption | exact FunOK.le (by assumption) (by decide)) ?_ | refine' EvOK.gsub (by with_unfolding_all exact rfl) (by with_unfolding_all exact rfl) (by with_unfolding_all exact rfl) (by with_unfolding_all exact fun _ _ => rfl) (by with_unfolding_all assumption) ?_ | refine' EvOK.subs ?_ ?_ (by with_unfolding_all exact fun _ _ => rfl) | refine' EvOK.comp (by with_unfolding_all exact ⟨by decide, rfl, rfl, by decide, rfl, by decide, by decide⟩) ?_ ?_ ?_ (by with_unfolding_all exact fun _ _ => rfl) | exact EvsOK.nil | refine' EvsOK.cons ?_ ?_ (by with_unfolding_all exact fun _ => rfl) | refine' TestsOK.one ?_ | refine' TrOK.cmp ?_ ?_ ?_ (by with_unfolding_all exact rfl) | refine' TrOK.chain ?_ ?_ ?_ ?_ ?_ (by with_unfolding_all exact rfl) | refine' TrOK.not ?_ | exact TrOK.and0 | exact TrOK.or0 | refine' TrOK.and ?_ ?_ | refine' TrOK.or ?_ ?_ | refine' TrOK.plain ?_ (by with_unfolding_all exact fun _ _ => rfl) | exact RunOK.nil | refine' RunOK.cons ?_ ?_ | exact RunOK.cont | refine' RunOK.ret ?_ | refine' RunOK.ifS ?_ ?_ ?_ | refine' RunOK.whileS ?_ ?_ | refine' RunOK.new' (by with_unfolding_all exact rfl) (by with_unfolding_all exact fun _ => rfl) (by with_unfolding_all exact ⟨rfl, by decide, by decide⟩) ?_ | refine' RunOK.asg' (by with_unfolding_all exact rfl) (by with_unfolding_all exact fun _ => rfl) (by with_unfolding_all exact ⟨rfl, by decide, by decide⟩) ?_ | refine' RunOK.aug' (by with_unfolding_all exact rfl) (by with_unfolding_all exact ⟨rfl, by decide, by decide⟩) ?_ ?_ | refine' RunOK.forM' (by with_unfolding_all exact rfl) (by with_unfolding_all exact rfl) (by with_unfolding_all exact rfl) (by with_unfolding_all exact fun _ _ => rfl) (by with_unfolding_all exact ⟨rfl, by decide, by decide⟩) ?_ | refine' RunOK.for' (by with_unfolding_all exact rfl) (by with_unfolding_all exact fun _ _ => rfl) (by with_unfolding_all exact ⟨rfl, by decide, by decide⟩) ?_ ?_ | refine' RunOK.app' (by with_unfolding_all exact rfl) (by with_unfolding_all exact rfl) (by with_unfolding_all exact fun _ => rfl) (by with_unfolding_all exact fun _ => rfl) (by with_unfolding_all exact fun _ => rfl) (by with_unfolding_all exact ⟨rfl, by decide, by decide⟩) ?_ | refine' RunOK.tupS' (by with_unfolding_all first | exact .cons (.cons .nil) | exact .cons (.cons (.cons .nil)) | exact .cons (.cons (.cons (.cons .nil)))) (by with_unfolding_all exact fun env h => by cases env; cases h; rfl) (by with_unfolding_all exact rfl) (by with_unfolding_all exact fun _ => rfl) (by with_unfolding_all exact ⟨rfl, by decide, by decide⟩) ?_ | refine' RunOK.tupP' (by with_unfolding_all first | exact .cons (.cons .nil) | exact .cons (.cons (.cons .nil)) | exact .cons (.cons (.cons (.cons .nil)))) (by with_unfolding_all exact fun env h => by cases env; cases h; rfl) (by with_unfolding_all exact rfl) (by with_unfolding_all exact fun _ => rfl) (by with_unfolding_all exact ⟨rfl, by decide, by decide⟩) ?_))
  case g =>
    intro B1 B2 l1 l2 m1 m2
    obtain ⟨b, c, M, U, hb, hc, hb2, hM, hM1, hM2, hMU, hU, hb3, e1, e2, hle, heq⟩ := maxM l1 l2 m1 m2
    rw [hb, hc]
    clear l1 l2 m1 m2 hb hc
    refine CW.eq ?_
    repeat' ((fail_if_success (with_reducible refine (?_ : @Eq _ _ _))); first | (with_reducible first | refine' CK.ret ?_ | refine' SK.next ?_ | refine' SK.ret ?_ | refine' SK.cont ?_ | refine' LK.next ?_ | refine' LK.cont ?_ | refine' RW.nil ?_ | refine' RW.seqK (fun K hK => ?_)) | ((with_reducible refine (?_ : RW _ _ _ _)); with_reducible refine' RW.lenOk (by with_unfolding_all exact rfl) ?_) | (with_reducible first | refine' SW.of ?_ | refine' PutAt.of ?_ ?_) | with_reducible exact SetR.z | (with_reducible first | refine' SetR.s3 ?_ | refine' SetR.s ?_) | (with_reducible refine (?_ : SetR _ (0 + 1) _ _)); refine SetR.s ?_ | ((with_reducible refine (?_ : RW _ _ _ _)); with_reducible refine' RW.retF (E := eVar _) (by with_unfolding_all exact rfl) ?_) | (with_reducible first | refine' RW.asg ?_ | refine' RW.ret ?_) | (fail_if_success (have : StopIf := by with_reducible assumption)); (with_reducible refine' RW.if ?_) | (with_reducible first | refine' RW.tup ?_ | refine' RW.for ?_ | refine' RW.while ?_ | refine' RW.new ?_) | ((with_reducible refine (?_ : RW _ _ _ _)); with_reducible refine' RW.app (by with_unfolding_all exact rfl) (by first | with_reducible assumption | with_unfolding_all exact Nat.le_of_ble_eq_true rfl) ?_) | ((with_reducible refine (?_ : RW _ _ _ _)); with_reducible refine' RW.aug (by with_unfolding_all exact rfl) ?_) | (with_reducible first | refine' TupK.two_t ?_ | refine' TupK.two_f ?_ | refine' TupK.four_f ?_ | refine' IfK.t ?_ | refine' IfK.f ?_) | (with_reducible refine' IfK.gd ?_; with_reducible refine' IfK.decT (by first | with_reducible assumption | with_unfolding_all omega) ?_) | (with_reducible refine' IfK.gd ?_; with_reducible refine' IfK.decF (by first | with_reducible assumption | with_unfolding_all omega) ?_) | (with_reducible first | refine' NotK.t ?_ | refine' NotK.f ?_ | refine' TruthK.bool ?_ | refine' TruthK.int ?_) | ((with_reducible refine (?_ : EW (eVar _) _ _)); with_reducible refine' EW.var (by with_unfolding_all exact rfl) ?_) | (with_reducible first | refine' EW.cst ?_ | refine' EW.e1 ?_ | refine' EW.e2 ?_ | refine' EW.call ?_ | refine' EW.tup ?_ | refine' EW.lst ?_ | refine' EW.or ?_ | refine' EW.e3c ?_ | refine' EW.comp ?_ | refine' EsW.nil ?_ | refine' EsW.cons ?_ | refine' TW.c ?_) | ((with_reducible refine (?_ : TpK _ _)); with_reducible refine' TpK.mk (by with_unfolding_all exact Nat.le_of_ble_eq_true rfl) ?_) | ((with_reducible refine (?_ : LsK _ _)); with_reducible refine' LsK.mk (by with_unfolding_all exact Nat.le_of_ble_eq_true rfl) ?_) | (with_reducible first | refine' TW.tOf ?_ | refine' TW.not ?_ | refine' TW.and ?_ | refine' TW.or ?_) | ((with_reducible refine (?_ : CW _ _ _)); with_reducible refine' CW.of (by with_reducible assumption) ?_) | ((with_reducible refine (?_ : CW fPow3 _ _)); with_reducible refine' CW.pow3 (by with_unfolding_all first | decide | omega) (by with_reducible assumption) ?_) | ((with_reducible refine (?_ : OW _ _ _ _)); with_reducible refine' OW.of (by with_reducible assumption) ?_) | (with_reducible first | refine' OW.add ?_ | refine' OW.addI ?_ | refine' OW.sub ?_ | refine' OW.and ?_ | refine' OW.ord ?_ | refine' OW.eq ?_ | refine' OW.ne ?_) | ((with_reducible refine (?_ : OW fMul _ _ _)); with_reducible refine' OW.mul (by first | with_reducible assumption | with_unfolding_all exact mulOk_sm (by omega) (by omega) | with_unfolding_all exact mulOk_bd (by repeat' kt_len) (by repeat' kt_len) (Nat.le_of_ble_eq_true rfl)) ?_) | ((with_reducible refine (?_ : OW fDiv _ _ _)); with_reducible refine' OW.div (by with_reducible assumption) ?_) | ((with_reducible refine (?_ : OW fMod _ _ _)); with_reducible refine' OW.mod (by first | with_reducible assumption | with_unfolding_all omega) ?_) | ((with_reducible refine (?_ : OW fPow _ _ _)); with_reducible refine' OW.pow (by with_reducible assumption) ?_) | (with_reducible first | refine' UW.neg ?_) | ((with_reducible refine (?_ : UW _ _ _)); with_reducible refine' UW.of (by with_reducible assumption) ?_) | (with_reducible first | refine' CW.max ?_ | refine' CW.range2 ?_) | ((with_reducible refine (?_ : CW _ _ _)); with_reducible refine' CW.fn (by with_unfolding_all (repeat (first | exact StartsAt.nil | apply StartsAt.cons | apply StartsAt.unb))) (by with_unfolding_all exact rfl) ?_) | (with_reducible first | refine' KK.use (by with_reducible assumption) ?_))
    refine ⟨by decide, ?_⟩
    repeat' ((fail_if_success (with_reducible refine (?_ : @Eq _ _ _))); first | (with_reducible first | refine' CK.ret ?_ | refine' SK.next ?_ | refine' SK.ret ?_ | refine' SK.cont ?_ | refine' LK.next ?_ | refine' LK.cont ?_ | refine' RW.nil ?_ | refine' RW.seqK (fun K hK => ?_)) | ((with_reducible refine (?_ : RW _ _ _ _)); with_reducible refine' RW.lenOk (by with_unfolding_all exact rfl) ?_) | (with_reducible first | refine' SW.of ?_ | refine' PutAt.of ?_ ?_) | with_reducible exact SetR.z | (with_reducible first | refine' SetR.s3 ?_ | refine' SetR.s ?_) | (with_reducible refine (?_ : SetR _ (0 + 1) _ _)); refine SetR.s ?_ | ((with_reducible refine (?_ : RW _ _ _ _)); with_reducible refine' RW.retF (E := eVar _) (by with_unfolding_all exact rfl) ?_) | (with_reducible first | refine' RW.asg ?_ | refine' RW.ret ?_) | (fail_if_success (have : StopIf := by with_reducible assumption)); (with_reducible refine' RW.if ?_) | (with_reducible first | refine' RW.tup ?_ | refine' RW.for ?_ | refine' RW.while ?_ | refine' RW.new ?_) | ((with_reducible refine (?_ : RW _ _ _ _)); with_reducible refine' RW.app (by with_unfolding_all exact rfl) (by first | with_reducible assumption | with_unfolding_all exact Nat.le_of_ble_eq_true rfl) ?_) | ((with_reducible refine (?_ : RW _ _ _ _)); with_reducible refine' RW.aug (by with_unfolding_all exact rfl) ?_) | (with_reducible first | refine' TupK.two_t ?_ | refine' TupK.two_f ?_ | refine' TupK.four_f ?_ | refine' IfK.t ?_ | refine' IfK.f ?_) | (with_reducible refine' IfK.gd ?_; with_reducible refine' IfK.decT (by first | with_reducible assumption | with_unfolding_all omega) ?_) | (with_reducible refine' IfK.gd ?_; with_reducible refine' IfK.decF (by first | with_reducible assumption | with_unfolding_all omega) ?_) | (with_reducible first | refine' NotK.t ?_ | refine' NotK.f ?_ | refine' TruthK.bool ?_ | refine' TruthK.int ?_) | ((with_reducible refine (?_ : EW (eVar _) _ _)); with_reducible refine' EW.var (by with_unfolding_all exact rfl) ?_) | (with_reducible first | refine' EW.cst ?_ | refine' EW.e1 ?_ | refine' EW.e2 ?_ | refine' EW.call ?_ | refine' EW.tup ?_ | refine' EW.lst ?_ | refine' EW.or ?_ | refine' EW.e3c ?_ | refine' EW.comp ?_ | refine' EsW.nil ?_ | refine' EsW.cons ?_ | refine' TW.c ?_) | ((with_reducible refine (?_ : TpK _ _)); with_reducible refine' TpK.mk (by with_unfolding_all exact Nat.le_of_ble_eq_true rfl) ?_) | ((with_reducible refine (?_ : LsK _ _)); with_reducible refine' LsK.mk (by with_unfolding_all exact Nat.le_of_ble_eq_true rfl) ?_) | (with_reducible first | refine' TW.tOf ?_ | refine' TW.not ?_ | refine' TW.and ?_ | refine' TW.or ?_) | ((with_reducible refine (?_ : CW _ _ _)); with_reducible refine' CW.of (by with_reducible assumption) ?_) | ((with_reducible refine (?_ : CW fPow3 _ _)); with_reducible refine' CW.pow3 (by with_unfolding_all first | decide | omega) (by with_reducible assumption) ?_) | ((with_reducible refine (?_ : OW _ _ _ _)); with_reducible refine' OW.of (by with_reducible assumption) ?_) | (with_reducible first | refine' OW.add ?_ | refine' OW.addI ?_ | refine' OW.sub ?_ | refine' OW.and ?_ | refine' OW.ord ?_ | refine' OW.eq ?_ | refine' OW.ne ?_) | ((with_reducible refine (?_ : OW fMul _ _ _)); with_reducible refine' OW.mul (by first | with_reducible assumption | with_unfolding_all exact mulOk_sm (by omega) (by omega) | with_unfolding_all exact mulOk_bd (by repeat' kt_len) (by repeat' kt_len) (Nat.le_of_ble_eq_true rfl)) ?_) | ((with_reducible refine (?_ : OW fDiv _ _ _)); with_reducible refine' OW.div (by with_reducible assumption) ?_) | ((with_reducible refine (?_ : OW fMod _ _ _)); with_reducible refine' OW.mod (by first | with_reducible assumption | with_unfolding_all omega) ?_) | ((with_reducible refine (?_ : OW fPow _ _ _)); with_reducible refine' OW.pow (by with_reducible assumption) ?_) | (with_reducible first | refine' UW.neg ?_) | ((with_reducible refine (?_ : UW _ _ _)); with_reducible refine' UW.of (by with_reducible assumption) ?_) | (with_reducible first | refine' CW.max ?_ | refine' CW.range2 ?_) | ((with_reducible refine (?_ : CW _ _ _)); with_reducible refine' CW.fn (by with_unfolding_all (repeat (first | exact StartsAt.nil | apply StartsAt.cons | apply StartsAt.unb))) (by with_unfolding_all exact rfl) ?_) | (with_reducible first | refine' KK.use (by with_reducible assumption) ?_))
    refine ⟨by decide, ?_⟩
    repeat' ((fail_if_success (with_reducible refine (?_ : @Eq _ _ _))); first | (with_reducible first | refine' CK.ret ?_ | refine' SK.next ?_ | refine' SK.ret ?_ | refine' SK.cont ?_ | refine' LK.next ?_ | refine' LK.cont ?_ | refine' RW.nil ?_ | refine' RW.seqK (fun K hK => ?_)) | ((with_reducible refine (?_ : RW _ _ _ _)); with_reducible refine' RW.lenOk (by with_unfolding_all exact rfl) ?_) | (with_reducible first | refine' SW.of ?_ | refine' PutAt.of ?_ ?_) | with_reducible exact SetR.z | (with_reducible first | refine' SetR.s3 ?_ | refine' SetR.s ?_) | (with_reducible refine (?_ : SetR _ (0 + 1) _ _)); refine SetR.s ?_ | ((with_reducible refine (?_ : RW _ _ _ _)); with_reducible refine' RW.retF (E := eVar _) (by with_unfolding_all exact rfl) ?_) | (with_reducible first | refine' RW.asg ?_ | refine' RW.ret ?_) | (fail_if_success (have : StopIf := by with_reducible assumption)); (with_reducible refine' RW.if ?_) | (with_reducible first | refine' RW.tup ?_ | refine' RW.for ?_ | refine' RW.while ?_ | refine' RW.new ?_) | ((with_reducible refine (?_ : RW _ _ _ _)); with_reducible refine' RW.app (by with_unfolding_all exact rfl) (by first | with_reducible assumption | with_unfolding_all exact Nat.le_of_ble_eq_true rfl) ?_) | ((with_reducible refine (?_ : RW _ _ _ _)); with_reducible refine' RW.aug (by with_unfolding_all exact rfl) ?_) | (with_reducible first | refine' TupK.two_t ?_ | refine' TupK.two_f ?_ | refine' TupK.four_f ?_ | refine' IfK.t ?_ | refine' IfK.f ?_) | (with_reducible refine' IfK.gd ?_; with_reducible refine' IfK.decT (by first | with_reducible assumption | with_unfolding_all omega) ?_) | (with_reducible refine' IfK.gd ?_; with_reducible refine' IfK.decF (by first | with_reducible assumption | with_unfolding_all omega) ?_) | (with_reducible first | refine' NotK.t ?_ | refine' NotK.f ?_ | refine' TruthK.bool ?_ | refine' TruthK.int ?_) | ((with_reducible refine (?_ : EW (eVar _) _ _)); with_reducible refine' EW.var (by with_unfolding_all exact rfl) ?_) | (with_reducible first | refine' EW.cst ?_ | refine' EW.e1 ?_ | refine' EW.e2 ?_ | refine' EW.call ?_ | refine' EW.tup ?_ | refine' EW.lst ?_ | refine' EW.or ?_ | refine' EW.e3c ?_ | refine' EW.comp ?_ | refine' EsW.nil ?_ | refine' EsW.cons ?_ | refine' TW.c ?_) | ((with_reducible refine (?_ : TpK _ _)); with_reducible refine' TpK.mk (by with_unfolding_all exact Nat.le_of_ble_eq_true rfl) ?_) | ((with_reducible refine (?_ : LsK _ _)); with_reducible refine' LsK.mk (by with_unfolding_all exact Nat.le_of_ble_eq_true rfl) ?_) | (with_reducible first | refine' TW.tOf ?_ | refine' TW.not ?_ | refine' TW.and ?_ | refine' TW.or ?_) | ((with_reducible refine (?_ : CW _ _ _)); with_reducible refine' CW.of (by with_reducible assumption) ?_) | ((with_reducible refine (?_ : CW fPow3 _ _)); with_reducible refine' CW.pow3 (by with_unfolding_all first | decide | omega) (by with_reducible assumption) ?_) | ((with_reducible refine (?_ : OW _ _ _ _)); with_reducible refine' OW.of (by with_reducible assumption) ?_) | (with_reducible first | refine' OW.add ?_ | refine' OW.addI ?_ | refine' OW.sub ?_ | refine' OW.and ?_ | refine' OW.ord ?_ | refine' OW.eq ?_ | refine' OW.ne ?_) | ((with_reducible refine (?_ : OW fMul _ _ _)); with_reducible refine' OW.mul (by first | with_reducible assumption | with_unfolding_all exact mulOk_sm (by omega) (by omega) | with_unfolding_all exact mulOk_bd (by repeat' kt_len) (by repeat' kt_len) (Nat.le_of_ble_eq_true rfl)) ?_) | ((with_reducible refine (?_ : OW fDiv _ _ _)); with_reducible refine' OW.div (by with_reducible assumption) ?_) | ((with_reducible refine (?_ : OW fMod _ _ _)); with_reducible refine' OW.mod (by first | with_reducible assumption | with_unfolding_all omega) ?_) | ((with_reducible refine (?_ : OW fPow _ _ _)); with_reducible refine' OW.pow (by with_reducible assumption) ?_) | (with_reducible first | refine' UW.neg ?_) | ((with_reducible refine (?_ : UW _ _ _)); with_reducible refine' UW.of (by with_reducible assumption) ?_) | (with_reducible first | refine' CW.max ?_ | refine' CW.range2 ?_) | ((with_reducible refine (?_ : CW _ _ _)); with_reducible refine' CW.fn (by with_unfolding_all (repeat (first | exact StartsAt.nil | apply StartsAt.cons | apply StartsAt.unb))) (by with_unfolding_all exact rfl) ?_) | (with_reducible first | refine' KK.use (by with_reducible assumption) ?_))
    rw [hM]
    refine ForK.of rfl (items_rng (a := 2) (b := M + 1) (by decide) (by decide) (by omega) (by omega) (by omega)) (LW.inv (fun ds σ => ∃ (T : Nat) (s1 s2 : Slot), T ≤ U ∧ ds = intsD (upI ((T : Int) + 2) (U - T)) ∧ σ = [.imm (.int B1), .imm (.int B2), .mt (intsD (natI (fstT b T))), .mt (intsD (natI (sndT b T))), s1, s2]) ⟨0, _, _, Nat.zero_le _, by rw [hMU]; rfl, rfl⟩ ?_ ?_)
    · rintro d' ds σ ⟨T, s1, s2, hT, e, rfl⟩
      clear hM hM1 hM2 hMU e1 e2
      rcases Nat.lt_or_ge T U with ht | ht
      · obtain ⟨u, hu, hu2⟩ := sub_next ht
        rw [hu, upI_succ, intsD_cons] at e
        cases e
        clear hu
        have nx : (T : Int) + 2 + 1 = ((T + 1 : Nat) : Int) + 2 := by omega
        have ck := cand_ok (T := T) (Nat.lt_of_lt_of_le ht hU)
        have hT39 : T < 39 := Nat.lt_of_lt_of_le ht hU
        have pl := pgR_length T
        refine ⟨rfl, ?_⟩
        repeat' ((fail_if_success (with_reducible refine (?_ : @Eq _ _ _))); first | (with_reducible first | refine' CK.ret ?_ | refine' SK.next ?_ | refine' SK.ret ?_ | refine' SK.cont ?_ | refine' LK.next ?_ | refine' LK.cont ?_ | refine' RW.nil ?_ | refine' RW.seqK (fun K hK => ?_)) | ((with_reducible refine (?_ : RW _ _ _ _)); with_reducible refine' RW.lenOk (by with_unfolding_all exact rfl) ?_) | (with_reducible first | refine' SW.of ?_ | refine' PutAt.of ?_ ?_) | with_reducible exact SetR.z | (with_reducible first | refine' SetR.s3 ?_ | refine' SetR.s ?_) | (with_reducible refine (?_ : SetR _ (0 + 1) _ _)); refine SetR.s ?_ | ((with_reducible refine (?_ : RW _ _ _ _)); with_reducible refine' RW.retF (E := eVar _) (by with_unfolding_all exact rfl) ?_) | (with_reducible first | refine' RW.asg ?_ | refine' RW.ret ?_) | (fail_if_success (have : StopIf := by with_reducible assumption)); (with_reducible refine' RW.if ?_) | (with_reducible first | refine' RW.tup ?_ | refine' RW.for ?_ | refine' RW.while ?_ | refine' RW.new ?_) | ((with_reducible refine (?_ : RW _ _ _ _)); with_reducible refine' RW.app (by with_unfolding_all exact rfl) (by first | with_reducible assumption | with_unfolding_all exact Nat.le_of_ble_eq_true rfl) ?_) | ((with_reducible refine (?_ : RW _ _ _ _)); with_reducible refine' RW.aug (by with_unfolding_all exact rfl) ?_) | (with_reducible first | refine' TupK.two_t ?_ | refine' TupK.two_f ?_ | refine' TupK.four_f ?_ | refine' IfK.t ?_ | refine' IfK.f ?_) | (with_reducible refine' IfK.gd ?_; with_reducible refine' IfK.decT (by first | with_reducible assumption | with_unfolding_all omega) ?_) | (with_reducible refine' IfK.gd ?_; with_reducible refine' IfK.decF (by first | with_reducible assumption | with_unfolding_all omega) ?_) | (with_reducible first | refine' NotK.t ?_ | refine' NotK.f ?_ | refine' TruthK.bool ?_ | refine' TruthK.int ?_) | ((with_reducible refine (?_ : EW (eVar _) _ _)); with_reducible refine' EW.var (by with_unfolding_all exact rfl) ?_) | (with_reducible first | refine' EW.cst ?_ | refine' EW.e1 ?_ | refine' EW.e2 ?_ | refine' EW.call ?_ | refine' EW.tup ?_ | refine' EW.lst ?_ | refine' EW.or ?_ | refine' EW.e3c ?_ | refine' EW.comp ?_ | refine' EsW.nil ?_ | refine' EsW.cons ?_ | refine' TW.c ?_) | ((with_reducible refine (?_ : TpK _ _)); with_reducible refine' TpK.mk (by with_unfolding_all exact Nat.le_of_ble_eq_true rfl) ?_) | ((with_reducible refine (?_ : LsK _ _)); with_reducible refine' LsK.mk (by with_unfolding_all exact Nat.le_of_ble_eq_true rfl) ?_) | (with_reducible first | refine' TW.tOf ?_ | refine' TW.not ?_ | refine' TW.and ?_ | refine' TW.or ?_) | ((with_reducible refine (?_ : CW _ _ _)); with_reducible refine' CW.of (by with_reducible assumption) ?_) | ((with_reducible refine (?_ : CW fPow3 _ _)); with_reducible refine' CW.pow3 (by with_unfolding_all first | decide | omega) (by with_reducible assumption) ?_) | ((with_reducible refine (?_ : OW _ _ _ _)); with_reducible refine' OW.of (by with_reducible assumption) ?_) | (with_reducible first | refine' OW.add ?_ | refine' OW.addI ?_ | refine' OW.sub ?_ | refine' OW.and ?_ | refine' OW.ord ?_ | refine' OW.eq ?_ | refine' OW.ne ?_) | ((with_reducible refine (?_ : OW fMul _ _ _)); with_reducible refine' OW.mul (by first | with_reducible assumption | with_unfolding_all exact mulOk_sm (by omega) (by omega) | with_unfolding_all exact mulOk_bd (by repeat' kt_len) (by repeat' kt_len) (Nat.le_of_ble_eq_true rfl)) ?_) | ((with_reducible refine (?_ : OW fDiv _ _ _)); with_reducible refine' OW.div (by with_reducible assumption) ?_) | ((with_reducible refine (?_ : OW fMod _ _ _)); with_reducible refine' OW.mod (by first | with_reducible assumption | with_unfolding_all omega) ?_) | ((with_reducible refine (?_ : OW fPow _ _ _)); with_reducible refine' OW.pow (by with_reducible assumption) ?_) | (with_reducible first | refine' UW.neg ?_) | ((with_reducible refine (?_ : UW _ _ _)); with_reducible refine' UW.of (by with_reducible assumption) ?_) | (with_reducible first | refine' CW.max ?_ | refine' CW.range2 ?_) | ((with_reducible refine (?_ : CW _ _ _)); with_reducible refine' CW.fn (by with_unfolding_all (repeat (first | exact StartsAt.nil | apply StartsAt.cons | apply StartsAt.unb))) (by with_unfolding_all exact rfl) ?_) | (with_reducible first | refine' KK.use (by with_reducible assumption) ?_))
        refine CompK.ints (l := [2, 3, 5]) (p := fun t => decide (t < (T : Int) + 2) && decide (((T : Int) + 2).fmod t = 0)) (g := fun x => x) rfl ?_ ?_
        · intro x hx
          have hx0 : x ≠ 0 := by
            intro e
            subst e
            revert hx; decide
          refine ⟨?_, fun _ => by repeat' ((fail_if_success (with_reducible refine (?_ : @Eq _ _ _))); first | (with_reducible first | refine' CK.ret ?_ | refine' SK.next ?_ | refine' SK.ret ?_ | refine' SK.cont ?_ | refine' LK.next ?_ | refine' LK.cont ?_ | refine' RW.nil ?_ | refine' RW.seqK (fun K hK => ?_)) | ((with_reducible refine (?_ : RW _ _ _ _)); with_reducible refine' RW.lenOk (by with_unfolding_all exact rfl) ?_) | (with_reducible first | refine' SW.of ?_ | refine' PutAt.of ?_ ?_) | with_reducible exact SetR.z | (with_reducible first | refine' SetR.s3 ?_ | refine' SetR.s ?_) | (with_reducible refine (?_ : SetR _ (0 + 1) _ _)); refine SetR.s ?_ | ((with_reducible refine (?_ : RW _ _ _ _)); with_reducible refine' RW.retF (E := eVar _) (by with_unfolding_all exact rfl) ?_) | (with_reducible first | refine' RW.asg ?_ | refine' RW.ret ?_) | (fail_if_success (have : StopIf := by with_reducible assumption)); (with_reducible refine' RW.if ?_) | (with_reducible first | refine' RW.tup ?_ | refine' RW.for ?_ | refine' RW.while ?_ | refine' RW.new ?_) | ((with_reducible refine (?_ : RW _ _ _ _)); with_reducible refine' RW.app (by with_unfolding_all exact rfl) (by first | with_reducible assumption | with_unfolding_all exact Nat.le_of_ble_eq_true rfl) ?_) | ((with_reducible refine (?_ : RW _ _ _ _)); with_reducible refine' RW.aug (by with_unfolding_all exact rfl) ?_) | (with_reducible first | refine' TupK.two_t ?_ | refine' TupK.two_f ?_ | refine' TupK.four_f ?_ | refine' IfK.t ?_ | refine' IfK.f ?_) | (with_reducible refine' IfK.gd ?_; with_reducible refine' IfK.decT (by first | with_reducible assumption | with_unfolding_all omega) ?_) | (with_reducible refine' IfK.gd ?_; with_reducible refine' IfK.decF (by first | with_reducible assumption | with_unfolding_all omega) ?_) | (with_reducible first | refine' NotK.t ?_ | refine' NotK.f ?_ | refine' TruthK.bool ?_ | refine' TruthK.int ?_) | ((with_reducible refine (?_ : EW (eVar _) _ _)); with_reducible refine' EW.var (by with_unfolding_all exact rfl) ?_) | (with_reducible first | refine' EW.cst ?_ | refine' EW.e1 ?_ | refine' EW.e2 ?_ | refine' EW.call ?_ | refine' EW.tup ?_ | refine' EW.lst ?_ | refine' EW.or ?_ | refine' EW.e3c ?_ | refine' EW.comp ?_ | refine' EsW.nil ?_ | refine' EsW.cons ?_ | refine' TW.c ?_) | ((with_reducible refine (?_ : TpK _ _)); with_reducible refine' TpK.mk (by with_unfolding_all exact Nat.le_of_ble_eq_true rfl) ?_) | ((with_reducible refine (?_ : LsK _ _)); with_reducible refine' LsK.mk (by with_unfolding_all exact Nat.le_of_ble_eq_true rfl) ?_) | (with_reducible first | refine' TW.tOf ?_ | refine' TW.not ?_ | refine' TW.and ?_ | refine' TW.or ?_) | ((with_reducible refine (?_ : CW _ _ _)); with_reducible refine' CW.of (by with_reducible assumption) ?_) | ((with_reducible refine (?_ : CW fPow3 _ _)); with_reducible refine' CW.pow3 (by with_unfolding_all first | decide | omega) (by with_reducible assumption) ?_) | ((with_reducible refine (?_ : OW _ _ _ _)); with_reducible refine' OW.of (by with_reducible assumption) ?_) | (with_reducible first | refine' OW.add ?_ | refine' OW.addI ?_ | refine' OW.sub ?_ | refine' OW.and ?_ | refine' OW.ord ?_ | refine' OW.eq ?_ | refine' OW.ne ?_) | ((with_reducible refine (?_ : OW fMul _ _ _)); with_reducible refine' OW.mul (by first | with_reducible assumption | with_unfolding_all exact mulOk_sm (by omega) (by omega) | with_unfolding_all exact mulOk_bd (by repeat' kt_len) (by repeat' kt_len) (Nat.le_of_ble_eq_true rfl)) ?_) | ((with_reducible refine (?_ : OW fDiv _ _ _)); with_reducible refine' OW.div (by with_reducible assumption) ?_) | ((with_reducible refine (?_ : OW fMod _ _ _)); with_reducible refine' OW.mod (by first | with_reducible assumption | with_unfolding_all omega) ?_) | ((with_reducible refine (?_ : OW fPow _ _ _)); with_reducible refine' OW.pow (by with_reducible assumption) ?_) | (with_reducible first | refine' UW.neg ?_) | ((with_reducible refine (?_ : UW _ _ _)); with_reducible refine' UW.of (by with_reducible assumption) ?_) | (with_reducible first | refine' CW.max ?_ | refine' CW.range2 ?_) | ((with_reducible refine (?_ : CW _ _ _)); with_reducible refine' CW.fn (by with_unfolding_all (repeat (first | exact StartsAt.nil | apply StartsAt.cons | apply StartsAt.unb))) (by with_unfolding_all exact rfl) ?_) | (with_reducible first | refine' KK.use (by with_reducible assumption) ?_))
                                  rfl⟩
          by_cases c1 : x < (T : Int) + 2 <;> by_cases c2 : ((T : Int) + 2).fmod x = 0 <;>
          · repeat' ((fail_if_success (with_reducible refine (?_ : @Eq _ _ _))); first | (with_reducible first | refine' CK.ret ?_ | refine' SK.next ?_ | refine' SK.ret ?_ | refine' SK.cont ?_ | refine' LK.next ?_ | refine' LK.cont ?_ | refine' RW.nil ?_ | refine' RW.seqK (fun K hK => ?_)) | ((with_reducible refine (?_ : RW _ _ _ _)); with_reducible refine' RW.lenOk (by with_unfolding_all exact rfl) ?_) | (with_reducible first | refine' SW.of ?_ | refine' PutAt.of ?_ ?_) | with_reducible exact SetR.z | (with_reducible first | refine' SetR.s3 ?_ | refine' SetR.s ?_) | (with_reducible refine (?_ : SetR _ (0 + 1) _ _)); refine SetR.s ?_ | ((with_reducible refine (?_ : RW _ _ _ _)); with_reducible refine' RW.retF (E := eVar _) (by with_unfolding_all exact rfl) ?_) | (with_reducible first | refine' RW.asg ?_ | refine' RW.ret ?_) | (fail_if_success (have : StopIf := by with_reducible assumption)); (with_reducible refine' RW.if ?_) | (with_reducible first | refine' RW.tup ?_ | refine' RW.for ?_ | refine' RW.while ?_ | refine' RW.new ?_) | ((with_reducible refine (?_ : RW _ _ _ _)); with_reducible refine' RW.app (by with_unfolding_all exact rfl) (by first | with_reducible assumption | with_unfolding_all exact Nat.le_of_ble_eq_true rfl) ?_) | ((with_reducible refine (?_ : RW _ _ _ _)); with_reducible refine' RW.aug (by with_unfolding_all exact rfl) ?_) | (with_reducible first | refine' TupK.two_t ?_ | refine' TupK.two_f ?_ | refine' TupK.four_f ?_ | refine' IfK.t ?_ | refine' IfK.f ?_) | (with_reducible refine' IfK.gd ?_; with_reducible refine' IfK.decT (by first | with_reducible assumption | with_unfolding_all omega) ?_) | (with_reducible refine' IfK.gd ?_; with_reducible refine' IfK.decF (by first | with_reducible assumption | with_unfolding_all omega) ?_) | (with_reducible first | refine' NotK.t ?_ | refine' NotK.f ?_ | refine' TruthK.bool ?_ | refine' TruthK.int ?_) | ((with_reducible refine (?_ : EW (eVar _) _ _)); with_reducible refine' EW.var (by with_unfolding_all exact rfl) ?_) | (with_reducible first | refine' EW.cst ?_ | refine' EW.e1 ?_ | refine' EW.e2 ?_ | refine' EW.call ?_ | refine' EW.tup ?_ | refine' EW.lst ?_ | refine' EW.or ?_ | refine' EW.e3c ?_ | refine' EW.comp ?_ | refine' EsW.nil ?_ | refine' EsW.cons ?_ | refine' TW.c ?_) | ((with_reducible refine (?_ : TpK _ _)); with_reducible refine' TpK.mk (by with_unfolding_all exact Nat.le_of_ble_eq_true rfl) ?_) | ((with_reducible refine (?_ : LsK _ _)); with_reducible refine' LsK.mk (by with_unfolding_all exact Nat.le_of_ble_eq_true rfl) ?_) | (with_reducible first | refine' TW.tOf ?_ | refine' TW.not ?_ | refine' TW.and ?_ | refine' TW.or ?_) | ((with_reducible refine (?_ : CW _ _ _)); with_reducible refine' CW.of (by with_reducible assumption) ?_) | ((with_reducible refine (?_ : CW fPow3 _ _)); with_reducible refine' CW.pow3 (by with_unfolding_all first | decide | omega) (by with_reducible assumption) ?_) | ((with_reducible refine (?_ : OW _ _ _ _)); with_reducible refine' OW.of (by with_reducible assumption) ?_) | (with_reducible first | refine' OW.add ?_ | refine' OW.addI ?_ | refine' OW.sub ?_ | refine' OW.and ?_ | refine' OW.ord ?_ | refine' OW.eq ?_ | refine' OW.ne ?_) | ((with_reducible refine (?_ : OW fMul _ _ _)); with_reducible refine' OW.mul (by first | with_reducible assumption | with_unfolding_all exact mulOk_sm (by omega) (by omega) | with_unfolding_all exact mulOk_bd (by repeat' kt_len) (by repeat' kt_len) (Nat.le_of_ble_eq_true rfl)) ?_) | ((with_reducible refine (?_ : OW fDiv _ _ _)); with_reducible refine' OW.div (by with_reducible assumption) ?_) | ((with_reducible refine (?_ : OW fMod _ _ _)); with_reducible refine' OW.mod (by first | with_reducible assumption | with_unfolding_all omega) ?_) | ((with_reducible refine (?_ : OW fPow _ _ _)); with_reducible refine' OW.pow (by with_reducible assumption) ?_) | (with_reducible first | refine' UW.neg ?_) | ((with_reducible refine (?_ : UW _ _ _)); with_reducible refine' UW.of (by with_reducible assumption) ?_) | (with_reducible first | refine' CW.max ?_ | refine' CW.range2 ?_) | ((with_reducible refine (?_ : CW _ _ _)); with_reducible refine' CW.fn (by with_unfolding_all (repeat (first | exact StartsAt.nil | apply StartsAt.cons | apply StartsAt.unb))) (by with_unfolding_all exact rfl) ?_) | (with_reducible first | refine' KK.use (by with_reducible assumption) ?_))
            simp only [c1, c2, decide_true, decide_false]; rfl
        rw [List.map_id'' (fun _ => rfl)]
        have fe : fEq (.lst (intsD (([2, 3, 5] : List Int).filter fun t => decide (t < (T : Int) + 2) && decide (((T : Int) + 2).fmod t = 0)))) (.lst []) = some (.bool (cand ((T : Int) + 2)).isEmpty) := fEq_cand _
        have fl1 : (intsD (natI (fstT b T))).length ≤ 10000 := by
          rw [intsD_length, natI_length]
          unfold fstT
          rw [List.length_map]
          exact Nat.le_trans (List.length_filter_le _ _) (by omega)
        have fl2 : (intsD (natI (sndT b T))).length ≤ 10000 := by
          rw [intsD_length, natI_length]
          exact Nat.le_trans (List.length_filter_le _ _) (by omega)
        cases hcd : (cand ((T : Int) + 2)).isEmpty with
        | false =>
          rw [hcd] at fe ck
          obtain ⟨t1, t2⟩ := tT_n (b := b) (ck.trans (if_neg (by decide)))
          repeat' ((fail_if_success (with_reducible refine (?_ : @Eq _ _ _))); first | (with_reducible first | refine' CK.ret ?_ | refine' SK.next ?_ | refine' SK.ret ?_ | refine' SK.cont ?_ | refine' LK.next ?_ | refine' LK.cont ?_ | refine' RW.nil ?_ | refine' RW.seqK (fun K hK => ?_)) | ((with_reducible refine (?_ : RW _ _ _ _)); with_reducible refine' RW.lenOk (by with_unfolding_all exact rfl) ?_) | (with_reducible first | refine' SW.of ?_ | refine' PutAt.of ?_ ?_) | with_reducible exact SetR.z | (with_reducible first | refine' SetR.s3 ?_ | refine' SetR.s ?_) | (with_reducible refine (?_ : SetR _ (0 + 1) _ _)); refine SetR.s ?_ | ((with_reducible refine (?_ : RW _ _ _ _)); with_reducible refine' RW.retF (E := eVar _) (by with_unfolding_all exact rfl) ?_) | (with_reducible first | refine' RW.asg ?_ | refine' RW.ret ?_) | (fail_if_success (have : StopIf := by with_reducible assumption)); (with_reducible refine' RW.if ?_) | (with_reducible first | refine' RW.tup ?_ | refine' RW.for ?_ | refine' RW.while ?_ | refine' RW.new ?_) | ((with_reducible refine (?_ : RW _ _ _ _)); with_reducible refine' RW.app (by with_unfolding_all exact rfl) (by first | with_reducible assumption | with_unfolding_all exact Nat.le_of_ble_eq_true rfl) ?_) | ((with_reducible refine (?_ : RW _ _ _ _)); with_reducible refine' RW.aug (by with_unfolding_all exact rfl) ?_) | (with_reducible first | refine' TupK.two_t ?_ | refine' TupK.two_f ?_ | refine' TupK.four_f ?_ | refine' IfK.t ?_ | refine' IfK.f ?_) | (with_reducible refine' IfK.gd ?_; with_reducible refine' IfK.decT (by first | with_reducible assumption | with_unfolding_all omega) ?_) | (with_reducible refine' IfK.gd ?_; with_reducible refine' IfK.decF (by first | with_reducible assumption | with_unfolding_all omega) ?_) | (with_reducible first | refine' NotK.t ?_ | refine' NotK.f ?_ | refine' TruthK.bool ?_ | refine' TruthK.int ?_) | ((with_reducible refine (?_ : EW (eVar _) _ _)); with_reducible refine' EW.var (by with_unfolding_all exact rfl) ?_) | (with_reducible first | refine' EW.cst ?_ | refine' EW.e1 ?_ | refine' EW.e2 ?_ | refine' EW.call ?_ | refine' EW.tup ?_ | refine' EW.lst ?_ | refine' EW.or ?_ | refine' EW.e3c ?_ | refine' EW.comp ?_ | refine' EsW.nil ?_ | refine' EsW.cons ?_ | refine' TW.c ?_) | ((with_reducible refine (?_ : TpK _ _)); with_reducible refine' TpK.mk (by with_unfolding_all exact Nat.le_of_ble_eq_true rfl) ?_) | ((with_reducible refine (?_ : LsK _ _)); with_reducible refine' LsK.mk (by with_unfolding_all exact Nat.le_of_ble_eq_true rfl) ?_) | (with_reducible first | refine' TW.tOf ?_ | refine' TW.not ?_ | refine' TW.and ?_ | refine' TW.or ?_) | ((with_reducible refine (?_ : CW _ _ _)); with_reducible refine' CW.of (by with_reducible assumption) ?_) | ((with_reducible refine (?_ : CW fPow3 _ _)); with_reducible refine' CW.pow3 (by with_unfolding_all first | decide | omega) (by with_reducible assumption) ?_) | ((with_reducible refine (?_ : OW _ _ _ _)); with_reducible refine' OW.of (by with_reducible assumption) ?_) | (with_reducible first | refine' OW.add ?_ | refine' OW.addI ?_ | refine' OW.sub ?_ | refine' OW.and ?_ | refine' OW.ord ?_ | refine' OW.eq ?_ | refine' OW.ne ?_) | ((with_reducible refine (?_ : OW fMul _ _ _)); with_reducible refine' OW.mul (by first | with_reducible assumption | with_unfolding_all exact mulOk_sm (by omega) (by omega) | with_unfolding_all exact mulOk_bd (by repeat' kt_len) (by repeat' kt_len) (Nat.le_of_ble_eq_true rfl)) ?_) | ((with_reducible refine (?_ : OW fDiv _ _ _)); with_reducible refine' OW.div (by with_reducible assumption) ?_) | ((with_reducible refine (?_ : OW fMod _ _ _)); with_reducible refine' OW.mod (by first | with_reducible assumption | with_unfolding_all omega) ?_) | ((with_reducible refine (?_ : OW fPow _ _ _)); with_reducible refine' OW.pow (by with_reducible assumption) ?_) | (with_reducible first | refine' UW.neg ?_) | ((with_reducible refine (?_ : UW _ _ _)); with_reducible refine' UW.of (by with_reducible assumption) ?_) | (with_reducible first | refine' CW.max ?_ | refine' CW.range2 ?_) | ((with_reducible refine (?_ : CW _ _ _)); with_reducible refine' CW.fn (by with_unfolding_all (repeat (first | exact StartsAt.nil | apply StartsAt.cons | apply StartsAt.unb))) (by with_unfolding_all exact rfl) ?_) | (with_reducible first | refine' KK.use (by with_reducible assumption) ?_))
          exact ⟨T + 1, .imm (.int ((T : Int) + 2)), s2, by omega, by rw [nx, hu2], by rw [t1, t2]⟩
        | true =>
          rw [hcd] at fe ck
          have ck' := ck.trans (if_pos rfl)
          by_cases cb : T + 2 ≤ b
          · obtain ⟨t1, t2⟩ := tT_t ck' cb
            have cb' : (T : Int) + 2 ≤ B1 := (hle (T + 2) (Nat.succ_pos _)).mpr cb
            have hB : B1 = (b : Int) := heq (T + 2) (Nat.succ_pos _) cb
            have pin : T + 2 ∈ pgR 21 := by
              have h1 : T + 2 ∈ pgR (T + 1) := by rw [ck']; simp
              have h2 := pgR_mono (k := 21 - (T + 1)) h1
              rwa [show T + 1 + (21 - (T + 1)) = 21 by omega] at h2
            have ef := effp_ok hb2 pin cb
            have i0 := ilN_ok hb2 (show 2 ≤ T + 2 by omega) (by omega) (by omega)
            repeat' ((fail_if_success (with_reducible refine (?_ : @Eq _ _ _))); first | (with_reducible first | refine' CK.ret ?_ | refine' SK.next ?_ | refine' SK.ret ?_ | refine' SK.cont ?_ | refine' LK.next ?_ | refine' LK.cont ?_ | refine' RW.nil ?_ | refine' RW.seqK (fun K hK => ?_)) | ((with_reducible refine (?_ : RW _ _ _ _)); with_reducible refine' RW.lenOk (by with_unfolding_all exact rfl) ?_) | (with_reducible first | refine' SW.of ?_ | refine' PutAt.of ?_ ?_) | with_reducible exact SetR.z | (with_reducible first | refine' SetR.s3 ?_ | refine' SetR.s ?_) | (with_reducible refine (?_ : SetR _ (0 + 1) _ _)); refine SetR.s ?_ | ((with_reducible refine (?_ : RW _ _ _ _)); with_reducible refine' RW.retF (E := eVar _) (by with_unfolding_all exact rfl) ?_) | (with_reducible first | refine' RW.asg ?_ | refine' RW.ret ?_) | (fail_if_success (have : StopIf := by with_reducible assumption)); (with_reducible refine' RW.if ?_) | (with_reducible first | refine' RW.tup ?_ | refine' RW.for ?_ | refine' RW.while ?_ | refine' RW.new ?_) | ((with_reducible refine (?_ : RW _ _ _ _)); with_reducible refine' RW.app (by with_unfolding_all exact rfl) (by first | with_reducible assumption | with_unfolding_all exact Nat.le_of_ble_eq_true rfl) ?_) | ((with_reducible refine (?_ : RW _ _ _ _)); with_reducible refine' RW.aug (by with_unfolding_all exact rfl) ?_) | (with_reducible first | refine' TupK.two_t ?_ | refine' TupK.two_f ?_ | refine' TupK.four_f ?_ | refine' IfK.t ?_ | refine' IfK.f ?_) | (with_reducible refine' IfK.gd ?_; with_reducible refine' IfK.decT (by first | with_reducible assumption | with_unfolding_all omega) ?_) | (with_reducible refine' IfK.gd ?_; with_reducible refine' IfK.decF (by first | with_reducible assumption | with_unfolding_all omega) ?_) | (with_reducible first | refine' NotK.t ?_ | refine' NotK.f ?_ | refine' TruthK.bool ?_ | refine' TruthK.int ?_) | ((with_reducible refine (?_ : EW (eVar _) _ _)); with_reducible refine' EW.var (by with_unfolding_all exact rfl) ?_) | (with_reducible first | refine' EW.cst ?_ | refine' EW.e1 ?_ | refine' EW.e2 ?_ | refine' EW.call ?_ | refine' EW.tup ?_ | refine' EW.lst ?_ | refine' EW.or ?_ | refine' EW.e3c ?_ | refine' EW.comp ?_ | refine' EsW.nil ?_ | refine' EsW.cons ?_ | refine' TW.c ?_) | ((with_reducible refine (?_ : TpK _ _)); with_reducible refine' TpK.mk (by with_unfolding_all exact Nat.le_of_ble_eq_true rfl) ?_) | ((with_reducible refine (?_ : LsK _ _)); with_reducible refine' LsK.mk (by with_unfolding_all exact Nat.le_of_ble_eq_true rfl) ?_) | (with_reducible first | refine' TW.tOf ?_ | refine' TW.not ?_ | refine' TW.and ?_ | refine' TW.or ?_) | ((with_reducible refine (?_ : CW _ _ _)); with_reducible refine' CW.of (by with_reducible assumption) ?_) | ((with_reducible refine (?_ : CW fPow3 _ _)); with_reducible refine' CW.pow3 (by with_unfolding_all first | decide | omega) (by with_reducible assumption) ?_) | ((with_reducible refine (?_ : OW _ _ _ _)); with_reducible refine' OW.of (by with_reducible assumption) ?_) | (with_reducible first | refine' OW.add ?_ | refine' OW.addI ?_ | refine' OW.sub ?_ | refine' OW.and ?_ | refine' OW.ord ?_ | refine' OW.eq ?_ | refine' OW.ne ?_) | ((with_reducible refine (?_ : OW fMul _ _ _)); with_reducible refine' OW.mul (by first | with_reducible assumption | with_unfolding_all exact mulOk_sm (by omega) (by omega) | with_unfolding_all exact mulOk_bd (by repeat' kt_len) (by repeat' kt_len) (Nat.le_of_ble_eq_true rfl)) ?_) | ((with_reducible refine (?_ : OW fDiv _ _ _)); with_reducible refine' OW.div (by with_reducible assumption) ?_) | ((with_reducible refine (?_ : OW fMod _ _ _)); with_reducible refine' OW.mod (by first | with_reducible assumption | with_unfolding_all omega) ?_) | ((with_reducible refine (?_ : OW fPow _ _ _)); with_reducible refine' OW.pow (by with_reducible assumption) ?_) | (with_reducible first | refine' UW.neg ?_) | ((with_reducible refine (?_ : UW _ _ _)); with_reducible refine' UW.of (by with_reducible assumption) ?_) | (with_reducible first | refine' CW.max ?_ | refine' CW.range2 ?_) | ((with_reducible refine (?_ : CW _ _ _)); with_reducible refine' CW.fn (by with_unfolding_all (repeat (first | exact StartsAt.nil | apply StartsAt.cons | apply StartsAt.unb))) (by with_unfolding_all exact rfl) ?_) | (with_reducible first | refine' KK.use (by with_reducible assumption) ?_))
            refine WW.inv (fun k σ => ∃ j : Nat, 1 ≤ j ∧ (T + 2) ^ j ≤ b ∧ k + (T + 2) ^ j = b ∧ σ = [.imm (.int B1), .imm (.int B2), .mt (intsD (natI (fstT b T))), .mt (intsD (natI (sndT b T))), .imm (.int ((T : Int) + 2)), .imm (.int (((T + 2) ^ j : Nat) : Int))]) (k := b - (T + 2)) ⟨1, by omega, by rw [Nat.pow_one]; omega, by rw [Nat.pow_one]; omega, by rw [Nat.pow_one, show ((T + 2 : Nat) : Int) = (T : Int) + 2 by omega]⟩ (by omega) ?_
            rintro k σ ⟨j, j1, hj, hk, rfl⟩
            have pj : 0 < (T + 2) ^ j := Nat.pow_pos (by omega)
            have pe : (((T + 2) ^ j : Nat) : Int) * ((T : Int) + 2) = (((T + 2) ^ (j + 1) : Nat) : Int) := by
              rw [Nat.pow_succ, Int.natCast_mul, show ((T + 2 : Nat) : Int) = (T : Int) + 2 by omega]
            have mo : mulOk (((T + 2) ^ j : Nat) : Int) ((T : Int) + 2) = true := mulOk_sm (by omega) (by omega)
            have pg : (T + 2) ^ j < (T + 2) ^ (j + 1) := Nat.pow_lt_pow_right (by omega) (by omega)
            by_cases cw : (T + 2) ^ (j + 1) ≤ b
            · have cw' : (((T + 2) ^ j : Nat) : Int) * ((T : Int) + 2) ≤ B1 := by rw [pe, hB]; exact Int.ofNat_le.mpr cw
              repeat' ((fail_if_success (with_reducible refine (?_ : @Eq _ _ _))); first | (with_reducible first | refine' CK.ret ?_ | refine' SK.next ?_ | refine' SK.ret ?_ | refine' SK.cont ?_ | refine' LK.next ?_ | refine' LK.cont ?_ | refine' RW.nil ?_ | refine' RW.seqK (fun K hK => ?_)) | ((with_reducible refine (?_ : RW _ _ _ _)); with_reducible refine' RW.lenOk (by with_unfolding_all exact rfl) ?_) | (with_reducible first | refine' SW.of ?_ | refine' PutAt.of ?_ ?_) | with_reducible exact SetR.z | (with_reducible first | refine' SetR.s3 ?_ | refine' SetR.s ?_) | (with_reducible refine (?_ : SetR _ (0 + 1) _ _)); refine SetR.s ?_ | ((with_reducible refine (?_ : RW _ _ _ _)); with_reducible refine' RW.retF (E := eVar _) (by with_unfolding_all exact rfl) ?_) | (with_reducible first | refine' RW.asg ?_ | refine' RW.ret ?_) | (fail_if_success (have : StopIf := by with_reducible assumption)); (with_reducible refine' RW.if ?_) | (with_reducible first | refine' RW.tup ?_ | refine' RW.for ?_ | refine' RW.while ?_ | refine' RW.new ?_) | ((with_reducible refine (?_ : RW _ _ _ _)); with_reducible refine' RW.app (by with_unfolding_all exact rfl) (by first | with_reducible assumption | with_unfolding_all exact Nat.le_of_ble_eq_true rfl) ?_) | ((with_reducible refine (?_ : RW _ _ _ _)); with_reducible refine' RW.aug (by with_unfolding_all exact rfl) ?_) | (with_reducible first | refine' TupK.two_t ?_ | refine' TupK.two_f ?_ | refine' TupK.four_f ?_ | refine' IfK.t ?_ | refine' IfK.f ?_) | (with_reducible refine' IfK.gd ?_; with_reducible refine' IfK.decT (by first | with_reducible assumption | with_unfolding_all omega) ?_) | (with_reducible refine' IfK.gd ?_; with_reducible refine' IfK.decF (by first | with_reducible assumption | with_unfolding_all omega) ?_) | (with_reducible first | refine' NotK.t ?_ | refine' NotK.f ?_ | refine' TruthK.bool ?_ | refine' TruthK.int ?_) | ((with_reducible refine (?_ : EW (eVar _) _ _)); with_reducible refine' EW.var (by with_unfolding_all exact rfl) ?_) | (with_reducible first | refine' EW.cst ?_ | refine' EW.e1 ?_ | refine' EW.e2 ?_ | refine' EW.call ?_ | refine' EW.tup ?_ | refine' EW.lst ?_ | refine' EW.or ?_ | refine' EW.e3c ?_ | refine' EW.comp ?_ | refine' EsW.nil ?_ | refine' EsW.cons ?_ | refine' TW.c ?_) | ((with_reducible refine (?_ : TpK _ _)); with_reducible refine' TpK.mk (by with_unfolding_all exact Nat.le_of_ble_eq_true rfl) ?_) | ((with_reducible refine (?_ : LsK _ _)); with_reducible refine' LsK.mk (by with_unfolding_all exact Nat.le_of_ble_eq_true rfl) ?_) | (with_reducible first | refine' TW.tOf ?_ | refine' TW.not ?_ | refine' TW.and ?_ | refine' TW.or ?_) | ((with_reducible refine (?_ : CW _ _ _)); with_reducible refine' CW.of (by with_reducible assumption) ?_) | ((with_reducible refine (?_ : CW fPow3 _ _)); with_reducible refine' CW.pow3 (by with_unfolding_all first | decide | omega) (by with_reducible assumption) ?_) | ((with_reducible refine (?_ : OW _ _ _ _)); with_reducible refine' OW.of (by with_reducible assumption) ?_) | (with_reducible first | refine' OW.add ?_ | refine' OW.addI ?_ | refine' OW.sub ?_ | refine' OW.and ?_ | refine' OW.ord ?_ | refine' OW.eq ?_ | refine' OW.ne ?_) | ((with_reducible refine (?_ : OW fMul _ _ _)); with_reducible refine' OW.mul (by first | with_reducible assumption | with_unfolding_all exact mulOk_sm (by omega) (by omega) | with_unfolding_all exact mulOk_bd (by repeat' kt_len) (by repeat' kt_len) (Nat.le_of_ble_eq_true rfl)) ?_) | ((with_reducible refine (?_ : OW fDiv _ _ _)); with_reducible refine' OW.div (by with_reducible assumption) ?_) | ((with_reducible refine (?_ : OW fMod _ _ _)); with_reducible refine' OW.mod (by first | with_reducible assumption | with_unfolding_all omega) ?_) | ((with_reducible refine (?_ : OW fPow _ _ _)); with_reducible refine' OW.pow (by with_reducible assumption) ?_) | (with_reducible first | refine' UW.neg ?_) | ((with_reducible refine (?_ : UW _ _ _)); with_reducible refine' UW.of (by with_reducible assumption) ?_) | (with_reducible first | refine' CW.max ?_ | refine' CW.range2 ?_) | ((with_reducible refine (?_ : CW _ _ _)); with_reducible refine' CW.fn (by with_unfolding_all (repeat (first | exact StartsAt.nil | apply StartsAt.cons | apply StartsAt.unb))) (by with_unfolding_all exact rfl) ?_) | (with_reducible first | refine' KK.use (by with_reducible assumption) ?_))
              rw [pe]
              exact ⟨b - (T + 2) ^ (j + 1), by omega, j + 1, by omega, cw, by omega, rfl⟩
            · have cw' : ¬ (((T + 2) ^ j : Nat) : Int) * ((T : Int) + 2) ≤ B1 := by
                rw [pe, hB]
                intro h
                exact cw (Int.ofNat_le.mp h)
              have ej := il_uniq hb2 (show 2 ≤ T + 2 by omega) (by omega) (by omega) hj (by omega)
              rw [← ej] at ef t1
              have dv : divOk (((T + 2) ^ j : Nat) : Int) 2 = true := rfl
              have hdv : (((T + 2) ^ j : Nat) : Int).fdiv 2 = (((T + 2) ^ j / 2 : Nat) : Int) := by
                rw [show (2 : Int) = ((2 : Nat) : Int) from rfl, fdiv_nat]
              clear pe pg
              generalize (T + 2) ^ j = P at *
              by_cases z1 : (T : Int) + 2 = 2
              · by_cases z2 : (P : Int) > 2
                · rw [if_pos ⟨by omega, by omega⟩] at ef
                  repeat' ((fail_if_success (with_reducible refine (?_ : @Eq _ _ _))); first | (with_reducible first | refine' CK.ret ?_ | refine' SK.next ?_ | refine' SK.ret ?_ | refine' SK.cont ?_ | refine' LK.next ?_ | refine' LK.cont ?_ | refine' RW.nil ?_ | refine' RW.seqK (fun K hK => ?_)) | ((with_reducible refine (?_ : RW _ _ _ _)); with_reducible refine' RW.lenOk (by with_unfolding_all exact rfl) ?_) | (with_reducible first | refine' SW.of ?_ | refine' PutAt.of ?_ ?_) | with_reducible exact SetR.z | (with_reducible first | refine' SetR.s3 ?_ | refine' SetR.s ?_) | (with_reducible refine (?_ : SetR _ (0 + 1) _ _)); refine SetR.s ?_ | ((with_reducible refine (?_ : RW _ _ _ _)); with_reducible refine' RW.retF (E := eVar _) (by with_unfolding_all exact rfl) ?_) | (with_reducible first | refine' RW.asg ?_ | refine' RW.ret ?_) | (fail_if_success (have : StopIf := by with_reducible assumption)); (with_reducible refine' RW.if ?_) | (with_reducible first | refine' RW.tup ?_ | refine' RW.for ?_ | refine' RW.while ?_ | refine' RW.new ?_) | ((with_reducible refine (?_ : RW _ _ _ _)); with_reducible refine' RW.app (by with_unfolding_all exact rfl) (by first | with_reducible assumption | with_unfolding_all exact Nat.le_of_ble_eq_true rfl) ?_) | ((with_reducible refine (?_ : RW _ _ _ _)); with_reducible refine' RW.aug (by with_unfolding_all exact rfl) ?_) | (with_reducible first | refine' TupK.two_t ?_ | refine' TupK.two_f ?_ | refine' TupK.four_f ?_ | refine' IfK.t ?_ | refine' IfK.f ?_) | (with_reducible refine' IfK.gd ?_; with_reducible refine' IfK.decT (by first | with_reducible assumption | with_unfolding_all omega) ?_) | (with_reducible refine' IfK.gd ?_; with_reducible refine' IfK.decF (by first | with_reducible assumption | with_unfolding_all omega) ?_) | (with_reducible first | refine' NotK.t ?_ | refine' NotK.f ?_ | refine' TruthK.bool ?_ | refine' TruthK.int ?_) | ((with_reducible refine (?_ : EW (eVar _) _ _)); with_reducible refine' EW.var (by with_unfolding_all exact rfl) ?_) | (with_reducible first | refine' EW.cst ?_ | refine' EW.e1 ?_ | refine' EW.e2 ?_ | refine' EW.call ?_ | refine' EW.tup ?_ | refine' EW.lst ?_ | refine' EW.or ?_ | refine' EW.e3c ?_ | refine' EW.comp ?_ | refine' EsW.nil ?_ | refine' EsW.cons ?_ | refine' TW.c ?_) | ((with_reducible refine (?_ : TpK _ _)); with_reducible refine' TpK.mk (by with_unfolding_all exact Nat.le_of_ble_eq_true rfl) ?_) | ((with_reducible refine (?_ : LsK _ _)); with_reducible refine' LsK.mk (by with_unfolding_all exact Nat.le_of_ble_eq_true rfl) ?_) | (with_reducible first | refine' TW.tOf ?_ | refine' TW.not ?_ | refine' TW.and ?_ | refine' TW.or ?_) | ((with_reducible refine (?_ : CW _ _ _)); with_reducible refine' CW.of (by with_reducible assumption) ?_) | ((with_reducible refine (?_ : CW fPow3 _ _)); with_reducible refine' CW.pow3 (by with_unfolding_all first | decide | omega) (by with_reducible assumption) ?_) | ((with_reducible refine (?_ : OW _ _ _ _)); with_reducible refine' OW.of (by with_reducible assumption) ?_) | (with_reducible first | refine' OW.add ?_ | refine' OW.addI ?_ | refine' OW.sub ?_ | refine' OW.and ?_ | refine' OW.ord ?_ | refine' OW.eq ?_ | refine' OW.ne ?_) | ((with_reducible refine (?_ : OW fMul _ _ _)); with_reducible refine' OW.mul (by first | with_reducible assumption | with_unfolding_all exact mulOk_sm (by omega) (by omega) | with_unfolding_all exact mulOk_bd (by repeat' kt_len) (by repeat' kt_len) (Nat.le_of_ble_eq_true rfl)) ?_) | ((with_reducible refine (?_ : OW fDiv _ _ _)); with_reducible refine' OW.div (by with_reducible assumption) ?_) | ((with_reducible refine (?_ : OW fMod _ _ _)); with_reducible refine' OW.mod (by first | with_reducible assumption | with_unfolding_all omega) ?_) | ((with_reducible refine (?_ : OW fPow _ _ _)); with_reducible refine' OW.pow (by with_reducible assumption) ?_) | (with_reducible first | refine' UW.neg ?_) | ((with_reducible refine (?_ : UW _ _ _)); with_reducible refine' UW.of (by with_reducible assumption) ?_) | (with_reducible first | refine' CW.max ?_ | refine' CW.range2 ?_) | ((with_reducible refine (?_ : CW _ _ _)); with_reducible refine' CW.fn (by with_unfolding_all (repeat (first | exact StartsAt.nil | apply StartsAt.cons | apply StartsAt.unb))) (by with_unfolding_all exact rfl) ?_) | (with_reducible first | refine' KK.use (by with_reducible assumption) ?_))
                  rw [hdv, ← ef, natI_app, ← t1, ← t2]
                  exact ⟨T + 1, .imm (.int ((T : Int) + 2)), _, by omega, by rw [nx, hu2], rfl⟩
                · rw [if_neg (fun h => z2 (by omega))] at ef
                  repeat' ((fail_if_success (with_reducible refine (?_ : @Eq _ _ _))); first | (with_reducible first | refine' CK.ret ?_ | refine' SK.next ?_ | refine' SK.ret ?_ | refine' SK.cont ?_ | refine' LK.next ?_ | refine' LK.cont ?_ | refine' RW.nil ?_ | refine' RW.seqK (fun K hK => ?_)) | ((with_reducible refine (?_ : RW _ _ _ _)); with_reducible refine' RW.lenOk (by with_unfolding_all exact rfl) ?_) | (with_reducible first | refine' SW.of ?_ | refine' PutAt.of ?_ ?_) | with_reducible exact SetR.z | (with_reducible first | refine' SetR.s3 ?_ | refine' SetR.s ?_) | (with_reducible refine (?_ : SetR _ (0 + 1) _ _)); refine SetR.s ?_ | ((with_reducible refine (?_ : RW _ _ _ _)); with_reducible refine' RW.retF (E := eVar _) (by with_unfolding_all exact rfl) ?_) | (with_reducible first | refine' RW.asg ?_ | refine' RW.ret ?_) | (fail_if_success (have : StopIf := by with_reducible assumption)); (with_reducible refine' RW.if ?_) | (with_reducible first | refine' RW.tup ?_ | refine' RW.for ?_ | refine' RW.while ?_ | refine' RW.new ?_) | ((with_reducible refine (?_ : RW _ _ _ _)); with_reducible refine' RW.app (by with_unfolding_all exact rfl) (by first | with_reducible assumption | with_unfolding_all exact Nat.le_of_ble_eq_true rfl) ?_) | ((with_reducible refine (?_ : RW _ _ _ _)); with_reducible refine' RW.aug (by with_unfolding_all exact rfl) ?_) | (with_reducible first | refine' TupK.two_t ?_ | refine' TupK.two_f ?_ | refine' TupK.four_f ?_ | refine' IfK.t ?_ | refine' IfK.f ?_) | (with_reducible refine' IfK.gd ?_; with_reducible refine' IfK.decT (by first | with_reducible assumption | with_unfolding_all omega) ?_) | (with_reducible refine' IfK.gd ?_; with_reducible refine' IfK.decF (by first | with_reducible assumption | with_unfolding_all omega) ?_) | (with_reducible first | refine' NotK.t ?_ | refine' NotK.f ?_ | refine' TruthK.bool ?_ | refine' TruthK.int ?_) | ((with_reducible refine (?_ : EW (eVar _) _ _)); with_reducible refine' EW.var (by with_unfolding_all exact rfl) ?_) | (with_reducible first | refine' EW.cst ?_ | refine' EW.e1 ?_ | refine' EW.e2 ?_ | refine' EW.call ?_ | refine' EW.tup ?_ | refine' EW.lst ?_ | refine' EW.or ?_ | refine' EW.e3c ?_ | refine' EW.comp ?_ | refine' EsW.nil ?_ | refine' EsW.cons ?_ | refine' TW.c ?_) | ((with_reducible refine (?_ : TpK _ _)); with_reducible refine' TpK.mk (by with_unfolding_all exact Nat.le_of_ble_eq_true rfl) ?_) | ((with_reducible refine (?_ : LsK _ _)); with_reducible refine' LsK.mk (by with_unfolding_all exact Nat.le_of_ble_eq_true rfl) ?_) | (with_reducible first | refine' TW.tOf ?_ | refine' TW.not ?_ | refine' TW.and ?_ | refine' TW.or ?_) | ((with_reducible refine (?_ : CW _ _ _)); with_reducible refine' CW.of (by with_reducible assumption) ?_) | ((with_reducible refine (?_ : CW fPow3 _ _)); with_reducible refine' CW.pow3 (by with_unfolding_all first | decide | omega) (by with_reducible assumption) ?_) | ((with_reducible refine (?_ : OW _ _ _ _)); with_reducible refine' OW.of (by with_reducible assumption) ?_) | (with_reducible first | refine' OW.add ?_ | refine' OW.addI ?_ | refine' OW.sub ?_ | refine' OW.and ?_ | refine' OW.ord ?_ | refine' OW.eq ?_ | refine' OW.ne ?_) | ((with_reducible refine (?_ : OW fMul _ _ _)); with_reducible refine' OW.mul (by first | with_reducible assumption | with_unfolding_all exact mulOk_sm (by omega) (by omega) | with_unfolding_all exact mulOk_bd (by repeat' kt_len) (by repeat' kt_len) (Nat.le_of_ble_eq_true rfl)) ?_) | ((with_reducible refine (?_ : OW fDiv _ _ _)); with_reducible refine' OW.div (by with_reducible assumption) ?_) | ((with_reducible refine (?_ : OW fMod _ _ _)); with_reducible refine' OW.mod (by first | with_reducible assumption | with_unfolding_all omega) ?_) | ((with_reducible refine (?_ : OW fPow _ _ _)); with_reducible refine' OW.pow (by with_reducible assumption) ?_) | (with_reducible first | refine' UW.neg ?_) | ((with_reducible refine (?_ : UW _ _ _)); with_reducible refine' UW.of (by with_reducible assumption) ?_) | (with_reducible first | refine' CW.max ?_ | refine' CW.range2 ?_) | ((with_reducible refine (?_ : CW _ _ _)); with_reducible refine' CW.fn (by with_unfolding_all (repeat (first | exact StartsAt.nil | apply StartsAt.cons | apply StartsAt.unb))) (by with_unfolding_all exact rfl) ?_) | (with_reducible first | refine' KK.use (by with_reducible assumption) ?_))
                  rw [← ef, natI_app, ← t1, ← t2]
                  exact ⟨T + 1, .imm (.int ((T : Int) + 2)), _, by omega, by rw [nx, hu2], rfl⟩
              · rw [if_neg (fun h => z1 (by omega))] at ef
                repeat' ((fail_if_success (with_reducible refine (?_ : @Eq _ _ _))); first | (with_reducible first | refine' CK.ret ?_ | refine' SK.next ?_ | refine' SK.ret ?_ | refine' SK.cont ?_ | refine' LK.next ?_ | refine' LK.cont ?_ | refine' RW.nil ?_ | refine' RW.seqK (fun K hK => ?_)) | ((with_reducible refine (?_ : RW _ _ _ _)); with_reducible refine' RW.lenOk (by with_unfolding_all exact rfl) ?_) | (with_reducible first | refine' SW.of ?_ | refine' PutAt.of ?_ ?_) | with_reducible exact SetR.z | (with_reducible first | refine' SetR.s3 ?_ | refine' SetR.s ?_) | (with_reducible refine (?_ : SetR _ (0 + 1) _ _)); refine SetR.s ?_ | ((with_reducible refine (?_ : RW _ _ _ _)); with_reducible refine' RW.retF (E := eVar _) (by with_unfolding_all exact rfl) ?_) | (with_reducible first | refine' RW.asg ?_ | refine' RW.ret ?_) | (fail_if_success (have : StopIf := by with_reducible assumption)); (with_reducible refine' RW.if ?_) | (with_reducible first | refine' RW.tup ?_ | refine' RW.for ?_ | refine' RW.while ?_ | refine' RW.new ?_) | ((with_reducible refine (?_ : RW _ _ _ _)); with_reducible refine' RW.app (by with_unfolding_all exact rfl) (by first | with_reducible assumption | with_unfolding_all exact Nat.le_of_ble_eq_true rfl) ?_) | ((with_reducible refine (?_ : RW _ _ _ _)); with_reducible refine' RW.aug (by with_unfolding_all exact rfl) ?_) | (with_reducible first | refine' TupK.two_t ?_ | refine' TupK.two_f ?_ | refine' TupK.four_f ?_ | refine' IfK.t ?_ | refine' IfK.f ?_) | (with_reducible refine' IfK.gd ?_; with_reducible refine' IfK.decT (by first | with_reducible assumption | with_unfolding_all omega) ?_) | (with_reducible refine' IfK.gd ?_; with_reducible refine' IfK.decF (by first | with_reducible assumption | with_unfolding_all omega) ?_) | (with_reducible first | refine' NotK.t ?_ | refine' NotK.f ?_ | refine' TruthK.bool ?_ | refine' TruthK.int ?_) | ((with_reducible refine (?_ : EW (eVar _) _ _)); with_reducible refine' EW.var (by with_unfolding_all exact rfl) ?_) | (with_reducible first | refine' EW.cst ?_ | refine' EW.e1 ?_ | refine' EW.e2 ?_ | refine' EW.call ?_ | refine' EW.tup ?_ | refine' EW.lst ?_ | refine' EW.or ?_ | refine' EW.e3c ?_ | refine' EW.comp ?_ | refine' EsW.nil ?_ | refine' EsW.cons ?_ | refine' TW.c ?_) | ((with_reducible refine (?_ : TpK _ _)); with_reducible refine' TpK.mk (by with_unfolding_all exact Nat.le_of_ble_eq_true rfl) ?_) | ((with_reducible refine (?_ : LsK _ _)); with_reducible refine' LsK.mk (by with_unfolding_all exact Nat.le_of_ble_eq_true rfl) ?_) | (with_reducible first | refine' TW.tOf ?_ | refine' TW.not ?_ | refine' TW.and ?_ | refine' TW.or ?_) | ((with_reducible refine (?_ : CW _ _ _)); with_reducible refine' CW.of (by with_reducible assumption) ?_) | ((with_reducible refine (?_ : CW fPow3 _ _)); with_reducible refine' CW.pow3 (by with_unfolding_all first | decide | omega) (by with_reducible assumption) ?_) | ((with_reducible refine (?_ : OW _ _ _ _)); with_reducible refine' OW.of (by with_reducible assumption) ?_) | (with_reducible first | refine' OW.add ?_ | refine' OW.addI ?_ | refine' OW.sub ?_ | refine' OW.and ?_ | refine' OW.ord ?_ | refine' OW.eq ?_ | refine' OW.ne ?_) | ((with_reducible refine (?_ : OW fMul _ _ _)); with_reducible refine' OW.mul (by first | with_reducible assumption | with_unfolding_all exact mulOk_sm (by omega) (by omega) | with_unfolding_all exact mulOk_bd (by repeat' kt_len) (by repeat' kt_len) (Nat.le_of_ble_eq_true rfl)) ?_) | ((with_reducible refine (?_ : OW fDiv _ _ _)); with_reducible refine' OW.div (by with_reducible assumption) ?_) | ((with_reducible refine (?_ : OW fMod _ _ _)); with_reducible refine' OW.mod (by first | with_reducible assumption | with_unfolding_all omega) ?_) | ((with_reducible refine (?_ : OW fPow _ _ _)); with_reducible refine' OW.pow (by with_reducible assumption) ?_) | (with_reducible first | refine' UW.neg ?_) | ((with_reducible refine (?_ : UW _ _ _)); with_reducible refine' UW.of (by with_reducible assumption) ?_) | (with_reducible first | refine' CW.max ?_ | refine' CW.range2 ?_) | ((with_reducible refine (?_ : CW _ _ _)); with_reducible refine' CW.fn (by with_unfolding_all (repeat (first | exact StartsAt.nil | apply StartsAt.cons | apply StartsAt.unb))) (by with_unfolding_all exact rfl) ?_) | (with_reducible first | refine' KK.use (by with_reducible assumption) ?_))
                rw [← ef, natI_app, ← t1, ← t2]
                exact ⟨T + 1, .imm (.int ((T : Int) + 2)), _, by omega, by rw [nx, hu2], rfl⟩
          · obtain ⟨t1, t2⟩ := tT_s ck' cb
            have cb' : ¬ (T : Int) + 2 ≤ B1 := fun h => cb ((hle (T + 2) (Nat.succ_pos _)).mp h)
            repeat' ((fail_if_success (with_reducible refine (?_ : @Eq _ _ _))); first | (with_reducible first | refine' CK.ret ?_ | refine' SK.next ?_ | refine' SK.ret ?_ | refine' SK.cont ?_ | refine' LK.next ?_ | refine' LK.cont ?_ | refine' RW.nil ?_ | refine' RW.seqK (fun K hK => ?_)) | ((with_reducible refine (?_ : RW _ _ _ _)); with_reducible refine' RW.lenOk (by with_unfolding_all exact rfl) ?_) | (with_reducible first | refine' SW.of ?_ | refine' PutAt.of ?_ ?_) | with_reducible exact SetR.z | (with_reducible first | refine' SetR.s3 ?_ | refine' SetR.s ?_) | (with_reducible refine (?_ : SetR _ (0 + 1) _ _)); refine SetR.s ?_ | ((with_reducible refine (?_ : RW _ _ _ _)); with_reducible refine' RW.retF (E := eVar _) (by with_unfolding_all exact rfl) ?_) | (with_reducible first | refine' RW.asg ?_ | refine' RW.ret ?_) | (fail_if_success (have : StopIf := by with_reducible assumption)); (with_reducible refine' RW.if ?_) | (with_reducible first | refine' RW.tup ?_ | refine' RW.for ?_ | refine' RW.while ?_ | refine' RW.new ?_) | ((with_reducible refine (?_ : RW _ _ _ _)); with_reducible refine' RW.app (by with_unfolding_all exact rfl) (by first | with_reducible assumption | with_unfolding_all exact Nat.le_of_ble_eq_true rfl) ?_) | ((with_reducible refine (?_ : RW _ _ _ _)); with_reducible refine' RW.aug (by with_unfolding_all exact rfl) ?_) | (with_reducible first | refine' TupK.two_t ?_ | refine' TupK.two_f ?_ | refine' TupK.four_f ?_ | refine' IfK.t ?_ | refine' IfK.f ?_) | (with_reducible refine' IfK.gd ?_; with_reducible refine' IfK.decT (by first | with_reducible assumption | with_unfolding_all omega) ?_) | (with_reducible refine' IfK.gd ?_; with_reducible refine' IfK.decF (by first | with_reducible assumption | with_unfolding_all omega) ?_) | (with_reducible first | refine' NotK.t ?_ | refine' NotK.f ?_ | refine' TruthK.bool ?_ | refine' TruthK.int ?_) | ((with_reducible refine (?_ : EW (eVar _) _ _)); with_reducible refine' EW.var (by with_unfolding_all exact rfl) ?_) | (with_reducible first | refine' EW.cst ?_ | refine' EW.e1 ?_ | refine' EW.e2 ?_ | refine' EW.call ?_ | refine' EW.tup ?_ | refine' EW.lst ?_ | refine' EW.or ?_ | refine' EW.e3c ?_ | refine' EW.comp ?_ | refine' EsW.nil ?_ | refine' EsW.cons ?_ | refine' TW.c ?_) | ((with_reducible refine (?_ : TpK _ _)); with_reducible refine' TpK.mk (by with_unfolding_all exact Nat.le_of_ble_eq_true rfl) ?_) | ((with_reducible refine (?_ : LsK _ _)); with_reducible refine' LsK.mk (by with_unfolding_all exact Nat.le_of_ble_eq_true rfl) ?_) | (with_reducible first | refine' TW.tOf ?_ | refine' TW.not ?_ | refine' TW.and ?_ | refine' TW.or ?_) | ((with_reducible refine (?_ : CW _ _ _)); with_reducible refine' CW.of (by with_reducible assumption) ?_) | ((with_reducible refine (?_ : CW fPow3 _ _)); with_reducible refine' CW.pow3 (by with_unfolding_all first | decide | omega) (by with_reducible assumption) ?_) | ((with_reducible refine (?_ : OW _ _ _ _)); with_reducible refine' OW.of (by with_reducible assumption) ?_) | (with_reducible first | refine' OW.add ?_ | refine' OW.addI ?_ | refine' OW.sub ?_ | refine' OW.and ?_ | refine' OW.ord ?_ | refine' OW.eq ?_ | refine' OW.ne ?_) | ((with_reducible refine (?_ : OW fMul _ _ _)); with_reducible refine' OW.mul (by first | with_reducible assumption | with_unfolding_all exact mulOk_sm (by omega) (by omega) | with_unfolding_all exact mulOk_bd (by repeat' kt_len) (by repeat' kt_len) (Nat.le_of_ble_eq_true rfl)) ?_) | ((with_reducible refine (?_ : OW fDiv _ _ _)); with_reducible refine' OW.div (by with_reducible assumption) ?_) | ((with_reducible refine (?_ : OW fMod _ _ _)); with_reducible refine' OW.mod (by first | with_reducible assumption | with_unfolding_all omega) ?_) | ((with_reducible refine (?_ : OW fPow _ _ _)); with_reducible refine' OW.pow (by with_reducible assumption) ?_) | (with_reducible first | refine' UW.neg ?_) | ((with_reducible refine (?_ : UW _ _ _)); with_reducible refine' UW.of (by with_reducible assumption) ?_) | (with_reducible first | refine' CW.max ?_ | refine' CW.range2 ?_) | ((with_reducible refine (?_ : CW _ _ _)); with_reducible refine' CW.fn (by with_unfolding_all (repeat (first | exact StartsAt.nil | apply StartsAt.cons | apply StartsAt.unb))) (by with_unfolding_all exact rfl) ?_) | (with_reducible first | refine' KK.use (by with_reducible assumption) ?_))
            rw [show (T : Int) + 2 = ((T + 2 : Nat) : Int) by omega, natI_app, ← t1, ← t2]
            exact ⟨T + 1, .imm (.int ((T + 2 : Nat) : Int)), s2, by omega, by rw [show ((T + 2 : Nat) : Int) = (T : Int) + 2 by omega, nx, hu2], rfl⟩
      · rw [Nat.sub_eq_zero_of_le ht] at e
        cases e
    rintro σ ⟨T, s1, s2, hT, e, rfl⟩
    rcases Nat.lt_or_ge T U with ht | ht
    · obtain ⟨u, hu, _⟩ := sub_next ht
      rw [hu, upI_succ, intsD_cons] at e
      cases e
    · have eT : T = U := Nat.le_antisymm hT ht
      rw [eT, e1, e2]
      first | refine SK.next ?_ | refine KK.use (by assumption) ?_
      try refine SK.next ?_
      refine RW.seq ?_
      refine RW.lenOk (by with_unfolding_all exact rfl) ?_
      refine' RW.retF ?_ ?_
      · rfl
      repeat' ((fail_if_success (with_reducible refine (?_ : @Eq _ _ _))); first | (with_reducible first | refine' CK.ret ?_ | refine' SK.next ?_ | refine' SK.ret ?_ | refine' SK.cont ?_ | refine' LK.next ?_ | refine' LK.cont ?_ | refine' RW.nil ?_ | refine' RW.seqK (fun K hK => ?_)) | ((with_reducible refine (?_ : RW _ _ _ _)); with_reducible refine' RW.lenOk (by with_unfolding_all exact rfl) ?_) | (with_reducible first | refine' SW.of ?_ | refine' PutAt.of ?_ ?_) | with_reducible exact SetR.z | (with_reducible first | refine' SetR.s3 ?_ | refine' SetR.s ?_) | (with_reducible refine (?_ : SetR _ (0 + 1) _ _)); refine SetR.s ?_ | ((with_reducible refine (?_ : RW _ _ _ _)); with_reducible refine' RW.retF (E := eVar _) (by with_unfolding_all exact rfl) ?_) | (with_reducible first | refine' RW.asg ?_ | refine' RW.ret ?_) | (fail_if_success (have : StopIf := by with_reducible assumption)); (with_reducible refine' RW.if ?_) | (with_reducible first | refine' RW.tup ?_ | refine' RW.for ?_ | refine' RW.while ?_ | refine' RW.new ?_) | ((with_reducible refine (?_ : RW _ _ _ _)); with_reducible refine' RW.app (by with_unfolding_all exact rfl) (by first | with_reducible assumption | with_unfolding_all exact Nat.le_of_ble_eq_true rfl) ?_) | ((with_reducible refine (?_ : RW _ _ _ _)); with_reducible refine' RW.aug (by with_unfolding_all exact rfl) ?_) | (with_reducible first | refine' TupK.two_t ?_ | refine' TupK.two_f ?_ | refine' TupK.four_f ?_ | refine' IfK.t ?_ | refine' IfK.f ?_) | (with_reducible refine' IfK.gd ?_; with_reducible refine' IfK.decT (by first | with_reducible assumption | with_unfolding_all omega) ?_) | (with_reducible refine' IfK.gd ?_; with_reducible refine' IfK.decF (by first | with_reducible assumption | with_unfolding_all omega) ?_) | (with_reducible first | refine' NotK.t ?_ | refine' NotK.f ?_ | refine' TruthK.bool ?_ | refine' TruthK.int ?_) | ((with_reducible refine (?_ : EW (eVar _) _ _)); with_reducible refine' EW.var (by with_unfolding_all exact rfl) ?_) | (with_reducible first | refine' EW.cst ?_ | refine' EW.e1 ?_ | refine' EW.e2 ?_ | refine' EW.call ?_ | refine' EW.tup ?_ | refine' EW.lst ?_ | refine' EW.or ?_ | refine' EW.e3c ?_ | refine' EW.comp ?_ | refine' EsW.nil ?_ | refine' EsW.cons ?_ | refine' TW.c ?_) | ((with_reducible refine (?_ : TpK _ _)); with_reducible refine' TpK.mk (by with_unfolding_all exact Nat.le_of_ble_eq_true rfl) ?_) | ((with_reducible refine (?_ : LsK _ _)); with_reducible refine' LsK.mk (by with_unfolding_all exact Nat.le_of_ble_eq_true rfl) ?_) | (with_reducible first | refine' TW.tOf ?_ | refine' TW.not ?_ | refine' TW.and ?_ | refine' TW.or ?_) | ((with_reducible refine (?_ : CW _ _ _)); with_reducible refine' CW.of (by with_reducible assumption) ?_) | ((with_reducible refine (?_ : CW fPow3 _ _)); with_reducible refine' CW.pow3 (by with_unfolding_all first | decide | omega) (by with_reducible assumption) ?_) | ((with_reducible refine (?_ : OW _ _ _ _)); with_reducible refine' OW.of (by with_reducible assumption) ?_) | (with_reducible first | refine' OW.add ?_ | refine' OW.addI ?_ | refine' OW.sub ?_ | refine' OW.and ?_ | refine' OW.ord ?_ | refine' OW.eq ?_ | refine' OW.ne ?_) | ((with_reducible refine (?_ : OW fMul _ _ _)); with_reducible refine' OW.mul (by first | with_reducible assumption | with_unfolding_all exact mulOk_sm (by omega) (by omega) | with_unfolding_all exact mulOk_bd (by repeat' kt_len) (by repeat' kt_len) (Nat.le_of_ble_eq_true rfl)) ?_) | ((with_reducible refine (?_ : OW fDiv _ _ _)); with_reducible refine' OW.div (by with_reducible assumption) ?_) | ((with_reducible refine (?_ : OW fMod _ _ _)); with_reducible refine' OW.mod (by first | with_reducible assumption | with_unfolding_all omega) ?_) | ((with_reducible refine (?_ : OW fPow _ _ _)); with_reducible refine' OW.pow (by with_reducible assumption) ?_) | (with_reducible first | refine' UW.neg ?_) | ((with_reducible refine (?_ : UW _ _ _)); with_reducible refine' UW.of (by with_reducible assumption) ?_) | (with_reducible first | refine' CW.max ?_ | refine' CW.range2 ?_) | ((with_reducible refine (?_ : CW _ _ _)); with_reducible refine' CW.fn (by with_unfolding_all (repeat (first | exact StartsAt.nil | apply StartsAt.cons | apply StartsAt.unb))) (by with_unfolding_all exact rfl) ?_) | (with_reducible first | refine' KK.use (by with_reducible assumption) ?_))
      rfl

theorem ok__law_carried {I : GI} (hat : HatI I hd.view_39) (hpow : FunOK I 0 ("pow" : Str) fPow3) {f9 f10 : List D → Option D} (h9 : FunOK I 2 ("_law_times" : Str) f9) (h10 : FunOK I 1 ("_law_curve" : Str) f10) (s9 : ∀ (HH : Nat → PI → Prop) (m j : Nat) (A : PI) (a2 a4 p : Int), 2 ≤ p → Bd 1000 p → Bd 1000 a2 → Bd 1000 a4 → HH 0 none → (∀ {i j : Nat} {A B : PI}, HH i A → HH j B → HH (i + j) (sumI p a2 a4 A B)) → (∀ {i : Nat} {A : PI}, HH i A → Can p A) → HH j A → m < 2 ^ 900 → CW f9 [.int (m : Int), ptD A, .int a2, .int a4, .int p] (fun d => ∃ R, d = ptD R ∧ HH (m * j) R))(s10 : ∀ (a x p : Int), p ≠ 0 → Bd 1000 p → Bd 1000 a → Bd 1000 x → f10 [.int a, .int x, .int p] = some (curveD (curveI p a x))) : ∃ d, (recsOf hd.view_39)[12]? = some d ∧ d.name = ("_law_carried" : Str) ∧ ∃ G, FunOK I 3 d.name G ∧
    ∀ (q : Nat) (n s : Int) (m1 m2 : List Nat), Prm q → 5 ≤ q → q < 2 ^ 14 → (q : Int) ∣ n → Bd 300 s → good06 q s → (∀ m ∈ m1, 2 ≤ m ∧ m ≤ 100) → (∀ m ∈ m2, 2 ≤ m ∧ m ≤ 100) → m1.length ≤ 100 → m2.length ≤ 100 → G [.int (q : Int), .int s, .lst (intsD (natI (m1.map eff))), .lst (intsD (natI (m2.map eff)))] = some (.tup [.bool (decide ((q : Int) ∣ (runQ (cI n s) n m1 (q0I n s)).2)), .bool (decide ((q : Int) ∣ (runQ (cI n s) n m1 (q0I n s)).2) || anyZ (cI n s) n q m2 (runQ (cI n s) n m1 (q0I n s)))]) := by
  refine' ⟨_, rfl, rfl, _, FunOK.of 1000 (i := 12) (ns := ["q", "seed", "first", "second", "u", "v", "a", "x", "a2", "a4", "here", "stretch", "lost", "count", "early", "late"]) (m := 4) hat rfl ⟨rfl, by decide, by decide⟩ (by decide) (fun pm cd doc => vs4 fun a b c d => rfl) rfl rfl ?h, ?g⟩
  case h =>
    dsimp only
    repeat' (first | (with_reducible refine' RunOK.for' (by with_unfolding_all exact rfl) (by with_unfolding_all exact fun _ _ => rfl) (by with_unfolding_all exact ⟨rfl, by decide, by decide⟩) ?_ ?_) | ((show (_ : Prop)); first | (with_reducible first | exact OpOK.add | exact OpOK.sub | exact OpOK.mul | exact OpOK.mod | exact OpOK.pow | exact OpOK.and | exact OpOK.lt | exact OpOK.le | exact OpOK.gt | exact OpOK.ge | exact OpOK.eq | exact OpOK.ne | exact OpOK.notIn | exact IOpOK.add | exact IOpOK.sub | exact IOpOK.mul | exact IOpOK.div | exact IOpOK.mod | exact EvOK.cint | exact EvOK.cbool | refine' EvOK.v (by with_unfolding_all exact rfl) (by with_unfolding_all exact rfl) (by with_unfolding_all exact rfl) (by with_unfolding_all exact rfl) | refine' EvOK.bin ?_ ?_ ?_ | refine' EvOK.cmp ?_ ?_ ?_ (by with_unfolding_all exact rfl) | refine' EvOK.neg ?_ | refine' EvOK.bool1 ?_ | refine' EvOK.or ?_ ?_ | refine' EvOK.tup ?_ | refine' EvOK.lst ?_ | refine' EvOK.call' (by with_unfolding_all exact rfl) (by with_unfolding_all exact rfl) (by with_unfolding_all exact rfl) (by with_unfolding_all exact fun _ => rfl) (by with_unfolding_all exact rfl) (by with_unfolding_all exact fun _ => ⟨_, _, rfl⟩) (by with_unfolding_all first | assumption | exact FunOK.le (by assumption) (by decide)) ?_ | refine' EvOK.gsub (by with_unfolding_all exact rfl) (by with_unfolding_all exact rfl) (by with_unfolding_all exact rfl) (by with_unfolding_all exact fun _ _ => rfl) (by with_unfolding_all assumption) ?_ | refine' EvOK.subs ?_ ?_ (by with_unfolding_all exact fun _ _ => rfl) | refine' EvOK.comp (by with_unfolding_all exact ⟨by decide, rfl, rfl, by decide, rfl, by decide, by decide⟩) ?_ ?_ ?_ (by with_unfolding_all exact fun _ _ => rfl) | exact EvsOK.nil | refine' EvsOK.cons ?_ ?_ (by with_unfolding_all exact fun _ => rfl) | refine' TestsOK.one ?_ | refine' TrOK.cmp ?_ ?_ ?_ (by with_unfolding_all exact rfl) | refine' TrOK.chain ?_ ?_ ?_ ?_ ?_ (by with_unfolding_all exact rfl) | refine' TrOK.not ?_ | exact TrOK.and0 | exact TrOK.or0 | refine' TrOK.and ?_ ?_ | refine' TrOK.or ?_ ?_ | refine' TrOK.plain ?_ (by with_unfolding_all exact fun _ _ => rfl) | exact RunOK.nil | refine' RunOK.cons ?_ ?_ | exact RunOK.cont | refine' RunOK.ret ?_ | refine' RunOK.ifS ?_ ?_ ?_ | refine' RunOK.whileS ?_ ?_ | refine' RunOK.new' (by with_unfolding_all exact rfl) (by with_unfolding_all exact fun _ => rfl) (by with_unfolding_all exact ⟨rfl, by decide, by decide⟩) ?_ | refine' RunOK.asg' (by with_unfolding_all exact rfl) (by with_unfolding_all exact fun _ => rfl) (by with_unfolding_all exact ⟨rfl, by decide, by decide⟩) ?_ | refine' RunOK.aug' (by with_unfolding_all exact rfl) (by with_unfolding_all exact ⟨rfl, by decide, by decide⟩) ?_ ?_ | refine' RunOK.forM' (by with_unfolding_all exact rfl) (by with_unfolding_all exact rfl) (by with_unfolding_all exact rfl) (by with_unfolding_all exact fun _ _ => rfl) (by with_unfolding_all exact ⟨rfl, by decide, by decide⟩) ?_ | refine' RunOK.for' (by with_unfolding_all exact rfl) (by with_unfolding_all exact fun _ _ => rfl) (by with_unfolding_all exact ⟨rfl, by decide, by decide⟩) ?_ ?_ | refine' RunOK.app' (by with_unfolding_all exact rfl) (by with_unfolding_all exact rfl) (by with_unfolding_all exact fun _ => rfl) (by with_unfolding_all exact fun _ => rfl) (by with_unfolding_all exact fun _ => rfl) (by with_unfolding_all exact ⟨rfl, by decide, by decide⟩) ?_ | refine' RunOK.tupS' (by with_unfolding_all first | exact .cons (.cons .nil) | exact .cons (.cons (.cons .nil)) | exact .cons (.cons (.cons (.cons .nil)))) (by with_unfolding_all exact fun env h => by cases env; cases h; rfl) (by with_unfolding_all exact rfl) (by with_unfolding_all exact fun _ => rfl) (by with_unfolding_all exact ⟨rfl, by decide, by decide⟩) ?_ | refine' RunOK.tupP' (by with_unfolding_all first | exact .cons (.cons .nil) | exact .cons (.cons (.cons .nil)) | exact .cons (.cons (.cons (.cons .nil)))) (by with_unfolding_all exact fun env h => by cases env; cases h; rfl) (by with_unfolding_all exact rfl) (by with_unfolding_all exact fun _ => rfl) (by with_unfolding_all exact ⟨rfl, by decide, by decide⟩) ?_)))
  case g =>
    intro q n s m1 m2 hp q5 qb hn bs hg hm1 hm2 len1 len2
    have q0 : (q : Int) ≠ 0 := by omega
    have qe : 0 ≤ (q : Int) - 2 := by omega
    have bq : Bd 14 (q : Int) := bd_nat qb
    have bq1 : Bd 1000 (q : Int) := bq.mono (by omega)
    obtain ⟨na, nb, cA, cB, cZ, cX⟩ := start06 hp (by omega) hn hg
    obtain ⟨TT, HH, pk, st1, T3⟩ := pk_curve (x := xI q s) hp (by omega) na nb
    have t1 := st1 (q0I n s) cZ cX
    have ba : Bd 14 (aI q s) := Bd.fmod' q0 bq
    have bx : Bd 14 (xI q s) := Bd.fmod' q0 bq
    have wc := s10 (aI q s) (xI q s) q q0 bq1 (ba.mono (by omega)) (bx.mono (by omega))
    have cbd := curveI_bd (p := q) (a := aI q s) (x := xI q s) 62 (by omega) q0 (bq.mono (by omega))
    unfold curveD at wc
    generalize (curveI q (aI q s) (xI q s)).1 = A2 at *
    generalize (curveI q (aI q s) (xI q s)).2.1 = A4 at *
    generalize (curveI q (aI q s) (xI q s)).2.2.1 = pt at *
    generalize (curveI q (aI q s) (xI q s)).2.2.2 = ST at *
    have bu : Bd 14 ((s * s - 5).fmod q) := Bd.fmod' q0 bq
    have bv : Bd 14 ((4 * s).fmod q) := Bd.fmod' q0 bq
    have b40 : Bd 40 (4 : Int) := Bd.lit (by decide) (by decide)
    have pu : powOk ((s * s - 5).fmod q) 3 = true := powOk_bd (k := 3) bu (by omega)
    have pv : powOk ((4 * s).fmod q) 3 = true := powOk_bd (k := 3) bv (by omega)
    have pvu : powOk ((4 * s).fmod q - (s * s - 5).fmod q) 3 = true := powOk_bd (k := 3) (bv.sub' bu) (by omega)
    unfold aI xI at wc
    refine CW.eq ?_
    repeat' ((fail_if_success (with_reducible refine (?_ : @Eq _ _ _))); first | (with_reducible first | refine' CK.ret ?_ | refine' SK.next ?_ | refine' SK.ret ?_ | refine' SK.cont ?_ | refine' LK.next ?_ | refine' LK.cont ?_ | refine' RW.nil ?_ | refine' RW.seqK (fun K hK => ?_)) | ((with_reducible refine (?_ : RW _ _ _ _)); with_reducible refine' RW.lenOk (by with_unfolding_all exact rfl) ?_) | (with_reducible first | refine' SW.of ?_ | refine' PutAt.of ?_ ?_) | with_reducible exact SetR.z | (with_reducible first | refine' SetR.s3 ?_ | refine' SetR.s ?_) | (with_reducible refine (?_ : SetR _ (0 + 1) _ _)); refine SetR.s ?_ | ((with_reducible refine (?_ : RW _ _ _ _)); with_reducible refine' RW.retF (E := eVar _) (by with_unfolding_all exact rfl) ?_) | (with_reducible first | refine' RW.asg ?_ | refine' RW.ret ?_) | (fail_if_success (have : StopIf := by with_reducible assumption)); (with_reducible refine' RW.if ?_) | (with_reducible first | refine' RW.tup ?_ | refine' RW.for ?_ | refine' RW.while ?_ | refine' RW.new ?_) | ((with_reducible refine (?_ : RW _ _ _ _)); with_reducible refine' RW.app (by with_unfolding_all exact rfl) (by first | with_reducible assumption | with_unfolding_all exact Nat.le_of_ble_eq_true rfl) ?_) | ((with_reducible refine (?_ : RW _ _ _ _)); with_reducible refine' RW.aug (by with_unfolding_all exact rfl) ?_) | (with_reducible first | refine' TupK.two_t ?_ | refine' TupK.two_f ?_ | refine' TupK.four_f ?_ | refine' IfK.t ?_ | refine' IfK.f ?_) | (with_reducible refine' IfK.gd ?_; with_reducible refine' IfK.decT (by first | with_reducible assumption | with_unfolding_all omega) ?_) | (with_reducible refine' IfK.gd ?_; with_reducible refine' IfK.decF (by first | with_reducible assumption | with_unfolding_all omega) ?_) | (with_reducible first | refine' NotK.t ?_ | refine' NotK.f ?_ | refine' TruthK.bool ?_ | refine' TruthK.int ?_) | ((with_reducible refine (?_ : EW (eVar _) _ _)); with_reducible refine' EW.var (by with_unfolding_all exact rfl) ?_) | (with_reducible first | refine' EW.cst ?_ | refine' EW.e1 ?_ | refine' EW.e2 ?_ | refine' EW.call ?_ | refine' EW.tup ?_ | refine' EW.lst ?_ | refine' EW.or ?_ | refine' EW.e3c ?_ | refine' EW.comp ?_ | refine' EsW.nil ?_ | refine' EsW.cons ?_ | refine' TW.c ?_) | ((with_reducible refine (?_ : TpK _ _)); with_reducible refine' TpK.mk (by with_unfolding_all exact Nat.le_of_ble_eq_true rfl) ?_) | ((with_reducible refine (?_ : LsK _ _)); with_reducible refine' LsK.mk (by with_unfolding_all exact Nat.le_of_ble_eq_true rfl) ?_) | (with_reducible first | refine' TW.tOf ?_ | refine' TW.not ?_ | refine' TW.and ?_ | refine' TW.or ?_) | ((with_reducible refine (?_ : CW _ _ _)); with_reducible refine' CW.of (by with_reducible assumption) ?_) | ((with_reducible refine (?_ : CW fPow3 _ _)); with_reducible refine' CW.pow3 (by with_unfolding_all first | decide | omega) (by with_reducible assumption) ?_) | ((with_reducible refine (?_ : OW _ _ _ _)); with_reducible refine' OW.of (by with_reducible assumption) ?_) | (with_reducible first | refine' OW.add ?_ | refine' OW.addI ?_ | refine' OW.sub ?_ | refine' OW.and ?_ | refine' OW.ord ?_ | refine' OW.eq ?_ | refine' OW.ne ?_) | ((with_reducible refine (?_ : OW fMul _ _ _)); with_reducible refine' OW.mul (by first | with_reducible assumption | with_unfolding_all exact mulOk_sm (by omega) (by omega) | with_unfolding_all exact mulOk_bd (by repeat' kt_len) (by repeat' kt_len) (Nat.le_of_ble_eq_true rfl)) ?_) | ((with_reducible refine (?_ : OW fDiv _ _ _)); with_reducible refine' OW.div (by with_reducible assumption) ?_) | ((with_reducible refine (?_ : OW fMod _ _ _)); with_reducible refine' OW.mod (by first | with_reducible assumption | with_unfolding_all omega) ?_) | ((with_reducible refine (?_ : OW fPow _ _ _)); with_reducible refine' OW.pow (by with_reducible assumption) ?_) | (with_reducible first | refine' UW.neg ?_) | ((with_reducible refine (?_ : UW _ _ _)); with_reducible refine' UW.of (by with_reducible assumption) ?_) | (with_reducible first | refine' CW.max ?_ | refine' CW.range2 ?_) | ((with_reducible refine (?_ : CW _ _ _)); with_reducible refine' CW.fn (by with_unfolding_all (repeat (first | exact StartsAt.nil | apply StartsAt.cons | apply StartsAt.unb))) (by with_unfolding_all exact rfl) ?_) | (with_reducible first | refine' KK.use (by with_reducible assumption) ?_))
    refine ForK.of rfl (items_lst (by rw [intsD_length, natI_length, List.length_map]; omega)) (LW.inv (fun ds σ => ∃ (l : List Nat) (Q : Int × Int) (here : PI) (lost : Bool) (sl : Slot), ds = intsD (natI (l.map eff)) ∧ (∀ m ∈ l, 2 ≤ m ∧ m ≤ 100) ∧ runQ (cI n s) n l Q = runQ (cI n s) n m1 (q0I n s) ∧ Sst q TT HH Q here lost ∧ σ = [.imm (.int (q : Int)), .imm (.int s), .imm (.lst (intsD (natI (m1.map eff)))), .imm (.lst (intsD (natI (m2.map eff)))), .imm (.int ((s * s - 5).fmod q)), .imm (.int ((4 * s).fmod q)), .imm (.int (aI q s)), .imm (.int (xI q s)), .imm (.int A2), .imm (.int A4), .imm (ptD here), .imm (.int ST), .imm (.bool lost), sl, .unb, .unb]) ⟨m1, q0I n s, pt, false, _, rfl, hm1, rfl, .inr ⟨rfl, 1, t1, pk.one⟩, rfl⟩ ?_ ?_)
    · rintro d' ds σ ⟨l, Q, here, lost, sl, e, hl, hr, hS, rfl⟩
      cases l with
      | nil => cases e
      | cons m l =>
        cases e
        have hm := hl m (.head _)
        have hl2 : ∀ x ∈ l, 2 ≤ x ∧ x ≤ 100 := fun x hx => hl x (.tail _ hx)
        refine ⟨rfl, ?_⟩
        cases here with
        | none =>
          have w1 := fEq_unit0
          have nS := Sst.step1 pk T3 hn hS (.inl rfl) (m := m) (A := cI n s) hm.1
          repeat' ((fail_if_success (with_reducible refine (?_ : @Eq _ _ _))); first | (with_reducible first | refine' CK.ret ?_ | refine' SK.next ?_ | refine' SK.ret ?_ | refine' SK.cont ?_ | refine' LK.next ?_ | refine' LK.cont ?_ | refine' RW.nil ?_ | refine' RW.seqK (fun K hK => ?_)) | ((with_reducible refine (?_ : RW _ _ _ _)); with_reducible refine' RW.lenOk (by with_unfolding_all exact rfl) ?_) | (with_reducible first | refine' SW.of ?_ | refine' PutAt.of ?_ ?_) | with_reducible exact SetR.z | (with_reducible first | refine' SetR.s3 ?_ | refine' SetR.s ?_) | (with_reducible refine (?_ : SetR _ (0 + 1) _ _)); refine SetR.s ?_ | ((with_reducible refine (?_ : RW _ _ _ _)); with_reducible refine' RW.retF (E := eVar _) (by with_unfolding_all exact rfl) ?_) | (with_reducible first | refine' RW.asg ?_ | refine' RW.ret ?_) | (fail_if_success (have : StopIf := by with_reducible assumption)); (with_reducible refine' RW.if ?_) | (with_reducible first | refine' RW.tup ?_ | refine' RW.for ?_ | refine' RW.while ?_ | refine' RW.new ?_) | ((with_reducible refine (?_ : RW _ _ _ _)); with_reducible refine' RW.app (by with_unfolding_all exact rfl) (by first | with_reducible assumption | with_unfolding_all exact Nat.le_of_ble_eq_true rfl) ?_) | ((with_reducible refine (?_ : RW _ _ _ _)); with_reducible refine' RW.aug (by with_unfolding_all exact rfl) ?_) | (with_reducible first | refine' TupK.two_t ?_ | refine' TupK.two_f ?_ | refine' TupK.four_f ?_ | refine' IfK.t ?_ | refine' IfK.f ?_) | (with_reducible refine' IfK.gd ?_; with_reducible refine' IfK.decT (by first | with_reducible assumption | with_unfolding_all omega) ?_) | (with_reducible refine' IfK.gd ?_; with_reducible refine' IfK.decF (by first | with_reducible assumption | with_unfolding_all omega) ?_) | (with_reducible first | refine' NotK.t ?_ | refine' NotK.f ?_ | refine' TruthK.bool ?_ | refine' TruthK.int ?_) | ((with_reducible refine (?_ : EW (eVar _) _ _)); with_reducible refine' EW.var (by with_unfolding_all exact rfl) ?_) | (with_reducible first | refine' EW.cst ?_ | refine' EW.e1 ?_ | refine' EW.e2 ?_ | refine' EW.call ?_ | refine' EW.tup ?_ | refine' EW.lst ?_ | refine' EW.or ?_ | refine' EW.e3c ?_ | refine' EW.comp ?_ | refine' EsW.nil ?_ | refine' EsW.cons ?_ | refine' TW.c ?_) | ((with_reducible refine (?_ : TpK _ _)); with_reducible refine' TpK.mk (by with_unfolding_all exact Nat.le_of_ble_eq_true rfl) ?_) | ((with_reducible refine (?_ : LsK _ _)); with_reducible refine' LsK.mk (by with_unfolding_all exact Nat.le_of_ble_eq_true rfl) ?_) | (with_reducible first | refine' TW.tOf ?_ | refine' TW.not ?_ | refine' TW.and ?_ | refine' TW.or ?_) | ((with_reducible refine (?_ : CW _ _ _)); with_reducible refine' CW.of (by with_reducible assumption) ?_) | ((with_reducible refine (?_ : CW fPow3 _ _)); with_reducible refine' CW.pow3 (by with_unfolding_all first | decide | omega) (by with_reducible assumption) ?_) | ((with_reducible refine (?_ : OW _ _ _ _)); with_reducible refine' OW.of (by with_reducible assumption) ?_) | (with_reducible first | refine' OW.add ?_ | refine' OW.addI ?_ | refine' OW.sub ?_ | refine' OW.and ?_ | refine' OW.ord ?_ | refine' OW.eq ?_ | refine' OW.ne ?_) | ((with_reducible refine (?_ : OW fMul _ _ _)); with_reducible refine' OW.mul (by first | with_reducible assumption | with_unfolding_all exact mulOk_sm (by omega) (by omega) | with_unfolding_all exact mulOk_bd (by repeat' kt_len) (by repeat' kt_len) (Nat.le_of_ble_eq_true rfl)) ?_) | ((with_reducible refine (?_ : OW fDiv _ _ _)); with_reducible refine' OW.div (by with_reducible assumption) ?_) | ((with_reducible refine (?_ : OW fMod _ _ _)); with_reducible refine' OW.mod (by first | with_reducible assumption | with_unfolding_all omega) ?_) | ((with_reducible refine (?_ : OW fPow _ _ _)); with_reducible refine' OW.pow (by with_reducible assumption) ?_) | (with_reducible first | refine' UW.neg ?_) | ((with_reducible refine (?_ : UW _ _ _)); with_reducible refine' UW.of (by with_reducible assumption) ?_) | (with_reducible first | refine' CW.max ?_ | refine' CW.range2 ?_) | ((with_reducible refine (?_ : CW _ _ _)); with_reducible refine' CW.fn (by with_unfolding_all (repeat (first | exact StartsAt.nil | apply StartsAt.cons | apply StartsAt.unb))) (by with_unfolding_all exact rfl) ?_) | (with_reducible first | refine' KK.use (by with_reducible assumption) ?_))
          exact ⟨l, _, _, true, _, rfl, hl2, hr, nS, rfl⟩
        | some P =>
          obtain ⟨X, Y⟩ := P
          have w1 := fEq_unit1 (X, Y)
          have w2 : fSubs (ptD (some (X, Y))) (.int 0) = some (.int X) := rfl
          by_cases hX : X = 0
          · have nS := Sst.step1 pk T3 hn hS (.inr ⟨Y, by rw [hX]⟩) (m := m) (A := cI n s) hm.1
            repeat' ((fail_if_success (with_reducible refine (?_ : @Eq _ _ _))); first | (with_reducible first | refine' CK.ret ?_ | refine' SK.next ?_ | refine' SK.ret ?_ | refine' SK.cont ?_ | refine' LK.next ?_ | refine' LK.cont ?_ | refine' RW.nil ?_ | refine' RW.seqK (fun K hK => ?_)) | ((with_reducible refine (?_ : RW _ _ _ _)); with_reducible refine' RW.lenOk (by with_unfolding_all exact rfl) ?_) | (with_reducible first | refine' SW.of ?_ | refine' PutAt.of ?_ ?_) | with_reducible exact SetR.z | (with_reducible first | refine' SetR.s3 ?_ | refine' SetR.s ?_) | (with_reducible refine (?_ : SetR _ (0 + 1) _ _)); refine SetR.s ?_ | ((with_reducible refine (?_ : RW _ _ _ _)); with_reducible refine' RW.retF (E := eVar _) (by with_unfolding_all exact rfl) ?_) | (with_reducible first | refine' RW.asg ?_ | refine' RW.ret ?_) | (fail_if_success (have : StopIf := by with_reducible assumption)); (with_reducible refine' RW.if ?_) | (with_reducible first | refine' RW.tup ?_ | refine' RW.for ?_ | refine' RW.while ?_ | refine' RW.new ?_) | ((with_reducible refine (?_ : RW _ _ _ _)); with_reducible refine' RW.app (by with_unfolding_all exact rfl) (by first | with_reducible assumption | with_unfolding_all exact Nat.le_of_ble_eq_true rfl) ?_) | ((with_reducible refine (?_ : RW _ _ _ _)); with_reducible refine' RW.aug (by with_unfolding_all exact rfl) ?_) | (with_reducible first | refine' TupK.two_t ?_ | refine' TupK.two_f ?_ | refine' TupK.four_f ?_ | refine' IfK.t ?_ | refine' IfK.f ?_) | (with_reducible refine' IfK.gd ?_; with_reducible refine' IfK.decT (by first | with_reducible assumption | with_unfolding_all omega) ?_) | (with_reducible refine' IfK.gd ?_; with_reducible refine' IfK.decF (by first | with_reducible assumption | with_unfolding_all omega) ?_) | (with_reducible first | refine' NotK.t ?_ | refine' NotK.f ?_ | refine' TruthK.bool ?_ | refine' TruthK.int ?_) | ((with_reducible refine (?_ : EW (eVar _) _ _)); with_reducible refine' EW.var (by with_unfolding_all exact rfl) ?_) | (with_reducible first | refine' EW.cst ?_ | refine' EW.e1 ?_ | refine' EW.e2 ?_ | refine' EW.call ?_ | refine' EW.tup ?_ | refine' EW.lst ?_ | refine' EW.or ?_ | refine' EW.e3c ?_ | refine' EW.comp ?_ | refine' EsW.nil ?_ | refine' EsW.cons ?_ | refine' TW.c ?_) | ((with_reducible refine (?_ : TpK _ _)); with_reducible refine' TpK.mk (by with_unfolding_all exact Nat.le_of_ble_eq_true rfl) ?_) | ((with_reducible refine (?_ : LsK _ _)); with_reducible refine' LsK.mk (by with_unfolding_all exact Nat.le_of_ble_eq_true rfl) ?_) | (with_reducible first | refine' TW.tOf ?_ | refine' TW.not ?_ | refine' TW.and ?_ | refine' TW.or ?_) | ((with_reducible refine (?_ : CW _ _ _)); with_reducible refine' CW.of (by with_reducible assumption) ?_) | ((with_reducible refine (?_ : CW fPow3 _ _)); with_reducible refine' CW.pow3 (by with_unfolding_all first | decide | omega) (by with_reducible assumption) ?_) | ((with_reducible refine (?_ : OW _ _ _ _)); with_reducible refine' OW.of (by with_reducible assumption) ?_) | (with_reducible first | refine' OW.add ?_ | refine' OW.addI ?_ | refine' OW.sub ?_ | refine' OW.and ?_ | refine' OW.ord ?_ | refine' OW.eq ?_ | refine' OW.ne ?_) | ((with_reducible refine (?_ : OW fMul _ _ _)); with_reducible refine' OW.mul (by first | with_reducible assumption | with_unfolding_all exact mulOk_sm (by omega) (by omega) | with_unfolding_all exact mulOk_bd (by repeat' kt_len) (by repeat' kt_len) (Nat.le_of_ble_eq_true rfl)) ?_) | ((with_reducible refine (?_ : OW fDiv _ _ _)); with_reducible refine' OW.div (by with_reducible assumption) ?_) | ((with_reducible refine (?_ : OW fMod _ _ _)); with_reducible refine' OW.mod (by first | with_reducible assumption | with_unfolding_all omega) ?_) | ((with_reducible refine (?_ : OW fPow _ _ _)); with_reducible refine' OW.pow (by with_reducible assumption) ?_) | (with_reducible first | refine' UW.neg ?_) | ((with_reducible refine (?_ : UW _ _ _)); with_reducible refine' UW.of (by with_reducible assumption) ?_) | (with_reducible first | refine' CW.max ?_ | refine' CW.range2 ?_) | ((with_reducible refine (?_ : CW _ _ _)); with_reducible refine' CW.fn (by with_unfolding_all (repeat (first | exact StartsAt.nil | apply StartsAt.cons | apply StartsAt.unb))) (by with_unfolding_all exact rfl) ?_) | (with_reducible first | refine' KK.use (by with_reducible assumption) ?_))
            exact ⟨l, _, _, true, _, rfl, hl2, hr, nS, rfl⟩
          · obtain ⟨hlf, i, hi, tS⟩ := Sst.step2 pk T3 hn cA cB hS hX (m := m) hm.1 (Nat.lt_of_le_of_lt hm.2 (by decide))
            have em := eff_le m
            obtain ⟨_, wt, R, rfl, hR⟩ := s9 HH (eff m) i (some (X, Y)) A2 A4 q (by omega) bq1 (cbd.1.mono (by omega)) (cbd.2.1.mono (by omega)) pk.zero pk.add pk.can hi (Nat.lt_of_le_of_lt (show eff m ≤ 100 by omega) (by decide))
            have nS : Sst q TT HH (mulF m Q (cI n s) n) R lost := .inr ⟨hlf, _, tS, hR⟩
            repeat' ((fail_if_success (with_reducible refine (?_ : @Eq _ _ _))); first | (with_reducible first | refine' CK.ret ?_ | refine' SK.next ?_ | refine' SK.ret ?_ | refine' SK.cont ?_ | refine' LK.next ?_ | refine' LK.cont ?_ | refine' RW.nil ?_ | refine' RW.seqK (fun K hK => ?_)) | ((with_reducible refine (?_ : RW _ _ _ _)); with_reducible refine' RW.lenOk (by with_unfolding_all exact rfl) ?_) | (with_reducible first | refine' SW.of ?_ | refine' PutAt.of ?_ ?_) | with_reducible exact SetR.z | (with_reducible first | refine' SetR.s3 ?_ | refine' SetR.s ?_) | (with_reducible refine (?_ : SetR _ (0 + 1) _ _)); refine SetR.s ?_ | ((with_reducible refine (?_ : RW _ _ _ _)); with_reducible refine' RW.retF (E := eVar _) (by with_unfolding_all exact rfl) ?_) | (with_reducible first | refine' RW.asg ?_ | refine' RW.ret ?_) | (fail_if_success (have : StopIf := by with_reducible assumption)); (with_reducible refine' RW.if ?_) | (with_reducible first | refine' RW.tup ?_ | refine' RW.for ?_ | refine' RW.while ?_ | refine' RW.new ?_) | ((with_reducible refine (?_ : RW _ _ _ _)); with_reducible refine' RW.app (by with_unfolding_all exact rfl) (by first | with_reducible assumption | with_unfolding_all exact Nat.le_of_ble_eq_true rfl) ?_) | ((with_reducible refine (?_ : RW _ _ _ _)); with_reducible refine' RW.aug (by with_unfolding_all exact rfl) ?_) | (with_reducible first | refine' TupK.two_t ?_ | refine' TupK.two_f ?_ | refine' TupK.four_f ?_ | refine' IfK.t ?_ | refine' IfK.f ?_) | (with_reducible refine' IfK.gd ?_; with_reducible refine' IfK.decT (by first | with_reducible assumption | with_unfolding_all omega) ?_) | (with_reducible refine' IfK.gd ?_; with_reducible refine' IfK.decF (by first | with_reducible assumption | with_unfolding_all omega) ?_) | (with_reducible first | refine' NotK.t ?_ | refine' NotK.f ?_ | refine' TruthK.bool ?_ | refine' TruthK.int ?_) | ((with_reducible refine (?_ : EW (eVar _) _ _)); with_reducible refine' EW.var (by with_unfolding_all exact rfl) ?_) | (with_reducible first | refine' EW.cst ?_ | refine' EW.e1 ?_ | refine' EW.e2 ?_ | refine' EW.call ?_ | refine' EW.tup ?_ | refine' EW.lst ?_ | refine' EW.or ?_ | refine' EW.e3c ?_ | refine' EW.comp ?_ | refine' EsW.nil ?_ | refine' EsW.cons ?_ | refine' TW.c ?_) | ((with_reducible refine (?_ : TpK _ _)); with_reducible refine' TpK.mk (by with_unfolding_all exact Nat.le_of_ble_eq_true rfl) ?_) | ((with_reducible refine (?_ : LsK _ _)); with_reducible refine' LsK.mk (by with_unfolding_all exact Nat.le_of_ble_eq_true rfl) ?_) | (with_reducible first | refine' TW.tOf ?_ | refine' TW.not ?_ | refine' TW.and ?_ | refine' TW.or ?_) | ((with_reducible refine (?_ : CW _ _ _)); with_reducible refine' CW.of (by with_reducible assumption) ?_) | ((with_reducible refine (?_ : CW fPow3 _ _)); with_reducible refine' CW.pow3 (by with_unfolding_all first | decide | omega) (by with_reducible assumption) ?_) | ((with_reducible refine (?_ : OW _ _ _ _)); with_reducible refine' OW.of (by with_reducible assumption) ?_) | (with_reducible first | refine' OW.add ?_ | refine' OW.addI ?_ | refine' OW.sub ?_ | refine' OW.and ?_ | refine' OW.ord ?_ | refine' OW.eq ?_ | refine' OW.ne ?_) | ((with_reducible refine (?_ : OW fMul _ _ _)); with_reducible refine' OW.mul (by first | with_reducible assumption | with_unfolding_all exact mulOk_sm (by omega) (by omega) | with_unfolding_all exact mulOk_bd (by repeat' kt_len) (by repeat' kt_len) (Nat.le_of_ble_eq_true rfl)) ?_) | ((with_reducible refine (?_ : OW fDiv _ _ _)); with_reducible refine' OW.div (by with_reducible assumption) ?_) | ((with_reducible refine (?_ : OW fMod _ _ _)); with_reducible refine' OW.mod (by first | with_reducible assumption | with_unfolding_all omega) ?_) | ((with_reducible refine (?_ : OW fPow _ _ _)); with_reducible refine' OW.pow (by with_reducible assumption) ?_) | (with_reducible first | refine' UW.neg ?_) | ((with_reducible refine (?_ : UW _ _ _)); with_reducible refine' UW.of (by with_reducible assumption) ?_) | (with_reducible first | refine' CW.max ?_ | refine' CW.range2 ?_) | ((with_reducible refine (?_ : CW _ _ _)); with_reducible refine' CW.fn (by with_unfolding_all (repeat (first | exact StartsAt.nil | apply StartsAt.cons | apply StartsAt.unb))) (by with_unfolding_all exact rfl) ?_) | (with_reducible first | refine' KK.use (by with_reducible assumption) ?_))
            exact ⟨l, _, R, lost, _, rfl, hl2, hr, nS, rfl⟩
    rintro σ ⟨l, Q, here, lost, sl, e, hl, hr, hS, rfl⟩
    cases l with
    | cons m l => cases e
    | nil =>
      have hQ : Q = runQ (cI n s) n m1 (q0I n s) := hr
      try refine KK.use (by with_reducible assumption) ?_
      rw [← hQ]
      clear hr hQ e hl
      have hz := Sst.z pk hS
      obtain ⟨early, hV⟩ : ∃ v, decide ((q : Int) ∣ Q.2) = v := ⟨_, rfl⟩
      rw [hV]
      repeat' ((fail_if_success (with_reducible refine (?_ : @Eq _ _ _))); first | (with_reducible first | refine' CK.ret ?_ | refine' SK.next ?_ | refine' SK.ret ?_ | refine' SK.cont ?_ | refine' LK.next ?_ | refine' LK.cont ?_ | refine' RW.nil ?_ | refine' RW.seqK (fun K hK => ?_)) | ((with_reducible refine (?_ : RW _ _ _ _)); with_reducible refine' RW.lenOk (by with_unfolding_all exact rfl) ?_) | (with_reducible first | refine' SW.of ?_ | refine' PutAt.of ?_ ?_) | with_reducible exact SetR.z | (with_reducible first | refine' SetR.s3 ?_ | refine' SetR.s ?_) | (with_reducible refine (?_ : SetR _ (0 + 1) _ _)); refine SetR.s ?_ | ((with_reducible refine (?_ : RW _ _ _ _)); with_reducible refine' RW.retF (E := eVar _) (by with_unfolding_all exact rfl) ?_) | (with_reducible first | refine' RW.asg ?_ | refine' RW.ret ?_) | (fail_if_success (have : StopIf := by with_reducible assumption)); (with_reducible refine' RW.if ?_) | (with_reducible first | refine' RW.tup ?_ | refine' RW.for ?_ | refine' RW.while ?_ | refine' RW.new ?_) | ((with_reducible refine (?_ : RW _ _ _ _)); with_reducible refine' RW.app (by with_unfolding_all exact rfl) (by first | with_reducible assumption | with_unfolding_all exact Nat.le_of_ble_eq_true rfl) ?_) | ((with_reducible refine (?_ : RW _ _ _ _)); with_reducible refine' RW.aug (by with_unfolding_all exact rfl) ?_) | (with_reducible first | refine' TupK.two_t ?_ | refine' TupK.two_f ?_ | refine' TupK.four_f ?_ | refine' IfK.t ?_ | refine' IfK.f ?_) | (with_reducible refine' IfK.gd ?_; with_reducible refine' IfK.decT (by first | with_reducible assumption | with_unfolding_all omega) ?_) | (with_reducible refine' IfK.gd ?_; with_reducible refine' IfK.decF (by first | with_reducible assumption | with_unfolding_all omega) ?_) | (with_reducible first | refine' NotK.t ?_ | refine' NotK.f ?_ | refine' TruthK.bool ?_ | refine' TruthK.int ?_) | ((with_reducible refine (?_ : EW (eVar _) _ _)); with_reducible refine' EW.var (by with_unfolding_all exact rfl) ?_) | (with_reducible first | refine' EW.cst ?_ | refine' EW.e1 ?_ | refine' EW.e2 ?_ | refine' EW.call ?_ | refine' EW.tup ?_ | refine' EW.lst ?_ | refine' EW.or ?_ | refine' EW.e3c ?_ | refine' EW.comp ?_ | refine' EsW.nil ?_ | refine' EsW.cons ?_ | refine' TW.c ?_) | ((with_reducible refine (?_ : TpK _ _)); with_reducible refine' TpK.mk (by with_unfolding_all exact Nat.le_of_ble_eq_true rfl) ?_) | ((with_reducible refine (?_ : LsK _ _)); with_reducible refine' LsK.mk (by with_unfolding_all exact Nat.le_of_ble_eq_true rfl) ?_) | (with_reducible first | refine' TW.tOf ?_ | refine' TW.not ?_ | refine' TW.and ?_ | refine' TW.or ?_) | ((with_reducible refine (?_ : CW _ _ _)); with_reducible refine' CW.of (by with_reducible assumption) ?_) | ((with_reducible refine (?_ : CW fPow3 _ _)); with_reducible refine' CW.pow3 (by with_unfolding_all first | decide | omega) (by with_reducible assumption) ?_) | ((with_reducible refine (?_ : OW _ _ _ _)); with_reducible refine' OW.of (by with_reducible assumption) ?_) | (with_reducible first | refine' OW.add ?_ | refine' OW.addI ?_ | refine' OW.sub ?_ | refine' OW.and ?_ | refine' OW.ord ?_ | refine' OW.eq ?_ | refine' OW.ne ?_) | ((with_reducible refine (?_ : OW fMul _ _ _)); with_reducible refine' OW.mul (by first | with_reducible assumption | with_unfolding_all exact mulOk_sm (by omega) (by omega) | with_unfolding_all exact mulOk_bd (by repeat' kt_len) (by repeat' kt_len) (Nat.le_of_ble_eq_true rfl)) ?_) | ((with_reducible refine (?_ : OW fDiv _ _ _)); with_reducible refine' OW.div (by with_reducible assumption) ?_) | ((with_reducible refine (?_ : OW fMod _ _ _)); with_reducible refine' OW.mod (by first | with_reducible assumption | with_unfolding_all omega) ?_) | ((with_reducible refine (?_ : OW fPow _ _ _)); with_reducible refine' OW.pow (by with_reducible assumption) ?_) | (with_reducible first | refine' UW.neg ?_) | ((with_reducible refine (?_ : UW _ _ _)); with_reducible refine' UW.of (by with_reducible assumption) ?_) | (with_reducible first | refine' CW.max ?_ | refine' CW.range2 ?_) | ((with_reducible refine (?_ : CW _ _ _)); with_reducible refine' CW.fn (by with_unfolding_all (repeat (first | exact StartsAt.nil | apply StartsAt.cons | apply StartsAt.unb))) (by with_unfolding_all exact rfl) ?_) | (with_reducible first | refine' KK.use (by with_reducible assumption) ?_))
      refine IfK.orE (.bool early) ?_ ?_ ?_
      · intro h kk
        have e : early = true := by rw [← hV, decide_eq_true (hz.mp (.inl h))]
        clear hV
        subst e
        subst h
        exact kk
      · intro h
        cases here with
        | none =>
          have w1 := fEq_unit0
          repeat' ((fail_if_success (with_reducible refine (?_ : @Eq _ _ _))); first | (with_reducible first | refine' CK.ret ?_ | refine' SK.next ?_ | refine' SK.ret ?_ | refine' SK.cont ?_ | refine' LK.next ?_ | refine' LK.cont ?_ | refine' RW.nil ?_ | refine' RW.seqK (fun K hK => ?_)) | ((with_reducible refine (?_ : RW _ _ _ _)); with_reducible refine' RW.lenOk (by with_unfolding_all exact rfl) ?_) | (with_reducible first | refine' SW.of ?_ | refine' PutAt.of ?_ ?_) | with_reducible exact SetR.z | (with_reducible first | refine' SetR.s3 ?_ | refine' SetR.s ?_) | (with_reducible refine (?_ : SetR _ (0 + 1) _ _)); refine SetR.s ?_ | ((with_reducible refine (?_ : RW _ _ _ _)); with_reducible refine' RW.retF (E := eVar _) (by with_unfolding_all exact rfl) ?_) | (with_reducible first | refine' RW.asg ?_ | refine' RW.ret ?_) | (fail_if_success (have : StopIf := by with_reducible assumption)); (with_reducible refine' RW.if ?_) | (with_reducible first | refine' RW.tup ?_ | refine' RW.for ?_ | refine' RW.while ?_ | refine' RW.new ?_) | ((with_reducible refine (?_ : RW _ _ _ _)); with_reducible refine' RW.app (by with_unfolding_all exact rfl) (by first | with_reducible assumption | with_unfolding_all exact Nat.le_of_ble_eq_true rfl) ?_) | ((with_reducible refine (?_ : RW _ _ _ _)); with_reducible refine' RW.aug (by with_unfolding_all exact rfl) ?_) | (with_reducible first | refine' TupK.two_t ?_ | refine' TupK.two_f ?_ | refine' TupK.four_f ?_ | refine' IfK.t ?_ | refine' IfK.f ?_) | (with_reducible refine' IfK.gd ?_; with_reducible refine' IfK.decT (by first | with_reducible assumption | with_unfolding_all omega) ?_) | (with_reducible refine' IfK.gd ?_; with_reducible refine' IfK.decF (by first | with_reducible assumption | with_unfolding_all omega) ?_) | (with_reducible first | refine' NotK.t ?_ | refine' NotK.f ?_ | refine' TruthK.bool ?_ | refine' TruthK.int ?_) | ((with_reducible refine (?_ : EW (eVar _) _ _)); with_reducible refine' EW.var (by with_unfolding_all exact rfl) ?_) | (with_reducible first | refine' EW.cst ?_ | refine' EW.e1 ?_ | refine' EW.e2 ?_ | refine' EW.call ?_ | refine' EW.tup ?_ | refine' EW.lst ?_ | refine' EW.or ?_ | refine' EW.e3c ?_ | refine' EW.comp ?_ | refine' EsW.nil ?_ | refine' EsW.cons ?_ | refine' TW.c ?_) | ((with_reducible refine (?_ : TpK _ _)); with_reducible refine' TpK.mk (by with_unfolding_all exact Nat.le_of_ble_eq_true rfl) ?_) | ((with_reducible refine (?_ : LsK _ _)); with_reducible refine' LsK.mk (by with_unfolding_all exact Nat.le_of_ble_eq_true rfl) ?_) | (with_reducible first | refine' TW.tOf ?_ | refine' TW.not ?_ | refine' TW.and ?_ | refine' TW.or ?_) | ((with_reducible refine (?_ : CW _ _ _)); with_reducible refine' CW.of (by with_reducible assumption) ?_) | ((with_reducible refine (?_ : CW fPow3 _ _)); with_reducible refine' CW.pow3 (by with_unfolding_all first | decide | omega) (by with_reducible assumption) ?_) | ((with_reducible refine (?_ : OW _ _ _ _)); with_reducible refine' OW.of (by with_reducible assumption) ?_) | (with_reducible first | refine' OW.add ?_ | refine' OW.addI ?_ | refine' OW.sub ?_ | refine' OW.and ?_ | refine' OW.ord ?_ | refine' OW.eq ?_ | refine' OW.ne ?_) | ((with_reducible refine (?_ : OW fMul _ _ _)); with_reducible refine' OW.mul (by first | with_reducible assumption | with_unfolding_all exact mulOk_sm (by omega) (by omega) | with_unfolding_all exact mulOk_bd (by repeat' kt_len) (by repeat' kt_len) (Nat.le_of_ble_eq_true rfl)) ?_) | ((with_reducible refine (?_ : OW fDiv _ _ _)); with_reducible refine' OW.div (by with_reducible assumption) ?_) | ((with_reducible refine (?_ : OW fMod _ _ _)); with_reducible refine' OW.mod (by first | with_reducible assumption | with_unfolding_all omega) ?_) | ((with_reducible refine (?_ : OW fPow _ _ _)); with_reducible refine' OW.pow (by with_reducible assumption) ?_) | (with_reducible first | refine' UW.neg ?_) | ((with_reducible refine (?_ : UW _ _ _)); with_reducible refine' UW.of (by with_reducible assumption) ?_) | (with_reducible first | refine' CW.max ?_ | refine' CW.range2 ?_) | ((with_reducible refine (?_ : CW _ _ _)); with_reducible refine' CW.fn (by with_unfolding_all (repeat (first | exact StartsAt.nil | apply StartsAt.cons | apply StartsAt.unb))) (by with_unfolding_all exact rfl) ?_) | (with_reducible first | refine' KK.use (by with_reducible assumption) ?_))
          rw [← hV, decide_eq_true (hz.mp (.inr rfl))]
        | some P =>
          have w1 := fEq_unit1 P
          have : ¬ (q : Int) ∣ Q.2 := fun h' => by
            rcases hz.mpr h' with e | e
            · rw [h] at e; cases e
            · cases e
          repeat' ((fail_if_success (with_reducible refine (?_ : @Eq _ _ _))); first | (with_reducible first | refine' CK.ret ?_ | refine' SK.next ?_ | refine' SK.ret ?_ | refine' SK.cont ?_ | refine' LK.next ?_ | refine' LK.cont ?_ | refine' RW.nil ?_ | refine' RW.seqK (fun K hK => ?_)) | ((with_reducible refine (?_ : RW _ _ _ _)); with_reducible refine' RW.lenOk (by with_unfolding_all exact rfl) ?_) | (with_reducible first | refine' SW.of ?_ | refine' PutAt.of ?_ ?_) | with_reducible exact SetR.z | (with_reducible first | refine' SetR.s3 ?_ | refine' SetR.s ?_) | (with_reducible refine (?_ : SetR _ (0 + 1) _ _)); refine SetR.s ?_ | ((with_reducible refine (?_ : RW _ _ _ _)); with_reducible refine' RW.retF (E := eVar _) (by with_unfolding_all exact rfl) ?_) | (with_reducible first | refine' RW.asg ?_ | refine' RW.ret ?_) | (fail_if_success (have : StopIf := by with_reducible assumption)); (with_reducible refine' RW.if ?_) | (with_reducible first | refine' RW.tup ?_ | refine' RW.for ?_ | refine' RW.while ?_ | refine' RW.new ?_) | ((with_reducible refine (?_ : RW _ _ _ _)); with_reducible refine' RW.app (by with_unfolding_all exact rfl) (by first | with_reducible assumption | with_unfolding_all exact Nat.le_of_ble_eq_true rfl) ?_) | ((with_reducible refine (?_ : RW _ _ _ _)); with_reducible refine' RW.aug (by with_unfolding_all exact rfl) ?_) | (with_reducible first | refine' TupK.two_t ?_ | refine' TupK.two_f ?_ | refine' TupK.four_f ?_ | refine' IfK.t ?_ | refine' IfK.f ?_) | (with_reducible refine' IfK.gd ?_; with_reducible refine' IfK.decT (by first | with_reducible assumption | with_unfolding_all omega) ?_) | (with_reducible refine' IfK.gd ?_; with_reducible refine' IfK.decF (by first | with_reducible assumption | with_unfolding_all omega) ?_) | (with_reducible first | refine' NotK.t ?_ | refine' NotK.f ?_ | refine' TruthK.bool ?_ | refine' TruthK.int ?_) | ((with_reducible refine (?_ : EW (eVar _) _ _)); with_reducible refine' EW.var (by with_unfolding_all exact rfl) ?_) | (with_reducible first | refine' EW.cst ?_ | refine' EW.e1 ?_ | refine' EW.e2 ?_ | refine' EW.call ?_ | refine' EW.tup ?_ | refine' EW.lst ?_ | refine' EW.or ?_ | refine' EW.e3c ?_ | refine' EW.comp ?_ | refine' EsW.nil ?_ | refine' EsW.cons ?_ | refine' TW.c ?_) | ((with_reducible refine (?_ : TpK _ _)); with_reducible refine' TpK.mk (by with_unfolding_all exact Nat.le_of_ble_eq_true rfl) ?_) | ((with_reducible refine (?_ : LsK _ _)); with_reducible refine' LsK.mk (by with_unfolding_all exact Nat.le_of_ble_eq_true rfl) ?_) | (with_reducible first | refine' TW.tOf ?_ | refine' TW.not ?_ | refine' TW.and ?_ | refine' TW.or ?_) | ((with_reducible refine (?_ : CW _ _ _)); with_reducible refine' CW.of (by with_reducible assumption) ?_) | ((with_reducible refine (?_ : CW fPow3 _ _)); with_reducible refine' CW.pow3 (by with_unfolding_all first | decide | omega) (by with_reducible assumption) ?_) | ((with_reducible refine (?_ : OW _ _ _ _)); with_reducible refine' OW.of (by with_reducible assumption) ?_) | (with_reducible first | refine' OW.add ?_ | refine' OW.addI ?_ | refine' OW.sub ?_ | refine' OW.and ?_ | refine' OW.ord ?_ | refine' OW.eq ?_ | refine' OW.ne ?_) | ((with_reducible refine (?_ : OW fMul _ _ _)); with_reducible refine' OW.mul (by first | with_reducible assumption | with_unfolding_all exact mulOk_sm (by omega) (by omega) | with_unfolding_all exact mulOk_bd (by repeat' kt_len) (by repeat' kt_len) (Nat.le_of_ble_eq_true rfl)) ?_) | ((with_reducible refine (?_ : OW fDiv _ _ _)); with_reducible refine' OW.div (by with_reducible assumption) ?_) | ((with_reducible refine (?_ : OW fMod _ _ _)); with_reducible refine' OW.mod (by first | with_reducible assumption | with_unfolding_all omega) ?_) | ((with_reducible refine (?_ : OW fPow _ _ _)); with_reducible refine' OW.pow (by with_reducible assumption) ?_) | (with_reducible first | refine' UW.neg ?_) | ((with_reducible refine (?_ : UW _ _ _)); with_reducible refine' UW.of (by with_reducible assumption) ?_) | (with_reducible first | refine' CW.max ?_ | refine' CW.range2 ?_) | ((with_reducible refine (?_ : CW _ _ _)); with_reducible refine' CW.fn (by with_unfolding_all (repeat (first | exact StartsAt.nil | apply StartsAt.cons | apply StartsAt.unb))) (by with_unfolding_all exact rfl) ?_) | (with_reducible first | refine' KK.use (by with_reducible assumption) ?_))
          rw [← hV, decide_eq_false this]
      clear hz hV
      repeat' ((fail_if_success (with_reducible refine (?_ : @Eq _ _ _))); first | (with_reducible first | refine' CK.ret ?_ | refine' SK.next ?_ | refine' SK.ret ?_ | refine' SK.cont ?_ | refine' LK.next ?_ | refine' LK.cont ?_ | refine' RW.nil ?_ | refine' RW.seqK (fun K hK => ?_)) | ((with_reducible refine (?_ : RW _ _ _ _)); with_reducible refine' RW.lenOk (by with_unfolding_all exact rfl) ?_) | (with_reducible first | refine' SW.of ?_ | refine' PutAt.of ?_ ?_) | with_reducible exact SetR.z | (with_reducible first | refine' SetR.s3 ?_ | refine' SetR.s ?_) | (with_reducible refine (?_ : SetR _ (0 + 1) _ _)); refine SetR.s ?_ | ((with_reducible refine (?_ : RW _ _ _ _)); with_reducible refine' RW.retF (E := eVar _) (by with_unfolding_all exact rfl) ?_) | (with_reducible first | refine' RW.asg ?_ | refine' RW.ret ?_) | (fail_if_success (have : StopIf := by with_reducible assumption)); (with_reducible refine' RW.if ?_) | (with_reducible first | refine' RW.tup ?_ | refine' RW.for ?_ | refine' RW.while ?_ | refine' RW.new ?_) | ((with_reducible refine (?_ : RW _ _ _ _)); with_reducible refine' RW.app (by with_unfolding_all exact rfl) (by first | with_reducible assumption | with_unfolding_all exact Nat.le_of_ble_eq_true rfl) ?_) | ((with_reducible refine (?_ : RW _ _ _ _)); with_reducible refine' RW.aug (by with_unfolding_all exact rfl) ?_) | (with_reducible first | refine' TupK.two_t ?_ | refine' TupK.two_f ?_ | refine' TupK.four_f ?_ | refine' IfK.t ?_ | refine' IfK.f ?_) | (with_reducible refine' IfK.gd ?_; with_reducible refine' IfK.decT (by first | with_reducible assumption | with_unfolding_all omega) ?_) | (with_reducible refine' IfK.gd ?_; with_reducible refine' IfK.decF (by first | with_reducible assumption | with_unfolding_all omega) ?_) | (with_reducible first | refine' NotK.t ?_ | refine' NotK.f ?_ | refine' TruthK.bool ?_ | refine' TruthK.int ?_) | ((with_reducible refine (?_ : EW (eVar _) _ _)); with_reducible refine' EW.var (by with_unfolding_all exact rfl) ?_) | (with_reducible first | refine' EW.cst ?_ | refine' EW.e1 ?_ | refine' EW.e2 ?_ | refine' EW.call ?_ | refine' EW.tup ?_ | refine' EW.lst ?_ | refine' EW.or ?_ | refine' EW.e3c ?_ | refine' EW.comp ?_ | refine' EsW.nil ?_ | refine' EsW.cons ?_ | refine' TW.c ?_) | ((with_reducible refine (?_ : TpK _ _)); with_reducible refine' TpK.mk (by with_unfolding_all exact Nat.le_of_ble_eq_true rfl) ?_) | ((with_reducible refine (?_ : LsK _ _)); with_reducible refine' LsK.mk (by with_unfolding_all exact Nat.le_of_ble_eq_true rfl) ?_) | (with_reducible first | refine' TW.tOf ?_ | refine' TW.not ?_ | refine' TW.and ?_ | refine' TW.or ?_) | ((with_reducible refine (?_ : CW _ _ _)); with_reducible refine' CW.of (by with_reducible assumption) ?_) | ((with_reducible refine (?_ : CW fPow3 _ _)); with_reducible refine' CW.pow3 (by with_unfolding_all first | decide | omega) (by with_reducible assumption) ?_) | ((with_reducible refine (?_ : OW _ _ _ _)); with_reducible refine' OW.of (by with_reducible assumption) ?_) | (with_reducible first | refine' OW.add ?_ | refine' OW.addI ?_ | refine' OW.sub ?_ | refine' OW.and ?_ | refine' OW.ord ?_ | refine' OW.eq ?_ | refine' OW.ne ?_) | ((with_reducible refine (?_ : OW fMul _ _ _)); with_reducible refine' OW.mul (by first | with_reducible assumption | with_unfolding_all exact mulOk_sm (by omega) (by omega) | with_unfolding_all exact mulOk_bd (by repeat' kt_len) (by repeat' kt_len) (Nat.le_of_ble_eq_true rfl)) ?_) | ((with_reducible refine (?_ : OW fDiv _ _ _)); with_reducible refine' OW.div (by with_reducible assumption) ?_) | ((with_reducible refine (?_ : OW fMod _ _ _)); with_reducible refine' OW.mod (by first | with_reducible assumption | with_unfolding_all omega) ?_) | ((with_reducible refine (?_ : OW fPow _ _ _)); with_reducible refine' OW.pow (by with_reducible assumption) ?_) | (with_reducible first | refine' UW.neg ?_) | ((with_reducible refine (?_ : UW _ _ _)); with_reducible refine' UW.of (by with_reducible assumption) ?_) | (with_reducible first | refine' CW.max ?_ | refine' CW.range2 ?_) | ((with_reducible refine (?_ : CW _ _ _)); with_reducible refine' CW.fn (by with_unfolding_all (repeat (first | exact StartsAt.nil | apply StartsAt.cons | apply StartsAt.unb))) (by with_unfolding_all exact rfl) ?_) | (with_reducible first | refine' KK.use (by with_reducible assumption) ?_))
      refine ForK.of rfl (items_lst (by rw [intsD_length, natI_length, List.length_map]; omega)) (LW.inv (fun ds σ => ∃ (l : List Nat) (Q' : Int × Int) (here : PI) (lost late : Bool) (sl : Slot), ds = intsD (natI (l.map eff)) ∧ (∀ m ∈ l, 2 ≤ m ∧ m ≤ 100) ∧ (late || anyZ (cI n s) n q l Q') = (early || anyZ (cI n s) n q m2 Q) ∧ Sst q TT HH Q' here lost ∧ σ = [.imm (.int (q : Int)), .imm (.int s), .imm (.lst (intsD (natI (m1.map eff)))), .imm (.lst (intsD (natI (m2.map eff)))), .imm (.int ((s * s - 5).fmod q)), .imm (.int ((4 * s).fmod q)), .imm (.int (aI q s)), .imm (.int (xI q s)), .imm (.int A2), .imm (.int A4), .imm (ptD here), .imm (.int ST), .imm (.bool lost), sl, .imm (.bool early), .imm (.bool late)]) ⟨m2, Q, here, lost, early, _, rfl, hm2, rfl, hS, rfl⟩ ?_ ?_)
      · rintro d' ds σ ⟨l, Q, here, lost, late, sl, e, hl, hr, hS, rfl⟩
        cases l with
        | nil => cases e
        | cons m l =>
          cases e
          have hm := hl m (.head _)
          have hl2 : ∀ x ∈ l, 2 ≤ x ∧ x ≤ 100 := fun x hx => hl x (.tail _ hx)
          refine ⟨rfl, ?_⟩
          have stop : StopIf := trivial
          repeat' ((fail_if_success (with_reducible refine (?_ : @Eq _ _ _))); first | (with_reducible first | refine' CK.ret ?_ | refine' SK.next ?_ | refine' SK.ret ?_ | refine' SK.cont ?_ | refine' LK.next ?_ | refine' LK.cont ?_ | refine' RW.nil ?_ | refine' RW.seqK (fun K hK => ?_)) | ((with_reducible refine (?_ : RW _ _ _ _)); with_reducible refine' RW.lenOk (by with_unfolding_all exact rfl) ?_) | (with_reducible first | refine' SW.of ?_ | refine' PutAt.of ?_ ?_) | with_reducible exact SetR.z | (with_reducible first | refine' SetR.s3 ?_ | refine' SetR.s ?_) | (with_reducible refine (?_ : SetR _ (0 + 1) _ _)); refine SetR.s ?_ | ((with_reducible refine (?_ : RW _ _ _ _)); with_reducible refine' RW.retF (E := eVar _) (by with_unfolding_all exact rfl) ?_) | (with_reducible first | refine' RW.asg ?_ | refine' RW.ret ?_) | (fail_if_success (have : StopIf := by with_reducible assumption)); (with_reducible refine' RW.if ?_) | (with_reducible first | refine' RW.tup ?_ | refine' RW.for ?_ | refine' RW.while ?_ | refine' RW.new ?_) | ((with_reducible refine (?_ : RW _ _ _ _)); with_reducible refine' RW.app (by with_unfolding_all exact rfl) (by first | with_reducible assumption | with_unfolding_all exact Nat.le_of_ble_eq_true rfl) ?_) | ((with_reducible refine (?_ : RW _ _ _ _)); with_reducible refine' RW.aug (by with_unfolding_all exact rfl) ?_) | (with_reducible first | refine' TupK.two_t ?_ | refine' TupK.two_f ?_ | refine' TupK.four_f ?_ | refine' IfK.t ?_ | refine' IfK.f ?_) | (with_reducible refine' IfK.gd ?_; with_reducible refine' IfK.decT (by first | with_reducible assumption | with_unfolding_all omega) ?_) | (with_reducible refine' IfK.gd ?_; with_reducible refine' IfK.decF (by first | with_reducible assumption | with_unfolding_all omega) ?_) | (with_reducible first | refine' NotK.t ?_ | refine' NotK.f ?_ | refine' TruthK.bool ?_ | refine' TruthK.int ?_) | ((with_reducible refine (?_ : EW (eVar _) _ _)); with_reducible refine' EW.var (by with_unfolding_all exact rfl) ?_) | (with_reducible first | refine' EW.cst ?_ | refine' EW.e1 ?_ | refine' EW.e2 ?_ | refine' EW.call ?_ | refine' EW.tup ?_ | refine' EW.lst ?_ | refine' EW.or ?_ | refine' EW.e3c ?_ | refine' EW.comp ?_ | refine' EsW.nil ?_ | refine' EsW.cons ?_ | refine' TW.c ?_) | ((with_reducible refine (?_ : TpK _ _)); with_reducible refine' TpK.mk (by with_unfolding_all exact Nat.le_of_ble_eq_true rfl) ?_) | ((with_reducible refine (?_ : LsK _ _)); with_reducible refine' LsK.mk (by with_unfolding_all exact Nat.le_of_ble_eq_true rfl) ?_) | (with_reducible first | refine' TW.tOf ?_ | refine' TW.not ?_ | refine' TW.and ?_ | refine' TW.or ?_) | ((with_reducible refine (?_ : CW _ _ _)); with_reducible refine' CW.of (by with_reducible assumption) ?_) | ((with_reducible refine (?_ : CW fPow3 _ _)); with_reducible refine' CW.pow3 (by with_unfolding_all first | decide | omega) (by with_reducible assumption) ?_) | ((with_reducible refine (?_ : OW _ _ _ _)); with_reducible refine' OW.of (by with_reducible assumption) ?_) | (with_reducible first | refine' OW.add ?_ | refine' OW.addI ?_ | refine' OW.sub ?_ | refine' OW.and ?_ | refine' OW.ord ?_ | refine' OW.eq ?_ | refine' OW.ne ?_) | ((with_reducible refine (?_ : OW fMul _ _ _)); with_reducible refine' OW.mul (by first | with_reducible assumption | with_unfolding_all exact mulOk_sm (by omega) (by omega) | with_unfolding_all exact mulOk_bd (by repeat' kt_len) (by repeat' kt_len) (Nat.le_of_ble_eq_true rfl)) ?_) | ((with_reducible refine (?_ : OW fDiv _ _ _)); with_reducible refine' OW.div (by with_reducible assumption) ?_) | ((with_reducible refine (?_ : OW fMod _ _ _)); with_reducible refine' OW.mod (by first | with_reducible assumption | with_unfolding_all omega) ?_) | ((with_reducible refine (?_ : OW fPow _ _ _)); with_reducible refine' OW.pow (by with_reducible assumption) ?_) | (with_reducible first | refine' UW.neg ?_) | ((with_reducible refine (?_ : UW _ _ _)); with_reducible refine' UW.of (by with_reducible assumption) ?_) | (with_reducible first | refine' CW.max ?_ | refine' CW.range2 ?_) | ((with_reducible refine (?_ : CW _ _ _)); with_reducible refine' CW.fn (by with_unfolding_all (repeat (first | exact StartsAt.nil | apply StartsAt.cons | apply StartsAt.unb))) (by with_unfolding_all exact rfl) ?_) | (with_reducible first | refine' KK.use (by with_reducible assumption) ?_))
          clear stop
          refine RW.mid (fun σ => ∃ (here : PI) (lost : Bool), Sst q TT HH (mulF m Q (cI n s) n) here lost ∧ σ = [.imm (.int (q : Int)), .imm (.int s), .imm (.lst (intsD (natI (m1.map eff)))), .imm (.lst (intsD (natI (m2.map eff)))), .imm (.int ((s * s - 5).fmod q)), .imm (.int ((4 * s).fmod q)), .imm (.int (aI q s)), .imm (.int (xI q s)), .imm (.int A2), .imm (.int A4), .imm (ptD here), .imm (.int ST), .imm (.bool lost), .imm (.int (eff m : Nat)), .imm (.bool early), .imm (.bool late)]) ?_ ?_
          · cases here with
            | none =>
              have w1 := fEq_unit0
              have nS := Sst.step1 pk T3 hn hS (.inl rfl) (m := m) (A := cI n s) hm.1
              repeat' ((fail_if_success (with_reducible refine (?_ : @Eq _ _ _))); first | (with_reducible first | refine' CK.ret ?_ | refine' SK.next ?_ | refine' SK.ret ?_ | refine' SK.cont ?_ | refine' LK.next ?_ | refine' LK.cont ?_ | refine' RW.nil ?_ | refine' RW.seqK (fun K hK => ?_)) | ((with_reducible refine (?_ : RW _ _ _ _)); with_reducible refine' RW.lenOk (by with_unfolding_all exact rfl) ?_) | (with_reducible first | refine' SW.of ?_ | refine' PutAt.of ?_ ?_) | with_reducible exact SetR.z | (with_reducible first | refine' SetR.s3 ?_ | refine' SetR.s ?_) | (with_reducible refine (?_ : SetR _ (0 + 1) _ _)); refine SetR.s ?_ | ((with_reducible refine (?_ : RW _ _ _ _)); with_reducible refine' RW.retF (E := eVar _) (by with_unfolding_all exact rfl) ?_) | (with_reducible first | refine' RW.asg ?_ | refine' RW.ret ?_) | (fail_if_success (have : StopIf := by with_reducible assumption)); (with_reducible refine' RW.if ?_) | (with_reducible first | refine' RW.tup ?_ | refine' RW.for ?_ | refine' RW.while ?_ | refine' RW.new ?_) | ((with_reducible refine (?_ : RW _ _ _ _)); with_reducible refine' RW.app (by with_unfolding_all exact rfl) (by first | with_reducible assumption | with_unfolding_all exact Nat.le_of_ble_eq_true rfl) ?_) | ((with_reducible refine (?_ : RW _ _ _ _)); with_reducible refine' RW.aug (by with_unfolding_all exact rfl) ?_) | (with_reducible first | refine' TupK.two_t ?_ | refine' TupK.two_f ?_ | refine' TupK.four_f ?_ | refine' IfK.t ?_ | refine' IfK.f ?_) | (with_reducible refine' IfK.gd ?_; with_reducible refine' IfK.decT (by first | with_reducible assumption | with_unfolding_all omega) ?_) | (with_reducible refine' IfK.gd ?_; with_reducible refine' IfK.decF (by first | with_reducible assumption | with_unfolding_all omega) ?_) | (with_reducible first | refine' NotK.t ?_ | refine' NotK.f ?_ | refine' TruthK.bool ?_ | refine' TruthK.int ?_) | ((with_reducible refine (?_ : EW (eVar _) _ _)); with_reducible refine' EW.var (by with_unfolding_all exact rfl) ?_) | (with_reducible first | refine' EW.cst ?_ | refine' EW.e1 ?_ | refine' EW.e2 ?_ | refine' EW.call ?_ | refine' EW.tup ?_ | refine' EW.lst ?_ | refine' EW.or ?_ | refine' EW.e3c ?_ | refine' EW.comp ?_ | refine' EsW.nil ?_ | refine' EsW.cons ?_ | refine' TW.c ?_) | ((with_reducible refine (?_ : TpK _ _)); with_reducible refine' TpK.mk (by with_unfolding_all exact Nat.le_of_ble_eq_true rfl) ?_) | ((with_reducible refine (?_ : LsK _ _)); with_reducible refine' LsK.mk (by with_unfolding_all exact Nat.le_of_ble_eq_true rfl) ?_) | (with_reducible first | refine' TW.tOf ?_ | refine' TW.not ?_ | refine' TW.and ?_ | refine' TW.or ?_) | ((with_reducible refine (?_ : CW _ _ _)); with_reducible refine' CW.of (by with_reducible assumption) ?_) | ((with_reducible refine (?_ : CW fPow3 _ _)); with_reducible refine' CW.pow3 (by with_unfolding_all first | decide | omega) (by with_reducible assumption) ?_) | ((with_reducible refine (?_ : OW _ _ _ _)); with_reducible refine' OW.of (by with_reducible assumption) ?_) | (with_reducible first | refine' OW.add ?_ | refine' OW.addI ?_ | refine' OW.sub ?_ | refine' OW.and ?_ | refine' OW.ord ?_ | refine' OW.eq ?_ | refine' OW.ne ?_) | ((with_reducible refine (?_ : OW fMul _ _ _)); with_reducible refine' OW.mul (by first | with_reducible assumption | with_unfolding_all exact mulOk_sm (by omega) (by omega) | with_unfolding_all exact mulOk_bd (by repeat' kt_len) (by repeat' kt_len) (Nat.le_of_ble_eq_true rfl)) ?_) | ((with_reducible refine (?_ : OW fDiv _ _ _)); with_reducible refine' OW.div (by with_reducible assumption) ?_) | ((with_reducible refine (?_ : OW fMod _ _ _)); with_reducible refine' OW.mod (by first | with_reducible assumption | with_unfolding_all omega) ?_) | ((with_reducible refine (?_ : OW fPow _ _ _)); with_reducible refine' OW.pow (by with_reducible assumption) ?_) | (with_reducible first | refine' UW.neg ?_) | ((with_reducible refine (?_ : UW _ _ _)); with_reducible refine' UW.of (by with_reducible assumption) ?_) | (with_reducible first | refine' CW.max ?_ | refine' CW.range2 ?_) | ((with_reducible refine (?_ : CW _ _ _)); with_reducible refine' CW.fn (by with_unfolding_all (repeat (first | exact StartsAt.nil | apply StartsAt.cons | apply StartsAt.unb))) (by with_unfolding_all exact rfl) ?_) | (with_reducible first | refine' KK.use (by with_reducible assumption) ?_))
              exact ⟨rfl, _, true, nS, rfl⟩
            | some P =>
              obtain ⟨X, Y⟩ := P
              have w1 := fEq_unit1 (X, Y)
              have w2 : fSubs (ptD (some (X, Y))) (.int 0) = some (.int X) := rfl
              by_cases hX : X = 0
              · have nS := Sst.step1 pk T3 hn hS (.inr ⟨Y, by rw [hX]⟩) (m := m) (A := cI n s) hm.1
                repeat' ((fail_if_success (with_reducible refine (?_ : @Eq _ _ _))); first | (with_reducible first | refine' CK.ret ?_ | refine' SK.next ?_ | refine' SK.ret ?_ | refine' SK.cont ?_ | refine' LK.next ?_ | refine' LK.cont ?_ | refine' RW.nil ?_ | refine' RW.seqK (fun K hK => ?_)) | ((with_reducible refine (?_ : RW _ _ _ _)); with_reducible refine' RW.lenOk (by with_unfolding_all exact rfl) ?_) | (with_reducible first | refine' SW.of ?_ | refine' PutAt.of ?_ ?_) | with_reducible exact SetR.z | (with_reducible first | refine' SetR.s3 ?_ | refine' SetR.s ?_) | (with_reducible refine (?_ : SetR _ (0 + 1) _ _)); refine SetR.s ?_ | ((with_reducible refine (?_ : RW _ _ _ _)); with_reducible refine' RW.retF (E := eVar _) (by with_unfolding_all exact rfl) ?_) | (with_reducible first | refine' RW.asg ?_ | refine' RW.ret ?_) | (fail_if_success (have : StopIf := by with_reducible assumption)); (with_reducible refine' RW.if ?_) | (with_reducible first | refine' RW.tup ?_ | refine' RW.for ?_ | refine' RW.while ?_ | refine' RW.new ?_) | ((with_reducible refine (?_ : RW _ _ _ _)); with_reducible refine' RW.app (by with_unfolding_all exact rfl) (by first | with_reducible assumption | with_unfolding_all exact Nat.le_of_ble_eq_true rfl) ?_) | ((with_reducible refine (?_ : RW _ _ _ _)); with_reducible refine' RW.aug (by with_unfolding_all exact rfl) ?_) | (with_reducible first | refine' TupK.two_t ?_ | refine' TupK.two_f ?_ | refine' TupK.four_f ?_ | refine' IfK.t ?_ | refine' IfK.f ?_) | (with_reducible refine' IfK.gd ?_; with_reducible refine' IfK.decT (by first | with_reducible assumption | with_unfolding_all omega) ?_) | (with_reducible refine' IfK.gd ?_; with_reducible refine' IfK.decF (by first | with_reducible assumption | with_unfolding_all omega) ?_) | (with_reducible first | refine' NotK.t ?_ | refine' NotK.f ?_ | refine' TruthK.bool ?_ | refine' TruthK.int ?_) | ((with_reducible refine (?_ : EW (eVar _) _ _)); with_reducible refine' EW.var (by with_unfolding_all exact rfl) ?_) | (with_reducible first | refine' EW.cst ?_ | refine' EW.e1 ?_ | refine' EW.e2 ?_ | refine' EW.call ?_ | refine' EW.tup ?_ | refine' EW.lst ?_ | refine' EW.or ?_ | refine' EW.e3c ?_ | refine' EW.comp ?_ | refine' EsW.nil ?_ | refine' EsW.cons ?_ | refine' TW.c ?_) | ((with_reducible refine (?_ : TpK _ _)); with_reducible refine' TpK.mk (by with_unfolding_all exact Nat.le_of_ble_eq_true rfl) ?_) | ((with_reducible refine (?_ : LsK _ _)); with_reducible refine' LsK.mk (by with_unfolding_all exact Nat.le_of_ble_eq_true rfl) ?_) | (with_reducible first | refine' TW.tOf ?_ | refine' TW.not ?_ | refine' TW.and ?_ | refine' TW.or ?_) | ((with_reducible refine (?_ : CW _ _ _)); with_reducible refine' CW.of (by with_reducible assumption) ?_) | ((with_reducible refine (?_ : CW fPow3 _ _)); with_reducible refine' CW.pow3 (by with_unfolding_all first | decide | omega) (by with_reducible assumption) ?_) | ((with_reducible refine (?_ : OW _ _ _ _)); with_reducible refine' OW.of (by with_reducible assumption) ?_) | (with_reducible first | refine' OW.add ?_ | refine' OW.addI ?_ | refine' OW.sub ?_ | refine' OW.and ?_ | refine' OW.ord ?_ | refine' OW.eq ?_ | refine' OW.ne ?_) | ((with_reducible refine (?_ : OW fMul _ _ _)); with_reducible refine' OW.mul (by first | with_reducible assumption | with_unfolding_all exact mulOk_sm (by omega) (by omega) | with_unfolding_all exact mulOk_bd (by repeat' kt_len) (by repeat' kt_len) (Nat.le_of_ble_eq_true rfl)) ?_) | ((with_reducible refine (?_ : OW fDiv _ _ _)); with_reducible refine' OW.div (by with_reducible assumption) ?_) | ((with_reducible refine (?_ : OW fMod _ _ _)); with_reducible refine' OW.mod (by first | with_reducible assumption | with_unfolding_all omega) ?_) | ((with_reducible refine (?_ : OW fPow _ _ _)); with_reducible refine' OW.pow (by with_reducible assumption) ?_) | (with_reducible first | refine' UW.neg ?_) | ((with_reducible refine (?_ : UW _ _ _)); with_reducible refine' UW.of (by with_reducible assumption) ?_) | (with_reducible first | refine' CW.max ?_ | refine' CW.range2 ?_) | ((with_reducible refine (?_ : CW _ _ _)); with_reducible refine' CW.fn (by with_unfolding_all (repeat (first | exact StartsAt.nil | apply StartsAt.cons | apply StartsAt.unb))) (by with_unfolding_all exact rfl) ?_) | (with_reducible first | refine' KK.use (by with_reducible assumption) ?_))
                exact ⟨rfl, _, true, nS, rfl⟩
              · obtain ⟨hlf, i, hi, tS⟩ := Sst.step2 pk T3 hn cA cB hS hX (m := m) hm.1 (Nat.lt_of_le_of_lt hm.2 (by decide))
                have em := eff_le m
                obtain ⟨_, wt, R, rfl, hR⟩ := s9 HH (eff m) i (some (X, Y)) A2 A4 q (by omega) bq1 (cbd.1.mono (by omega)) (cbd.2.1.mono (by omega)) pk.zero pk.add pk.can hi (Nat.lt_of_le_of_lt (show eff m ≤ 100 by omega) (by decide))
                have nS : Sst q TT HH (mulF m Q (cI n s) n) R lost := .inr ⟨hlf, _, tS, hR⟩
                repeat' ((fail_if_success (with_reducible refine (?_ : @Eq _ _ _))); first | (with_reducible first | refine' CK.ret ?_ | refine' SK.next ?_ | refine' SK.ret ?_ | refine' SK.cont ?_ | refine' LK.next ?_ | refine' LK.cont ?_ | refine' RW.nil ?_ | refine' RW.seqK (fun K hK => ?_)) | ((with_reducible refine (?_ : RW _ _ _ _)); with_reducible refine' RW.lenOk (by with_unfolding_all exact rfl) ?_) | (with_reducible first | refine' SW.of ?_ | refine' PutAt.of ?_ ?_) | with_reducible exact SetR.z | (with_reducible first | refine' SetR.s3 ?_ | refine' SetR.s ?_) | (with_reducible refine (?_ : SetR _ (0 + 1) _ _)); refine SetR.s ?_ | ((with_reducible refine (?_ : RW _ _ _ _)); with_reducible refine' RW.retF (E := eVar _) (by with_unfolding_all exact rfl) ?_) | (with_reducible first | refine' RW.asg ?_ | refine' RW.ret ?_) | (fail_if_success (have : StopIf := by with_reducible assumption)); (with_reducible refine' RW.if ?_) | (with_reducible first | refine' RW.tup ?_ | refine' RW.for ?_ | refine' RW.while ?_ | refine' RW.new ?_) | ((with_reducible refine (?_ : RW _ _ _ _)); with_reducible refine' RW.app (by with_unfolding_all exact rfl) (by first | with_reducible assumption | with_unfolding_all exact Nat.le_of_ble_eq_true rfl) ?_) | ((with_reducible refine (?_ : RW _ _ _ _)); with_reducible refine' RW.aug (by with_unfolding_all exact rfl) ?_) | (with_reducible first | refine' TupK.two_t ?_ | refine' TupK.two_f ?_ | refine' TupK.four_f ?_ | refine' IfK.t ?_ | refine' IfK.f ?_) | (with_reducible refine' IfK.gd ?_; with_reducible refine' IfK.decT (by first | with_reducible assumption | with_unfolding_all omega) ?_) | (with_reducible refine' IfK.gd ?_; with_reducible refine' IfK.decF (by first | with_reducible assumption | with_unfolding_all omega) ?_) | (with_reducible first | refine' NotK.t ?_ | refine' NotK.f ?_ | refine' TruthK.bool ?_ | refine' TruthK.int ?_) | ((with_reducible refine (?_ : EW (eVar _) _ _)); with_reducible refine' EW.var (by with_unfolding_all exact rfl) ?_) | (with_reducible first | refine' EW.cst ?_ | refine' EW.e1 ?_ | refine' EW.e2 ?_ | refine' EW.call ?_ | refine' EW.tup ?_ | refine' EW.lst ?_ | refine' EW.or ?_ | refine' EW.e3c ?_ | refine' EW.comp ?_ | refine' EsW.nil ?_ | refine' EsW.cons ?_ | refine' TW.c ?_) | ((with_reducible refine (?_ : TpK _ _)); with_reducible refine' TpK.mk (by with_unfolding_all exact Nat.le_of_ble_eq_true rfl) ?_) | ((with_reducible refine (?_ : LsK _ _)); with_reducible refine' LsK.mk (by with_unfolding_all exact Nat.le_of_ble_eq_true rfl) ?_) | (with_reducible first | refine' TW.tOf ?_ | refine' TW.not ?_ | refine' TW.and ?_ | refine' TW.or ?_) | ((with_reducible refine (?_ : CW _ _ _)); with_reducible refine' CW.of (by with_reducible assumption) ?_) | ((with_reducible refine (?_ : CW fPow3 _ _)); with_reducible refine' CW.pow3 (by with_unfolding_all first | decide | omega) (by with_reducible assumption) ?_) | ((with_reducible refine (?_ : OW _ _ _ _)); with_reducible refine' OW.of (by with_reducible assumption) ?_) | (with_reducible first | refine' OW.add ?_ | refine' OW.addI ?_ | refine' OW.sub ?_ | refine' OW.and ?_ | refine' OW.ord ?_ | refine' OW.eq ?_ | refine' OW.ne ?_) | ((with_reducible refine (?_ : OW fMul _ _ _)); with_reducible refine' OW.mul (by first | with_reducible assumption | with_unfolding_all exact mulOk_sm (by omega) (by omega) | with_unfolding_all exact mulOk_bd (by repeat' kt_len) (by repeat' kt_len) (Nat.le_of_ble_eq_true rfl)) ?_) | ((with_reducible refine (?_ : OW fDiv _ _ _)); with_reducible refine' OW.div (by with_reducible assumption) ?_) | ((with_reducible refine (?_ : OW fMod _ _ _)); with_reducible refine' OW.mod (by first | with_reducible assumption | with_unfolding_all omega) ?_) | ((with_reducible refine (?_ : OW fPow _ _ _)); with_reducible refine' OW.pow (by with_reducible assumption) ?_) | (with_reducible first | refine' UW.neg ?_) | ((with_reducible refine (?_ : UW _ _ _)); with_reducible refine' UW.of (by with_reducible assumption) ?_) | (with_reducible first | refine' CW.max ?_ | refine' CW.range2 ?_) | ((with_reducible refine (?_ : CW _ _ _)); with_reducible refine' CW.fn (by with_unfolding_all (repeat (first | exact StartsAt.nil | apply StartsAt.cons | apply StartsAt.unb))) (by with_unfolding_all exact rfl) ?_) | (with_reducible first | refine' KK.use (by with_reducible assumption) ?_))
                exact ⟨rfl, R, lost, nS, rfl⟩
          rintro σ ⟨here, lost, nS, rfl⟩
          have hz := Sst.z pk nS
          rw [anyZ, ← Bool.or_assoc] at hr
          repeat' ((fail_if_success (with_reducible refine (?_ : @Eq _ _ _))); first | (with_reducible first | refine' CK.ret ?_ | refine' SK.next ?_ | refine' SK.ret ?_ | refine' SK.cont ?_ | refine' LK.next ?_ | refine' LK.cont ?_ | refine' RW.nil ?_ | refine' RW.seqK (fun K hK => ?_)) | ((with_reducible refine (?_ : RW _ _ _ _)); with_reducible refine' RW.lenOk (by with_unfolding_all exact rfl) ?_) | (with_reducible first | refine' SW.of ?_ | refine' PutAt.of ?_ ?_) | with_reducible exact SetR.z | (with_reducible first | refine' SetR.s3 ?_ | refine' SetR.s ?_) | (with_reducible refine (?_ : SetR _ (0 + 1) _ _)); refine SetR.s ?_ | ((with_reducible refine (?_ : RW _ _ _ _)); with_reducible refine' RW.retF (E := eVar _) (by with_unfolding_all exact rfl) ?_) | (with_reducible first | refine' RW.asg ?_ | refine' RW.ret ?_) | (fail_if_success (have : StopIf := by with_reducible assumption)); (with_reducible refine' RW.if ?_) | (with_reducible first | refine' RW.tup ?_ | refine' RW.for ?_ | refine' RW.while ?_ | refine' RW.new ?_) | ((with_reducible refine (?_ : RW _ _ _ _)); with_reducible refine' RW.app (by with_unfolding_all exact rfl) (by first | with_reducible assumption | with_unfolding_all exact Nat.le_of_ble_eq_true rfl) ?_) | ((with_reducible refine (?_ : RW _ _ _ _)); with_reducible refine' RW.aug (by with_unfolding_all exact rfl) ?_) | (with_reducible first | refine' TupK.two_t ?_ | refine' TupK.two_f ?_ | refine' TupK.four_f ?_ | refine' IfK.t ?_ | refine' IfK.f ?_) | (with_reducible refine' IfK.gd ?_; with_reducible refine' IfK.decT (by first | with_reducible assumption | with_unfolding_all omega) ?_) | (with_reducible refine' IfK.gd ?_; with_reducible refine' IfK.decF (by first | with_reducible assumption | with_unfolding_all omega) ?_) | (with_reducible first | refine' NotK.t ?_ | refine' NotK.f ?_ | refine' TruthK.bool ?_ | refine' TruthK.int ?_) | ((with_reducible refine (?_ : EW (eVar _) _ _)); with_reducible refine' EW.var (by with_unfolding_all exact rfl) ?_) | (with_reducible first | refine' EW.cst ?_ | refine' EW.e1 ?_ | refine' EW.e2 ?_ | refine' EW.call ?_ | refine' EW.tup ?_ | refine' EW.lst ?_ | refine' EW.or ?_ | refine' EW.e3c ?_ | refine' EW.comp ?_ | refine' EsW.nil ?_ | refine' EsW.cons ?_ | refine' TW.c ?_) | ((with_reducible refine (?_ : TpK _ _)); with_reducible refine' TpK.mk (by with_unfolding_all exact Nat.le_of_ble_eq_true rfl) ?_) | ((with_reducible refine (?_ : LsK _ _)); with_reducible refine' LsK.mk (by with_unfolding_all exact Nat.le_of_ble_eq_true rfl) ?_) | (with_reducible first | refine' TW.tOf ?_ | refine' TW.not ?_ | refine' TW.and ?_ | refine' TW.or ?_) | ((with_reducible refine (?_ : CW _ _ _)); with_reducible refine' CW.of (by with_reducible assumption) ?_) | ((with_reducible refine (?_ : CW fPow3 _ _)); with_reducible refine' CW.pow3 (by with_unfolding_all first | decide | omega) (by with_reducible assumption) ?_) | ((with_reducible refine (?_ : OW _ _ _ _)); with_reducible refine' OW.of (by with_reducible assumption) ?_) | (with_reducible first | refine' OW.add ?_ | refine' OW.addI ?_ | refine' OW.sub ?_ | refine' OW.and ?_ | refine' OW.ord ?_ | refine' OW.eq ?_ | refine' OW.ne ?_) | ((with_reducible refine (?_ : OW fMul _ _ _)); with_reducible refine' OW.mul (by first | with_reducible assumption | with_unfolding_all exact mulOk_sm (by omega) (by omega) | with_unfolding_all exact mulOk_bd (by repeat' kt_len) (by repeat' kt_len) (Nat.le_of_ble_eq_true rfl)) ?_) | ((with_reducible refine (?_ : OW fDiv _ _ _)); with_reducible refine' OW.div (by with_reducible assumption) ?_) | ((with_reducible refine (?_ : OW fMod _ _ _)); with_reducible refine' OW.mod (by first | with_reducible assumption | with_unfolding_all omega) ?_) | ((with_reducible refine (?_ : OW fPow _ _ _)); with_reducible refine' OW.pow (by with_reducible assumption) ?_) | (with_reducible first | refine' UW.neg ?_) | ((with_reducible refine (?_ : UW _ _ _)); with_reducible refine' UW.of (by with_reducible assumption) ?_) | (with_reducible first | refine' CW.max ?_ | refine' CW.range2 ?_) | ((with_reducible refine (?_ : CW _ _ _)); with_reducible refine' CW.fn (by with_unfolding_all (repeat (first | exact StartsAt.nil | apply StartsAt.cons | apply StartsAt.unb))) (by with_unfolding_all exact rfl) ?_) | (with_reducible first | refine' KK.use (by with_reducible assumption) ?_))
          obtain ⟨nl, hV⟩ : ∃ v, (late || decide ((q : Int) ∣ (mulF m Q (cI n s) n).2)) = v := ⟨_, rfl⟩
          rw [hV] at hr
          refine IfK.orE (.bool nl) ?_ ?_ ?_
          · intro h kk
            have e : nl = true := by rw [← hV, h]; rfl
            clear hV hr
            subst e
            subst h
            exact kk
          · intro h
            rw [h, Bool.false_or] at hV
            rw [← hV]
            clear hr hV
            repeat' ((fail_if_success (with_reducible refine (?_ : @Eq _ _ _))); first | (with_reducible first | refine' CK.ret ?_ | refine' SK.next ?_ | refine' SK.ret ?_ | refine' SK.cont ?_ | refine' LK.next ?_ | refine' LK.cont ?_ | refine' RW.nil ?_ | refine' RW.seqK (fun K hK => ?_)) | ((with_reducible refine (?_ : RW _ _ _ _)); with_reducible refine' RW.lenOk (by with_unfolding_all exact rfl) ?_) | (with_reducible first | refine' SW.of ?_ | refine' PutAt.of ?_ ?_) | with_reducible exact SetR.z | (with_reducible first | refine' SetR.s3 ?_ | refine' SetR.s ?_) | (with_reducible refine (?_ : SetR _ (0 + 1) _ _)); refine SetR.s ?_ | ((with_reducible refine (?_ : RW _ _ _ _)); with_reducible refine' RW.retF (E := eVar _) (by with_unfolding_all exact rfl) ?_) | (with_reducible first | refine' RW.asg ?_ | refine' RW.ret ?_) | (fail_if_success (have : StopIf := by with_reducible assumption)); (with_reducible refine' RW.if ?_) | (with_reducible first | refine' RW.tup ?_ | refine' RW.for ?_ | refine' RW.while ?_ | refine' RW.new ?_) | ((with_reducible refine (?_ : RW _ _ _ _)); with_reducible refine' RW.app (by with_unfolding_all exact rfl) (by first | with_reducible assumption | with_unfolding_all exact Nat.le_of_ble_eq_true rfl) ?_) | ((with_reducible refine (?_ : RW _ _ _ _)); with_reducible refine' RW.aug (by with_unfolding_all exact rfl) ?_) | (with_reducible first | refine' TupK.two_t ?_ | refine' TupK.two_f ?_ | refine' TupK.four_f ?_ | refine' IfK.t ?_ | refine' IfK.f ?_) | (with_reducible refine' IfK.gd ?_; with_reducible refine' IfK.decT (by first | with_reducible assumption | with_unfolding_all omega) ?_) | (with_reducible refine' IfK.gd ?_; with_reducible refine' IfK.decF (by first | with_reducible assumption | with_unfolding_all omega) ?_) | (with_reducible first | refine' NotK.t ?_ | refine' NotK.f ?_ | refine' TruthK.bool ?_ | refine' TruthK.int ?_) | ((with_reducible refine (?_ : EW (eVar _) _ _)); with_reducible refine' EW.var (by with_unfolding_all exact rfl) ?_) | (with_reducible first | refine' EW.cst ?_ | refine' EW.e1 ?_ | refine' EW.e2 ?_ | refine' EW.call ?_ | refine' EW.tup ?_ | refine' EW.lst ?_ | refine' EW.or ?_ | refine' EW.e3c ?_ | refine' EW.comp ?_ | refine' EsW.nil ?_ | refine' EsW.cons ?_ | refine' TW.c ?_) | ((with_reducible refine (?_ : TpK _ _)); with_reducible refine' TpK.mk (by with_unfolding_all exact Nat.le_of_ble_eq_true rfl) ?_) | ((with_reducible refine (?_ : LsK _ _)); with_reducible refine' LsK.mk (by with_unfolding_all exact Nat.le_of_ble_eq_true rfl) ?_) | (with_reducible first | refine' TW.tOf ?_ | refine' TW.not ?_ | refine' TW.and ?_ | refine' TW.or ?_) | ((with_reducible refine (?_ : CW _ _ _)); with_reducible refine' CW.of (by with_reducible assumption) ?_) | ((with_reducible refine (?_ : CW fPow3 _ _)); with_reducible refine' CW.pow3 (by with_unfolding_all first | decide | omega) (by with_reducible assumption) ?_) | ((with_reducible refine (?_ : OW _ _ _ _)); with_reducible refine' OW.of (by with_reducible assumption) ?_) | (with_reducible first | refine' OW.add ?_ | refine' OW.addI ?_ | refine' OW.sub ?_ | refine' OW.and ?_ | refine' OW.ord ?_ | refine' OW.eq ?_ | refine' OW.ne ?_) | ((with_reducible refine (?_ : OW fMul _ _ _)); with_reducible refine' OW.mul (by first | with_reducible assumption | with_unfolding_all exact mulOk_sm (by omega) (by omega) | with_unfolding_all exact mulOk_bd (by repeat' kt_len) (by repeat' kt_len) (Nat.le_of_ble_eq_true rfl)) ?_) | ((with_reducible refine (?_ : OW fDiv _ _ _)); with_reducible refine' OW.div (by with_reducible assumption) ?_) | ((with_reducible refine (?_ : OW fMod _ _ _)); with_reducible refine' OW.mod (by first | with_reducible assumption | with_unfolding_all omega) ?_) | ((with_reducible refine (?_ : OW fPow _ _ _)); with_reducible refine' OW.pow (by with_reducible assumption) ?_) | (with_reducible first | refine' UW.neg ?_) | ((with_reducible refine (?_ : UW _ _ _)); with_reducible refine' UW.of (by with_reducible assumption) ?_) | (with_reducible first | refine' CW.max ?_ | refine' CW.range2 ?_) | ((with_reducible refine (?_ : CW _ _ _)); with_reducible refine' CW.fn (by with_unfolding_all (repeat (first | exact StartsAt.nil | apply StartsAt.cons | apply StartsAt.unb))) (by with_unfolding_all exact rfl) ?_) | (with_reducible first | refine' KK.use (by with_reducible assumption) ?_))
            cases lost with
            | true =>
              repeat' ((fail_if_success (with_reducible refine (?_ : @Eq _ _ _))); first | (with_reducible first | refine' CK.ret ?_ | refine' SK.next ?_ | refine' SK.ret ?_ | refine' SK.cont ?_ | refine' LK.next ?_ | refine' LK.cont ?_ | refine' RW.nil ?_ | refine' RW.seqK (fun K hK => ?_)) | ((with_reducible refine (?_ : RW _ _ _ _)); with_reducible refine' RW.lenOk (by with_unfolding_all exact rfl) ?_) | (with_reducible first | refine' SW.of ?_ | refine' PutAt.of ?_ ?_) | with_reducible exact SetR.z | (with_reducible first | refine' SetR.s3 ?_ | refine' SetR.s ?_) | (with_reducible refine (?_ : SetR _ (0 + 1) _ _)); refine SetR.s ?_ | ((with_reducible refine (?_ : RW _ _ _ _)); with_reducible refine' RW.retF (E := eVar _) (by with_unfolding_all exact rfl) ?_) | (with_reducible first | refine' RW.asg ?_ | refine' RW.ret ?_) | (fail_if_success (have : StopIf := by with_reducible assumption)); (with_reducible refine' RW.if ?_) | (with_reducible first | refine' RW.tup ?_ | refine' RW.for ?_ | refine' RW.while ?_ | refine' RW.new ?_) | ((with_reducible refine (?_ : RW _ _ _ _)); with_reducible refine' RW.app (by with_unfolding_all exact rfl) (by first | with_reducible assumption | with_unfolding_all exact Nat.le_of_ble_eq_true rfl) ?_) | ((with_reducible refine (?_ : RW _ _ _ _)); with_reducible refine' RW.aug (by with_unfolding_all exact rfl) ?_) | (with_reducible first | refine' TupK.two_t ?_ | refine' TupK.two_f ?_ | refine' TupK.four_f ?_ | refine' IfK.t ?_ | refine' IfK.f ?_) | (with_reducible refine' IfK.gd ?_; with_reducible refine' IfK.decT (by first | with_reducible assumption | with_unfolding_all omega) ?_) | (with_reducible refine' IfK.gd ?_; with_reducible refine' IfK.decF (by first | with_reducible assumption | with_unfolding_all omega) ?_) | (with_reducible first | refine' NotK.t ?_ | refine' NotK.f ?_ | refine' TruthK.bool ?_ | refine' TruthK.int ?_) | ((with_reducible refine (?_ : EW (eVar _) _ _)); with_reducible refine' EW.var (by with_unfolding_all exact rfl) ?_) | (with_reducible first | refine' EW.cst ?_ | refine' EW.e1 ?_ | refine' EW.e2 ?_ | refine' EW.call ?_ | refine' EW.tup ?_ | refine' EW.lst ?_ | refine' EW.or ?_ | refine' EW.e3c ?_ | refine' EW.comp ?_ | refine' EsW.nil ?_ | refine' EsW.cons ?_ | refine' TW.c ?_) | ((with_reducible refine (?_ : TpK _ _)); with_reducible refine' TpK.mk (by with_unfolding_all exact Nat.le_of_ble_eq_true rfl) ?_) | ((with_reducible refine (?_ : LsK _ _)); with_reducible refine' LsK.mk (by with_unfolding_all exact Nat.le_of_ble_eq_true rfl) ?_) | (with_reducible first | refine' TW.tOf ?_ | refine' TW.not ?_ | refine' TW.and ?_ | refine' TW.or ?_) | ((with_reducible refine (?_ : CW _ _ _)); with_reducible refine' CW.of (by with_reducible assumption) ?_) | ((with_reducible refine (?_ : CW fPow3 _ _)); with_reducible refine' CW.pow3 (by with_unfolding_all first | decide | omega) (by with_reducible assumption) ?_) | ((with_reducible refine (?_ : OW _ _ _ _)); with_reducible refine' OW.of (by with_reducible assumption) ?_) | (with_reducible first | refine' OW.add ?_ | refine' OW.addI ?_ | refine' OW.sub ?_ | refine' OW.and ?_ | refine' OW.ord ?_ | refine' OW.eq ?_ | refine' OW.ne ?_) | ((with_reducible refine (?_ : OW fMul _ _ _)); with_reducible refine' OW.mul (by first | with_reducible assumption | with_unfolding_all exact mulOk_sm (by omega) (by omega) | with_unfolding_all exact mulOk_bd (by repeat' kt_len) (by repeat' kt_len) (Nat.le_of_ble_eq_true rfl)) ?_) | ((with_reducible refine (?_ : OW fDiv _ _ _)); with_reducible refine' OW.div (by with_reducible assumption) ?_) | ((with_reducible refine (?_ : OW fMod _ _ _)); with_reducible refine' OW.mod (by first | with_reducible assumption | with_unfolding_all omega) ?_) | ((with_reducible refine (?_ : OW fPow _ _ _)); with_reducible refine' OW.pow (by with_reducible assumption) ?_) | (with_reducible first | refine' UW.neg ?_) | ((with_reducible refine (?_ : UW _ _ _)); with_reducible refine' UW.of (by with_reducible assumption) ?_) | (with_reducible first | refine' CW.max ?_ | refine' CW.range2 ?_) | ((with_reducible refine (?_ : CW _ _ _)); with_reducible refine' CW.fn (by with_unfolding_all (repeat (first | exact StartsAt.nil | apply StartsAt.cons | apply StartsAt.unb))) (by with_unfolding_all exact rfl) ?_) | (with_reducible first | refine' KK.use (by with_reducible assumption) ?_))
              rw [decide_eq_true (hz.mp (.inl rfl))]
            | false =>
              cases here with
              | none =>
                have w1 := fEq_unit0
                repeat' ((fail_if_success (with_reducible refine (?_ : @Eq _ _ _))); first | (with_reducible first | refine' CK.ret ?_ | refine' SK.next ?_ | refine' SK.ret ?_ | refine' SK.cont ?_ | refine' LK.next ?_ | refine' LK.cont ?_ | refine' RW.nil ?_ | refine' RW.seqK (fun K hK => ?_)) | ((with_reducible refine (?_ : RW _ _ _ _)); with_reducible refine' RW.lenOk (by with_unfolding_all exact rfl) ?_) | (with_reducible first | refine' SW.of ?_ | refine' PutAt.of ?_ ?_) | with_reducible exact SetR.z | (with_reducible first | refine' SetR.s3 ?_ | refine' SetR.s ?_) | (with_reducible refine (?_ : SetR _ (0 + 1) _ _)); refine SetR.s ?_ | ((with_reducible refine (?_ : RW _ _ _ _)); with_reducible refine' RW.retF (E := eVar _) (by with_unfolding_all exact rfl) ?_) | (with_reducible first | refine' RW.asg ?_ | refine' RW.ret ?_) | (fail_if_success (have : StopIf := by with_reducible assumption)); (with_reducible refine' RW.if ?_) | (with_reducible first | refine' RW.tup ?_ | refine' RW.for ?_ | refine' RW.while ?_ | refine' RW.new ?_) | ((with_reducible refine (?_ : RW _ _ _ _)); with_reducible refine' RW.app (by with_unfolding_all exact rfl) (by first | with_reducible assumption | with_unfolding_all exact Nat.le_of_ble_eq_true rfl) ?_) | ((with_reducible refine (?_ : RW _ _ _ _)); with_reducible refine' RW.aug (by with_unfolding_all exact rfl) ?_) | (with_reducible first | refine' TupK.two_t ?_ | refine' TupK.two_f ?_ | refine' TupK.four_f ?_ | refine' IfK.t ?_ | refine' IfK.f ?_) | (with_reducible refine' IfK.gd ?_; with_reducible refine' IfK.decT (by first | with_reducible assumption | with_unfolding_all omega) ?_) | (with_reducible refine' IfK.gd ?_; with_reducible refine' IfK.decF (by first | with_reducible assumption | with_unfolding_all omega) ?_) | (with_reducible first | refine' NotK.t ?_ | refine' NotK.f ?_ | refine' TruthK.bool ?_ | refine' TruthK.int ?_) | ((with_reducible refine (?_ : EW (eVar _) _ _)); with_reducible refine' EW.var (by with_unfolding_all exact rfl) ?_) | (with_reducible first | refine' EW.cst ?_ | refine' EW.e1 ?_ | refine' EW.e2 ?_ | refine' EW.call ?_ | refine' EW.tup ?_ | refine' EW.lst ?_ | refine' EW.or ?_ | refine' EW.e3c ?_ | refine' EW.comp ?_ | refine' EsW.nil ?_ | refine' EsW.cons ?_ | refine' TW.c ?_) | ((with_reducible refine (?_ : TpK _ _)); with_reducible refine' TpK.mk (by with_unfolding_all exact Nat.le_of_ble_eq_true rfl) ?_) | ((with_reducible refine (?_ : LsK _ _)); with_reducible refine' LsK.mk (by with_unfolding_all exact Nat.le_of_ble_eq_true rfl) ?_) | (with_reducible first | refine' TW.tOf ?_ | refine' TW.not ?_ | refine' TW.and ?_ | refine' TW.or ?_) | ((with_reducible refine (?_ : CW _ _ _)); with_reducible refine' CW.of (by with_reducible assumption) ?_) | ((with_reducible refine (?_ : CW fPow3 _ _)); with_reducible refine' CW.pow3 (by with_unfolding_all first | decide | omega) (by with_reducible assumption) ?_) | ((with_reducible refine (?_ : OW _ _ _ _)); with_reducible refine' OW.of (by with_reducible assumption) ?_) | (with_reducible first | refine' OW.add ?_ | refine' OW.addI ?_ | refine' OW.sub ?_ | refine' OW.and ?_ | refine' OW.ord ?_ | refine' OW.eq ?_ | refine' OW.ne ?_) | ((with_reducible refine (?_ : OW fMul _ _ _)); with_reducible refine' OW.mul (by first | with_reducible assumption | with_unfolding_all exact mulOk_sm (by omega) (by omega) | with_unfolding_all exact mulOk_bd (by repeat' kt_len) (by repeat' kt_len) (Nat.le_of_ble_eq_true rfl)) ?_) | ((with_reducible refine (?_ : OW fDiv _ _ _)); with_reducible refine' OW.div (by with_reducible assumption) ?_) | ((with_reducible refine (?_ : OW fMod _ _ _)); with_reducible refine' OW.mod (by first | with_reducible assumption | with_unfolding_all omega) ?_) | ((with_reducible refine (?_ : OW fPow _ _ _)); with_reducible refine' OW.pow (by with_reducible assumption) ?_) | (with_reducible first | refine' UW.neg ?_) | ((with_reducible refine (?_ : UW _ _ _)); with_reducible refine' UW.of (by with_reducible assumption) ?_) | (with_reducible first | refine' CW.max ?_ | refine' CW.range2 ?_) | ((with_reducible refine (?_ : CW _ _ _)); with_reducible refine' CW.fn (by with_unfolding_all (repeat (first | exact StartsAt.nil | apply StartsAt.cons | apply StartsAt.unb))) (by with_unfolding_all exact rfl) ?_) | (with_reducible first | refine' KK.use (by with_reducible assumption) ?_))
                rw [decide_eq_true (hz.mp (.inr rfl))]
              | some P =>
                have w1 := fEq_unit1 P
                have : ¬ (q : Int) ∣ (mulF m Q (cI n s) n).2 := fun h' => by
                  rcases hz.mpr h' with e | e <;> cases e
                repeat' ((fail_if_success (with_reducible refine (?_ : @Eq _ _ _))); first | (with_reducible first | refine' CK.ret ?_ | refine' SK.next ?_ | refine' SK.ret ?_ | refine' SK.cont ?_ | refine' LK.next ?_ | refine' LK.cont ?_ | refine' RW.nil ?_ | refine' RW.seqK (fun K hK => ?_)) | ((with_reducible refine (?_ : RW _ _ _ _)); with_reducible refine' RW.lenOk (by with_unfolding_all exact rfl) ?_) | (with_reducible first | refine' SW.of ?_ | refine' PutAt.of ?_ ?_) | with_reducible exact SetR.z | (with_reducible first | refine' SetR.s3 ?_ | refine' SetR.s ?_) | (with_reducible refine (?_ : SetR _ (0 + 1) _ _)); refine SetR.s ?_ | ((with_reducible refine (?_ : RW _ _ _ _)); with_reducible refine' RW.retF (E := eVar _) (by with_unfolding_all exact rfl) ?_) | (with_reducible first | refine' RW.asg ?_ | refine' RW.ret ?_) | (fail_if_success (have : StopIf := by with_reducible assumption)); (with_reducible refine' RW.if ?_) | (with_reducible first | refine' RW.tup ?_ | refine' RW.for ?_ | refine' RW.while ?_ | refine' RW.new ?_) | ((with_reducible refine (?_ : RW _ _ _ _)); with_reducible refine' RW.app (by with_unfolding_all exact rfl) (by first | with_reducible assumption | with_unfolding_all exact Nat.le_of_ble_eq_true rfl) ?_) | ((with_reducible refine (?_ : RW _ _ _ _)); with_reducible refine' RW.aug (by with_unfolding_all exact rfl) ?_) | (with_reducible first | refine' TupK.two_t ?_ | refine' TupK.two_f ?_ | refine' TupK.four_f ?_ | refine' IfK.t ?_ | refine' IfK.f ?_) | (with_reducible refine' IfK.gd ?_; with_reducible refine' IfK.decT (by first | with_reducible assumption | with_unfolding_all omega) ?_) | (with_reducible refine' IfK.gd ?_; with_reducible refine' IfK.decF (by first | with_reducible assumption | with_unfolding_all omega) ?_) | (with_reducible first | refine' NotK.t ?_ | refine' NotK.f ?_ | refine' TruthK.bool ?_ | refine' TruthK.int ?_) | ((with_reducible refine (?_ : EW (eVar _) _ _)); with_reducible refine' EW.var (by with_unfolding_all exact rfl) ?_) | (with_reducible first | refine' EW.cst ?_ | refine' EW.e1 ?_ | refine' EW.e2 ?_ | refine' EW.call ?_ | refine' EW.tup ?_ | refine' EW.lst ?_ | refine' EW.or ?_ | refine' EW.e3c ?_ | refine' EW.comp ?_ | refine' EsW.nil ?_ | refine' EsW.cons ?_ | refine' TW.c ?_) | ((with_reducible refine (?_ : TpK _ _)); with_reducible refine' TpK.mk (by with_unfolding_all exact Nat.le_of_ble_eq_true rfl) ?_) | ((with_reducible refine (?_ : LsK _ _)); with_reducible refine' LsK.mk (by with_unfolding_all exact Nat.le_of_ble_eq_true rfl) ?_) | (with_reducible first | refine' TW.tOf ?_ | refine' TW.not ?_ | refine' TW.and ?_ | refine' TW.or ?_) | ((with_reducible refine (?_ : CW _ _ _)); with_reducible refine' CW.of (by with_reducible assumption) ?_) | ((with_reducible refine (?_ : CW fPow3 _ _)); with_reducible refine' CW.pow3 (by with_unfolding_all first | decide | omega) (by with_reducible assumption) ?_) | ((with_reducible refine (?_ : OW _ _ _ _)); with_reducible refine' OW.of (by with_reducible assumption) ?_) | (with_reducible first | refine' OW.add ?_ | refine' OW.addI ?_ | refine' OW.sub ?_ | refine' OW.and ?_ | refine' OW.ord ?_ | refine' OW.eq ?_ | refine' OW.ne ?_) | ((with_reducible refine (?_ : OW fMul _ _ _)); with_reducible refine' OW.mul (by first | with_reducible assumption | with_unfolding_all exact mulOk_sm (by omega) (by omega) | with_unfolding_all exact mulOk_bd (by repeat' kt_len) (by repeat' kt_len) (Nat.le_of_ble_eq_true rfl)) ?_) | ((with_reducible refine (?_ : OW fDiv _ _ _)); with_reducible refine' OW.div (by with_reducible assumption) ?_) | ((with_reducible refine (?_ : OW fMod _ _ _)); with_reducible refine' OW.mod (by first | with_reducible assumption | with_unfolding_all omega) ?_) | ((with_reducible refine (?_ : OW fPow _ _ _)); with_reducible refine' OW.pow (by with_reducible assumption) ?_) | (with_reducible first | refine' UW.neg ?_) | ((with_reducible refine (?_ : UW _ _ _)); with_reducible refine' UW.of (by with_reducible assumption) ?_) | (with_reducible first | refine' CW.max ?_ | refine' CW.range2 ?_) | ((with_reducible refine (?_ : CW _ _ _)); with_reducible refine' CW.fn (by with_unfolding_all (repeat (first | exact StartsAt.nil | apply StartsAt.cons | apply StartsAt.unb))) (by with_unfolding_all exact rfl) ?_) | (with_reducible first | refine' KK.use (by with_reducible assumption) ?_))
                rw [decide_eq_false this]
          repeat' ((fail_if_success (with_reducible refine (?_ : @Eq _ _ _))); first | (with_reducible first | refine' CK.ret ?_ | refine' SK.next ?_ | refine' SK.ret ?_ | refine' SK.cont ?_ | refine' LK.next ?_ | refine' LK.cont ?_ | refine' RW.nil ?_ | refine' RW.seqK (fun K hK => ?_)) | ((with_reducible refine (?_ : RW _ _ _ _)); with_reducible refine' RW.lenOk (by with_unfolding_all exact rfl) ?_) | (with_reducible first | refine' SW.of ?_ | refine' PutAt.of ?_ ?_) | with_reducible exact SetR.z | (with_reducible first | refine' SetR.s3 ?_ | refine' SetR.s ?_) | (with_reducible refine (?_ : SetR _ (0 + 1) _ _)); refine SetR.s ?_ | ((with_reducible refine (?_ : RW _ _ _ _)); with_reducible refine' RW.retF (E := eVar _) (by with_unfolding_all exact rfl) ?_) | (with_reducible first | refine' RW.asg ?_ | refine' RW.ret ?_) | (fail_if_success (have : StopIf := by with_reducible assumption)); (with_reducible refine' RW.if ?_) | (with_reducible first | refine' RW.tup ?_ | refine' RW.for ?_ | refine' RW.while ?_ | refine' RW.new ?_) | ((with_reducible refine (?_ : RW _ _ _ _)); with_reducible refine' RW.app (by with_unfolding_all exact rfl) (by first | with_reducible assumption | with_unfolding_all exact Nat.le_of_ble_eq_true rfl) ?_) | ((with_reducible refine (?_ : RW _ _ _ _)); with_reducible refine' RW.aug (by with_unfolding_all exact rfl) ?_) | (with_reducible first | refine' TupK.two_t ?_ | refine' TupK.two_f ?_ | refine' TupK.four_f ?_ | refine' IfK.t ?_ | refine' IfK.f ?_) | (with_reducible refine' IfK.gd ?_; with_reducible refine' IfK.decT (by first | with_reducible assumption | with_unfolding_all omega) ?_) | (with_reducible refine' IfK.gd ?_; with_reducible refine' IfK.decF (by first | with_reducible assumption | with_unfolding_all omega) ?_) | (with_reducible first | refine' NotK.t ?_ | refine' NotK.f ?_ | refine' TruthK.bool ?_ | refine' TruthK.int ?_) | ((with_reducible refine (?_ : EW (eVar _) _ _)); with_reducible refine' EW.var (by with_unfolding_all exact rfl) ?_) | (with_reducible first | refine' EW.cst ?_ | refine' EW.e1 ?_ | refine' EW.e2 ?_ | refine' EW.call ?_ | refine' EW.tup ?_ | refine' EW.lst ?_ | refine' EW.or ?_ | refine' EW.e3c ?_ | refine' EW.comp ?_ | refine' EsW.nil ?_ | refine' EsW.cons ?_ | refine' TW.c ?_) | ((with_reducible refine (?_ : TpK _ _)); with_reducible refine' TpK.mk (by with_unfolding_all exact Nat.le_of_ble_eq_true rfl) ?_) | ((with_reducible refine (?_ : LsK _ _)); with_reducible refine' LsK.mk (by with_unfolding_all exact Nat.le_of_ble_eq_true rfl) ?_) | (with_reducible first | refine' TW.tOf ?_ | refine' TW.not ?_ | refine' TW.and ?_ | refine' TW.or ?_) | ((with_reducible refine (?_ : CW _ _ _)); with_reducible refine' CW.of (by with_reducible assumption) ?_) | ((with_reducible refine (?_ : CW fPow3 _ _)); with_reducible refine' CW.pow3 (by with_unfolding_all first | decide | omega) (by with_reducible assumption) ?_) | ((with_reducible refine (?_ : OW _ _ _ _)); with_reducible refine' OW.of (by with_reducible assumption) ?_) | (with_reducible first | refine' OW.add ?_ | refine' OW.addI ?_ | refine' OW.sub ?_ | refine' OW.and ?_ | refine' OW.ord ?_ | refine' OW.eq ?_ | refine' OW.ne ?_) | ((with_reducible refine (?_ : OW fMul _ _ _)); with_reducible refine' OW.mul (by first | with_reducible assumption | with_unfolding_all exact mulOk_sm (by omega) (by omega) | with_unfolding_all exact mulOk_bd (by repeat' kt_len) (by repeat' kt_len) (Nat.le_of_ble_eq_true rfl)) ?_) | ((with_reducible refine (?_ : OW fDiv _ _ _)); with_reducible refine' OW.div (by with_reducible assumption) ?_) | ((with_reducible refine (?_ : OW fMod _ _ _)); with_reducible refine' OW.mod (by first | with_reducible assumption | with_unfolding_all omega) ?_) | ((with_reducible refine (?_ : OW fPow _ _ _)); with_reducible refine' OW.pow (by with_reducible assumption) ?_) | (with_reducible first | refine' UW.neg ?_) | ((with_reducible refine (?_ : UW _ _ _)); with_reducible refine' UW.of (by with_reducible assumption) ?_) | (with_reducible first | refine' CW.max ?_ | refine' CW.range2 ?_) | ((with_reducible refine (?_ : CW _ _ _)); with_reducible refine' CW.fn (by with_unfolding_all (repeat (first | exact StartsAt.nil | apply StartsAt.cons | apply StartsAt.unb))) (by with_unfolding_all exact rfl) ?_) | (with_reducible first | refine' KK.use (by with_reducible assumption) ?_))
          exact ⟨l, _, here, lost, _, _, rfl, hl2, hr, nS, rfl⟩
      rintro σ ⟨l, Q', here, lost, late, sl, e, hl, hr, hS, rfl⟩
      cases l with
      | cons m l => cases e
      | nil =>
        try refine KK.use (by with_reducible assumption) ?_
        rw [← hr, anyZ, Bool.or_false]
        repeat' ((fail_if_success (with_reducible refine (?_ : @Eq _ _ _))); first | (with_reducible first | refine' CK.ret ?_ | refine' SK.next ?_ | refine' SK.ret ?_ | refine' SK.cont ?_ | refine' LK.next ?_ | refine' LK.cont ?_ | refine' RW.nil ?_ | refine' RW.seqK (fun K hK => ?_)) | ((with_reducible refine (?_ : RW _ _ _ _)); with_reducible refine' RW.lenOk (by with_unfolding_all exact rfl) ?_) | (with_reducible first | refine' SW.of ?_ | refine' PutAt.of ?_ ?_) | with_reducible exact SetR.z | (with_reducible first | refine' SetR.s3 ?_ | refine' SetR.s ?_) | (with_reducible refine (?_ : SetR _ (0 + 1) _ _)); refine SetR.s ?_ | ((with_reducible refine (?_ : RW _ _ _ _)); with_reducible refine' RW.retF (E := eVar _) (by with_unfolding_all exact rfl) ?_) | (with_reducible first | refine' RW.asg ?_ | refine' RW.ret ?_) | (fail_if_success (have : StopIf := by with_reducible assumption)); (with_reducible refine' RW.if ?_) | (with_reducible first | refine' RW.tup ?_ | refine' RW.for ?_ | refine' RW.while ?_ | refine' RW.new ?_) | ((with_reducible refine (?_ : RW _ _ _ _)); with_reducible refine' RW.app (by with_unfolding_all exact rfl) (by first | with_reducible assumption | with_unfolding_all exact Nat.le_of_ble_eq_true rfl) ?_) | ((with_reducible refine (?_ : RW _ _ _ _)); with_reducible refine' RW.aug (by with_unfolding_all exact rfl) ?_) | (with_reducible first | refine' TupK.two_t ?_ | refine' TupK.two_f ?_ | refine' TupK.four_f ?_ | refine' IfK.t ?_ | refine' IfK.f ?_) | (with_reducible refine' IfK.gd ?_; with_reducible refine' IfK.decT (by first | with_reducible assumption | with_unfolding_all omega) ?_) | (with_reducible refine' IfK.gd ?_; with_reducible refine' IfK.decF (by first | with_reducible assumption | with_unfolding_all omega) ?_) | (with_reducible first | refine' NotK.t ?_ | refine' NotK.f ?_ | refine' TruthK.bool ?_ | refine' TruthK.int ?_) | ((with_reducible refine (?_ : EW (eVar _) _ _)); with_reducible refine' EW.var (by with_unfolding_all exact rfl) ?_) | (with_reducible first | refine' EW.cst ?_ | refine' EW.e1 ?_ | refine' EW.e2 ?_ | refine' EW.call ?_ | refine' EW.tup ?_ | refine' EW.lst ?_ | refine' EW.or ?_ | refine' EW.e3c ?_ | refine' EW.comp ?_ | refine' EsW.nil ?_ | refine' EsW.cons ?_ | refine' TW.c ?_) | ((with_reducible refine (?_ : TpK _ _)); with_reducible refine' TpK.mk (by with_unfolding_all exact Nat.le_of_ble_eq_true rfl) ?_) | ((with_reducible refine (?_ : LsK _ _)); with_reducible refine' LsK.mk (by with_unfolding_all exact Nat.le_of_ble_eq_true rfl) ?_) | (with_reducible first | refine' TW.tOf ?_ | refine' TW.not ?_ | refine' TW.and ?_ | refine' TW.or ?_) | ((with_reducible refine (?_ : CW _ _ _)); with_reducible refine' CW.of (by with_reducible assumption) ?_) | ((with_reducible refine (?_ : CW fPow3 _ _)); with_reducible refine' CW.pow3 (by with_unfolding_all first | decide | omega) (by with_reducible assumption) ?_) | ((with_reducible refine (?_ : OW _ _ _ _)); with_reducible refine' OW.of (by with_reducible assumption) ?_) | (with_reducible first | refine' OW.add ?_ | refine' OW.addI ?_ | refine' OW.sub ?_ | refine' OW.and ?_ | refine' OW.ord ?_ | refine' OW.eq ?_ | refine' OW.ne ?_) | ((with_reducible refine (?_ : OW fMul _ _ _)); with_reducible refine' OW.mul (by first | with_reducible assumption | with_unfolding_all exact mulOk_sm (by omega) (by omega) | with_unfolding_all exact mulOk_bd (by repeat' kt_len) (by repeat' kt_len) (Nat.le_of_ble_eq_true rfl)) ?_) | ((with_reducible refine (?_ : OW fDiv _ _ _)); with_reducible refine' OW.div (by with_reducible assumption) ?_) | ((with_reducible refine (?_ : OW fMod _ _ _)); with_reducible refine' OW.mod (by first | with_reducible assumption | with_unfolding_all omega) ?_) | ((with_reducible refine (?_ : OW fPow _ _ _)); with_reducible refine' OW.pow (by with_reducible assumption) ?_) | (with_reducible first | refine' UW.neg ?_) | ((with_reducible refine (?_ : UW _ _ _)); with_reducible refine' UW.of (by with_reducible assumption) ?_) | (with_reducible first | refine' CW.max ?_ | refine' CW.range2 ?_) | ((with_reducible refine (?_ : CW _ _ _)); with_reducible refine' CW.fn (by with_unfolding_all (repeat (first | exact StartsAt.nil | apply StartsAt.cons | apply StartsAt.unb))) (by with_unfolding_all exact rfl) ?_) | (with_reducible first | refine' KK.use (by with_reducible assumption) ?_))
        rfl

theorem ok_law {I : GI} (hat : HatI I hd.view_39) (hG : GTup I ("_LAW_PRIMES" : Str) primes06) (hrange : FunOK I 0 ("range" : Str) fRange) {f6 f7 f11 f12 : List D → Option D} (h6 : FunOK I 3 ("secm" : Str) f6) (h7 : FunOK I 1 ("_law_draw" : Str) f7) (h11 : FunOK I 1 ("_law_counts" : Str) f11) (h12 : FunOK I 3 ("_law_carried" : Str) f12) (s6 : ∀ (n s B1 B2 : Int), 0 < n → Bd 100 n → Bd 300 s → -1 ≤ B1 → B1 ≤ 22 → -1 ≤ B2 → B2 ≤ 40 → f6 [.int n, .int B1, .int B2, .int s] = some (.int (secI n s B1.toNat B2.toNat)))(s7 : ∀ (ns : List Int) (p : Nat), ns.length ≤ 63 → p ≤ 100 → f7 [.lst (intsD ns), .int (p : Nat)] = some (.int (drawJ ns p)))(s11 : ∀ (B1 B2 : Int), -1 ≤ B1 → B1 ≤ 22 → -1 ≤ B2 → B2 ≤ 40 → f11 [.int B1, .int B2] = some (.tup [.lst (intsD (natI ((fstL B1.toNat).map eff))), .lst (intsD (natI (sndL B1.toNat B2.toNat)))]))(s12 : ∀ (q : Nat) (n s : Int) (m1 m2 : List Nat), Prm q → 5 ≤ q → q < 2 ^ 14 → (q : Int) ∣ n → Bd 300 s → good06 q s → (∀ m ∈ m1, 2 ≤ m ∧ m ≤ 100) → (∀ m ∈ m2, 2 ≤ m ∧ m ≤ 100) → m1.length ≤ 100 → m2.length ≤ 100 → f12 [.int (q : Int), .int s, .lst (intsD (natI (m1.map eff))), .lst (intsD (natI (m2.map eff)))] = some (.tup [.bool (decide ((q : Int) ∣ (runQ (cI n s) n m1 (q0I n s)).2)), .bool (decide ((q : Int) ∣ (runQ (cI n s) n m1 (q0I n s)).2) || anyZ (cI n s) n q m2 (runQ (cI n s) n m1 (q0I n s)))])) : ∃ d, (recsOf hd.view_39)[13]? = some d ∧ d.name = ("law" : Str) ∧ ∃ G, FunOK I 4 d.name G ∧
    ∀ (ns : List Int), ns.length ≤ 63 → G [.lst (intsD ns)] = some (.bool true) := by
  refine' ⟨_, rfl, rfl, _, FunOK.of 1000 (i := 13) (ns := ["script", "seed", "u", "v", "factors", "n", "at", "q", "b1", "b2", "first", "second", "early", "late", "found"]) (m := 1) hat rfl ⟨rfl, by decide, by decide⟩ (by decide) (fun pm cd doc => vs1 fun a => rfl) rfl rfl ?h, ?g⟩
  case h =>
    dsimp only
    repeat' ((show (_ : Prop)); first | (with_reducible first | exact OpOK.add | exact OpOK.sub | exact OpOK.mul | exact OpOK.mod | exact OpOK.pow | exact OpOK.and | exact OpOK.lt | exact OpOK.le | exact OpOK.gt | exact OpOK.ge | exact OpOK.eq | exact OpOK.ne | exact OpOK.notIn | exact IOpOK.add | exact IOpOK.sub | exact IOpOK.mul | exact IOpOK.div | exact IOpOK.mod | exact EvOK.cint | exact EvOK.cbool | refine' EvOK.v (by with_unfolding_all exact rfl) (by with_unfolding_all exact rfl) (by with_unfolding_all exact rfl) (by with_unfolding_all exact rfl) | refine' EvOK.bin ?_ ?_ ?_ | refine' EvOK.cmp ?_ ?_ ?_ (by with_unfolding_all exact rfl) | refine' EvOK.neg ?_ | refine' EvOK.bool1 ?_ | refine' EvOK.or ?_ ?_ | refine' EvOK.tup ?_ | refine' EvOK.lst ?_ | refine' EvOK.call' (by with_unfolding_all exact rfl) (by with_unfolding_all exact rfl) (by with_unfolding_all exact rfl) (by with_unfolding_all exact fun _ => rfl) (by with_unfolding_all exact rfl) (by with_unfolding_all exact fun _ => ⟨_, _, rfl⟩) (by with_unfolding_all first | assumption | exact FunOK.le (by assumption) (by decide)) ?_ | refine' EvOK.gsub (by with_unfolding_all exact rfl) (by with_unfolding_all exact rfl) (by with_unfolding_all exact rfl) (by with_unfolding_all exact fun _ _ => rfl) (by with_unfolding_all assumption) ?_ | refine' EvOK.subs ?_ ?_ (by with_unfolding_all exact fun _ _ => rfl) | refine' EvOK.comp (by with_unfolding_all exact ⟨by decide, rfl, rfl, by decide, rfl, by decide, by decide⟩) ?_ ?_ ?_ (by with_unfolding_all exact fun _ _ => rfl) | exact EvsOK.nil | refine' EvsOK.cons ?_ ?_ (by with_unfolding_all exact fun _ => rfl) | refine' TestsOK.one ?_ | refine' TrOK.cmp ?_ ?_ ?_ (by with_unfolding_all exact rfl) | refine' TrOK.chain ?_ ?_ ?_ ?_ ?_ (by with_unfolding_all exact rfl) | refine' TrOK.not ?_ | exact TrOK.and0 | exact TrOK.or0 | refine' TrOK.and ?_ ?_ | refine' TrOK.or ?_ ?_ | refine' TrOK.plain ?_ (by with_unfolding_all exact fun _ _ => rfl) | exact RunOK.nil | refine' RunOK.cons ?_ ?_ | exact RunOK.cont | refine' RunOK.ret ?_ | refine' RunOK.ifS ?_ ?_ ?_ | refine' RunOK.whileS ?_ ?_ | refine' RunOK.new' (by with_unfolding_all exact rfl) (by with_unfolding_all exact fun _ => rfl) (by with_unfolding_all exact ⟨rfl, by decide, by decide⟩) ?_ | refine' RunOK.asg' (by with_unfolding_all exact rfl) (by with_unfolding_all exact fun _ => rfl) (by with_unfolding_all exact ⟨rfl, by decide, by decide⟩) ?_ | refine' RunOK.aug' (by with_unfolding_all exact rfl) (by with_unfolding_all exact ⟨rfl, by decide, by decide⟩) ?_ ?_ | refine' RunOK.forM' (by with_unfolding_all exact rfl) (by with_unfolding_all exact rfl) (by with_unfolding_all exact rfl) (by with_unfolding_all exact fun _ _ => rfl) (by with_unfolding_all exact ⟨rfl, by decide, by decide⟩) ?_ | refine' RunOK.for' (by with_unfolding_all exact rfl) (by with_unfolding_all exact fun _ _ => rfl) (by with_unfolding_all exact ⟨rfl, by decide, by decide⟩) ?_ ?_ | refine' RunOK.app' (by with_unfolding_all exact rfl) (by with_unfolding_all exact rfl) (by with_unfolding_all exact fun _ => rfl) (by with_unfolding_all exact fun _ => rfl) (by with_unfolding_all exact fun _ => rfl) (by with_unfolding_all exact ⟨rfl, by decide, by decide⟩) ?_ | refine' RunOK.tupS' (by with_unfolding_all first | exact .cons (.cons .nil) | exact .cons (.cons (.cons .nil)) | exact .cons (.cons (.cons (.cons .nil)))) (by with_unfolding_all exact fun env h => by cases env; cases h; rfl) (by with_unfolding_all exact rfl) (by with_unfolding_all exact fun _ => rfl) (by with_unfolding_all exact ⟨rfl, by decide, by decide⟩) ?_ | refine' RunOK.tupP' (by with_unfolding_all first | exact .cons (.cons .nil) | exact .cons (.cons (.cons .nil)) | exact .cons (.cons (.cons (.cons .nil)))) (by with_unfolding_all exact fun env h => by cases env; cases h; rfl) (by with_unfolding_all exact rfl) (by with_unfolding_all exact fun _ => rfl) (by with_unfolding_all exact ⟨rfl, by decide, by decide⟩) ?_))
  case g =>
    intro ns hn
    have dr : ∀ t : Nat, t ≤ 100 → f7 [.lst (intsD ns), .int (t : Int)] = some (.int (drawJ ns t)) := fun t h => s7 ns t hn h
    have d0 : f7 [.lst (intsD ns), .int 0] = some (.int (drawJ ns 0)) := s7 ns 0 hn (by omega)
    have d4 : f7 [.lst (intsD ns), .int 4] = some (.int (drawJ ns 4)) := s7 ns 4 hn (by omega)
    have d5 : f7 [.lst (intsD ns), .int 5] = some (.int (drawJ ns 5)) := s7 ns 5 hn (by omega)
    have b0 : Bd 200 (drawJ ns 0) := drawJ_bd (by omega)
    generalize drawJ ns 0 = D0 at *
    generalize drawJ ns 4 = D4 at *
    generalize drawJ ns 5 = D5 at *
    have fm : ∀ (x w : Int), 0 < w → 0 ≤ x.fmod w ∧ x.fmod w < w := fun x w h => ⟨Int.fmod_nonneg_of_pos x h, Int.fmod_lt_of_pos x h⟩
    have k4 := fm D4 24 (by omega)
    have k5 := fm D5 42 (by omega)
    have wcn := s11 (D4.fmod 24 - 1) (D5.fmod 42 - 1) (by omega) (by omega) (by omega) (by omega)
    have b6 : Bd 40 (6 : Int) := Bd.lit (by decide) (by decide)
    refine CW.eq ?_
    have stop : StopIf := trivial
    repeat' ((fail_if_success (with_reducible refine (?_ : @Eq _ _ _))); first | (with_reducible first | refine' CK.ret ?_ | refine' SK.next ?_ | refine' SK.ret ?_ | refine' SK.cont ?_ | refine' LK.next ?_ | refine' LK.cont ?_ | refine' RW.nil ?_ | refine' RW.seqK (fun K hK => ?_)) | ((with_reducible refine (?_ : RW _ _ _ _)); with_reducible refine' RW.lenOk (by with_unfolding_all exact rfl) ?_) | (with_reducible first | refine' SW.of ?_ | refine' PutAt.of ?_ ?_) | with_reducible exact SetR.z | (with_reducible first | refine' SetR.s3 ?_ | refine' SetR.s ?_) | (with_reducible refine (?_ : SetR _ (0 + 1) _ _)); refine SetR.s ?_ | ((with_reducible refine (?_ : RW _ _ _ _)); with_reducible refine' RW.retF (E := eVar _) (by with_unfolding_all exact rfl) ?_) | (with_reducible first | refine' RW.asg ?_ | refine' RW.ret ?_) | (fail_if_success (have : StopIf := by with_reducible assumption)); (with_reducible refine' RW.if ?_) | (with_reducible first | refine' RW.tup ?_ | refine' RW.for ?_ | refine' RW.while ?_ | refine' RW.new ?_) | ((with_reducible refine (?_ : RW _ _ _ _)); with_reducible refine' RW.app (by with_unfolding_all exact rfl) (by first | with_reducible assumption | with_unfolding_all exact Nat.le_of_ble_eq_true rfl) ?_) | ((with_reducible refine (?_ : RW _ _ _ _)); with_reducible refine' RW.aug (by with_unfolding_all exact rfl) ?_) | (with_reducible first | refine' TupK.two_t ?_ | refine' TupK.two_f ?_ | refine' TupK.four_f ?_ | refine' IfK.t ?_ | refine' IfK.f ?_) | (with_reducible refine' IfK.gd ?_; with_reducible refine' IfK.decT (by first | with_reducible assumption | with_unfolding_all omega) ?_) | (with_reducible refine' IfK.gd ?_; with_reducible refine' IfK.decF (by first | with_reducible assumption | with_unfolding_all omega) ?_) | (with_reducible first | refine' NotK.t ?_ | refine' NotK.f ?_ | refine' TruthK.bool ?_ | refine' TruthK.int ?_) | ((with_reducible refine (?_ : EW (eVar _) _ _)); with_reducible refine' EW.var (by with_unfolding_all exact rfl) ?_) | (with_reducible first | refine' EW.cst ?_ | refine' EW.e1 ?_ | refine' EW.e2 ?_ | refine' EW.call ?_ | refine' EW.tup ?_ | refine' EW.lst ?_ | refine' EW.or ?_ | refine' EW.e3c ?_ | refine' EW.comp ?_ | refine' EsW.nil ?_ | refine' EsW.cons ?_ | refine' TW.c ?_) | ((with_reducible refine (?_ : TpK _ _)); with_reducible refine' TpK.mk (by with_unfolding_all exact Nat.le_of_ble_eq_true rfl) ?_) | ((with_reducible refine (?_ : LsK _ _)); with_reducible refine' LsK.mk (by with_unfolding_all exact Nat.le_of_ble_eq_true rfl) ?_) | (with_reducible first | refine' TW.tOf ?_ | refine' TW.not ?_ | refine' TW.and ?_ | refine' TW.or ?_) | ((with_reducible refine (?_ : CW _ _ _)); with_reducible refine' CW.of (by with_reducible assumption) ?_) | ((with_reducible refine (?_ : CW fPow3 _ _)); with_reducible refine' CW.pow3 (by with_unfolding_all first | decide | omega) (by with_reducible assumption) ?_) | ((with_reducible refine (?_ : OW _ _ _ _)); with_reducible refine' OW.of (by with_reducible assumption) ?_) | (with_reducible first | refine' OW.add ?_ | refine' OW.addI ?_ | refine' OW.sub ?_ | refine' OW.and ?_ | refine' OW.ord ?_ | refine' OW.eq ?_ | refine' OW.ne ?_) | ((with_reducible refine (?_ : OW fMul _ _ _)); with_reducible refine' OW.mul (by first | with_reducible assumption | with_unfolding_all exact mulOk_sm (by omega) (by omega) | with_unfolding_all exact mulOk_bd (by repeat' kt_len) (by repeat' kt_len) (Nat.le_of_ble_eq_true rfl)) ?_) | ((with_reducible refine (?_ : OW fDiv _ _ _)); with_reducible refine' OW.div (by with_reducible assumption) ?_) | ((with_reducible refine (?_ : OW fMod _ _ _)); with_reducible refine' OW.mod (by first | with_reducible assumption | with_unfolding_all omega) ?_) | ((with_reducible refine (?_ : OW fPow _ _ _)); with_reducible refine' OW.pow (by with_reducible assumption) ?_) | (with_reducible first | refine' UW.neg ?_) | ((with_reducible refine (?_ : UW _ _ _)); with_reducible refine' UW.of (by with_reducible assumption) ?_) | (with_reducible first | refine' CW.max ?_ | refine' CW.range2 ?_) | ((with_reducible refine (?_ : CW _ _ _)); with_reducible refine' CW.fn (by with_unfolding_all (repeat (first | exact StartsAt.nil | apply StartsAt.cons | apply StartsAt.unb))) (by with_unfolding_all exact rfl) ?_) | (with_reducible first | refine' KK.use (by with_reducible assumption) ?_))
    clear stop
    refine RW.mid (fun σ => ∃ s : Int, Bd 300 s ∧ σ = [.imm (.lst (intsD ns)), .imm (.int s), .unb, .unb, .unb, .unb, .unb, .unb, .unb, .unb, .unb, .unb, .unb, .unb, .unb]) ?_ ?_
    · by_cases c : D0 < 0
      · repeat' ((fail_if_success (with_reducible refine (?_ : @Eq _ _ _))); first | (with_reducible first | refine' CK.ret ?_ | refine' SK.next ?_ | refine' SK.ret ?_ | refine' SK.cont ?_ | refine' LK.next ?_ | refine' LK.cont ?_ | refine' RW.nil ?_ | refine' RW.seqK (fun K hK => ?_)) | ((with_reducible refine (?_ : RW _ _ _ _)); with_reducible refine' RW.lenOk (by with_unfolding_all exact rfl) ?_) | (with_reducible first | refine' SW.of ?_ | refine' PutAt.of ?_ ?_) | with_reducible exact SetR.z | (with_reducible first | refine' SetR.s3 ?_ | refine' SetR.s ?_) | (with_reducible refine (?_ : SetR _ (0 + 1) _ _)); refine SetR.s ?_ | ((with_reducible refine (?_ : RW _ _ _ _)); with_reducible refine' RW.retF (E := eVar _) (by with_unfolding_all exact rfl) ?_) | (with_reducible first | refine' RW.asg ?_ | refine' RW.ret ?_) | (fail_if_success (have : StopIf := by with_reducible assumption)); (with_reducible refine' RW.if ?_) | (with_reducible first | refine' RW.tup ?_ | refine' RW.for ?_ | refine' RW.while ?_ | refine' RW.new ?_) | ((with_reducible refine (?_ : RW _ _ _ _)); with_reducible refine' RW.app (by with_unfolding_all exact rfl) (by first | with_reducible assumption | with_unfolding_all exact Nat.le_of_ble_eq_true rfl) ?_) | ((with_reducible refine (?_ : RW _ _ _ _)); with_reducible refine' RW.aug (by with_unfolding_all exact rfl) ?_) | (with_reducible first | refine' TupK.two_t ?_ | refine' TupK.two_f ?_ | refine' TupK.four_f ?_ | refine' IfK.t ?_ | refine' IfK.f ?_) | (with_reducible refine' IfK.gd ?_; with_reducible refine' IfK.decT (by first | with_reducible assumption | with_unfolding_all omega) ?_) | (with_reducible refine' IfK.gd ?_; with_reducible refine' IfK.decF (by first | with_reducible assumption | with_unfolding_all omega) ?_) | (with_reducible first | refine' NotK.t ?_ | refine' NotK.f ?_ | refine' TruthK.bool ?_ | refine' TruthK.int ?_) | ((with_reducible refine (?_ : EW (eVar _) _ _)); with_reducible refine' EW.var (by with_unfolding_all exact rfl) ?_) | (with_reducible first | refine' EW.cst ?_ | refine' EW.e1 ?_ | refine' EW.e2 ?_ | refine' EW.call ?_ | refine' EW.tup ?_ | refine' EW.lst ?_ | refine' EW.or ?_ | refine' EW.e3c ?_ | refine' EW.comp ?_ | refine' EsW.nil ?_ | refine' EsW.cons ?_ | refine' TW.c ?_) | ((with_reducible refine (?_ : TpK _ _)); with_reducible refine' TpK.mk (by with_unfolding_all exact Nat.le_of_ble_eq_true rfl) ?_) | ((with_reducible refine (?_ : LsK _ _)); with_reducible refine' LsK.mk (by with_unfolding_all exact Nat.le_of_ble_eq_true rfl) ?_) | (with_reducible first | refine' TW.tOf ?_ | refine' TW.not ?_ | refine' TW.and ?_ | refine' TW.or ?_) | ((with_reducible refine (?_ : CW _ _ _)); with_reducible refine' CW.of (by with_reducible assumption) ?_) | ((with_reducible refine (?_ : CW fPow3 _ _)); with_reducible refine' CW.pow3 (by with_unfolding_all first | decide | omega) (by with_reducible assumption) ?_) | ((with_reducible refine (?_ : OW _ _ _ _)); with_reducible refine' OW.of (by with_reducible assumption) ?_) | (with_reducible first | refine' OW.add ?_ | refine' OW.addI ?_ | refine' OW.sub ?_ | refine' OW.and ?_ | refine' OW.ord ?_ | refine' OW.eq ?_ | refine' OW.ne ?_) | ((with_reducible refine (?_ : OW fMul _ _ _)); with_reducible refine' OW.mul (by first | with_reducible assumption | with_unfolding_all exact mulOk_sm (by omega) (by omega) | with_unfolding_all exact mulOk_bd (by repeat' kt_len) (by repeat' kt_len) (Nat.le_of_ble_eq_true rfl)) ?_) | ((with_reducible refine (?_ : OW fDiv _ _ _)); with_reducible refine' OW.div (by with_reducible assumption) ?_) | ((with_reducible refine (?_ : OW fMod _ _ _)); with_reducible refine' OW.mod (by first | with_reducible assumption | with_unfolding_all omega) ?_) | ((with_reducible refine (?_ : OW fPow _ _ _)); with_reducible refine' OW.pow (by with_reducible assumption) ?_) | (with_reducible first | refine' UW.neg ?_) | ((with_reducible refine (?_ : UW _ _ _)); with_reducible refine' UW.of (by with_reducible assumption) ?_) | (with_reducible first | refine' CW.max ?_ | refine' CW.range2 ?_) | ((with_reducible refine (?_ : CW _ _ _)); with_reducible refine' CW.fn (by with_unfolding_all (repeat (first | exact StartsAt.nil | apply StartsAt.cons | apply StartsAt.unb))) (by with_unfolding_all exact rfl) ?_) | (with_reducible first | refine' KK.use (by with_reducible assumption) ?_))
        exact ⟨rfl, _, (b0.sub' b6).mono (by omega), rfl⟩
      · repeat' ((fail_if_success (with_reducible refine (?_ : @Eq _ _ _))); first | (with_reducible first | refine' CK.ret ?_ | refine' SK.next ?_ | refine' SK.ret ?_ | refine' SK.cont ?_ | refine' LK.next ?_ | refine' LK.cont ?_ | refine' RW.nil ?_ | refine' RW.seqK (fun K hK => ?_)) | ((with_reducible refine (?_ : RW _ _ _ _)); with_reducible refine' RW.lenOk (by with_unfolding_all exact rfl) ?_) | (with_reducible first | refine' SW.of ?_ | refine' PutAt.of ?_ ?_) | with_reducible exact SetR.z | (with_reducible first | refine' SetR.s3 ?_ | refine' SetR.s ?_) | (with_reducible refine (?_ : SetR _ (0 + 1) _ _)); refine SetR.s ?_ | ((with_reducible refine (?_ : RW _ _ _ _)); with_reducible refine' RW.retF (E := eVar _) (by with_unfolding_all exact rfl) ?_) | (with_reducible first | refine' RW.asg ?_ | refine' RW.ret ?_) | (fail_if_success (have : StopIf := by with_reducible assumption)); (with_reducible refine' RW.if ?_) | (with_reducible first | refine' RW.tup ?_ | refine' RW.for ?_ | refine' RW.while ?_ | refine' RW.new ?_) | ((with_reducible refine (?_ : RW _ _ _ _)); with_reducible refine' RW.app (by with_unfolding_all exact rfl) (by first | with_reducible assumption | with_unfolding_all exact Nat.le_of_ble_eq_true rfl) ?_) | ((with_reducible refine (?_ : RW _ _ _ _)); with_reducible refine' RW.aug (by with_unfolding_all exact rfl) ?_) | (with_reducible first | refine' TupK.two_t ?_ | refine' TupK.two_f ?_ | refine' TupK.four_f ?_ | refine' IfK.t ?_ | refine' IfK.f ?_) | (with_reducible refine' IfK.gd ?_; with_reducible refine' IfK.decT (by first | with_reducible assumption | with_unfolding_all omega) ?_) | (with_reducible refine' IfK.gd ?_; with_reducible refine' IfK.decF (by first | with_reducible assumption | with_unfolding_all omega) ?_) | (with_reducible first | refine' NotK.t ?_ | refine' NotK.f ?_ | refine' TruthK.bool ?_ | refine' TruthK.int ?_) | ((with_reducible refine (?_ : EW (eVar _) _ _)); with_reducible refine' EW.var (by with_unfolding_all exact rfl) ?_) | (with_reducible first | refine' EW.cst ?_ | refine' EW.e1 ?_ | refine' EW.e2 ?_ | refine' EW.call ?_ | refine' EW.tup ?_ | refine' EW.lst ?_ | refine' EW.or ?_ | refine' EW.e3c ?_ | refine' EW.comp ?_ | refine' EsW.nil ?_ | refine' EsW.cons ?_ | refine' TW.c ?_) | ((with_reducible refine (?_ : TpK _ _)); with_reducible refine' TpK.mk (by with_unfolding_all exact Nat.le_of_ble_eq_true rfl) ?_) | ((with_reducible refine (?_ : LsK _ _)); with_reducible refine' LsK.mk (by with_unfolding_all exact Nat.le_of_ble_eq_true rfl) ?_) | (with_reducible first | refine' TW.tOf ?_ | refine' TW.not ?_ | refine' TW.and ?_ | refine' TW.or ?_) | ((with_reducible refine (?_ : CW _ _ _)); with_reducible refine' CW.of (by with_reducible assumption) ?_) | ((with_reducible refine (?_ : CW fPow3 _ _)); with_reducible refine' CW.pow3 (by with_unfolding_all first | decide | omega) (by with_reducible assumption) ?_) | ((with_reducible refine (?_ : OW _ _ _ _)); with_reducible refine' OW.of (by with_reducible assumption) ?_) | (with_reducible first | refine' OW.add ?_ | refine' OW.addI ?_ | refine' OW.sub ?_ | refine' OW.and ?_ | refine' OW.ord ?_ | refine' OW.eq ?_ | refine' OW.ne ?_) | ((with_reducible refine (?_ : OW fMul _ _ _)); with_reducible refine' OW.mul (by first | with_reducible assumption | with_unfolding_all exact mulOk_sm (by omega) (by omega) | with_unfolding_all exact mulOk_bd (by repeat' kt_len) (by repeat' kt_len) (Nat.le_of_ble_eq_true rfl)) ?_) | ((with_reducible refine (?_ : OW fDiv _ _ _)); with_reducible refine' OW.div (by with_reducible assumption) ?_) | ((with_reducible refine (?_ : OW fMod _ _ _)); with_reducible refine' OW.mod (by first | with_reducible assumption | with_unfolding_all omega) ?_) | ((with_reducible refine (?_ : OW fPow _ _ _)); with_reducible refine' OW.pow (by with_reducible assumption) ?_) | (with_reducible first | refine' UW.neg ?_) | ((with_reducible refine (?_ : UW _ _ _)); with_reducible refine' UW.of (by with_reducible assumption) ?_) | (with_reducible first | refine' CW.max ?_ | refine' CW.range2 ?_) | ((with_reducible refine (?_ : CW _ _ _)); with_reducible refine' CW.fn (by with_unfolding_all (repeat (first | exact StartsAt.nil | apply StartsAt.cons | apply StartsAt.unb))) (by with_unfolding_all exact rfl) ?_) | (with_reducible first | refine' KK.use (by with_reducible assumption) ?_))
        exact ⟨rfl, _, (b0.add' b6).mono (by omega), rfl⟩
    rintro σ ⟨s, bs, rfl⟩
    have b4 : Bd 40 (4 : Int) := Bd.lit (by decide) (by decide)
    have b5 : Bd 40 (5 : Int) := Bd.lit (by decide) (by decide)
    have pu : powOk (s * s - 5) 3 = true := powOk_bd (k := 3) ((bs.mul bs).sub' b5) (by omega)
    have pv : powOk (4 * s) 3 = true := powOk_bd (k := 3) (b4.mul bs) (by omega)
    repeat' ((fail_if_success (with_reducible refine (?_ : @Eq _ _ _))); first | (with_reducible first | refine' CK.ret ?_ | refine' SK.next ?_ | refine' SK.ret ?_ | refine' SK.cont ?_ | refine' LK.next ?_ | refine' LK.cont ?_ | refine' RW.nil ?_ | refine' RW.seqK (fun K hK => ?_)) | ((with_reducible refine (?_ : RW _ _ _ _)); with_reducible refine' RW.lenOk (by with_unfolding_all exact rfl) ?_) | (with_reducible first | refine' SW.of ?_ | refine' PutAt.of ?_ ?_) | with_reducible exact SetR.z | (with_reducible first | refine' SetR.s3 ?_ | refine' SetR.s ?_) | (with_reducible refine (?_ : SetR _ (0 + 1) _ _)); refine SetR.s ?_ | ((with_reducible refine (?_ : RW _ _ _ _)); with_reducible refine' RW.retF (E := eVar _) (by with_unfolding_all exact rfl) ?_) | (with_reducible first | refine' RW.asg ?_ | refine' RW.ret ?_) | (fail_if_success (have : StopIf := by with_reducible assumption)); (with_reducible refine' RW.if ?_) | (with_reducible first | refine' RW.tup ?_ | refine' RW.for ?_ | refine' RW.while ?_ | refine' RW.new ?_) | ((with_reducible refine (?_ : RW _ _ _ _)); with_reducible refine' RW.app (by with_unfolding_all exact rfl) (by first | with_reducible assumption | with_unfolding_all exact Nat.le_of_ble_eq_true rfl) ?_) | ((with_reducible refine (?_ : RW _ _ _ _)); with_reducible refine' RW.aug (by with_unfolding_all exact rfl) ?_) | (with_reducible first | refine' TupK.two_t ?_ | refine' TupK.two_f ?_ | refine' TupK.four_f ?_ | refine' IfK.t ?_ | refine' IfK.f ?_) | (with_reducible refine' IfK.gd ?_; with_reducible refine' IfK.decT (by first | with_reducible assumption | with_unfolding_all omega) ?_) | (with_reducible refine' IfK.gd ?_; with_reducible refine' IfK.decF (by first | with_reducible assumption | with_unfolding_all omega) ?_) | (with_reducible first | refine' NotK.t ?_ | refine' NotK.f ?_ | refine' TruthK.bool ?_ | refine' TruthK.int ?_) | ((with_reducible refine (?_ : EW (eVar _) _ _)); with_reducible refine' EW.var (by with_unfolding_all exact rfl) ?_) | (with_reducible first | refine' EW.cst ?_ | refine' EW.e1 ?_ | refine' EW.e2 ?_ | refine' EW.call ?_ | refine' EW.tup ?_ | refine' EW.lst ?_ | refine' EW.or ?_ | refine' EW.e3c ?_ | refine' EW.comp ?_ | refine' EsW.nil ?_ | refine' EsW.cons ?_ | refine' TW.c ?_) | ((with_reducible refine (?_ : TpK _ _)); with_reducible refine' TpK.mk (by with_unfolding_all exact Nat.le_of_ble_eq_true rfl) ?_) | ((with_reducible refine (?_ : LsK _ _)); with_reducible refine' LsK.mk (by with_unfolding_all exact Nat.le_of_ble_eq_true rfl) ?_) | (with_reducible first | refine' TW.tOf ?_ | refine' TW.not ?_ | refine' TW.and ?_ | refine' TW.or ?_) | ((with_reducible refine (?_ : CW _ _ _)); with_reducible refine' CW.of (by with_reducible assumption) ?_) | ((with_reducible refine (?_ : CW fPow3 _ _)); with_reducible refine' CW.pow3 (by with_unfolding_all first | decide | omega) (by with_reducible assumption) ?_) | ((with_reducible refine (?_ : OW _ _ _ _)); with_reducible refine' OW.of (by with_reducible assumption) ?_) | (with_reducible first | refine' OW.add ?_ | refine' OW.addI ?_ | refine' OW.sub ?_ | refine' OW.and ?_ | refine' OW.ord ?_ | refine' OW.eq ?_ | refine' OW.ne ?_) | ((with_reducible refine (?_ : OW fMul _ _ _)); with_reducible refine' OW.mul (by first | with_reducible assumption | with_unfolding_all exact mulOk_sm (by omega) (by omega) | with_unfolding_all exact mulOk_bd (by repeat' kt_len) (by repeat' kt_len) (Nat.le_of_ble_eq_true rfl)) ?_) | ((with_reducible refine (?_ : OW fDiv _ _ _)); with_reducible refine' OW.div (by with_reducible assumption) ?_) | ((with_reducible refine (?_ : OW fMod _ _ _)); with_reducible refine' OW.mod (by first | with_reducible assumption | with_unfolding_all omega) ?_) | ((with_reducible refine (?_ : OW fPow _ _ _)); with_reducible refine' OW.pow (by with_reducible assumption) ?_) | (with_reducible first | refine' UW.neg ?_) | ((with_reducible refine (?_ : UW _ _ _)); with_reducible refine' UW.of (by with_reducible assumption) ?_) | (with_reducible first | refine' CW.max ?_ | refine' CW.range2 ?_) | ((with_reducible refine (?_ : CW _ _ _)); with_reducible refine' CW.fn (by with_unfolding_all (repeat (first | exact StartsAt.nil | apply StartsAt.cons | apply StartsAt.unb))) (by with_unfolding_all exact rfl) ?_) | (with_reducible first | refine' KK.use (by with_reducible assumption) ?_))
    refine ⟨by decide, ?_⟩
    repeat' ((fail_if_success (with_reducible refine (?_ : @Eq _ _ _))); first | (with_reducible first | refine' CK.ret ?_ | refine' SK.next ?_ | refine' SK.ret ?_ | refine' SK.cont ?_ | refine' LK.next ?_ | refine' LK.cont ?_ | refine' RW.nil ?_ | refine' RW.seqK (fun K hK => ?_)) | ((with_reducible refine (?_ : RW _ _ _ _)); with_reducible refine' RW.lenOk (by with_unfolding_all exact rfl) ?_) | (with_reducible first | refine' SW.of ?_ | refine' PutAt.of ?_ ?_) | with_reducible exact SetR.z | (with_reducible first | refine' SetR.s3 ?_ | refine' SetR.s ?_) | (with_reducible refine (?_ : SetR _ (0 + 1) _ _)); refine SetR.s ?_ | ((with_reducible refine (?_ : RW _ _ _ _)); with_reducible refine' RW.retF (E := eVar _) (by with_unfolding_all exact rfl) ?_) | (with_reducible first | refine' RW.asg ?_ | refine' RW.ret ?_) | (fail_if_success (have : StopIf := by with_reducible assumption)); (with_reducible refine' RW.if ?_) | (with_reducible first | refine' RW.tup ?_ | refine' RW.for ?_ | refine' RW.while ?_ | refine' RW.new ?_) | ((with_reducible refine (?_ : RW _ _ _ _)); with_reducible refine' RW.app (by with_unfolding_all exact rfl) (by first | with_reducible assumption | with_unfolding_all exact Nat.le_of_ble_eq_true rfl) ?_) | ((with_reducible refine (?_ : RW _ _ _ _)); with_reducible refine' RW.aug (by with_unfolding_all exact rfl) ?_) | (with_reducible first | refine' TupK.two_t ?_ | refine' TupK.two_f ?_ | refine' TupK.four_f ?_ | refine' IfK.t ?_ | refine' IfK.f ?_) | (with_reducible refine' IfK.gd ?_; with_reducible refine' IfK.decT (by first | with_reducible assumption | with_unfolding_all omega) ?_) | (with_reducible refine' IfK.gd ?_; with_reducible refine' IfK.decF (by first | with_reducible assumption | with_unfolding_all omega) ?_) | (with_reducible first | refine' NotK.t ?_ | refine' NotK.f ?_ | refine' TruthK.bool ?_ | refine' TruthK.int ?_) | ((with_reducible refine (?_ : EW (eVar _) _ _)); with_reducible refine' EW.var (by with_unfolding_all exact rfl) ?_) | (with_reducible first | refine' EW.cst ?_ | refine' EW.e1 ?_ | refine' EW.e2 ?_ | refine' EW.call ?_ | refine' EW.tup ?_ | refine' EW.lst ?_ | refine' EW.or ?_ | refine' EW.e3c ?_ | refine' EW.comp ?_ | refine' EsW.nil ?_ | refine' EsW.cons ?_ | refine' TW.c ?_) | ((with_reducible refine (?_ : TpK _ _)); with_reducible refine' TpK.mk (by with_unfolding_all exact Nat.le_of_ble_eq_true rfl) ?_) | ((with_reducible refine (?_ : LsK _ _)); with_reducible refine' LsK.mk (by with_unfolding_all exact Nat.le_of_ble_eq_true rfl) ?_) | (with_reducible first | refine' TW.tOf ?_ | refine' TW.not ?_ | refine' TW.and ?_ | refine' TW.or ?_) | ((with_reducible refine (?_ : CW _ _ _)); with_reducible refine' CW.of (by with_reducible assumption) ?_) | ((with_reducible refine (?_ : CW fPow3 _ _)); with_reducible refine' CW.pow3 (by with_unfolding_all first | decide | omega) (by with_reducible assumption) ?_) | ((with_reducible refine (?_ : OW _ _ _ _)); with_reducible refine' OW.of (by with_reducible assumption) ?_) | (with_reducible first | refine' OW.add ?_ | refine' OW.addI ?_ | refine' OW.sub ?_ | refine' OW.and ?_ | refine' OW.ord ?_ | refine' OW.eq ?_ | refine' OW.ne ?_) | ((with_reducible refine (?_ : OW fMul _ _ _)); with_reducible refine' OW.mul (by first | with_reducible assumption | with_unfolding_all exact mulOk_sm (by omega) (by omega) | with_unfolding_all exact mulOk_bd (by repeat' kt_len) (by repeat' kt_len) (Nat.le_of_ble_eq_true rfl)) ?_) | ((with_reducible refine (?_ : OW fDiv _ _ _)); with_reducible refine' OW.div (by with_reducible assumption) ?_) | ((with_reducible refine (?_ : OW fMod _ _ _)); with_reducible refine' OW.mod (by first | with_reducible assumption | with_unfolding_all omega) ?_) | ((with_reducible refine (?_ : OW fPow _ _ _)); with_reducible refine' OW.pow (by with_reducible assumption) ?_) | (with_reducible first | refine' UW.neg ?_) | ((with_reducible refine (?_ : UW _ _ _)); with_reducible refine' UW.of (by with_reducible assumption) ?_) | (with_reducible first | refine' CW.max ?_ | refine' CW.range2 ?_) | ((with_reducible refine (?_ : CW _ _ _)); with_reducible refine' CW.fn (by with_unfolding_all (repeat (first | exact StartsAt.nil | apply StartsAt.cons | apply StartsAt.unb))) (by with_unfolding_all exact rfl) ?_) | (with_reducible first | refine' KK.use (by with_reducible assumption) ?_))
    refine ForK.of rfl (items_rng (a := 1) (b := 4) (by omega) (by omega) (by omega) (by omega) (by omega)) (LW.inv (fun ds σ => ∃ (t : Nat) (l : List Nat) (s1 s2 : Slot), 1 ≤ t ∧ t ≤ 4 ∧ ds = intsD (upI (t : Int) (4 - t)) ∧ l.length + 1 ≤ t ∧ l.Nodup ∧ (∀ q ∈ l, Prm q ∧ 5 ≤ q ∧ q < 2 ^ 14 ∧ good06 q s) ∧ σ = [.imm (.lst (intsD ns)), .imm (.int s), .imm (.int (s * s - 5)), .imm (.int (4 * s)), .mt (intsD (natI l)), .imm (.int (prodN l : Nat)), s1, s2, .unb, .unb, .unb, .unb, .unb, .unb, .unb]) ⟨1, [], _, _, by omega, by omega, rfl, by simp, List.nodup_nil, by simp, rfl⟩ ?_ ?_)
    · rintro d' ds σ ⟨t, l, sl1, sl2, t4, t7, e, hl, hnd, hq, rfl⟩
      rcases Nat.lt_or_ge t 4 with ht | ht
      · obtain ⟨u, hu, hu2⟩ := sub_next (n := 4) (t := t) (by assumption)
        rw [hu, upI_succ, intsD_cons] at e
        cases e
        have dt := dr t (by omega)
        obtain ⟨i, hi, hi2⟩ : ∃ i : Nat, (drawJ ns t).fmod 20 = (i : Int) ∧ i < 20 := by
          have q := fm (drawJ ns t) 20 (by omega)
          exact ⟨((drawJ ns t).fmod 20).toNat, by omega, by omega⟩
        obtain ⟨q, hq1, hp, q5, qb⟩ := pick06 hi2
        have wat : fAt primes06 (.int ((drawJ ns t).fmod 20)) = some (.int (q : Int)) := by
          rw [hi]
          obtain ⟨d, e, q'⟩ := UW.at (Q := fun d => d = .int (q : Int)) hq1 (by omega) rfl
          rw [e, q']
        have q0 : (q : Int) ≠ 0 := by omega
        have bq : Bd 14 (q : Int) := bd_nat qb
        have win : fIn true (.int (q : Int)) (.lst (intsD (natI l))) = some (.bool (true ^^ (natI l).contains (q : Int))) := fIn_ints
        have ll : (intsD (natI l)).length ≤ 10000 := by rw [intsD_length, natI_length]; omega
        have nx2 : (t : Int) + 1 = ((t + 1 : Nat) : Int) := by omega
        have pl43 := prodN_43 (l := l) (fun q h => (hq q h).2.2.1) (by omega)
        have mq : mulOk (prodN l : Nat) (q : Int) = true := mulOk_sm (by omega) (by omega)
        refine ⟨rfl, ?_⟩
        cases hc : (natI l).contains (q : Int) with
        | true =>
          rw [hc] at win
          have win' : fIn true (.int (q : Int)) (.lst (intsD (natI l))) = some (.bool false) := win
          clear win
          repeat' ((fail_if_success (with_reducible refine (?_ : @Eq _ _ _))); first | (with_reducible first | refine' CK.ret ?_ | refine' SK.next ?_ | refine' SK.ret ?_ | refine' SK.cont ?_ | refine' LK.next ?_ | refine' LK.cont ?_ | refine' RW.nil ?_ | refine' RW.seqK (fun K hK => ?_)) | ((with_reducible refine (?_ : RW _ _ _ _)); with_reducible refine' RW.lenOk (by with_unfolding_all exact rfl) ?_) | (with_reducible first | refine' SW.of ?_ | refine' PutAt.of ?_ ?_) | with_reducible exact SetR.z | (with_reducible first | refine' SetR.s3 ?_ | refine' SetR.s ?_) | (with_reducible refine (?_ : SetR _ (0 + 1) _ _)); refine SetR.s ?_ | ((with_reducible refine (?_ : RW _ _ _ _)); with_reducible refine' RW.retF (E := eVar _) (by with_unfolding_all exact rfl) ?_) | (with_reducible first | refine' RW.asg ?_ | refine' RW.ret ?_) | (fail_if_success (have : StopIf := by with_reducible assumption)); (with_reducible refine' RW.if ?_) | (with_reducible first | refine' RW.tup ?_ | refine' RW.for ?_ | refine' RW.while ?_ | refine' RW.new ?_) | ((with_reducible refine (?_ : RW _ _ _ _)); with_reducible refine' RW.app (by with_unfolding_all exact rfl) (by first | with_reducible assumption | with_unfolding_all exact Nat.le_of_ble_eq_true rfl) ?_) | ((with_reducible refine (?_ : RW _ _ _ _)); with_reducible refine' RW.aug (by with_unfolding_all exact rfl) ?_) | (with_reducible first | refine' TupK.two_t ?_ | refine' TupK.two_f ?_ | refine' TupK.four_f ?_ | refine' IfK.t ?_ | refine' IfK.f ?_) | (with_reducible refine' IfK.gd ?_; with_reducible refine' IfK.decT (by first | with_reducible assumption | with_unfolding_all omega) ?_) | (with_reducible refine' IfK.gd ?_; with_reducible refine' IfK.decF (by first | with_reducible assumption | with_unfolding_all omega) ?_) | (with_reducible first | refine' NotK.t ?_ | refine' NotK.f ?_ | refine' TruthK.bool ?_ | refine' TruthK.int ?_) | ((with_reducible refine (?_ : EW (eVar _) _ _)); with_reducible refine' EW.var (by with_unfolding_all exact rfl) ?_) | (with_reducible first | refine' EW.cst ?_ | refine' EW.e1 ?_ | refine' EW.e2 ?_ | refine' EW.call ?_ | refine' EW.tup ?_ | refine' EW.lst ?_ | refine' EW.or ?_ | refine' EW.e3c ?_ | refine' EW.comp ?_ | refine' EsW.nil ?_ | refine' EsW.cons ?_ | refine' TW.c ?_) | ((with_reducible refine (?_ : TpK _ _)); with_reducible refine' TpK.mk (by with_unfolding_all exact Nat.le_of_ble_eq_true rfl) ?_) | ((with_reducible refine (?_ : LsK _ _)); with_reducible refine' LsK.mk (by with_unfolding_all exact Nat.le_of_ble_eq_true rfl) ?_) | (with_reducible first | refine' TW.tOf ?_ | refine' TW.not ?_ | refine' TW.and ?_ | refine' TW.or ?_) | ((with_reducible refine (?_ : CW _ _ _)); with_reducible refine' CW.of (by with_reducible assumption) ?_) | ((with_reducible refine (?_ : CW fPow3 _ _)); with_reducible refine' CW.pow3 (by with_unfolding_all first | decide | omega) (by with_reducible assumption) ?_) | ((with_reducible refine (?_ : OW _ _ _ _)); with_reducible refine' OW.of (by with_reducible assumption) ?_) | (with_reducible first | refine' OW.add ?_ | refine' OW.addI ?_ | refine' OW.sub ?_ | refine' OW.and ?_ | refine' OW.ord ?_ | refine' OW.eq ?_ | refine' OW.ne ?_) | ((with_reducible refine (?_ : OW fMul _ _ _)); with_reducible refine' OW.mul (by first | with_reducible assumption | with_unfolding_all exact mulOk_sm (by omega) (by omega) | with_unfolding_all exact mulOk_bd (by repeat' kt_len) (by repeat' kt_len) (Nat.le_of_ble_eq_true rfl)) ?_) | ((with_reducible refine (?_ : OW fDiv _ _ _)); with_reducible refine' OW.div (by with_reducible assumption) ?_) | ((with_reducible refine (?_ : OW fMod _ _ _)); with_reducible refine' OW.mod (by first | with_reducible assumption | with_unfolding_all omega) ?_) | ((with_reducible refine (?_ : OW fPow _ _ _)); with_reducible refine' OW.pow (by with_reducible assumption) ?_) | (with_reducible first | refine' UW.neg ?_) | ((with_reducible refine (?_ : UW _ _ _)); with_reducible refine' UW.of (by with_reducible assumption) ?_) | (with_reducible first | refine' CW.max ?_ | refine' CW.range2 ?_) | ((with_reducible refine (?_ : CW _ _ _)); with_reducible refine' CW.fn (by with_unfolding_all (repeat (first | exact StartsAt.nil | apply StartsAt.cons | apply StartsAt.unb))) (by with_unfolding_all exact rfl) ?_) | (with_reducible first | refine' KK.use (by with_reducible assumption) ?_))
          exact ⟨t + 1, l, .imm (.int (t : Int)), .imm (.int (q : Int)), by omega, by omega, by rw [nx2, hu2], by omega, hnd, hq, rfl⟩
        | false =>
          rw [hc] at win
          have win' : fIn true (.int (q : Int)) (.lst (intsD (natI l))) = some (.bool true) := win
          clear win
          by_cases c : ((4 * s - (s * s - 5)) * (3 * (s * s - 5) + 4 * s) * (s * s - 5) * (4 * s) * ((s * s - 5) ^ (3 : Int).toNat - 4 * (4 * s) ^ (3 : Int).toNat)).fmod (q : Int) ≠ 0
          · repeat' ((fail_if_success (with_reducible refine (?_ : @Eq _ _ _))); first | (with_reducible first | refine' CK.ret ?_ | refine' SK.next ?_ | refine' SK.ret ?_ | refine' SK.cont ?_ | refine' LK.next ?_ | refine' LK.cont ?_ | refine' RW.nil ?_ | refine' RW.seqK (fun K hK => ?_)) | ((with_reducible refine (?_ : RW _ _ _ _)); with_reducible refine' RW.lenOk (by with_unfolding_all exact rfl) ?_) | (with_reducible first | refine' SW.of ?_ | refine' PutAt.of ?_ ?_) | with_reducible exact SetR.z | (with_reducible first | refine' SetR.s3 ?_ | refine' SetR.s ?_) | (with_reducible refine (?_ : SetR _ (0 + 1) _ _)); refine SetR.s ?_ | ((with_reducible refine (?_ : RW _ _ _ _)); with_reducible refine' RW.retF (E := eVar _) (by with_unfolding_all exact rfl) ?_) | (with_reducible first | refine' RW.asg ?_ | refine' RW.ret ?_) | (fail_if_success (have : StopIf := by with_reducible assumption)); (with_reducible refine' RW.if ?_) | (with_reducible first | refine' RW.tup ?_ | refine' RW.for ?_ | refine' RW.while ?_ | refine' RW.new ?_) | ((with_reducible refine (?_ : RW _ _ _ _)); with_reducible refine' RW.app (by with_unfolding_all exact rfl) (by first | with_reducible assumption | with_unfolding_all exact Nat.le_of_ble_eq_true rfl) ?_) | ((with_reducible refine (?_ : RW _ _ _ _)); with_reducible refine' RW.aug (by with_unfolding_all exact rfl) ?_) | (with_reducible first | refine' TupK.two_t ?_ | refine' TupK.two_f ?_ | refine' TupK.four_f ?_ | refine' IfK.t ?_ | refine' IfK.f ?_) | (with_reducible refine' IfK.gd ?_; with_reducible refine' IfK.decT (by first | with_reducible assumption | with_unfolding_all omega) ?_) | (with_reducible refine' IfK.gd ?_; with_reducible refine' IfK.decF (by first | with_reducible assumption | with_unfolding_all omega) ?_) | (with_reducible first | refine' NotK.t ?_ | refine' NotK.f ?_ | refine' TruthK.bool ?_ | refine' TruthK.int ?_) | ((with_reducible refine (?_ : EW (eVar _) _ _)); with_reducible refine' EW.var (by with_unfolding_all exact rfl) ?_) | (with_reducible first | refine' EW.cst ?_ | refine' EW.e1 ?_ | refine' EW.e2 ?_ | refine' EW.call ?_ | refine' EW.tup ?_ | refine' EW.lst ?_ | refine' EW.or ?_ | refine' EW.e3c ?_ | refine' EW.comp ?_ | refine' EsW.nil ?_ | refine' EsW.cons ?_ | refine' TW.c ?_) | ((with_reducible refine (?_ : TpK _ _)); with_reducible refine' TpK.mk (by with_unfolding_all exact Nat.le_of_ble_eq_true rfl) ?_) | ((with_reducible refine (?_ : LsK _ _)); with_reducible refine' LsK.mk (by with_unfolding_all exact Nat.le_of_ble_eq_true rfl) ?_) | (with_reducible first | refine' TW.tOf ?_ | refine' TW.not ?_ | refine' TW.and ?_ | refine' TW.or ?_) | ((with_reducible refine (?_ : CW _ _ _)); with_reducible refine' CW.of (by with_reducible assumption) ?_) | ((with_reducible refine (?_ : CW fPow3 _ _)); with_reducible refine' CW.pow3 (by with_unfolding_all first | decide | omega) (by with_reducible assumption) ?_) | ((with_reducible refine (?_ : OW _ _ _ _)); with_reducible refine' OW.of (by with_reducible assumption) ?_) | (with_reducible first | refine' OW.add ?_ | refine' OW.addI ?_ | refine' OW.sub ?_ | refine' OW.and ?_ | refine' OW.ord ?_ | refine' OW.eq ?_ | refine' OW.ne ?_) | ((with_reducible refine (?_ : OW fMul _ _ _)); with_reducible refine' OW.mul (by first | with_reducible assumption | with_unfolding_all exact mulOk_sm (by omega) (by omega) | with_unfolding_all exact mulOk_bd (by repeat' kt_len) (by repeat' kt_len) (Nat.le_of_ble_eq_true rfl)) ?_) | ((with_reducible refine (?_ : OW fDiv _ _ _)); with_reducible refine' OW.div (by with_reducible assumption) ?_) | ((with_reducible refine (?_ : OW fMod _ _ _)); with_reducible refine' OW.mod (by first | with_reducible assumption | with_unfolding_all omega) ?_) | ((with_reducible refine (?_ : OW fPow _ _ _)); with_reducible refine' OW.pow (by with_reducible assumption) ?_) | (with_reducible first | refine' UW.neg ?_) | ((with_reducible refine (?_ : UW _ _ _)); with_reducible refine' UW.of (by with_reducible assumption) ?_) | (with_reducible first | refine' CW.max ?_ | refine' CW.range2 ?_) | ((with_reducible refine (?_ : CW _ _ _)); with_reducible refine' CW.fn (by with_unfolding_all (repeat (first | exact StartsAt.nil | apply StartsAt.cons | apply StartsAt.unb))) (by with_unfolding_all exact rfl) ?_) | (with_reducible first | refine' KK.use (by with_reducible assumption) ?_))
            refine ⟨t + 1, l ++ [q], .imm (.int (t : Int)), .imm (.int (q : Int)), by omega, by omega, by rw [nx2, hu2], by rw [List.length_append]; simp; omega, ?_, ?_, by rw [natI_app, prodN_app, Int.natCast_mul]⟩
            · have nm : q ∉ l := by
                intro h
                have h' : (natI l).contains (q : Int) = true := List.contains_iff_mem.mpr (mem_natI.mpr ⟨q, h, rfl⟩)
                rw [hc] at h'
                cases h'
              rw [List.nodup_append]
              refine ⟨hnd, by simp, ?_⟩
              intro x hx y hy
              have : y = q := by simpa using hy
              rw [this]
              intro e
              rw [e] at hx
              exact nm hx
            · intro q' hq'
              rcases List.mem_append.mp hq' with h | h
              · exact hq q' h
              · have : q' = q := by simpa using h
                subst this
                exact ⟨hp, q5, qb, fun h => c (fmod_zero.mpr h)⟩
          · repeat' ((fail_if_success (with_reducible refine (?_ : @Eq _ _ _))); first | (with_reducible first | refine' CK.ret ?_ | refine' SK.next ?_ | refine' SK.ret ?_ | refine' SK.cont ?_ | refine' LK.next ?_ | refine' LK.cont ?_ | refine' RW.nil ?_ | refine' RW.seqK (fun K hK => ?_)) | ((with_reducible refine (?_ : RW _ _ _ _)); with_reducible refine' RW.lenOk (by with_unfolding_all exact rfl) ?_) | (with_reducible first | refine' SW.of ?_ | refine' PutAt.of ?_ ?_) | with_reducible exact SetR.z | (with_reducible first | refine' SetR.s3 ?_ | refine' SetR.s ?_) | (with_reducible refine (?_ : SetR _ (0 + 1) _ _)); refine SetR.s ?_ | ((with_reducible refine (?_ : RW _ _ _ _)); with_reducible refine' RW.retF (E := eVar _) (by with_unfolding_all exact rfl) ?_) | (with_reducible first | refine' RW.asg ?_ | refine' RW.ret ?_) | (fail_if_success (have : StopIf := by with_reducible assumption)); (with_reducible refine' RW.if ?_) | (with_reducible first | refine' RW.tup ?_ | refine' RW.for ?_ | refine' RW.while ?_ | refine' RW.new ?_) | ((with_reducible refine (?_ : RW _ _ _ _)); with_reducible refine' RW.app (by with_unfolding_all exact rfl) (by first | with_reducible assumption | with_unfolding_all exact Nat.le_of_ble_eq_true rfl) ?_) | ((with_reducible refine (?_ : RW _ _ _ _)); with_reducible refine' RW.aug (by with_unfolding_all exact rfl) ?_) | (with_reducible first | refine' TupK.two_t ?_ | refine' TupK.two_f ?_ | refine' TupK.four_f ?_ | refine' IfK.t ?_ | refine' IfK.f ?_) | (with_reducible refine' IfK.gd ?_; with_reducible refine' IfK.decT (by first | with_reducible assumption | with_unfolding_all omega) ?_) | (with_reducible refine' IfK.gd ?_; with_reducible refine' IfK.decF (by first | with_reducible assumption | with_unfolding_all omega) ?_) | (with_reducible first | refine' NotK.t ?_ | refine' NotK.f ?_ | refine' TruthK.bool ?_ | refine' TruthK.int ?_) | ((with_reducible refine (?_ : EW (eVar _) _ _)); with_reducible refine' EW.var (by with_unfolding_all exact rfl) ?_) | (with_reducible first | refine' EW.cst ?_ | refine' EW.e1 ?_ | refine' EW.e2 ?_ | refine' EW.call ?_ | refine' EW.tup ?_ | refine' EW.lst ?_ | refine' EW.or ?_ | refine' EW.e3c ?_ | refine' EW.comp ?_ | refine' EsW.nil ?_ | refine' EsW.cons ?_ | refine' TW.c ?_) | ((with_reducible refine (?_ : TpK _ _)); with_reducible refine' TpK.mk (by with_unfolding_all exact Nat.le_of_ble_eq_true rfl) ?_) | ((with_reducible refine (?_ : LsK _ _)); with_reducible refine' LsK.mk (by with_unfolding_all exact Nat.le_of_ble_eq_true rfl) ?_) | (with_reducible first | refine' TW.tOf ?_ | refine' TW.not ?_ | refine' TW.and ?_ | refine' TW.or ?_) | ((with_reducible refine (?_ : CW _ _ _)); with_reducible refine' CW.of (by with_reducible assumption) ?_) | ((with_reducible refine (?_ : CW fPow3 _ _)); with_reducible refine' CW.pow3 (by with_unfolding_all first | decide | omega) (by with_reducible assumption) ?_) | ((with_reducible refine (?_ : OW _ _ _ _)); with_reducible refine' OW.of (by with_reducible assumption) ?_) | (with_reducible first | refine' OW.add ?_ | refine' OW.addI ?_ | refine' OW.sub ?_ | refine' OW.and ?_ | refine' OW.ord ?_ | refine' OW.eq ?_ | refine' OW.ne ?_) | ((with_reducible refine (?_ : OW fMul _ _ _)); with_reducible refine' OW.mul (by first | with_reducible assumption | with_unfolding_all exact mulOk_sm (by omega) (by omega) | with_unfolding_all exact mulOk_bd (by repeat' kt_len) (by repeat' kt_len) (Nat.le_of_ble_eq_true rfl)) ?_) | ((with_reducible refine (?_ : OW fDiv _ _ _)); with_reducible refine' OW.div (by with_reducible assumption) ?_) | ((with_reducible refine (?_ : OW fMod _ _ _)); with_reducible refine' OW.mod (by first | with_reducible assumption | with_unfolding_all omega) ?_) | ((with_reducible refine (?_ : OW fPow _ _ _)); with_reducible refine' OW.pow (by with_reducible assumption) ?_) | (with_reducible first | refine' UW.neg ?_) | ((with_reducible refine (?_ : UW _ _ _)); with_reducible refine' UW.of (by with_reducible assumption) ?_) | (with_reducible first | refine' CW.max ?_ | refine' CW.range2 ?_) | ((with_reducible refine (?_ : CW _ _ _)); with_reducible refine' CW.fn (by with_unfolding_all (repeat (first | exact StartsAt.nil | apply StartsAt.cons | apply StartsAt.unb))) (by with_unfolding_all exact rfl) ?_) | (with_reducible first | refine' KK.use (by with_reducible assumption) ?_))
            exact ⟨t + 1, l, .imm (.int (t : Int)), .imm (.int (q : Int)), by omega, by omega, by rw [nx2, hu2], by omega, hnd, hq, rfl⟩
      · rw [Nat.sub_eq_zero_of_le (by omega)] at e
        cases e
    rintro σ ⟨t, l, sl1, sl2, t4, t7, e, hl, hnd, hq, rfl⟩
    have hp : ∀ q ∈ l, Prm q := fun q h => (hq q h).1
    have pl43 := prodN_43 (l := l) (fun q h => (hq q h).2.2.1) (by omega)
    have plp := prodN_pos (l := l) (fun q h => (hq q h).2.1)
    have ll : (intsD (natI l)).length ≤ 10000 := by rw [intsD_length, natI_length]; omega
    have bn : Bd 100 (prodN l : Nat) := by
      unfold Bd
      rw [Int.natAbs_natCast]
      exact Nat.lt_of_lt_of_le pl43 (Nat.pow_le_pow_right (by decide) (by omega))
    have wsec := s6 (prodN l : Nat) s (D4.fmod 24 - 1) (D5.fmod 42 - 1) (by omega) bn bs (by omega) (by omega) (by omega) (by omega)
    obtain ⟨b, hb, hb2⟩ : ∃ b, (D4.fmod 24 - 1).toNat = b ∧ b ≤ 22 := ⟨_, rfl, by omega⟩
    obtain ⟨c, hc, hc2⟩ : ∃ c, (D5.fmod 42 - 1).toNat = c ∧ c ≤ 40 := ⟨_, rfl, by omega⟩
    rw [hb, hc] at wsec wcn
    have fin := fin06 hnd hp s b c
    simp only at fin
    rw [fin] at wsec
    clear fin
    have wcar : ∀ q ∈ l, f12 [.int (q : Int), .int s, .lst (intsD (natI ((fstL b).map eff))), .lst (intsD (natI (sndL b c)))] = some (.tup [.bool (decide ((q : Int) ∣ (runQ (cI (prodN l : Nat) s) (prodN l : Nat) (fstL b) (q0I (prodN l : Nat) s)).2)), .bool (decide ((q : Int) ∣ (runQ (cI (prodN l : Nat) s) (prodN l : Nat) (fstL b) (q0I (prodN l : Nat) s)).2) || anyZ (cI (prodN l : Nat) s) (prodN l : Nat) q (sndL b c) (runQ (cI (prodN l : Nat) s) (prodN l : Nat) (fstL b) (q0I (prodN l : Nat) s)))]) := by
      intro q hql
      obtain ⟨g1, g2, g3, g4⟩ := hq q hql
      have h := s12 q (prodN l : Nat) s (fstL b) (sndL b c) g1 g2 g3 (Int.natCast_dvd_natCast.mpr (dvd_prodN hql)) bs g4 (fun m hm => by have := fst_ok hb2 hm; omega) (fun m hm => by have := snd_ok hm; omega) (by
        unfold fstL
        rw [List.length_map]
        exact Nat.le_trans (pgR_length _) (by omega)) (by
        unfold sndL
        exact Nat.le_trans (List.length_filter_le _ _) (Nat.le_trans (pgR_length _) (by omega)))
      rw [eff_snd hc2] at h
      exact h
    generalize runQ (cI (prodN l : Nat) s) (prodN l : Nat) (fstL b) (q0I (prodN l : Nat) s) = Q1 at *
    obtain ⟨fe, hfe⟩ : ∃ fe : Nat → Bool, (fun (q : Nat) => decide ((q : Int) ∣ Q1.2)) = fe := ⟨_, rfl⟩
    obtain ⟨fl, hfl⟩ : ∃ fl : Nat → Bool, (fun (q : Nat) => decide ((q : Int) ∣ Q1.2) || anyZ (cI (prodN l : Nat) s) (prodN l : Nat) q (sndL b c) Q1) = fl := ⟨_, rfl⟩
    have wcar' : ∀ q ∈ l, f12 [.int (q : Int), .int s, .lst (intsD (natI ((fstL b).map eff))), .lst (intsD (natI (sndL b c)))] = some (.tup [.bool (fe q), .bool (fl q)]) := by
      intro q hql
      rw [← hfe, ← hfl]; exact wcar q hql
    rw [hfe, hfl] at wsec
    clear wcar hfe hfl
    have lim : ∀ (f : Nat → Bool) (l' : List Nat) (x : Nat), x * prodN (l'.filter f) = prodN (l.filter f) → x < 2 ^ 43 := by
      intro f l' x h
      have h1 : prodN (l.filter f) < 2 ^ 43 := prodN_43 (fun q hm => (hq q (List.mem_filter.mp hm).1).2.2.1) (Nat.le_trans (List.length_filter_le _ _) (by omega))
      have h2 : 0 < prodN (l.filter f) := prodN_pos fun q hm => (hq q (List.mem_filter.mp hm).1).2.1
      have h3 : x ∣ prodN (l.filter f) := ⟨_, h.symm⟩
      exact Nat.lt_of_le_of_lt (Nat.le_of_dvd h2 h3) h1
    repeat' ((fail_if_success (with_reducible refine (?_ : @Eq _ _ _))); first | (with_reducible first | refine' CK.ret ?_ | refine' SK.next ?_ | refine' SK.ret ?_ | refine' SK.cont ?_ | refine' LK.next ?_ | refine' LK.cont ?_ | refine' RW.nil ?_ | refine' RW.seqK (fun K hK => ?_)) | ((with_reducible refine (?_ : RW _ _ _ _)); with_reducible refine' RW.lenOk (by with_unfolding_all exact rfl) ?_) | (with_reducible first | refine' SW.of ?_ | refine' PutAt.of ?_ ?_) | with_reducible exact SetR.z | (with_reducible first | refine' SetR.s3 ?_ | refine' SetR.s ?_) | (with_reducible refine (?_ : SetR _ (0 + 1) _ _)); refine SetR.s ?_ | ((with_reducible refine (?_ : RW _ _ _ _)); with_reducible refine' RW.retF (E := eVar _) (by with_unfolding_all exact rfl) ?_) | (with_reducible first | refine' RW.asg ?_ | refine' RW.ret ?_) | (fail_if_success (have : StopIf := by with_reducible assumption)); (with_reducible refine' RW.if ?_) | (with_reducible first | refine' RW.tup ?_ | refine' RW.for ?_ | refine' RW.while ?_ | refine' RW.new ?_) | ((with_reducible refine (?_ : RW _ _ _ _)); with_reducible refine' RW.app (by with_unfolding_all exact rfl) (by first | with_reducible assumption | with_unfolding_all exact Nat.le_of_ble_eq_true rfl) ?_) | ((with_reducible refine (?_ : RW _ _ _ _)); with_reducible refine' RW.aug (by with_unfolding_all exact rfl) ?_) | (with_reducible first | refine' TupK.two_t ?_ | refine' TupK.two_f ?_ | refine' TupK.four_f ?_ | refine' IfK.t ?_ | refine' IfK.f ?_) | (with_reducible refine' IfK.gd ?_; with_reducible refine' IfK.decT (by first | with_reducible assumption | with_unfolding_all omega) ?_) | (with_reducible refine' IfK.gd ?_; with_reducible refine' IfK.decF (by first | with_reducible assumption | with_unfolding_all omega) ?_) | (with_reducible first | refine' NotK.t ?_ | refine' NotK.f ?_ | refine' TruthK.bool ?_ | refine' TruthK.int ?_) | ((with_reducible refine (?_ : EW (eVar _) _ _)); with_reducible refine' EW.var (by with_unfolding_all exact rfl) ?_) | (with_reducible first | refine' EW.cst ?_ | refine' EW.e1 ?_ | refine' EW.e2 ?_ | refine' EW.call ?_ | refine' EW.tup ?_ | refine' EW.lst ?_ | refine' EW.or ?_ | refine' EW.e3c ?_ | refine' EW.comp ?_ | refine' EsW.nil ?_ | refine' EsW.cons ?_ | refine' TW.c ?_) | ((with_reducible refine (?_ : TpK _ _)); with_reducible refine' TpK.mk (by with_unfolding_all exact Nat.le_of_ble_eq_true rfl) ?_) | ((with_reducible refine (?_ : LsK _ _)); with_reducible refine' LsK.mk (by with_unfolding_all exact Nat.le_of_ble_eq_true rfl) ?_) | (with_reducible first | refine' TW.tOf ?_ | refine' TW.not ?_ | refine' TW.and ?_ | refine' TW.or ?_) | ((with_reducible refine (?_ : CW _ _ _)); with_reducible refine' CW.of (by with_reducible assumption) ?_) | ((with_reducible refine (?_ : CW fPow3 _ _)); with_reducible refine' CW.pow3 (by with_unfolding_all first | decide | omega) (by with_reducible assumption) ?_) | ((with_reducible refine (?_ : OW _ _ _ _)); with_reducible refine' OW.of (by with_reducible assumption) ?_) | (with_reducible first | refine' OW.add ?_ | refine' OW.addI ?_ | refine' OW.sub ?_ | refine' OW.and ?_ | refine' OW.ord ?_ | refine' OW.eq ?_ | refine' OW.ne ?_) | ((with_reducible refine (?_ : OW fMul _ _ _)); with_reducible refine' OW.mul (by first | with_reducible assumption | with_unfolding_all exact mulOk_sm (by omega) (by omega) | with_unfolding_all exact mulOk_bd (by repeat' kt_len) (by repeat' kt_len) (Nat.le_of_ble_eq_true rfl)) ?_) | ((with_reducible refine (?_ : OW fDiv _ _ _)); with_reducible refine' OW.div (by with_reducible assumption) ?_) | ((with_reducible refine (?_ : OW fMod _ _ _)); with_reducible refine' OW.mod (by first | with_reducible assumption | with_unfolding_all omega) ?_) | ((with_reducible refine (?_ : OW fPow _ _ _)); with_reducible refine' OW.pow (by with_reducible assumption) ?_) | (with_reducible first | refine' UW.neg ?_) | ((with_reducible refine (?_ : UW _ _ _)); with_reducible refine' UW.of (by with_reducible assumption) ?_) | (with_reducible first | refine' CW.max ?_ | refine' CW.range2 ?_) | ((with_reducible refine (?_ : CW _ _ _)); with_reducible refine' CW.fn (by with_unfolding_all (repeat (first | exact StartsAt.nil | apply StartsAt.cons | apply StartsAt.unb))) (by with_unfolding_all exact rfl) ?_) | (with_reducible first | refine' KK.use (by with_reducible assumption) ?_))
    refine RW.forM rfl ll rfl ?_
    repeat' ((fail_if_success (with_reducible refine (?_ : @Eq _ _ _))); first | (with_reducible first | refine' CK.ret ?_ | refine' SK.next ?_ | refine' SK.ret ?_ | refine' SK.cont ?_ | refine' LK.next ?_ | refine' LK.cont ?_ | refine' RW.nil ?_ | refine' RW.seqK (fun K hK => ?_)) | ((with_reducible refine (?_ : RW _ _ _ _)); with_reducible refine' RW.lenOk (by with_unfolding_all exact rfl) ?_) | (with_reducible first | refine' SW.of ?_ | refine' PutAt.of ?_ ?_) | with_reducible exact SetR.z | (with_reducible first | refine' SetR.s3 ?_ | refine' SetR.s ?_) | (with_reducible refine (?_ : SetR _ (0 + 1) _ _)); refine SetR.s ?_ | ((with_reducible refine (?_ : RW _ _ _ _)); with_reducible refine' RW.retF (E := eVar _) (by with_unfolding_all exact rfl) ?_) | (with_reducible first | refine' RW.asg ?_ | refine' RW.ret ?_) | (fail_if_success (have : StopIf := by with_reducible assumption)); (with_reducible refine' RW.if ?_) | (with_reducible first | refine' RW.tup ?_ | refine' RW.for ?_ | refine' RW.while ?_ | refine' RW.new ?_) | ((with_reducible refine (?_ : RW _ _ _ _)); with_reducible refine' RW.app (by with_unfolding_all exact rfl) (by first | with_reducible assumption | with_unfolding_all exact Nat.le_of_ble_eq_true rfl) ?_) | ((with_reducible refine (?_ : RW _ _ _ _)); with_reducible refine' RW.aug (by with_unfolding_all exact rfl) ?_) | (with_reducible first | refine' TupK.two_t ?_ | refine' TupK.two_f ?_ | refine' TupK.four_f ?_ | refine' IfK.t ?_ | refine' IfK.f ?_) | (with_reducible refine' IfK.gd ?_; with_reducible refine' IfK.decT (by first | with_reducible assumption | with_unfolding_all omega) ?_) | (with_reducible refine' IfK.gd ?_; with_reducible refine' IfK.decF (by first | with_reducible assumption | with_unfolding_all omega) ?_) | (with_reducible first | refine' NotK.t ?_ | refine' NotK.f ?_ | refine' TruthK.bool ?_ | refine' TruthK.int ?_) | ((with_reducible refine (?_ : EW (eVar _) _ _)); with_reducible refine' EW.var (by with_unfolding_all exact rfl) ?_) | (with_reducible first | refine' EW.cst ?_ | refine' EW.e1 ?_ | refine' EW.e2 ?_ | refine' EW.call ?_ | refine' EW.tup ?_ | refine' EW.lst ?_ | refine' EW.or ?_ | refine' EW.e3c ?_ | refine' EW.comp ?_ | refine' EsW.nil ?_ | refine' EsW.cons ?_ | refine' TW.c ?_) | ((with_reducible refine (?_ : TpK _ _)); with_reducible refine' TpK.mk (by with_unfolding_all exact Nat.le_of_ble_eq_true rfl) ?_) | ((with_reducible refine (?_ : LsK _ _)); with_reducible refine' LsK.mk (by with_unfolding_all exact Nat.le_of_ble_eq_true rfl) ?_) | (with_reducible first | refine' TW.tOf ?_ | refine' TW.not ?_ | refine' TW.and ?_ | refine' TW.or ?_) | ((with_reducible refine (?_ : CW _ _ _)); with_reducible refine' CW.of (by with_reducible assumption) ?_) | ((with_reducible refine (?_ : CW fPow3 _ _)); with_reducible refine' CW.pow3 (by with_unfolding_all first | decide | omega) (by with_reducible assumption) ?_) | ((with_reducible refine (?_ : OW _ _ _ _)); with_reducible refine' OW.of (by with_reducible assumption) ?_) | (with_reducible first | refine' OW.add ?_ | refine' OW.addI ?_ | refine' OW.sub ?_ | refine' OW.and ?_ | refine' OW.ord ?_ | refine' OW.eq ?_ | refine' OW.ne ?_) | ((with_reducible refine (?_ : OW fMul _ _ _)); with_reducible refine' OW.mul (by first | with_reducible assumption | with_unfolding_all exact mulOk_sm (by omega) (by omega) | with_unfolding_all exact mulOk_bd (by repeat' kt_len) (by repeat' kt_len) (Nat.le_of_ble_eq_true rfl)) ?_) | ((with_reducible refine (?_ : OW fDiv _ _ _)); with_reducible refine' OW.div (by with_reducible assumption) ?_) | ((with_reducible refine (?_ : OW fMod _ _ _)); with_reducible refine' OW.mod (by first | with_reducible assumption | with_unfolding_all omega) ?_) | ((with_reducible refine (?_ : OW fPow _ _ _)); with_reducible refine' OW.pow (by with_reducible assumption) ?_) | (with_reducible first | refine' UW.neg ?_) | ((with_reducible refine (?_ : UW _ _ _)); with_reducible refine' UW.of (by with_reducible assumption) ?_) | (with_reducible first | refine' CW.max ?_ | refine' CW.range2 ?_) | ((with_reducible refine (?_ : CW _ _ _)); with_reducible refine' CW.fn (by with_unfolding_all (repeat (first | exact StartsAt.nil | apply StartsAt.cons | apply StartsAt.unb))) (by with_unfolding_all exact rfl) ?_) | (with_reducible first | refine' KK.use (by with_reducible assumption) ?_))
    refine LW.inv (fun ds σ => ∃ (l' : List Nat) (x y : Nat) (s1 s2 : Slot), ds = intsD (natI l') ∧ (∀ q ∈ l', q ∈ l) ∧ x * prodN (l'.filter fe) = prodN (l.filter fe) ∧ y * prodN (l'.filter fl) = prodN (l.filter fl) ∧ σ = [.imm (.lst (intsD ns)), .imm (.int s), .imm (.int (s * s - 5)), .imm (.int (4 * s)), .imm (.lst (intsD (natI l))), .imm (.int (prodN l : Nat)), sl1, s1, .imm (.int (D4.fmod 24 - 1)), .imm (.int (D5.fmod 42 - 1)), .imm (.lst (intsD (natI ((fstL b).map eff)))), .imm (.lst (intsD (natI (sndL b c)))), .imm (.int (x : Nat)), .imm (.int (y : Nat)), s2]) ⟨l, 1, 1, _, _, rfl, fun _ h => h, Nat.one_mul _, Nat.one_mul _, rfl⟩ ?_ ?_
    · rintro d' ds σ ⟨l', x, y, s1, s2, e, hl', hx, hy, rfl⟩
      cases l' with
      | nil => cases e
      | cons q l' =>
        cases e
        have wc := wcar' q (hl' q (.head _))
        have mx : mulOk (x : Nat) (q : Int) = true := by
          have := lim fe _ _ hx
          exact mulOk_sm (by omega) (by omega)
        have my : mulOk (y : Nat) (q : Int) = true := by
          have := lim fl _ _ hy
          exact mulOk_sm (by omega) (by omega)
        have hl2 : ∀ x ∈ l', x ∈ l := fun x h => hl' x (.tail _ h)
        rw [List.filter_cons] at hx hy
        refine ⟨rfl, ?_⟩
        cases h1 : fe q <;> cases h2 : fl q <;> rw [h1, h2] at wc <;> simp only [h1, h2, if_true, Bool.false_eq_true, if_false, prodN, ← Nat.mul_assoc] at hx hy
        all_goals
          have z0 : ∀ a b : Bool, fSubs (.tup [.bool a, .bool b]) (.int 0) = some (.bool a) := fun _ _ => rfl
          have z1 : ∀ a b : Bool, fSubs (.tup [.bool a, .bool b]) (.int 1) = some (.bool b) := fun _ _ => rfl
          have z00 := z0 (fe q) (fl q)
          have z11 := z1 (fe q) (fl q)
          rw [h1, h2] at z00 z11
          clear z0 z1
          repeat' ((fail_if_success (with_reducible refine (?_ : @Eq _ _ _))); first | (with_reducible first | refine' CK.ret ?_ | refine' SK.next ?_ | refine' SK.ret ?_ | refine' SK.cont ?_ | refine' LK.next ?_ | refine' LK.cont ?_ | refine' RW.nil ?_ | refine' RW.seqK (fun K hK => ?_)) | ((with_reducible refine (?_ : RW _ _ _ _)); with_reducible refine' RW.lenOk (by with_unfolding_all exact rfl) ?_) | (with_reducible first | refine' SW.of ?_ | refine' PutAt.of ?_ ?_) | with_reducible exact SetR.z | (with_reducible first | refine' SetR.s3 ?_ | refine' SetR.s ?_) | (with_reducible refine (?_ : SetR _ (0 + 1) _ _)); refine SetR.s ?_ | ((with_reducible refine (?_ : RW _ _ _ _)); with_reducible refine' RW.retF (E := eVar _) (by with_unfolding_all exact rfl) ?_) | (with_reducible first | refine' RW.asg ?_ | refine' RW.ret ?_) | (fail_if_success (have : StopIf := by with_reducible assumption)); (with_reducible refine' RW.if ?_) | (with_reducible first | refine' RW.tup ?_ | refine' RW.for ?_ | refine' RW.while ?_ | refine' RW.new ?_) | ((with_reducible refine (?_ : RW _ _ _ _)); with_reducible refine' RW.app (by with_unfolding_all exact rfl) (by first | with_reducible assumption | with_unfolding_all exact Nat.le_of_ble_eq_true rfl) ?_) | ((with_reducible refine (?_ : RW _ _ _ _)); with_reducible refine' RW.aug (by with_unfolding_all exact rfl) ?_) | (with_reducible first | refine' TupK.two_t ?_ | refine' TupK.two_f ?_ | refine' TupK.four_f ?_ | refine' IfK.t ?_ | refine' IfK.f ?_) | (with_reducible refine' IfK.gd ?_; with_reducible refine' IfK.decT (by first | with_reducible assumption | with_unfolding_all omega) ?_) | (with_reducible refine' IfK.gd ?_; with_reducible refine' IfK.decF (by first | with_reducible assumption | with_unfolding_all omega) ?_) | (with_reducible first | refine' NotK.t ?_ | refine' NotK.f ?_ | refine' TruthK.bool ?_ | refine' TruthK.int ?_) | ((with_reducible refine (?_ : EW (eVar _) _ _)); with_reducible refine' EW.var (by with_unfolding_all exact rfl) ?_) | (with_reducible first | refine' EW.cst ?_ | refine' EW.e1 ?_ | refine' EW.e2 ?_ | refine' EW.call ?_ | refine' EW.tup ?_ | refine' EW.lst ?_ | refine' EW.or ?_ | refine' EW.e3c ?_ | refine' EW.comp ?_ | refine' EsW.nil ?_ | refine' EsW.cons ?_ | refine' TW.c ?_) | ((with_reducible refine (?_ : TpK _ _)); with_reducible refine' TpK.mk (by with_unfolding_all exact Nat.le_of_ble_eq_true rfl) ?_) | ((with_reducible refine (?_ : LsK _ _)); with_reducible refine' LsK.mk (by with_unfolding_all exact Nat.le_of_ble_eq_true rfl) ?_) | (with_reducible first | refine' TW.tOf ?_ | refine' TW.not ?_ | refine' TW.and ?_ | refine' TW.or ?_) | ((with_reducible refine (?_ : CW _ _ _)); with_reducible refine' CW.of (by with_reducible assumption) ?_) | ((with_reducible refine (?_ : CW fPow3 _ _)); with_reducible refine' CW.pow3 (by with_unfolding_all first | decide | omega) (by with_reducible assumption) ?_) | ((with_reducible refine (?_ : OW _ _ _ _)); with_reducible refine' OW.of (by with_reducible assumption) ?_) | (with_reducible first | refine' OW.add ?_ | refine' OW.addI ?_ | refine' OW.sub ?_ | refine' OW.and ?_ | refine' OW.ord ?_ | refine' OW.eq ?_ | refine' OW.ne ?_) | ((with_reducible refine (?_ : OW fMul _ _ _)); with_reducible refine' OW.mul (by first | with_reducible assumption | with_unfolding_all exact mulOk_sm (by omega) (by omega) | with_unfolding_all exact mulOk_bd (by repeat' kt_len) (by repeat' kt_len) (Nat.le_of_ble_eq_true rfl)) ?_) | ((with_reducible refine (?_ : OW fDiv _ _ _)); with_reducible refine' OW.div (by with_reducible assumption) ?_) | ((with_reducible refine (?_ : OW fMod _ _ _)); with_reducible refine' OW.mod (by first | with_reducible assumption | with_unfolding_all omega) ?_) | ((with_reducible refine (?_ : OW fPow _ _ _)); with_reducible refine' OW.pow (by with_reducible assumption) ?_) | (with_reducible first | refine' UW.neg ?_) | ((with_reducible refine (?_ : UW _ _ _)); with_reducible refine' UW.of (by with_reducible assumption) ?_) | (with_reducible first | refine' CW.max ?_ | refine' CW.range2 ?_) | ((with_reducible refine (?_ : CW _ _ _)); with_reducible refine' CW.fn (by with_unfolding_all (repeat (first | exact StartsAt.nil | apply StartsAt.cons | apply StartsAt.unb))) (by with_unfolding_all exact rfl) ?_) | (with_reducible first | refine' KK.use (by with_reducible assumption) ?_))
        · exact ⟨l', x, y, _, _, rfl, hl2, hx, hy, rfl⟩
        · exact ⟨l', x, y * q, _, _, rfl, hl2, hx, hy, by rw [Int.natCast_mul]⟩
        · exact ⟨l', x * q, y, _, _, rfl, hl2, hx, hy, by rw [Int.natCast_mul]⟩
        · exact ⟨l', x * q, y * q, _, _, rfl, hl2, hx, hy, by rw [Int.natCast_mul, Int.natCast_mul]⟩
    rintro σ ⟨l', x, y, s1, s2, e, hl', hx, hy, rfl⟩
    cases l' with
    | cons q l' => cases e
    | nil =>
      rw [List.filter_nil, prodN, Nat.mul_one] at hx hy
      rw [← hx, ← hy] at wsec
      by_cases c1 : 1 < (x : Int)
      · by_cases c2 : (x : Int) < (prodN l : Nat)
        · rw [if_pos ⟨c1, c2⟩] at wsec
          repeat' ((fail_if_success (with_reducible refine (?_ : @Eq _ _ _))); first | (with_reducible first | refine' CK.ret ?_ | refine' SK.next ?_ | refine' SK.ret ?_ | refine' SK.cont ?_ | refine' LK.next ?_ | refine' LK.cont ?_ | refine' RW.nil ?_ | refine' RW.seqK (fun K hK => ?_)) | ((with_reducible refine (?_ : RW _ _ _ _)); with_reducible refine' RW.lenOk (by with_unfolding_all exact rfl) ?_) | (with_reducible first | refine' SW.of ?_ | refine' PutAt.of ?_ ?_) | with_reducible exact SetR.z | (with_reducible first | refine' SetR.s3 ?_ | refine' SetR.s ?_) | (with_reducible refine (?_ : SetR _ (0 + 1) _ _)); refine SetR.s ?_ | ((with_reducible refine (?_ : RW _ _ _ _)); with_reducible refine' RW.retF (E := eVar _) (by with_unfolding_all exact rfl) ?_) | (with_reducible first | refine' RW.asg ?_ | refine' RW.ret ?_) | (fail_if_success (have : StopIf := by with_reducible assumption)); (with_reducible refine' RW.if ?_) | (with_reducible first | refine' RW.tup ?_ | refine' RW.for ?_ | refine' RW.while ?_ | refine' RW.new ?_) | ((with_reducible refine (?_ : RW _ _ _ _)); with_reducible refine' RW.app (by with_unfolding_all exact rfl) (by first | with_reducible assumption | with_unfolding_all exact Nat.le_of_ble_eq_true rfl) ?_) | ((with_reducible refine (?_ : RW _ _ _ _)); with_reducible refine' RW.aug (by with_unfolding_all exact rfl) ?_) | (with_reducible first | refine' TupK.two_t ?_ | refine' TupK.two_f ?_ | refine' TupK.four_f ?_ | refine' IfK.t ?_ | refine' IfK.f ?_) | (with_reducible refine' IfK.gd ?_; with_reducible refine' IfK.decT (by first | with_reducible assumption | with_unfolding_all omega) ?_) | (with_reducible refine' IfK.gd ?_; with_reducible refine' IfK.decF (by first | with_reducible assumption | with_unfolding_all omega) ?_) | (with_reducible first | refine' NotK.t ?_ | refine' NotK.f ?_ | refine' TruthK.bool ?_ | refine' TruthK.int ?_) | ((with_reducible refine (?_ : EW (eVar _) _ _)); with_reducible refine' EW.var (by with_unfolding_all exact rfl) ?_) | (with_reducible first | refine' EW.cst ?_ | refine' EW.e1 ?_ | refine' EW.e2 ?_ | refine' EW.call ?_ | refine' EW.tup ?_ | refine' EW.lst ?_ | refine' EW.or ?_ | refine' EW.e3c ?_ | refine' EW.comp ?_ | refine' EsW.nil ?_ | refine' EsW.cons ?_ | refine' TW.c ?_) | ((with_reducible refine (?_ : TpK _ _)); with_reducible refine' TpK.mk (by with_unfolding_all exact Nat.le_of_ble_eq_true rfl) ?_) | ((with_reducible refine (?_ : LsK _ _)); with_reducible refine' LsK.mk (by with_unfolding_all exact Nat.le_of_ble_eq_true rfl) ?_) | (with_reducible first | refine' TW.tOf ?_ | refine' TW.not ?_ | refine' TW.and ?_ | refine' TW.or ?_) | ((with_reducible refine (?_ : CW _ _ _)); with_reducible refine' CW.of (by with_reducible assumption) ?_) | ((with_reducible refine (?_ : CW fPow3 _ _)); with_reducible refine' CW.pow3 (by with_unfolding_all first | decide | omega) (by with_reducible assumption) ?_) | ((with_reducible refine (?_ : OW _ _ _ _)); with_reducible refine' OW.of (by with_reducible assumption) ?_) | (with_reducible first | refine' OW.add ?_ | refine' OW.addI ?_ | refine' OW.sub ?_ | refine' OW.and ?_ | refine' OW.ord ?_ | refine' OW.eq ?_ | refine' OW.ne ?_) | ((with_reducible refine (?_ : OW fMul _ _ _)); with_reducible refine' OW.mul (by first | with_reducible assumption | with_unfolding_all exact mulOk_sm (by omega) (by omega) | with_unfolding_all exact mulOk_bd (by repeat' kt_len) (by repeat' kt_len) (Nat.le_of_ble_eq_true rfl)) ?_) | ((with_reducible refine (?_ : OW fDiv _ _ _)); with_reducible refine' OW.div (by with_reducible assumption) ?_) | ((with_reducible refine (?_ : OW fMod _ _ _)); with_reducible refine' OW.mod (by first | with_reducible assumption | with_unfolding_all omega) ?_) | ((with_reducible refine (?_ : OW fPow _ _ _)); with_reducible refine' OW.pow (by with_reducible assumption) ?_) | (with_reducible first | refine' UW.neg ?_) | ((with_reducible refine (?_ : UW _ _ _)); with_reducible refine' UW.of (by with_reducible assumption) ?_) | (with_reducible first | refine' CW.max ?_ | refine' CW.range2 ?_) | ((with_reducible refine (?_ : CW _ _ _)); with_reducible refine' CW.fn (by with_unfolding_all (repeat (first | exact StartsAt.nil | apply StartsAt.cons | apply StartsAt.unb))) (by with_unfolding_all exact rfl) ?_) | (with_reducible first | refine' KK.use (by with_reducible assumption) ?_))
          simp
        · rw [if_neg (fun h => c2 h.2)] at wsec
          repeat' ((fail_if_success (with_reducible refine (?_ : @Eq _ _ _))); first | (with_reducible first | refine' CK.ret ?_ | refine' SK.next ?_ | refine' SK.ret ?_ | refine' SK.cont ?_ | refine' LK.next ?_ | refine' LK.cont ?_ | refine' RW.nil ?_ | refine' RW.seqK (fun K hK => ?_)) | ((with_reducible refine (?_ : RW _ _ _ _)); with_reducible refine' RW.lenOk (by with_unfolding_all exact rfl) ?_) | (with_reducible first | refine' SW.of ?_ | refine' PutAt.of ?_ ?_) | with_reducible exact SetR.z | (with_reducible first | refine' SetR.s3 ?_ | refine' SetR.s ?_) | (with_reducible refine (?_ : SetR _ (0 + 1) _ _)); refine SetR.s ?_ | ((with_reducible refine (?_ : RW _ _ _ _)); with_reducible refine' RW.retF (E := eVar _) (by with_unfolding_all exact rfl) ?_) | (with_reducible first | refine' RW.asg ?_ | refine' RW.ret ?_) | (fail_if_success (have : StopIf := by with_reducible assumption)); (with_reducible refine' RW.if ?_) | (with_reducible first | refine' RW.tup ?_ | refine' RW.for ?_ | refine' RW.while ?_ | refine' RW.new ?_) | ((with_reducible refine (?_ : RW _ _ _ _)); with_reducible refine' RW.app (by with_unfolding_all exact rfl) (by first | with_reducible assumption | with_unfolding_all exact Nat.le_of_ble_eq_true rfl) ?_) | ((with_reducible refine (?_ : RW _ _ _ _)); with_reducible refine' RW.aug (by with_unfolding_all exact rfl) ?_) | (with_reducible first | refine' TupK.two_t ?_ | refine' TupK.two_f ?_ | refine' TupK.four_f ?_ | refine' IfK.t ?_ | refine' IfK.f ?_) | (with_reducible refine' IfK.gd ?_; with_reducible refine' IfK.decT (by first | with_reducible assumption | with_unfolding_all omega) ?_) | (with_reducible refine' IfK.gd ?_; with_reducible refine' IfK.decF (by first | with_reducible assumption | with_unfolding_all omega) ?_) | (with_reducible first | refine' NotK.t ?_ | refine' NotK.f ?_ | refine' TruthK.bool ?_ | refine' TruthK.int ?_) | ((with_reducible refine (?_ : EW (eVar _) _ _)); with_reducible refine' EW.var (by with_unfolding_all exact rfl) ?_) | (with_reducible first | refine' EW.cst ?_ | refine' EW.e1 ?_ | refine' EW.e2 ?_ | refine' EW.call ?_ | refine' EW.tup ?_ | refine' EW.lst ?_ | refine' EW.or ?_ | refine' EW.e3c ?_ | refine' EW.comp ?_ | refine' EsW.nil ?_ | refine' EsW.cons ?_ | refine' TW.c ?_) | ((with_reducible refine (?_ : TpK _ _)); with_reducible refine' TpK.mk (by with_unfolding_all exact Nat.le_of_ble_eq_true rfl) ?_) | ((with_reducible refine (?_ : LsK _ _)); with_reducible refine' LsK.mk (by with_unfolding_all exact Nat.le_of_ble_eq_true rfl) ?_) | (with_reducible first | refine' TW.tOf ?_ | refine' TW.not ?_ | refine' TW.and ?_ | refine' TW.or ?_) | ((with_reducible refine (?_ : CW _ _ _)); with_reducible refine' CW.of (by with_reducible assumption) ?_) | ((with_reducible refine (?_ : CW fPow3 _ _)); with_reducible refine' CW.pow3 (by with_unfolding_all first | decide | omega) (by with_reducible assumption) ?_) | ((with_reducible refine (?_ : OW _ _ _ _)); with_reducible refine' OW.of (by with_reducible assumption) ?_) | (with_reducible first | refine' OW.add ?_ | refine' OW.addI ?_ | refine' OW.sub ?_ | refine' OW.and ?_ | refine' OW.ord ?_ | refine' OW.eq ?_ | refine' OW.ne ?_) | ((with_reducible refine (?_ : OW fMul _ _ _)); with_reducible refine' OW.mul (by first | with_reducible assumption | with_unfolding_all exact mulOk_sm (by omega) (by omega) | with_unfolding_all exact mulOk_bd (by repeat' kt_len) (by repeat' kt_len) (Nat.le_of_ble_eq_true rfl)) ?_) | ((with_reducible refine (?_ : OW fDiv _ _ _)); with_reducible refine' OW.div (by with_reducible assumption) ?_) | ((with_reducible refine (?_ : OW fMod _ _ _)); with_reducible refine' OW.mod (by first | with_reducible assumption | with_unfolding_all omega) ?_) | ((with_reducible refine (?_ : OW fPow _ _ _)); with_reducible refine' OW.pow (by with_reducible assumption) ?_) | (with_reducible first | refine' UW.neg ?_) | ((with_reducible refine (?_ : UW _ _ _)); with_reducible refine' UW.of (by with_reducible assumption) ?_) | (with_reducible first | refine' CW.max ?_ | refine' CW.range2 ?_) | ((with_reducible refine (?_ : CW _ _ _)); with_reducible refine' CW.fn (by with_unfolding_all (repeat (first | exact StartsAt.nil | apply StartsAt.cons | apply StartsAt.unb))) (by with_unfolding_all exact rfl) ?_) | (with_reducible first | refine' KK.use (by with_reducible assumption) ?_))
          simp
      · rw [if_neg (fun h => c1 h.1)] at wsec
        repeat' ((fail_if_success (with_reducible refine (?_ : @Eq _ _ _))); first | (with_reducible first | refine' CK.ret ?_ | refine' SK.next ?_ | refine' SK.ret ?_ | refine' SK.cont ?_ | refine' LK.next ?_ | refine' LK.cont ?_ | refine' RW.nil ?_ | refine' RW.seqK (fun K hK => ?_)) | ((with_reducible refine (?_ : RW _ _ _ _)); with_reducible refine' RW.lenOk (by with_unfolding_all exact rfl) ?_) | (with_reducible first | refine' SW.of ?_ | refine' PutAt.of ?_ ?_) | with_reducible exact SetR.z | (with_reducible first | refine' SetR.s3 ?_ | refine' SetR.s ?_) | (with_reducible refine (?_ : SetR _ (0 + 1) _ _)); refine SetR.s ?_ | ((with_reducible refine (?_ : RW _ _ _ _)); with_reducible refine' RW.retF (E := eVar _) (by with_unfolding_all exact rfl) ?_) | (with_reducible first | refine' RW.asg ?_ | refine' RW.ret ?_) | (fail_if_success (have : StopIf := by with_reducible assumption)); (with_reducible refine' RW.if ?_) | (with_reducible first | refine' RW.tup ?_ | refine' RW.for ?_ | refine' RW.while ?_ | refine' RW.new ?_) | ((with_reducible refine (?_ : RW _ _ _ _)); with_reducible refine' RW.app (by with_unfolding_all exact rfl) (by first | with_reducible assumption | with_unfolding_all exact Nat.le_of_ble_eq_true rfl) ?_) | ((with_reducible refine (?_ : RW _ _ _ _)); with_reducible refine' RW.aug (by with_unfolding_all exact rfl) ?_) | (with_reducible first | refine' TupK.two_t ?_ | refine' TupK.two_f ?_ | refine' TupK.four_f ?_ | refine' IfK.t ?_ | refine' IfK.f ?_) | (with_reducible refine' IfK.gd ?_; with_reducible refine' IfK.decT (by first | with_reducible assumption | with_unfolding_all omega) ?_) | (with_reducible refine' IfK.gd ?_; with_reducible refine' IfK.decF (by first | with_reducible assumption | with_unfolding_all omega) ?_) | (with_reducible first | refine' NotK.t ?_ | refine' NotK.f ?_ | refine' TruthK.bool ?_ | refine' TruthK.int ?_) | ((with_reducible refine (?_ : EW (eVar _) _ _)); with_reducible refine' EW.var (by with_unfolding_all exact rfl) ?_) | (with_reducible first | refine' EW.cst ?_ | refine' EW.e1 ?_ | refine' EW.e2 ?_ | refine' EW.call ?_ | refine' EW.tup ?_ | refine' EW.lst ?_ | refine' EW.or ?_ | refine' EW.e3c ?_ | refine' EW.comp ?_ | refine' EsW.nil ?_ | refine' EsW.cons ?_ | refine' TW.c ?_) | ((with_reducible refine (?_ : TpK _ _)); with_reducible refine' TpK.mk (by with_unfolding_all exact Nat.le_of_ble_eq_true rfl) ?_) | ((with_reducible refine (?_ : LsK _ _)); with_reducible refine' LsK.mk (by with_unfolding_all exact Nat.le_of_ble_eq_true rfl) ?_) | (with_reducible first | refine' TW.tOf ?_ | refine' TW.not ?_ | refine' TW.and ?_ | refine' TW.or ?_) | ((with_reducible refine (?_ : CW _ _ _)); with_reducible refine' CW.of (by with_reducible assumption) ?_) | ((with_reducible refine (?_ : CW fPow3 _ _)); with_reducible refine' CW.pow3 (by with_unfolding_all first | decide | omega) (by with_reducible assumption) ?_) | ((with_reducible refine (?_ : OW _ _ _ _)); with_reducible refine' OW.of (by with_reducible assumption) ?_) | (with_reducible first | refine' OW.add ?_ | refine' OW.addI ?_ | refine' OW.sub ?_ | refine' OW.and ?_ | refine' OW.ord ?_ | refine' OW.eq ?_ | refine' OW.ne ?_) | ((with_reducible refine (?_ : OW fMul _ _ _)); with_reducible refine' OW.mul (by first | with_reducible assumption | with_unfolding_all exact mulOk_sm (by omega) (by omega) | with_unfolding_all exact mulOk_bd (by repeat' kt_len) (by repeat' kt_len) (Nat.le_of_ble_eq_true rfl)) ?_) | ((with_reducible refine (?_ : OW fDiv _ _ _)); with_reducible refine' OW.div (by with_reducible assumption) ?_) | ((with_reducible refine (?_ : OW fMod _ _ _)); with_reducible refine' OW.mod (by first | with_reducible assumption | with_unfolding_all omega) ?_) | ((with_reducible refine (?_ : OW fPow _ _ _)); with_reducible refine' OW.pow (by with_reducible assumption) ?_) | (with_reducible first | refine' UW.neg ?_) | ((with_reducible refine (?_ : UW _ _ _)); with_reducible refine' UW.of (by with_reducible assumption) ?_) | (with_reducible first | refine' CW.max ?_ | refine' CW.range2 ?_) | ((with_reducible refine (?_ : CW _ _ _)); with_reducible refine' CW.fn (by with_unfolding_all (repeat (first | exact StartsAt.nil | apply StartsAt.cons | apply StartsAt.unb))) (by with_unfolding_all exact rfl) ?_) | (with_reducible first | refine' KK.use (by with_reducible assumption) ?_))
        simp

theorem law_holds {I : GI} (hat : HatI I hd.view_39) (fabs : I.mg ("abs" : Str) = none) (flen : I.mg ("len" : Str) = none) (fmax : I.mg ("max" : Str) = none) (frange : I.mg ("range" : Str) = none) (fpow : I.mg ("pow" : Str) = none) (hG0 : GTup I ("_LAW_PRIMES" : Str) primes06) : ∃ G, FunOK I 4 ("law" : Str) G ∧ ∀ (ns : List Int), ns.length ≤ 63 → G [.lst (intsD ns)] = some (.bool true) := by
  have habs : FunOK I 0 ("abs" : Str) fAbs := FunOK.builtin fabs (by decide) rfl PrimOK.abs
  have hlen : FunOK I 0 ("len" : Str) fLen := FunOK.builtin flen (by decide) rfl PrimOK.len
  have hmax : FunOK I 0 ("max" : Str) fMax := FunOK.builtin fmax (by decide) rfl PrimOK.max
  have hrange : FunOK I 0 ("range" : Str) fRange := FunOK.type frange (by decide) rfl PrimOK.range
  have hpow : FunOK I 0 ("pow" : Str) fPow3 := FunOK.builtin fpow (by decide) rfl PrimOK.pow
  obtain ⟨d0, _, n0, g0, q0, t0⟩ := ok_gcd hat (2 ^ 1000) habs
  rw [n0] at q0
  obtain ⟨d1, _, n1, g1, q1, t1⟩ := ok_primegen hat
  rw [n1] at q1
  obtain ⟨d2, _, n2, g2, q2, t2⟩ := ok_ilog hat
  rw [n2] at q2
  obtain ⟨d3, _, n3, g3, q3, t3⟩ := ok_ecadd hat hpow
  rw [n3] at q3
  obtain ⟨d4, _, n4, g4, q4, t4⟩ := ok_ecdub hat hpow
  rw [n4] at q4
  obtain ⟨d5, _, n5, g5, q5, t5⟩ := ok_ecmul hat hpow q3 q4 t3 t4
  rw [n5] at q5
  obtain ⟨d6, _, n6, g6, q6, t6⟩ := ok_secm hat hpow q0 q1 q2 q5 t0 t1 t2 t5
  rw [n6] at q6
  obtain ⟨d7, _, n7, g7, q7, t7⟩ := ok__law_draw hat hlen
  rw [n7] at q7
  obtain ⟨d8, _, n8, g8, q8, t8⟩ := ok__law_sum hat hpow
  rw [n8] at q8
  obtain ⟨d9, _, n9, g9, q9, t9⟩ := ok__law_times hat q8 t8
  rw [n9] at q9
  obtain ⟨d10, _, n10, g10, q10, t10⟩ := ok__law_curve hat
  rw [n10] at q10
  obtain ⟨d11, _, n11, g11, q11, t11⟩ := ok__law_counts hat hmax hrange
  rw [n11] at q11
  obtain ⟨d12, _, n12, g12, q12, t12⟩ := ok__law_carried hat hpow q9 q10 t9 t10
  rw [n12] at q12
  obtain ⟨d13, _, n13, g13, q13, t13⟩ := ok_law hat hG0 hrange q6 q7 q11 q12 t6 t7 t11 t12
  rw [n13] at q13
  exact ⟨_, q13, t13⟩
end Mine

theorem PySem.Challenge.cw_yt0001_06_holds : PySem.Challenge.rw_yt0001_06.Holds := by
  refine Mine.hd ?_
  k_fill
  intro w s₀ s₁ mg mb G Y fa o pm cd doc dV kV ho hd hcd hD hmg hg args vals as hpre hlay hrd hwl hlo
  have KX := kIn_of Y
  clear Y ho hd hcd hD
  refine Ground.open G ?_
  intro T B D TE TW
  wrow_args hpre hlay hrd hwl hlo
  rename_i hlen63 _
  obtain ⟨GG, hG, hT⟩ := Mine.law_holds (I := Mine.giOf PySem.Challenge.rw_yt0001_06.row.prog w mg mb Mine.hd.view_39 _ _ _ T.builtins) (fun i d e => Mine.fnAt_of (hboot := T.builtins) T e) (Mine.free_of T KX (by rfl)) (Mine.free_of T KX (by rfl)) (Mine.free_of T KX (by rfl)) (Mine.free_of T KX (by rfl)) (Mine.free_of T KX (by rfl)) (Mine.gtup_of (hboot := T.builtins) T KX ⟨_, _, _, _, rfl, rfl, rfl, rfl, by repeat' constructor⟩)
  refine Mine.law_end (hboot := T.builtins) T KX hmg (hG.le (by decide)) (by assumption) (by assumption) (hT _ (by omega)) ?_
  intro h' tk hk
  exact GoodW.toG ⟨.inl ⟨.bool true, .bool true, [], rfl, fun _ => rfl, ReadsW.bool true, by wrow_post, unshared_nil⟩, hk, rfl, hg⟩
