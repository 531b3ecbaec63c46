import PyProof.Rows.All
import Wide.All
import OpenK.AllK
import Wide.FinOn
import Lean
import PySem.Challenge.RW_yt0001_04
set_option maxRecDepth 100000
open PySem PySem.W PyProof.Rows
set_option Elab.async false
set_option maxRecDepth 100000
namespace Mine

/-- pure data -/
inductive D where
  | none
  | bool (b : Bool)
  | int (i : Int)
  | str (s : Str)
  | tup (l : List D)
  | lst (l : List D)
  | rng (a b c : Int)

noncomputable abbrev G := Addr → Option Obj
noncomputable def Sub (g g' : G) : Prop := ∀ b o, g b = some o → g' b = some o
noncomputable def Grow (h h' : Heap) : Prop := ∀ b o, h.get? b = some o → h'.get? b = some o
noncomputable def ext (g : G) (h h' : Heap) : G := fun b => if (h.get? b).isSome = true then g b else h'.get? b

theorem Sub.refl (g : G) : Sub g g := fun _ _ e => e
theorem Sub.trans {a b c : G} (x : Sub a b) (y : Sub b c) : Sub a c := fun i o e => y i o (x i o e)
theorem Grow.refl (h : Heap) : Grow h h := fun _ _ e => e
theorem Grow.trans {a b c : Heap} (x : Grow a b) (y : Grow b c) : Grow a c := fun i o e => y i o (x i o e)
theorem Grow.push (h : Heap) (o : Obj) : Grow h (h.push o) := fun _ _ e => Heap.get?_push_of_some _ e

theorem ext_old {g : G} {h h' : Heap} {b : Addr} {o : Obj} (e : h.get? b = some o) : ext g h h' b = g b := by
  unfold ext; rw [e]; rfl
theorem ext_new {g : G} {h h' : Heap} {b : Addr} (e : h.get? b = none) : ext g h h' b = h'.get? b := by
  unfold ext; rw [e]; rfl
theorem ext_sub {g : G} {h h' : Heap} (s : Sub g h.get?) : Sub g (ext g h h') := fun b o e => by
  rw [ext_old (s b o e)]; exact e
theorem ext_in {g : G} {h h' : Heap} (s : Sub g h.get?) (k : Grow h h') : Sub (ext g h h') h'.get? := fun b o e => by
  cases q : h.get? b with
  | none => rw [ext_new q] at e; exact e
  | some o' => rw [ext_old q] at e; exact k b o (s b o e)
theorem ext_ext {g : G} {h h₁ h₂ : Heap} (k : Grow h h₁) (k' : Grow h₁ h₂) : ext (ext g h h₁) h₁ h₂ = ext g h h₂ := by
  funext b
  cases q : h.get? b with
  | some o => rw [ext_old (k b o q), ext_old q, ext_old q]
  | none =>
    rw [ext_new q]
    cases q' : h₁.get? b with
    | some o => rw [ext_old q', ext_new q, q', k' b o q']
    | none => rw [ext_new q']
theorem ext_self {g : G} {h : Heap} (s : Sub g h.get?) : ext g h h = g := by
  funext b
  cases q : h.get? b with
  | some o => exact ext_old q
  | none =>
    rw [ext_new q, q]
    cases e : g b with
    | none => rfl
    | some o => rw [s b o e] at q; cases q

mutual
noncomputable def Is (g : G) : D → Value → Prop
  | .none, v => v = .none
  | .bool b, v => v = .bool b
  | .int i, v => ∃ t, v = .int i t
  | .str x, v => ∃ t, v = .str x t
  | .tup l, v => ∃ a o vs n, v = .ref a ∧ g a = some o ∧ o.cls = .type "tuple" ∧ o.data = .seq vs n ∧ IsL g l vs.toList
  | .lst l, v => ∃ a o vs n, v = .ref a ∧ g a = some o ∧ o.cls = .type "list" ∧ o.data = .seq vs n ∧ IsL g l vs.toList
  | .rng a b c, v => ∃ r t u w, v = .ref r ∧ g r = some { cls := .type "range", dict := none, data := .fields #[.int a t, .int b u, .int c w], slots := #[] }
noncomputable def IsL (g : G) : List D → List Value → Prop
  | [], vs => vs = []
  | d :: ds, vs => ∃ v vs', vs = v :: vs' ∧ Is g d v ∧ IsL g ds vs'
end

mutual
theorem Is.mono {g g' : G} (s : Sub g g') : ∀ (d : D) {v : Value}, Is g d v → Is g' d v
  | .none, _, h => h
  | .bool _, _, h => h
  | .int _, _, h => h
  | .str _, _, h => h
  | .tup l, _, ⟨a, o, vs, n, e, h1, h2, h3, h4⟩ => ⟨a, o, vs, n, e, s _ _ h1, h2, h3, IsL.mono s l h4⟩
  | .lst l, _, ⟨a, o, vs, n, e, h1, h2, h3, h4⟩ => ⟨a, o, vs, n, e, s _ _ h1, h2, h3, IsL.mono s l h4⟩
  | .rng _ _ _, _, ⟨r, t, u, w, e, h⟩ => ⟨r, t, u, w, e, s _ _ h⟩
theorem IsL.mono {g g' : G} (s : Sub g g') : ∀ (l : List D) {vs : List Value}, IsL g l vs → IsL g' l vs
  | [], _, h => h
  | d :: ds, _, ⟨v, vs', e, h, h'⟩ => ⟨v, vs', e, Is.mono s d h, IsL.mono s ds h'⟩
end

theorem IsL.length {g : G} : ∀ {l : List D} {vs : List Value}, IsL g l vs → vs.length = l.length
  | [], vs, h => by rw [show vs = [] from h]; rfl
  | _ :: _, _, ⟨_, _, e, _, h⟩ => by rw [e, List.length_cons, List.length_cons, IsL.length h]
theorem IsL.get {g : G} : ∀ {l : List D} {vs : List Value} {i : Nat} {d : D}, IsL g l vs → l[i]? = some d → ∃ v, vs[i]? = some v ∧ Is g d v
  | d :: _, _, 0, d', ⟨v, vs', e, h, _⟩, q => by
    simp at q; subst q; exact ⟨v, by rw [e]; rfl, h⟩
  | _ :: ds, _, i + 1, d', ⟨v, vs', e, _, h⟩, q => by
    simp at q
    obtain ⟨w, hw, hi⟩ := IsL.get h q
    exact ⟨w, by rw [e]; simpa using hw, hi⟩
theorem IsL.append {g : G} : ∀ {l l' : List D} {vs vs' : List Value}, IsL g l vs → IsL g l' vs' → IsL g (l ++ l') (vs ++ vs')
  | [], _, _, _, h, h' => by rw [show _ = [] from h]; exact h'
  | _ :: _, _, _, _, ⟨v, r, e, h, h2⟩, h' => by rw [e]; exact ⟨v, _, rfl, h, IsL.append h2 h'⟩

/-- a value that bears no reference -/
noncomputable def flat : D → Bool
  | .none | .bool _ | .int _ | .str _ => true
  | _ => false
theorem Is.flat {g g' : G} {d : D} {v : Value} (hf : Mine.flat d = true) (h : Is g d v) : Is g' d v := by
  cases d <;> first | exact h | cases hf

structure GI where
  prog : Program
  w : World
  mg : Str → Option Value
  mb : Str → Option Value
  Gl : Heap → Prop
  grow : ∀ {h h'}, Gl h → Grow h h' → Gl h'
  g : ∀ {h}, Gl h → h.Ns mainGlobals mg
  b : ∀ {h}, Gl h → h.Ns builtinsNs mb
  nolimit : ∀ {h}, Gl h → h.NoLimit
  boot : ∀ x : Str, x ≠ "__name__" → mb x = bootBuiltins x

noncomputable abbrev R := List (Option D)
noncomputable abbrev Ev := R → Option D

noncomputable def Holds (env : Env) (h : Heap) (x : Str) (v : Value) : Prop :=
  (env.kindOf x = some .local ∧ ∃ m, h.Ns env.locals m ∧ m x = some v) ∨ (env.kindOf x = some .cell ∧ ∃ c, env.cells.lookup x = some c ∧ h.IsCell c (some v))
theorem Holds.grow {env : Env} {h h' : Heap} {x : Str} {v : Value} (k : Grow h h') : Holds env h x v → Holds env h' x v
  | .inl ⟨a, m, b, c⟩ => .inl ⟨a, m, b.keeps k, c⟩
  | .inr ⟨a, c, b, d⟩ => .inr ⟨a, c, b, d.keeps k⟩

structure View (I : GI) (env : Env) (ns : List Str) (g : G) (r : R) (h : Heap) : Prop where
  sub : Sub g h.get?
  gl : I.Gl h
  var : ∀ (i : Nat) (x : Str) (d : D), ns[i]? = some x → (env.kindOf x = some .local ∨ env.kindOf x = some .cell) → r[i]? = some (some d) → ∃ v, Is g d v ∧ Holds env h x v
theorem View.grow {I : GI} {env : Env} {ns : List Str} {g : G} {r : R} {h h' : Heap} (V : View I env ns g r h) (k : Grow h h') : View I env ns (ext g h h') r h' where
  sub := ext_in V.sub k
  gl := I.grow V.gl k
  var := fun i x d e ek e' => let ⟨v, a, b⟩ := V.var i x d e ek e'; ⟨v, Is.mono (ext_sub V.sub) d a, b.grow k⟩

noncomputable def AOK (k : Nat) (A : Around) : Prop := A.handled = none ∧ A.depth + k < recursionLimit ∧ A.units + 3 * k + 200 < cLine
theorem AOK.deeper {k : Nat} {A : Around} {env : Env} (h : AOK (k + 1) A) : AOK k (A.deeper env) := by
  obtain ⟨a, b, c⟩ := h
  refine ⟨a, ?_, ?_⟩
  · show A.depth + 1 + k < _; omega
  · show A.units + 3 + 3 * k + 200 < _; omega
theorem AOK.le {k k' : Nat} {A : Around} (h : AOK k' A) (l : k ≤ k') : AOK k A := by
  obtain ⟨a, b, c⟩ := h
  exact ⟨a, by omega, by omega⟩

structure EnvS (sc : Scope) (env : Env) : Prop where
  scope : env.scope = sc
  globals : env.globals = mainGlobals
  builtins : env.builtins = builtinsNs
  cells : ∀ x, sc.names.lookup x = some .cell → (env.cells.lookup x).isSome = true

noncomputable def Post (g : G) (s : Shared) (d : D) (Q : Value → Shared → Prop) : Prop :=
  ∀ v h' tk, Grow s.heap h' → Is (ext g s.heap h') d v → Q v { s with heap := h', toks := tk }

theorem Post.now {g : G} {s : Shared} {d : D} {Q : Value → Shared → Prop} {v : Value} {tk : Nat} (P : Post g s d Q) (sub : Sub g s.heap.get?) (h : Is g d v) : Q v { s with toks := tk } :=
  P v s.heap tk (Grow.refl _) (by rw [ext_self sub]; exact h)

/-- an expression's meaning -/
noncomputable def EvOK (I : GI) (k : Nat) (sc : Scope) (ns : List Str) (e : Expr) (F : Ev) : Prop :=
  ∀ (env : Env) (A : Around) (g : G) (r : R) (s : Shared) (d : D) (Q : Value → Shared → Prop) (E : Value → Shared → Prop),
    EnvS sc env → AOK k A → View I env ns g r s.heap → F r = some d → Post g s d Q → wpAny (model I.prog I.w) A (eval e env) Q E s

section
variable {I : GI} {k : Nat} {sc : Scope} {ns : List Str}

/-- the step behind a first part: the rest goes on from a grown heap -/
theorem Post.step {g : G} {s : Shared} {d : D} {Q : Value → Shared → Prop} {h₁ : Heap} {tk : Nat} (P : Post g s d Q) (k₁ : Grow s.heap h₁) :
    Post (ext g s.heap h₁) { s with heap := h₁, toks := tk } d Q := fun v h' tk' k₂ h => P v h' tk' (k₁.trans k₂) (by rw [ext_ext k₁ k₂] at h; exact h)

noncomputable def eVar (i : Nat) : Ev := fun r => match r[i]? with | some (some d) => some d | _ => none
theorem EvOK.var {x : Str} {pos : Pos} {i : Nat} (hk : sc.kind = .function) (hx : ns[i]? = some x) (hd : (x == ("__debug__" : Str)) = false) (hn : sc.names.lookup x = some .local ∨ sc.names.lookup x = some .cell) : EvOK I k sc ns (.Name x pos) (eVar i) := by
  intro env A g r s d Q E hS hA V hF P
  have e : r[i]? = some (some d) := by
    unfold eVar at hF
    split at hF
    · rename_i d' h; cases hF; exact h
    · cases hF
  obtain ⟨v, hi, hv⟩ := V.var i x d hx (by unfold Env.kindOf; rw [hS.scope]; exact hn) e
  refine wpAny_Name ?_ hd
  have q := P.now (tk := s.toks) V.sub hi
  rcases hv with ⟨hl, m, hn, hm⟩ | ⟨hl, c, hc, hv⟩
  · exact wpAny_loadName_local (hS.scope ▸ hk) hl hn hm q
  · exact wpAny_loadName_cell (hS.scope ▸ hk) hl hc hv q

noncomputable def eCst (d : D) : Ev := fun _ => some d
theorem EvOK.cint {i : Int} {kk pos} : EvOK I k sc ns (.Constant (.int i) kk pos) (eCst (.int i)) := by
  intro env A g r s d Q E hS hA V hF P
  cases hF
  exact wpAny_Constant_int (P.now V.sub ⟨_, rfl⟩)
theorem EvOK.cstr {x : Str} {kk pos} : EvOK I k sc ns (.Constant (.str x) kk pos) (eCst (.str x)) := by
  intro env A g r s d Q E hS hA V hF P
  cases hF
  exact wpAny_Constant_str (P.now V.sub ⟨_, rfl⟩)
theorem EvOK.cbool {b : Bool} {kk pos} : EvOK I k sc ns (.Constant (.bool b) kk pos) (eCst (.bool b)) := by
  intro env A g r s d Q E hS hA V hF P
  cases hF
  exact wpAny_Constant_bool (P.now (tk := s.toks) V.sub rfl)
/-- two operands, then an operation on values -/
noncomputable def OpOK (I : GI) (k : Nat) (op : Value → Value → Sem Value) (f : D → D → Option D) : Prop :=
  ∀ (A : Around) (g : G) (s : Shared) (x y d : D) (u v : Value) (Q : Value → Shared → Prop) (E : Value → Shared → Prop),
    AOK k A → Sub g s.heap.get? → I.Gl s.heap → Is g x u → Is g y v → f x y = some d → Post g s d Q → wpAny (model I.prog I.w) A (op u v) Q E s

noncomputable def e2 (f : D → D → Option D) (F F' : Ev) : Ev := fun r => match F r with
  | some x => match F' r with
    | some y => f x y
    | none => none
  | none => none
theorem e2_some {f : D → D → Option D} {F F' : Ev} {r : R} {d : D} (h : e2 f F F' r = some d) : ∃ x y, F r = some x ∧ F' r = some y ∧ f x y = some d := by
  unfold e2 at h
  split at h
  · rename_i x hx
    split at h
    · rename_i y hy; exact ⟨x, y, hx, hy, h⟩
    · cases h
  · cases h

theorem EvOK.two {l r : Expr} {F F' : Ev} {op : Value → Value → Sem Value} {f : D → D → Option D} {e : Expr} (hl : EvOK I k sc ns l F) (hr : EvOK I k sc ns r F') (ho : OpOK I k op f)
    (he : ∀ (env : Env) (A : Around) (s : Shared) (Q : Value → Shared → Prop) (E : Value → Shared → Prop), EnvS sc env →
      wpAny (model I.prog I.w) A (eval l env) (fun a s₁ => wpAny (model I.prog I.w) A (eval r env) (fun b s₂ => wpAny (model I.prog I.w) A (op a b) Q E s₂) E s₁) E s → wpAny (model I.prog I.w) A (eval e env) Q E s) :
    EvOK I k sc ns e (e2 f F F') := by
  intro env A g r s d Q E hS hA V hF P
  obtain ⟨x, y, hx, hy, hf⟩ := e2_some hF
  refine he _ _ _ _ _ hS (hl env A g r s x _ E hS hA V hx fun u h₁ tk₁ k₁ hu => ?_)
  refine hr env A _ r _ y _ E hS hA (V.grow k₁) hy fun v h₂ tk₂ k₂ hv => ?_
  have V₂ := (V.grow k₁).grow k₂
  refine ho A _ _ x y d u v Q E hA V₂.sub V₂.gl (Is.mono (ext_sub (V.grow k₁).sub) x hu) hv hf ?_
  exact (P.step k₁).step (s := { s with heap := h₁, toks := tk₁ }) k₂

theorem EvOK.bin {l r : Expr} {op : Operator} {pos : Pos} {F F' : Ev} {f : D → D → Option D} (hl : EvOK I k sc ns l F) (hr : EvOK I k sc ns r F') (ho : OpOK I k (binaryOp op) f) :
    EvOK I k sc ns (.BinOp l op r pos) (e2 f F F') := EvOK.two hl hr ho fun _ _ _ _ _ _ h => wpAny_BinOp h
end
end Mine
open PySem PySem.W PyProof.Rows PySem.Spec
set_option linter.unusedVariables false
set_option Elab.async false
set_option maxRecDepth 100000
namespace Mine
section
variable {I : GI} {k : Nat} {sc : Scope} {ns : List Str}

noncomputable def mulOk (a b : Int) : Bool := !(decide (Builtin.Int.intBits a > shortFactorBits) && decide (Builtin.Int.intBits b > shortFactorBits) && Builtin.Int.intTooBig (Builtin.Int.intBits a + Builtin.Int.intBits b))
theorem mulOk_ok {a b : Int} (h : mulOk a b = true) : IntMulOk a b := by
  unfold IntMulOk; intro e; unfold mulOk at h; rw [e] at h; cases h
noncomputable def divOk (a b : Int) : Bool := decide (b ≠ 0) && decide (b.natAbs.log2 < 9000)
noncomputable def powOk (a n : Int) : Bool := decide (0 ≤ n) && decide ((Builtin.Int.intBits a : Int) * n ≤ 2 ^ 27)

theorem Is.isList {g : G} {h : Heap} {l : List D} {v : Value} (s : Sub g h.get?) (i : Is g (.lst l) v) : ∃ a vs, v = .ref a ∧ h.IsList a vs ∧ IsL g l vs.toList := by
  obtain ⟨a, o, vs, n, e, h1, h2, h3, h4⟩ := i
  exact ⟨a, vs, e, ⟨o, s _ _ h1, h2, n, h3⟩, h4⟩
theorem Is.isTup {g : G} {h : Heap} {l : List D} {v : Value} (s : Sub g h.get?) (i : Is g (.tup l) v) : ∃ a vs, v = .ref a ∧ IsTup h a vs ∧ IsL g l vs.toList := by
  obtain ⟨a, o, vs, n, e, h1, h2, h3, h4⟩ := i
  exact ⟨a, vs, e, ⟨o, s _ _ h1, h2, n, h3⟩, h4⟩

/-- a new object behind the heap -/
theorem Post.push {g : G} {s : Shared} {d : D} {Q : Value → Shared → Prop} {o : Obj} {tk : Nat} (P : Post g s d Q) (sub : Sub g s.heap.get?) (hf : o.isFreed = false)
    (h : ∀ g', g' s.heap.objs.size = some o → Sub g g' → Is g' d (.ref s.heap.objs.size)) : Q (.ref s.heap.objs.size) { s with heap := s.heap.push o, toks := tk } := by
  refine P _ _ tk (Grow.push _ _) (h _ ?_ (ext_sub sub))
  have hn : s.heap.get? s.heap.objs.size = none := by
    cases q : s.heap.get? s.heap.objs.size with
    | none => rfl
    | some o' => exact absurd (Heap.lt_size q) (Nat.lt_irrefl _)
  rw [ext_new hn]
  exact Heap.get?_push_size _ hf

theorem Post.newTuple {g : G} {s : Shared} {l : List D} {vs : List Value} {Q : Value → Shared → Prop} {tk : Nat} (P : Post g s (.tup l) Q) (sub : Sub g s.heap.get?) (h : IsL g l vs) :
    Q (.ref s.heap.objs.size) { s with heap := s.heap.push { cls := .type "tuple", data := .seq vs.toArray }, toks := tk } :=
  P.push sub rfl fun g' e k => ⟨_, _, _, _, rfl, e, rfl, rfl, IsL.mono k l h⟩
theorem Post.newList {g : G} {s : Shared} {l : List D} {vs : List Value} {Q : Value → Shared → Prop} {tk : Nat} (P : Post g s (.lst l) Q) (sub : Sub g s.heap.get?) (h : IsL g l vs) :
    Q (.ref s.heap.objs.size) { s with heap := s.heap.push { cls := .type "list", data := .seq vs.toArray }, toks := tk } :=
  P.push sub rfl fun g' e k => ⟨_, _, _, _, rfl, e, rfl, rfl, IsL.mono k l h⟩

noncomputable def fAdd : D → D → Option D
  | .int a, .int b => some (.int (a + b))
  | .str a, .str b => if a.length + b.length ≤ sizeLine then some (.str (a ++ b)) else none
  | .lst a, .lst b => if a.length + b.length ≤ sizeLine then some (.lst (a ++ b)) else none
  | _, _ => none
theorem OpOK.add : OpOK I k (binaryOp .Add) fAdd := by
  intro A g s x y d u v Q E hA sub gl hx hy hf P
  unfold fAdd at hf
  split at hf
  · obtain ⟨t, rfl⟩ := hx
    obtain ⟨t', rfl⟩ := hy
    cases hf
    exact PySem.P.add_int (P.now sub ⟨_, rfl⟩)
  · rename_i a b
    obtain ⟨t, rfl⟩ := hx
    obtain ⟨t', rfl⟩ := hy
    split at hf
    · rename_i hz
      cases hf
      exact SB.add (fun t' k => P.now sub ⟨_, rfl⟩) hz
    · cases hf
  · rename_i a b
    split at hf
    · rename_i hz
      cases hf
      obtain ⟨l, o, vs, n, rfl, h1, h2, h3, h4⟩ := hx
      obtain ⟨l', o', vs', n', rfl, h1', h2', h3', h4'⟩ := hy
      obtain ⟨cls, dd, data, sl⟩ := o
      obtain ⟨cls', dd', data', sl'⟩ := o'
      simp only at h2 h3 h2' h3'
      subst h2 h3 h2' h3'
      have e1 := h4.length
      have e2 := h4'.length
      refine concat_meets ⟨_, sub _ _ h1, rfl⟩ ⟨_, sub _ _ h1', rfl⟩ noFill_list_add seq_list_add PySem.F.slot_list_add PySem.F.entry_list_add (PySem.F.args_list_add_2 _ _)
        (list_addW l l' vs vs' n n' dd dd' sl sl' (by simp only [Array.length_toList] at e1 e2; omega)) ⟨sub _ _ h1, sub _ _ h1', ?_⟩
      have e : vs ++ vs' = (vs.toList ++ vs'.toList).toArray := by simp
      rw [e]
      exact P.newList sub (IsL.append h4 h4')
    · cases hf
  · cases hf

noncomputable def fSub : D → D → Option D
  | .int a, .int b => some (.int (a - b))
  | _, _ => none
theorem OpOK.sub : OpOK I k (binaryOp .Sub) fSub := by
  intro A g s x y d u v Q E hA sub gl hx hy hf P
  unfold fSub at hf
  split at hf
  · obtain ⟨t, rfl⟩ := hx
    obtain ⟨t', rfl⟩ := hy
    cases hf
    exact PySem.P.sub_int (P.now sub ⟨_, rfl⟩)
  · cases hf
noncomputable def fMul : D → D → Option D
  | .int a, .int b => if mulOk a b = true then some (.int (a * b)) else none
  | _, _ => none
theorem OpOK.mul : OpOK I k (binaryOp .Mult) fMul := by
  intro A g s x y d u v Q E hA sub gl hx hy hf P
  unfold fMul at hf
  split at hf
  · obtain ⟨t, rfl⟩ := hx
    obtain ⟨t', rfl⟩ := hy
    split at hf
    · rename_i hm
      cases hf
      exact PySem.P.mul_int (P.now sub ⟨_, rfl⟩) (mulOk_ok hm)
    · cases hf
  · cases hf
noncomputable def fDiv : D → D → Option D
  | .int a, .int b => if divOk a b = true then some (.int (a.fdiv b)) else none
  | _, _ => none
theorem OpOK.div : OpOK I k (binaryOp .FloorDiv) fDiv := by
  intro A g s x y d u v Q E hA sub gl hx hy hf P
  unfold fDiv at hf
  split at hf
  · obtain ⟨t, rfl⟩ := hx
    obtain ⟨t', rfl⟩ := hy
    split at hf
    · rename_i hm
      cases hf
      simp only [divOk, Bool.and_eq_true, decide_eq_true_eq] at hm
      exact floordiv_int hm.1 (P.now sub ⟨_, rfl⟩) (.inl (PyProof.noPylong_of_log2 hm.2))
    · cases hf
  · cases hf
noncomputable def fMod : D → D → Option D
  | .int a, .int b => if b ≠ 0 then some (.int (a.fmod b)) else none
  | _, _ => none
theorem OpOK.mod : OpOK I k (binaryOp .Mod) fMod := by
  intro A g s x y d u v Q E hA sub gl hx hy hf P
  unfold fMod at hf
  split at hf
  · obtain ⟨t, rfl⟩ := hx
    obtain ⟨t', rfl⟩ := hy
    split at hf
    · rename_i hm
      cases hf
      exact mod_int' hm (P.now sub ⟨_, rfl⟩)
    · cases hf
  · cases hf
noncomputable def fPow : D → D → Option D
  | .int a, .int b => if powOk a b = true then some (.int (a ^ b.toNat)) else none
  | _, _ => none
theorem OpOK.pow : OpOK I k (binaryOp .Pow) fPow := by
  intro A g s x y d u v Q E hA sub gl hx hy hf P
  unfold fPow at hf
  split at hf
  · obtain ⟨t, rfl⟩ := hx
    obtain ⟨t', rfl⟩ := hy
    split at hf
    · rename_i hm
      cases hf
      simp only [powOk, Bool.and_eq_true, decide_eq_true_eq] at hm
      exact pow_int hm.1 hm.2 (P.now sub ⟨_, rfl⟩)
    · cases hf
  · cases hf
noncomputable def fOrd (f : Int → Int → Bool) : D → D → Option D
  | .int a, .int b => some (.bool (f a b))
  | _, _ => none
theorem OpOK.lt : OpOK I k (compareOp .Lt) (fOrd fun a b => decide (a < b)) := by
  intro A g s x y d u v Q E hA sub gl hx hy hf P
  unfold fOrd at hf
  split at hf
  · obtain ⟨t, rfl⟩ := hx
    obtain ⟨t', rfl⟩ := hy
    cases hf
    exact PySem.P.lt_int (P.now (tk := s.toks) sub rfl)
  · cases hf
theorem OpOK.le : OpOK I k (compareOp .LtE) (fOrd fun a b => decide (a ≤ b)) := by
  intro A g s x y d u v Q E hA sub gl hx hy hf P
  unfold fOrd at hf
  split at hf
  · obtain ⟨t, rfl⟩ := hx
    obtain ⟨t', rfl⟩ := hy
    cases hf
    exact PySem.P.le_int (P.now (tk := s.toks) sub rfl)
  · cases hf
theorem OpOK.gt : OpOK I k (compareOp .Gt) (fOrd fun a b => decide (b < a)) := by
  intro A g s x y d u v Q E hA sub gl hx hy hf P
  unfold fOrd at hf
  split at hf
  · obtain ⟨t, rfl⟩ := hx
    obtain ⟨t', rfl⟩ := hy
    cases hf
    exact PySem.P.gt_int (P.now (tk := s.toks) sub rfl)
  · cases hf
theorem OpOK.ge : OpOK I k (compareOp .GtE) (fOrd fun a b => decide (b ≤ a)) := by
  intro A g s x y d u v Q E hA sub gl hx hy hf P
  unfold fOrd at hf
  split at hf
  · obtain ⟨t, rfl⟩ := hx
    obtain ⟨t', rfl⟩ := hy
    cases hf
    exact PySem.P.ge_int (P.now (tk := s.toks) sub rfl)
  · cases hf

mutual
noncomputable def py : D → PyData
  | .none => .none
  | .bool b => .bool b
  | .int i => .int i
  | .str x => .str x
  | .tup l => .tuple (pyL l)
  | .lst l => .list (pyL l)
  | .rng _ _ _ => .none
noncomputable def pyL : List D → List PyData
  | [] => []
  | d :: r => py d :: pyL r
end
mutual
noncomputable def noRng : D → Bool
  | .none | .bool _ | .int _ | .str _ => true
  | .tup l => noRngL l
  | .lst l => noRngL l
  | .rng _ _ _ => false
noncomputable def noRngL : List D → Bool
  | [] => true
  | d :: r => noRng d && noRngL r
end
mutual
theorem Is.reads {g : G} {h : Heap} (s : Sub g h.get?) (d : D) {v : Value} (hn : noRng d = true) (hi : Is g d v) : ∃ as, Reads h v (py d) as := by
  cases d with
  | none => rw [show v = Value.none from hi]; exact ⟨_, Reads.none⟩
  | bool b => rw [show v = Value.bool b from hi]; exact ⟨_, Reads.bool b⟩
  | int i => obtain ⟨t, e⟩ := hi; rw [e]; exact ⟨_, Reads.int i t⟩
  | str x => obtain ⟨t, e⟩ := hi; rw [e]; exact ⟨_, Reads.str x t⟩
  | tup l =>
    obtain ⟨a, o, vs, n, e, h1, h2, h3, h4⟩ := hi
    obtain ⟨as, q⟩ := IsL.reads s l (by simpa [noRng] using hn) h4
    rw [e, py]
    exact ⟨as, reads_tuple_at (s _ _ h1) h2 h3 (by simpa using q)⟩
  | lst l =>
    obtain ⟨a, o, vs, n, e, h1, h2, h3, h4⟩ := hi
    obtain ⟨as, q⟩ := IsL.reads s l (by simpa [noRng] using hn) h4
    rw [e, py]
    exact ⟨_, reads_list_at (s _ _ h1) h2 h3 (by simpa using q)⟩
  | rng a b c => cases hn
theorem IsL.reads {g : G} {h : Heap} (s : Sub g h.get?) (l : List D) {vs : List Value} (hn : noRngL l = true) (hi : IsL g l vs) : ∃ as, ReadsAll h vs (pyL l) as := by
  cases l with
  | nil => rw [show vs = [] from hi]; exact ⟨_, ReadsAll.nil⟩
  | cons d r =>
    obtain ⟨v, vs', e, h1, h2⟩ := hi
    simp only [noRngL, Bool.and_eq_true] at hn
    obtain ⟨as, q⟩ := Is.reads s d hn.1 h1
    obtain ⟨bs, p⟩ := IsL.reads s r hn.2 h2
    rw [e, pyL]
    exact ⟨_, ReadsAll.cons q p⟩
end

noncomputable def eqOk (x y : D) : Bool := noRng x && noRng y && SeqAt.shaped (py x) && SeqAt.shaped (py y)
noncomputable def fEq : D → D → Option D
  | .int a, .int b => some (.bool (a == b))
  | x, y => if eqOk x y = true then some (.bool (PyData.eqv (py x) (py y))) else none
theorem AOK.u64 {A : Around} (h : AOK k A) : A.units + 64 < cLine := by have := h.2.2; omega
theorem OpOK.eq : OpOK I k (compareOp .Eq) fEq := by
  intro A g s x y d u v Q E hA sub gl hx hy hf P
  unfold fEq at hf
  split at hf
  · obtain ⟨t, rfl⟩ := hx
    obtain ⟨t', rfl⟩ := hy
    cases hf
    exact PySem.P.eq_int (P.now (tk := s.toks) sub rfl)
  · split at hf
    · rename_i he
      cases hf
      simp only [eqOk, Bool.and_eq_true] at he
      obtain ⟨as, ra⟩ := Is.reads sub _ he.1.1.1 hx
      obtain ⟨bs, rb⟩ := Is.reads sub _ he.1.1.2 hy
      exact eq_dataH ra rb he.1.2 he.2 hA.u64 (P.now (tk := s.toks) sub rfl)
    · cases hf
noncomputable def fNe : D → D → Option D
  | .int a, .int b => some (.bool (a != b))
  | x, y => if eqOk x y = true then some (.bool (!PyData.eqv (py x) (py y))) else none
theorem OpOK.ne : OpOK I k (compareOp .NotEq) fNe := by
  intro A g s x y d u v Q E hA sub gl hx hy hf P
  unfold fNe at hf
  split at hf
  · obtain ⟨t, rfl⟩ := hx
    obtain ⟨t', rfl⟩ := hy
    cases hf
    exact PySem.P.ne_int (P.now (tk := s.toks) sub rfl)
  · split at hf
    · rename_i he
      cases hf
      simp only [eqOk, Bool.and_eq_true] at he
      obtain ⟨as, ra⟩ := Is.reads sub _ he.1.1.1 hx
      obtain ⟨bs, rb⟩ := Is.reads sub _ he.1.1.2 hy
      exact ne_dataH ra rb he.1.2 he.2 hA.u64 (P.now (tk := s.toks) sub rfl)
    · cases hf
end
end Mine
open PySem PySem.W PyProof.Rows PySem.Spec
set_option linter.unusedVariables false
set_option Elab.async false
set_option maxRecDepth 100000
namespace Mine
section
variable {I : GI} {k : Nat} {sc : Scope} {ns : List Str}

/-- one operand -/
noncomputable def e1 (f : D → Option D) (F : Ev) : Ev := fun r => match F r with
  | some x => f x
  | none => none
noncomputable def fNeg : D → Option D
  | .int a => some (.int (-a))
  | _ => none
theorem EvOK.neg {x : Expr} {pos : Pos} {F : Ev} (hx : EvOK I k sc ns x F) : EvOK I k sc ns (.UnaryOp .USub x pos) (e1 fNeg F) := by
  intro env A g r s d Q E hS hA V hF P
  unfold e1 at hF
  split at hF
  · rename_i y hy
    unfold fNeg at hF
    split at hF
    · cases hF
      refine UnaryOp_ (hx env A g r s _ _ E hS hA V hy fun v h₁ tk₁ k₁ hv => ?_)
      obtain ⟨t, rfl⟩ := hv
      exact PySem.P.neg_int ((P.step k₁).now (V.grow k₁).sub ⟨_, rfl⟩)
    · cases hF
  · cases hF

/-- truth -/
noncomputable def fTruth : D → Option Bool
  | .none => some false
  | .bool b => some b
  | .int i => some (i != 0)
  | .lst l => if l.length ≤ sizeLine then some (!l.isEmpty) else none
  | _ => none
theorem truth_ok {A : Around} {g : G} {s : Shared} {d : D} {v : Value} {b : Bool} {Q : Bool → Shared → Prop} {E : Value → Shared → Prop} (sub : Sub g s.heap.get?) (h : Is g d v) (hf : fTruth d = some b)
    (hq : ∀ tk, Q b { s with toks := tk }) : wpAny (model I.prog I.w) A (truthy v) Q E s := by
  unfold fTruth at hf
  split at hf
  · cases hf
    rw [show v = .none from h]
    exact truthy_none (hq s.toks)
  · cases hf
    rw [show v = .bool _ from h]
    exact wpAny_truthy_bool (hq s.toks)
  · cases hf
    obtain ⟨t, rfl⟩ := h
    exact PySem.P.truthy_int (hq s.toks)
  · rename_i l
    split at hf
    · rename_i hz
      cases hf
      obtain ⟨a, vs, rfl, hl, hi⟩ := h.isList sub
      have e := hi.length
      have e' : (!vs.isEmpty) = !l.isEmpty := by
        cases l with
        | nil =>
          have : vs.toList = [] := hi
          have : vs = #[] := by simpa using this
          rw [this]; rfl
        | cons x r =>
          simp only [Array.length_toList, List.length_cons] at e
          have h0 : vs.size ≠ 0 := by omega
          simp [Array.isEmpty, h0]
      refine wpAny_truthy_list hl ?_ ?_
      · simp only [Array.length_toList] at e
        have hs : sizeLine = 2 ^ 24 := by rw [sizeLine_eq]
        omega
      · rw [e']; exact hq _
    · cases hf
  · cases hf

noncomputable abbrev Tr := R → Option Bool
noncomputable def TrOK (I : GI) (k : Nat) (sc : Scope) (ns : List Str) (e : Expr) (F : Tr) : Prop :=
  ∀ (env : Env) (A : Around) (g : G) (r : R) (s : Shared) (b : Bool) (Q : Bool → Shared → Prop) (E : Value → Shared → Prop),
    EnvS sc env → AOK k A → View I env ns g r s.heap → F r = some b → (∀ h' tk, Grow s.heap h' → Q b { s with heap := h', toks := tk }) → wpAny (model I.prog I.w) A (isTrue e env (eval e env)) Q E s

noncomputable def tOf (F : Ev) : Tr := fun r => match F r with
  | some x => fTruth x
  | none => none
theorem TrOK.plain {e : Expr} {F : Ev} (h : EvOK I k sc ns e F) (he : ∀ env whole, isTrue e env whole = (do let v ← whole; standAt e.pos; holding [v] (truthy v))) : TrOK I k sc ns e (tOf F) := by
  intro env A g r s b Q E hS hA V hF P
  unfold tOf at hF
  split at hF
  · rename_i x hx
    refine isTrue_plain (h env A g r s x _ E hS hA V hx fun v h₁ tk₁ k₁ hv => ?_) (he _ _)
    exact truth_ok (s := { s with heap := h₁, toks := tk₁ }) (V.grow k₁).sub hv hF fun tk => P _ _ k₁
  · cases hF
theorem TrOK.cmp {l r : Expr} {op : CmpOp} {pos : Pos} {F F' : Ev} {f : D → D → Option D} (hl : EvOK I k sc ns l F) (hr : EvOK I k sc ns r F') (ho : OpOK I k (compareOp op) f)
    (hm : behindInMarks op r = false) : TrOK I k sc ns (.Compare l [op] [r] pos) (tOf (e2 f F F')) := by
  intro env A g rr s b Q E hS hA V hF P
  unfold tOf at hF
  split at hF
  · rename_i d hd
    obtain ⟨x, y, hx, hy, hf⟩ := e2_some hd
    refine wpAny_isTrue_Compare1 (hl env A g rr s x _ E hS hA V hx fun u h₁ tk₁ k₁ hu => ?_) hm
    refine hr env A _ rr _ y _ E hS hA (V.grow k₁) hy fun v h₂ tk₂ k₂ hv => ?_
    have V₂ := (V.grow k₁).grow k₂
    refine ho A _ _ x y d u v _ E hA V₂.sub V₂.gl (Is.mono (ext_sub (V.grow k₁).sub) x hu) hv hf fun c h₃ tk₃ k₃ hc => ?_
    exact truth_ok (s := { s with heap := h₃, toks := tk₃ }) (V₂.grow k₃).sub hc hF fun tk => P _ _ ((k₁.trans k₂).trans k₃)
  · cases hF
noncomputable def tNot (F : Tr) : Tr := fun r => match F r with
  | some b => some (!b)
  | none => none
theorem TrOK.not {x : Expr} {pos : Pos} {F : Tr} (h : TrOK I k sc ns x F) : TrOK I k sc ns (.UnaryOp .Not x pos) (tNot F) := by
  intro env A g r s b Q E hS hA V hF P
  unfold tNot at hF
  split at hF
  · rename_i c hc
    cases hF
    exact isTrue_not (h env A g r s c _ E hS hA V hc P)
  · cases hF
noncomputable def tAnd (F F' : Tr) : Tr := fun r => match F r with
  | some true => F' r
  | some false => some false
  | none => none
theorem TrOK.and {x : Expr} {rest : List Expr} {pos : Pos} {F F' : Tr} (h : TrOK I k sc ns x F) (h' : TrOK I k sc ns (.BoolOp .And rest pos) F') : TrOK I k sc ns (.BoolOp .And (x :: rest) pos) (tAnd F F') := by
  intro env A g r s b Q E hS hA V hF P
  unfold tAnd at hF
  split at hF
  · rename_i hc
    refine isTrue_and (h env A g r s _ _ E hS hA V hc fun h₁ tk k₁ => ?_)
    exact h' env A _ r _ b Q E hS hA (V.grow k₁) hF fun h₂ tk₂ k₂ => P _ _ (k₁.trans k₂)
  · rename_i hc
    cases hF
    exact isTrue_and (h env A g r s _ _ E hS hA V hc fun h₁ tk k₁ => P _ _ k₁)
  · cases hF
theorem TrOK.and0 {pos : Pos} : TrOK I k sc ns (.BoolOp .And [] pos) (fun _ => some true) := by
  intro env A g r s b Q E hS hA V hF P
  cases hF
  exact isTrue_and_nil (P s.heap s.toks (Grow.refl _))
/-- rows of expressions -/
noncomputable abbrev Evs := R → Option (List D)
noncomputable def EvsOK (I : GI) (k : Nat) (sc : Scope) (ns : List Str) (es : List Expr) (F : Evs) : Prop :=
  ∀ (env : Env) (A : Around) (g : G) (r : R) (s : Shared) (ds : List D) (pos : Pos) (Q : List Value → Shared → Prop) (E : Value → Shared → Prop),
    EnvS sc env → AOK k A → View I env ns g r s.heap → F r = some ds → (∀ vs h' tk, Grow s.heap h' → IsL (ext g s.heap h') ds vs → Q vs { s with heap := h', toks := tk }) →
    wpAny (model I.prog I.w) A (spliced (backTo pos (starEach es env))) Q E s
noncomputable def es0 : Evs := fun _ => some []
noncomputable def esC (F : Ev) (Fs : Evs) : Evs := fun r => match F r with
  | some d => match Fs r with
    | some ds => some (d :: ds)
    | none => none
  | none => none
theorem EvsOK.nil : EvsOK I k sc ns [] es0 := by
  intro env A g r s ds pos Q E hS hA V hF P
  cases hF
  exact args_nil (P [] s.heap s.toks (Grow.refl _) rfl)
theorem EvsOK.cons {e : Expr} {es : List Expr} {F : Ev} {Fs : Evs} (h : EvOK I k sc ns e F) (hs : EvsOK I k sc ns es Fs) (he : ∀ env, starEach (e :: es) env = (false, eval e env) :: starEach es env) :
    EvsOK I k sc ns (e :: es) (esC F Fs) := by
  intro env A g r s ds pos Q E hS hA V hF P
  unfold esC at hF
  split at hF
  · rename_i d hd
    split at hF
    · rename_i ds' hds
      cases hF
      refine args_cons (h env A g r s d _ E hS hA V hd fun v h₁ tk₁ k₁ hv => ?_) (he env)
      refine hs env A _ r _ ds' pos _ E hS hA (V.grow k₁) hds fun vs h₂ tk₂ k₂ hvs => ?_
      refine P _ _ _ (k₁.trans k₂) ⟨v, vs, rfl, ?_, ?_⟩
      · rw [← ext_ext k₁ k₂]; exact Is.mono (ext_sub (V.grow k₁).sub) d hv
      · rw [← ext_ext k₁ k₂]; exact hvs
    · cases hF
  · cases hF

noncomputable def eTup (Fs : Evs) : Ev := fun r => match Fs r with
  | some ds => if ds.length ≤ sizeLine then some (.tup ds) else none
  | none => none
noncomputable def eLst (Fs : Evs) : Ev := fun r => match Fs r with
  | some ds => if ds.length ≤ sizeLine then some (.lst ds) else none
  | none => none
theorem EvOK.tup {es : List Expr} {kk : Nat} {pos : Pos} {Fs : Evs} (h : EvsOK I k sc ns es Fs) : EvOK I k sc ns (.Tuple es kk pos) (eTup Fs) := by
  intro env A g r s d Q E hS hA V hF P
  unfold eTup at hF
  split at hF
  · rename_i ds hds
    split at hF
    · rename_i hz
      cases hF
      refine wpAny_Tuple (h env A g r s ds pos _ E hS hA V hds fun vs h₁ tk₁ k₁ hvs => ⟨by rw [hvs.length]; exact hz, ?_⟩)
      exact (P.step (tk := tk₁) k₁).newTuple (V.grow k₁).sub hvs
    · cases hF
  · cases hF
theorem EvOK.lst {es : List Expr} {pos : Pos} {Fs : Evs} (h : EvsOK I k sc ns es Fs) : EvOK I k sc ns (.List es pos) (eLst Fs) := by
  intro env A g r s d Q E hS hA V hF P
  unfold eLst at hF
  split at hF
  · rename_i ds hds
    split at hF
    · rename_i hz
      cases hF
      refine wpAny_List (h env A g r s ds pos _ E hS hA V hds fun vs h₁ tk₁ k₁ hvs => ⟨by rw [hvs.length]; exact hz, ?_⟩)
      exact (P.step (tk := tk₁) k₁).newList (V.grow k₁).sub hvs
    · cases hF
  · cases hF

/-- calls -/
noncomputable def PrimOK (I : GI) (k : Nat) (f : Value) (F : List D → Option D) : Prop :=
  ∀ (A : Around) (g : G) (s : Shared) (ds : List D) (vs : List Value) (d : D) (Q : Value → Shared → Prop) (E : Value → Shared → Prop),
    AOK k A → Sub g s.heap.get? → I.Gl s.heap → F ds = some d → IsL g ds vs → Post g s d Q → wpAny (model I.prog I.w) A (call f vs) Q E s
structure FunOK (I : GI) (k : Nat) (x : Str) (F : List D → Option D) : Prop where
  ok : ∃ f, (I.mg x = some f ∨ (I.mg x = none ∧ x ≠ "__name__" ∧ bootBuiltins x = some f)) ∧
    (∀ h, I.Gl h → ∃ kp, (kp = Keeper.frame ∨ kp = Keeper.machine ∨ kp = Keeper.boundFrame) ∧ Looks (model I.prog I.w) h (keeperOf f) kp) ∧ PrimOK I k f F
theorem FunOK.le {k' : Nat} {x : Str} {F : List D → Option D} (h : FunOK I k x F) (l : k ≤ k') : FunOK I k' x F :=
  let ⟨f, a, b, c⟩ := h.ok
  ⟨f, a, b, fun A g s ds vs d Q E hA => c A g s ds vs d Q E (hA.le l)⟩

noncomputable def eCall (F : List D → Option D) (Fs : Evs) : Ev := fun r => match Fs r with
  | some ds => F ds
  | none => none
theorem EvOK.call {x : Str} {px pos : Pos} {args : List Expr} {F : List D → Option D} {Fs : Evs} (hf : FunOK I k x F) (ha : EvsOK I k sc ns args Fs) (hk : sc.kind = .function)
    (hx : sc.names.lookup x = some .globalImplicit) (hd : (x == ("__debug__" : Str)) = false) (hp : ∀ env, (backTo pos (starEach args env)).any (·.1) = false) (hne : args.isEmpty = false)
    (hs : ∀ env, ∃ t rest, backTo pos (starEach args env) = (false, t) :: rest) :
    EvOK I k sc ns (.Call (.Name x px) args [] pos) (eCall F Fs) := by
  intro env A g r s d Q E hS hA V hF P
  unfold eCall at hF
  split at hF
  · rename_i ds hds
    obtain ⟨f, hn, hkp, hcall⟩ := hf.ok
    refine Call_ ?_ rfl
    have go : wpAny (model I.prog I.w) A (callWith pos f [] (backTo pos (starEach args env)) []) Q E s := by
      refine callWith_of (P := I.Gl) (by rw [hp env]; rfl) hkp ?_
      obtain ⟨t, rest, e⟩ := hs env
      rw [e]
      refine Calls.evalArgs_plain ?_
      rw [← e]
      refine ha env A g r s ds pos _ E hS hA V hds fun vs h₁ tk₁ k₁ hvs => ⟨I.grow V.gl k₁, ?_⟩
      exact hcall A _ _ ds vs d Q E hA (V.grow k₁).sub (I.grow V.gl k₁) hF hvs (P.step k₁)
    have hx' : env.kindOf x = some .globalImplicit := by unfold Env.kindOf; rw [hS.scope]; exact hx
    refine Calls.Name_function_global (hS.scope ▸ hk) hx' ?_ hd
    rcases hn with hn | ⟨hn, hne', hb⟩
    · exact Calls.loadGlobal_global (hS.globals ▸ I.g V.gl) hn go
    · exact Calls.loadGlobal_builtin (hS.globals ▸ I.g V.gl) hn (hS.builtins ▸ I.b V.gl) ((I.boot x hne').trans hb) go
  · cases hF

theorem keeper_builtin {M : Model} {id : String} (h : Heap) : ∃ kp, (kp = Keeper.frame ∨ kp = Keeper.machine ∨ kp = Keeper.boundFrame) ∧ Looks M h (keeperOf (.builtin id)) kp := ⟨.machine, .inr (.inl rfl), Looks.of_pure rfl⟩
theorem keeper_type {M : Model} {id : String} (h : Heap) : ∃ kp, (kp = Keeper.frame ∨ kp = Keeper.machine ∨ kp = Keeper.boundFrame) ∧ Looks M h (keeperOf (.type id)) kp := ⟨.machine, .inr (.inl rfl), Looks.of_pure rfl⟩

theorem FunOK.builtin {x : Str} {id : String} {F : List D → Option D} (hm : I.mg x = none) (hn : x ≠ "__name__") (hb : bootBuiltins x = some (.builtin id)) (h : PrimOK I k (.builtin id) F) : FunOK I k x F :=
  ⟨_, .inr ⟨hm, hn, hb⟩, fun h _ => keeper_builtin h, h⟩
theorem FunOK.type {x : Str} {id : String} {F : List D → Option D} (hm : I.mg x = none) (hn : x ≠ "__name__") (hb : bootBuiltins x = some (.type id)) (h : PrimOK I k (.type id) F) : FunOK I k x F :=
  ⟨_, .inr ⟨hm, hn, hb⟩, fun h _ => keeper_type h, h⟩
end
end Mine
open PySem PySem.W PyProof.Rows PySem.Spec
set_option linter.unusedVariables false
set_option Elab.async false
set_option maxRecDepth 100000
namespace Mine
section
variable {I : GI} {k : Nat} {sc : Scope} {ns : List Str}

theorem IsL.one {g : G} {d : D} {vs : List Value} (h : IsL g [d] vs) : ∃ v, vs = [v] ∧ Is g d v := by
  obtain ⟨v, r, e, hv, hr⟩ := h
  exact ⟨v, by rw [e, show r = [] from hr], hv⟩
theorem IsL.two {g : G} {d d' : D} {vs : List Value} (h : IsL g [d, d'] vs) : ∃ v v', vs = [v, v'] ∧ Is g d v ∧ Is g d' v' := by
  obtain ⟨v, r, e, hv, hr⟩ := h
  obtain ⟨v', e', hv'⟩ := hr.one
  exact ⟨v, v', by rw [e, e'], hv, hv'⟩
theorem IsL.three {g : G} {d d' d'' : D} {vs : List Value} (h : IsL g [d, d', d''] vs) : ∃ v v' v'', vs = [v, v', v''] ∧ Is g d v ∧ Is g d' v' ∧ Is g d'' v'' := by
  obtain ⟨v, r, e, hv, hr⟩ := h
  obtain ⟨v', v'', e', hv', hv''⟩ := hr.two
  exact ⟨v, v', v'', by rw [e, e'], hv, hv', hv''⟩

noncomputable def fLen : List D → Option D
  | [.lst l] => if l.length ≤ sizeLine then some (.int l.length) else none
  | [.tup l] => if l.length ≤ sizeLine then some (.int l.length) else none
  | [.str x] => if x.length ≤ sizeLine then some (.int x.length) else none
  | _ => none
theorem sizeLine_lt {n : Nat} (h : n ≤ sizeLine) : (n : Int) < 2 ^ 63 := by rw [sizeLine_eq] at h; omega
theorem PrimOK.len : PrimOK I k (.builtin "len") fLen := by
  intro A g s ds vs d Q E hA sub gl hf hv P
  unfold fLen at hf
  split at hf
  · rename_i l
    split at hf
    · rename_i hz
      cases hf
      obtain ⟨v, rfl, hi⟩ := hv.one
      obtain ⟨a, xs, rfl, hl, hi⟩ := hi.isList sub
      have e := hi.length
      simp only [Array.length_toList] at e
      refine Calls.call_len_list hl (by rw [e]; exact sizeLine_lt hz) ?_
      rw [e]
      exact P.now sub ⟨_, rfl⟩
    · cases hf
  · rename_i l
    split at hf
    · rename_i hz
      cases hf
      obtain ⟨v, rfl, hi⟩ := hv.one
      obtain ⟨a, xs, rfl, hl, hi⟩ := hi.isTup sub
      have e := hi.length
      simp only [Array.length_toList] at e
      refine len_tuple hl (by rw [e]; exact sizeLine_lt hz) ?_
      rw [e]
      exact P.now sub ⟨_, rfl⟩
    · cases hf
  · rename_i x
    split at hf
    · rename_i hz
      cases hf
      obtain ⟨v, rfl, t, rfl⟩ := hv.one
      exact PySem.P.len_str (by have := sizeLine_lt hz; omega) (P.now sub ⟨_, rfl⟩)
    · cases hf
  · cases hf
noncomputable def fAbs : List D → Option D
  | [.int a] => some (.int (if a < 0 then -a else a))
  | _ => none
theorem PrimOK.abs : PrimOK I k (.builtin "abs") fAbs := by
  intro A g s ds vs d Q E hA sub gl hf hv P
  unfold fAbs at hf
  split at hf
  · cases hf
    obtain ⟨v, rfl, t, rfl⟩ := hv.one
    exact call_abs_int fun u tk => P.now sub ⟨_, rfl⟩
  · cases hf
noncomputable def fRange : List D → Option D
  | [.int a] => some (.rng 0 a 1)
  | [.int a, .int b] => some (.rng a b 1)
  | [.int a, .int b, .int c] => if divOk (b - a) c = true then some (.rng a b c) else none
  | _ => none
theorem PrimOK.range : PrimOK I k (.type "range") fRange := by
  intro A g s ds vs d Q E hA sub gl hf hv P
  unfold fRange at hf
  split at hf
  · cases hf
    obtain ⟨v, rfl, t, rfl⟩ := hv.one
    exact call_range_1 (P.push sub rfl fun g' e k => ⟨_, _, _, _, rfl, e⟩)
  · cases hf
    obtain ⟨v, v', rfl, ⟨t, rfl⟩, t', rfl⟩ := hv.two
    exact call_range_2 (P.push sub rfl fun g' e k => ⟨_, _, _, _, rfl, e⟩)
  · split at hf
    · rename_i hm
      cases hf
      obtain ⟨v, v', v'', rfl, ⟨t, rfl⟩, ⟨t', rfl⟩, t'', rfl⟩ := hv.three
      simp only [divOk, Bool.and_eq_true, decide_eq_true_eq] at hm
      exact call_range_3 hm.1 (P.push sub rfl fun g' e k => ⟨_, _, _, _, rfl, e⟩) (.inl (PyProof.noPylong_of_log2 hm.2))
    · cases hf
  · cases hf
/-- an item -/
noncomputable def fSubs : D → D → Option D
  | .lst l, .int i => if 0 ≤ i ∧ i < 2 ^ 63 then l[i.toNat]? else none
  | .tup l, .int i => if 0 ≤ i ∧ i < 2 ^ 63 then l[i.toNat]? else none
  | .str x, .int i => if 0 ≤ i ∧ i < 2 ^ 63 then (match x.cps[i.toNat]? with | some c => some (.str ⟨#[c]⟩) | none => none) else none
  | _, _ => none
theorem seqIndex_nat {i : Int} {n : Nat} (h0 : 0 ≤ i) (h1 : i.toNat < n) : seqIndex? i n = some i.toNat := by
  unfold seqIndex?
  have h2 : ¬ i < 0 := by omega
  have h3 : (i : Int) < n := by omega
  simp only [if_neg h2]
  have h4 : (decide (0 ≤ i) && decide (i < (n : Int))) = true := by simp [h0, h3]
  rw [if_pos h4]
theorem subs_ok {A : Around} {g : G} {s : Shared} {x y d : D} {u v : Value} {value slice : Expr} {Q : Value → Shared → Prop} {E : Value → Shared → Prop} (sub : Sub g s.heap.get?) (hx : Is g x u) (hy : Is g y v) (hf : fSubs x y = some d)
    (P : Post g s d Q) (hs : ∀ o i, subscripted slice false o i = operate [o, i] (getItem o i)) : wpAny (model I.prog I.w) A (subscriptTail value slice u v) Q E s := by
  unfold fSubs at hf
  split at hf
  · rename_i l i
    split at hf
    · rename_i hi
      obtain ⟨a, xs, rfl, hl, hL⟩ := hx.isList sub
      obtain ⟨t, rfl⟩ := hy
      obtain ⟨w, hw, hI⟩ := hL.get hf
      exact tail_any hl.typeIs PySem.slot_list_getitem.lookup (wpAny_getItem_list hl hi.1 hi.2 (by simpa using hw) (P.now (tk := s.toks) sub hI)) (hs _ _)
    · cases hf
  · rename_i l i
    split at hf
    · rename_i hi
      obtain ⟨a, xs, rfl, hl, hL⟩ := hx.isTup sub
      obtain ⟨t, rfl⟩ := hy
      obtain ⟨w, hw, hI⟩ := hL.get hf
      have hlt : i.toNat < xs.size := by
        have := (List.getElem?_eq_some_iff.mp hw).1
        simpa using this
      exact tail_any hl.typeIs PyProof.Rows.slot_tuple_getitem.lookup (PyProof.Rows.getItem_tuple hl (by omega) hi.2 (seqIndex_nat hi.1 hlt) (by simpa using hw) (P.now (tk := s.toks) sub hI)) (hs _ _)
    · cases hf
  · rename_i x i
    split at hf
    · rename_i hi
      split at hf
      · rename_i c hc
        cases hf
        obtain ⟨t, rfl⟩ := hx
        obtain ⟨t', rfl⟩ := hy
        have hlt : i.toNat < x.length := by
          have := (Array.getElem?_eq_some_iff.mp hc).1
          exact this
        refine tail_any (typeIs_str s x t) PyProof.Rows.slot_str_getitem.lookup (PySem.P.getItem_str (c := c) ?_ ?_ (P.now sub ⟨_, rfl⟩)) (hs _ _)
        · have h1 : ¬ i < -(2 ^ 63) := by omega
          have h2 : ¬ i ≥ 2 ^ 63 := by omega
          rw [decide_eq_false h1, decide_eq_false h2]; rfl
        · rw [seqIndex_nat hi.1 hlt]; exact hc
      · cases hf
    · cases hf
  · cases hf
theorem EvOK.subs {value slice : Expr} {pos : Pos} {F F' : Ev} (hv : EvOK I k sc ns value F) (hi : EvOK I k sc ns slice F') (hs : ∀ o i, subscripted slice false o i = operate [o, i] (getItem o i)) :
    EvOK I k sc ns (.Subscript value slice pos) (e2 fSubs F F') := by
  intro env A g r s d Q E hS hA V hF P
  obtain ⟨x, y, hx, hy, hf⟩ := e2_some hF
  refine Subscript_ (hv env A g r s x _ E hS hA V hx fun u h₁ tk₁ k₁ hu => ?_)
  refine hi env A _ r _ y _ E hS hA (V.grow k₁) hy fun v h₂ tk₂ k₂ hv => ?_
  have V₂ := (V.grow k₁).grow k₂
  refine subs_ok V₂.sub (Is.mono (ext_sub (V.grow k₁).sub) x hu) hv hf ?_ hs
  exact (P.step k₁).step (s := { s with heap := h₁, toks := tk₁ }) k₂

/-- in, not in: ints among ints -/
noncomputable def isI : D → Bool
  | .int _ => true
  | _ => false
noncomputable def hitI (a : Int) : D → Bool
  | .int b => b == a
  | _ => false
theorem IsL.hitI {g : G} {a : Int} : ∀ {l : List D} {vs : List Value}, l.all isI = true → IsL g l vs → (∀ v ∈ vs, ∃ b t, v = Value.int b t) ∧ vs.any (valHitsInt a) = l.any (Mine.hitI a)
  | [], vs, _, h => by rw [show vs = [] from h]; exact ⟨fun v hv => (nomatch hv), rfl⟩
  | d :: ds, _, hl, ⟨v, vs', e, hv, h⟩ => by
    simp only [List.all_cons, Bool.and_eq_true] at hl
    obtain ⟨h1, h2⟩ := IsL.hitI (a := a) hl.2 h
    cases d with
    | int i =>
      obtain ⟨t, rfl⟩ := hv
      subst e
      refine ⟨fun w hw => ?_, ?_⟩
      · rcases List.mem_cons.mp hw with rfl | hw
        · exact ⟨_, _, rfl⟩
        · exact h1 w hw
      · rw [List.any_cons, List.any_cons, h2]; rfl
    | _ => exact absurd hl.1 (by simp [isI])
noncomputable def isS : D → Bool
  | .str _ => true
  | _ => false
noncomputable def hitS (a : Str) : D → Bool
  | .str b => b == a
  | _ => false
theorem IsL.hitS {g : G} {a : Str} : ∀ {l : List D} {vs : List Value}, l.all isS = true → IsL g l vs → (∀ v ∈ vs, ∃ b t, v = Value.str b t) ∧ vs.any (valHitsStr a) = l.any (Mine.hitS a)
  | [], vs, _, h => by rw [show vs = [] from h]; exact ⟨fun v hv => (nomatch hv), rfl⟩
  | d :: ds, _, hl, ⟨v, vs', e, hv, h⟩ => by
    simp only [List.all_cons, Bool.and_eq_true] at hl
    obtain ⟨h1, h2⟩ := IsL.hitS (a := a) hl.2 h
    cases d with
    | str i =>
      obtain ⟨t, rfl⟩ := hv
      subst e
      refine ⟨fun w hw => ?_, ?_⟩
      · rcases List.mem_cons.mp hw with rfl | hw
        · exact ⟨_, _, rfl⟩
        · exact h1 w hw
      · rw [List.any_cons, List.any_cons, h2]; rfl
    | _ => exact absurd hl.1 (by simp [isS])

noncomputable def fIn (neg : Bool) : D → D → Option D
  | .int a, .lst l => if l.all isI = true then some (.bool (neg ^^ l.any (hitI a))) else none
  | .int a, .tup l => if l.all isI = true then some (.bool (neg ^^ l.any (hitI a))) else none
  | .str a, .tup l => if l.all isS = true then some (.bool (neg ^^ l.any (hitS a))) else none
  | _, _ => none
theorem eqAt_int {A : Around} {s : Shared} {y : Value} (h : ∃ b t, y = Value.int b t) (x : Int) (u : Tok) : SeqAt.EqAt A s y (.int x u) (valHitsInt x y) := by
  obtain ⟨b, t, rfl⟩ := h; exact (Carried.int b t).eqAtInt x u
theorem eqAt_str {A : Around} {s : Shared} {y : Value} (h : ∃ b t, y = Value.str b t) (x : Str) (u : Tok) : SeqAt.EqAt A s y (.str x u) (valHitsStr x y) := by
  obtain ⟨b, t, rfl⟩ := h; exact (Carried.str b t).eqAtStr x u
theorem OpOK.isIn : OpOK I k (compareOp .In) (fIn false) := by
  intro A g s x y d u v Q E hA sub gl hx hy hf P
  unfold fIn at hf
  split at hf
  · rename_i a l
    split at hf
    · rename_i hl
      cases hf
      obtain ⟨t, rfl⟩ := hx
      obtain ⟨p, xs, rfl, hp, hL⟩ := hy.isList sub
      obtain ⟨h1, h2⟩ := hL.hitI (a := a) hl
      refine SeqAt.in_listAt (valHitsInt a) hp (fun z hz => eqAt_int (h1 z (by simpa using hz)) a t) (P.now (tk := s.toks) sub ?_)
      have : xs.any (valHitsInt a) = l.any (hitI a) := by rw [← h2]; simp
      rw [this, Bool.false_xor]; rfl
    · cases hf
  · rename_i a l
    split at hf
    · rename_i hl
      cases hf
      obtain ⟨t, rfl⟩ := hx
      obtain ⟨p, xs, rfl, hp, hL⟩ := hy.isTup sub
      obtain ⟨h1, h2⟩ := hL.hitI (a := a) hl
      refine SeqAt.in_tupleAt (valHitsInt a) hp (fun z hz => eqAt_int (h1 z (by simpa using hz)) a t) (P.now (tk := s.toks) sub ?_)
      have : xs.any (valHitsInt a) = l.any (hitI a) := by rw [← h2]; simp
      rw [this, Bool.false_xor]; rfl
    · cases hf
  · rename_i a l
    split at hf
    · rename_i hl
      cases hf
      obtain ⟨t, rfl⟩ := hx
      obtain ⟨p, xs, rfl, hp, hL⟩ := hy.isTup sub
      obtain ⟨h1, h2⟩ := hL.hitS (a := a) hl
      refine SeqAt.in_tupleAt (valHitsStr a) hp (fun z hz => eqAt_str (h1 z (by simpa using hz)) a t) (P.now (tk := s.toks) sub ?_)
      have : xs.any (valHitsStr a) = l.any (hitS a) := by rw [← h2]; simp
      rw [this, Bool.false_xor]; rfl
    · cases hf
  · cases hf
end
end Mine
open PySem PySem.W PyProof.Rows PySem.Spec
set_option linter.unusedVariables false
set_option Elab.async false
set_option maxRecDepth 100000
namespace Mine

/-- the items that a for goes through -/
noncomputable def rngL (a c : Int) (n : Nat) : List D := (List.range n).map fun (i : Nat) => .int (a + (i : Int) * c)
noncomputable def itemsOf : D → Option (List D)
  | .lst l => if l.length ≤ sizeLine then some l else none
  | .tup l => if l.length ≤ sizeLine then some l else none
  | .rng a b c => if Builtin.Range.small a b c = true ∧ 0 ≤ Builtin.Range.rangeSize a b c ∧ (Builtin.Range.rangeSize a b c).toNat ≤ sizeLine then some (rngL a c (Builtin.Range.rangeSize a b c).toNat) else none
  | .str x => if x.length ≤ sizeLine then some (x.cps.toList.map fun c => .str ⟨#[c]⟩) else none
  | _ => none

section
variable {I : GI} {k : Nat} {sc : Scope} {ns : List Str}

theorem fresh_none (h : Heap) : h.get? h.objs.size = none := by
  cases q : h.get? h.objs.size with
  | none => rfl
  | some o' => exact absurd (Heap.lt_size q) (Nat.lt_irrefl _)

theorem iter_ok {A : Around} {g : G} {s : Shared} {d : D} {v : Value} {ds : List D} {Q : Value → Shared → Prop} {E : Value → Shared → Prop} (hh : A.handled = none) (sub : Sub g s.heap.get?) (hv : Is g d v) (hi : itemsOf d = some ds)
    (h : ∀ (o : Obj) (fp : List Addr) (P : Nat → Value → Prop) (St : Nat → Heap → Prop), Walks I.prog I.w A s.heap.objs.size fp [s.heap.objs.size] ds.length P St → (∀ i u, P i u → ∃ x, ds[i]? = some x ∧ Is g x u) →
      St 0 (s.heap.push o) → (∀ b ∈ fp, b = s.heap.objs.size ∨ (g b).isSome = true) → ((∀ x, d ≠ .str x) → ∀ i h, St i h → (h.get? s.heap.objs.size).isSome = true) → Q (.ref s.heap.objs.size) { s with heap := s.heap.push o }) : wpAny (model I.prog I.w) A (pyIter v) Q E s := by
  unfold itemsOf at hi
  split at hi
  · rename_i l
    split at hi
    · cases hi
      have hv' := hv
      obtain ⟨a, xs, rfl, hl, hL⟩ := hv.isList sub
      have e := hL.length
      simp only [Array.length_toList] at e
      have hga : (g a).isSome = true := by
        obtain ⟨a', o, vs, n, e1, h1, _⟩ := hv'
        cases e1; rw [h1]; rfl
      refine wpAny_pyIter_list hl ?_
      have hne : a ≠ s.heap.objs.size := by
        intro q
        cases q' : g a with
        | none => rw [q'] at hga; cases hga
        | some o => have := sub _ _ q'; rw [q, fresh_none] at this; cases this
      refine h _ [s.heap.objs.size, a] _ _ (e ▸ Walks.list hh s.heap.objs.size a hne xs) (fun i u hu => ?_) ⟨⟨_, Heap.get?_push_size _ rfl, rfl, rfl⟩, hl.push _⟩ (fun b hb => ?_) fun _ i h st => (by obtain ⟨⟨o, e, _⟩, _⟩ := st; rw [e]; rfl)
      · have hlt : i < ds.length := by
          have := (Array.getElem?_eq_some_iff.mp hu).1
          omega
        obtain ⟨w, hw, hI⟩ := hL.get (List.getElem?_eq_getElem hlt)
        have : xs[i]? = some w := by simpa using hw
        rw [hu] at this; cases this
        exact ⟨_, List.getElem?_eq_getElem hlt, hI⟩
      · rcases List.mem_cons.mp hb with rfl | hb
        · exact .inl rfl
        · rw [List.mem_singleton.mp hb]; exact .inr hga
    · cases hi
  · rename_i l
    split at hi
    · cases hi
      have hv' := hv
      obtain ⟨a, xs, rfl, hl, hL⟩ := hv.isTup sub
      have e := hL.length
      simp only [Array.length_toList] at e
      have hga : (g a).isSome = true := by
        obtain ⟨a', o, vs, n, e1, h1, _⟩ := hv'
        cases e1; rw [h1]; rfl
      have hl' : s.heap.IsTuple a xs := hl
      refine wpAny_pyIter_tuple hl' ?_
      have hne : a ≠ s.heap.objs.size := by
        intro q
        cases q' : g a with
        | none => rw [q'] at hga; cases hga
        | some o => have := sub _ _ q'; rw [q, fresh_none] at this; cases this
      refine h _ [s.heap.objs.size, a] _ _ (e ▸ Walks.tuple hh s.heap.objs.size a hne xs) (fun i u hu => ?_) ⟨⟨_, Heap.get?_push_size _ rfl, rfl, rfl⟩, hl'.at fun o e => Heap.get?_push_of_some _ e⟩ (fun b hb => ?_) fun _ i h st => (by obtain ⟨⟨o, e, _⟩, _⟩ := st; rw [e]; rfl)
      · have hlt : i < ds.length := by
          have := (Array.getElem?_eq_some_iff.mp hu).1
          omega
        obtain ⟨w, hw, hI⟩ := hL.get (List.getElem?_eq_getElem hlt)
        have : xs[i]? = some w := by simpa using hw
        rw [hu] at this; cases this
        exact ⟨_, List.getElem?_eq_getElem hlt, hI⟩
      · rcases List.mem_cons.mp hb with rfl | hb
        · exact .inl rfl
        · rw [List.mem_singleton.mp hb]; exact .inr hga
    · cases hi
  · rename_i a b c
    split at hi
    · rename_i hz
      cases hi
      obtain ⟨r, t, u, w, rfl, hr⟩ := hv
      refine wpAny_pyIter_range (sub _ _ hr) hz.1 ?_
      have el : (rngL a c (Builtin.Range.rangeSize a b c).toNat).length = (Builtin.Range.rangeSize a b c).toNat := by simp [rngL]
      have W : Walks I.prog I.w A s.heap.objs.size [s.heap.objs.size] [s.heap.objs.size] (Builtin.Range.rangeSize a b c).toNat (fun i v => i < (Builtin.Range.rangeSize a b c).toNat ∧ ∃ t, v = .int (a + i * c) t)
        (fun i h => IsRangeIter h s.heap.objs.size (a + (i : Nat) * c) (((Builtin.Range.rangeSize a b c).toNat : Int) - (i : Nat)) c) := (Walks.range hh _ a c _).bound
      refine h _ [s.heap.objs.size] _ _ (el.symm ▸ W) (fun i v hv => ?_) ?_ (fun b hb => .inl (List.mem_singleton.mp hb)) fun _ i h st => (by have e : h.get? _ = some _ := st; rw [e]; rfl)
      · obtain ⟨hlt, t', rfl⟩ := hv
        rw [el] at hlt
        exact ⟨.int (a + i * c), by simp only [rngL, List.getElem?_map, List.getElem?_range hlt, Option.map_some], ⟨_, rfl⟩⟩
      · have e0 : ((Builtin.Range.rangeSize a b c).toNat : Int) = Builtin.Range.rangeSize a b c := by omega
        have e1 : a + ((0 : Nat) : Int) * c = a := by simp
        have e2 : ((Builtin.Range.rangeSize a b c).toNat : Int) - ((0 : Nat) : Int) = Builtin.Range.rangeSize a b c := by simpa using e0
        show IsRangeIter _ _ (a + ((0 : Nat) : Int) * c) (((rngL a c (Builtin.Range.rangeSize a b c).toNat).length : Int) - ((0 : Nat) : Int)) _
        rw [el, e1, e2]
        exact Heap.get?_push_size _ rfl
    · cases hi
  · rename_i x
    split at hi
    · cases hi
      obtain ⟨t, rfl⟩ := hv
      refine wpAny_pyIter_str fun o St hW hst => ?_
      have el : (x.cps.toList.map fun c => D.str ⟨#[c]⟩).length = x.cps.size := by simp
      refine h o [s.heap.objs.size] _ St (el.symm ▸ hW A hh) (fun i u hu => ?_) hst (fun b hb => .inl (List.mem_singleton.mp hb)) fun hne => absurd rfl (hne _)
      obtain ⟨c, w, hc, rfl⟩ := hu
      exact ⟨.str ⟨#[c]⟩, by simp [hc], ⟨_, rfl⟩⟩
    · cases hi
  · cases hi

/-- a flat value's datum -/
noncomputable def dv : Value → Option D
  | .none => some .none
  | .bool b => some (.bool b)
  | .int i _ => some (.int i)
  | .str x _ => some (.str x)
  | _ => none
theorem Is.dv {g : G} {d : D} {v : Value} (hf : Mine.flat d = true) (h : Is g d v) : Mine.dv v = some d := by
  cases d <;> simp only [Mine.flat, Bool.false_eq_true] at hf
  · rw [show v = .none from h]; rfl
  · rename_i b; rw [show v = .bool b from h]; rfl
  · obtain ⟨t, rfl⟩ := h; rfl
  · obtain ⟨t, rfl⟩ := h; rfl

noncomputable def relabelS (scope sc : Scope) : Scope := { scope with names := scope.names.map fun (n, k) => if (k == .free && sc.kind == .function && sc.names.lookup n == some .cell) then (n, .cell) else (n, k) }

theorem closure_ok {M : Model} {env : Env} (scope : Scope) (h : ∀ y ∈ scope.names, y.2 = .free → (env.cells.lookup y.1).isSome = true) :
    ∃ cl : List (Str × Addr), closureFor scope env = pure cl ∧ ∀ y ∈ scope.names, y.2 = .free → cl.lookup y.1 = env.cells.lookup y.1 := by
  have go : ∀ (names : List (Str × NameKind)) (acc : List (Str × Addr)), (∀ y ∈ names, y.2 = .free → (env.cells.lookup y.1).isSome = true) →
      (∀ y c, acc.lookup y = some c → env.cells.lookup y = some c) →
      ∃ cl : List (Str × Addr), forIn (m := Sem) names acc (fun (x : Str × NameKind) (r : List (Str × Addr)) => if (x.2 == NameKind.free) = true then do let a ← cellOf env x.1; pure (ForInStep.yield ((x.1, a) :: r)) else do pure PUnit.unit; pure (ForInStep.yield r)) = pure cl ∧
        (∀ y ∈ names, y.2 = .free → cl.lookup y.1 = env.cells.lookup y.1) ∧ (∀ y c, acc.lookup y = some c → cl.lookup y = some c) ∧ (∀ y c, cl.lookup y = some c → env.cells.lookup y = some c) := by
    intro names
    induction names with
    | nil => intro acc _ ha; exact ⟨acc, rfl, fun y hy => (nomatch hy), fun _ _ e => e, ha⟩
    | cons x r ih =>
      intro acc hn ha
      obtain ⟨n, kd⟩ := x
      rw [List.forIn_cons]
      by_cases hk : kd = .free
      · subst hk
        have hs := hn (n, .free) (.head _) rfl
        obtain ⟨c, hc⟩ := Option.isSome_iff_exists.mp hs
        have e : cellOf env n = pure c := by unfold cellOf; rw [hc]
        obtain ⟨cl, e1, e2, e3, e4⟩ := ih ((n, c) :: acc) (fun y hy => hn y (.tail _ hy)) (fun y c' hy => by
          rw [List.lookup_cons] at hy
          cases q : y == n with
          | true => rw [q] at hy; cases hy; rw [beq_iff_eq.mp q]; exact hc
          | false => rw [q] at hy; exact ha y c' hy)
        refine ⟨cl, ?_, fun y hy hf => ?_, fun y c' hy => ?_, e4⟩
        · show (if (NameKind.free == NameKind.free) = true then (do let a ← cellOf env n; pure (ForInStep.yield ((n, a) :: acc)) : Sem _) else _) >>= _ = _
          have hb : (NameKind.free == NameKind.free) = true := rfl
          rw [hb]
          show ((cellOf env n >>= fun a => pure (ForInStep.yield ((n, a) :: acc))) >>= _) = _
          rw [e]; exact e1
        · rcases List.mem_cons.mp hy with rfl | hy
          · rw [e3 n c (by rw [List.lookup_cons]; simp), hc]
          · exact e2 y hy hf
        · by_cases q : y = n
          · subst q
            have h1 := e3 y c (by rw [List.lookup_cons]; simp)
            rw [h1]
            have := ha y c' hy
            rw [hc] at this; exact this
          · refine e3 y c' ?_
            rw [List.lookup_cons, show (y == n) = false from by simpa using q]; exact hy
      · obtain ⟨cl, e1, e2, e3, e4⟩ := ih acc (fun y hy => hn y (.tail _ hy)) ha
        refine ⟨cl, ?_, fun y hy hf => ?_, e3, e4⟩
        · have hb : (kd == NameKind.free) = false := by simpa using hk
          show (if (kd == NameKind.free) = true then (do let a ← cellOf env n; pure (ForInStep.yield ((n, a) :: acc)) : Sem _) else _) >>= _ = _
          rw [hb]; exact e1
        · rcases List.mem_cons.mp hy with rfl | hy
          · exact absurd hf hk
          · exact e2 y hy hf
  obtain ⟨cl, e1, e2, _, _⟩ := go scope.names [] h (fun y c hy => by cases hy)
  refine ⟨cl, ?_, e2⟩
  unfold closureFor
  have q := congrArg (fun t : Sem (List (Str × Addr)) => t >>= fun cs => pure cs) e1
  exact q
end
end Mine
open PySem PySem.W PyProof.Rows PySem.Spec
set_option linter.unusedVariables false
set_option Elab.async false
set_option maxRecDepth 100000
namespace Mine

noncomputable def compL (elt : Ev) (tst : Tr) (r : R) : List D → Option (List D)
  | [] => some []
  | x :: xs => if flat x = true then (match tst (some x :: r) with
    | some true => (match elt (some x :: r) with
      | some y => if flat y = true then (match compL elt tst r xs with | some l => some (y :: l) | none => none) else none
      | none => none)
    | some false => compL elt tst r xs
    | none => none) else none

theorem compL_all {elt : Ev} {tst : Tr} {r : R} : ∀ {ds out : List D} {i : Nat} {x : D}, compL elt tst r ds = some out → ds[i]? = some x →
    flat x = true ∧ ∃ b, tst (some x :: r) = some b ∧ (b = true → ∃ y, elt (some x :: r) = some y ∧ flat y = true)
  | d :: ds, out, i, x, h, hx => by
    unfold compL at h
    split at h
    · rename_i hfl
      split at h
      · rename_i ht
        split at h
        · rename_i y hy
          split at h
          · rename_i hfy
            split at h
            · rename_i l hl
              cases i with
              | zero => simp at hx; subst hx; exact ⟨hfl, true, ht, fun _ => ⟨y, hy, hfy⟩⟩
              | succ i => exact compL_all hl (by simpa using hx)
            · cases h
          · cases h
        · cases h
      · rename_i ht
        cases i with
        | zero => simp at hx; subst hx; exact ⟨hfl, false, ht, fun e => by cases e⟩
        | succ i => exact compL_all h (by simpa using hx)
      · cases h
    · cases h

noncomputable def g0 : G := fun _ => none
theorem g0_sub (g : G) : Sub g0 g := fun _ _ e => by cases e
theorem isL_of_get {g : G} : ∀ {ds : List D} {vs : List Value}, vs.length = ds.length → (∀ (j : Nat) (v : Value), vs[j]? = some v → ∃ x, ds[j]? = some x ∧ Is g x v) → IsL g ds vs
  | [], [], _, _ => rfl
  | [], _ :: _, h, _ => by cases h
  | _ :: _, [], h, _ => by cases h
  | d :: ds, v :: vs, h, hg => by
    obtain ⟨x, hx, hi⟩ := hg 0 v rfl
    simp at hx; subst hx
    exact ⟨v, vs, rfl, hi, isL_of_get (by simpa using h) fun j u hu => by
      obtain ⟨x, hx, hi⟩ := hg (j + 1) u (by simpa using hu)
      exact ⟨x, by simpa using hx, hi⟩⟩

noncomputable def compP (tst : Tr) (r : R) (v : Value) : Bool := match dv v with
  | some x => (match tst (some x :: r) with | some true => true | _ => false)
  | none => false
noncomputable def compF (elt : Ev) (r : R) (v y : Value) : Prop := ∃ x d, dv v = some x ∧ elt (some x :: r) = some d ∧ flat d = true ∧ Is g0 d y

theorem comp_out {g : G} {elt : Ev} {tst : Tr} {r : R} : ∀ {ds out : List D} {vs ys : List Value}, compL elt tst r ds = some out → IsL g ds vs → Paired (compF elt r) (vs.filter (compP tst r)) ys → IsL g0 out ys
  | [], out, vs, ys, h, hL, hp => by
    rw [show vs = [] from hL] at hp
    simp only [compL, Option.some.injEq] at h
    subst h
    cases hp; rfl
  | d :: ds, out, _, ys, h, ⟨v, vs', e, hv, hL⟩, hp => by
    subst e
    unfold compL at h
    split at h
    · rename_i hfl
      have hd := hv.dv hfl
      split at h
      · rename_i ht
        have hP : compP tst r v = true := by unfold compP; rw [hd]; simp only [ht]
        rw [List.filter_cons, hP, if_pos rfl] at hp
        split at h
        · rename_i y hy
          split at h
          · rename_i hfy
            split at h
            · rename_i l hl
              cases h
              cases hp with
              | cons hF hp' =>
                obtain ⟨x, d', hx, hd', _, hi⟩ := hF
                rw [hd] at hx; cases hx
                rw [hy] at hd'; cases hd'
                exact ⟨_, _, rfl, hi, comp_out hl hL hp'⟩
            · cases h
          · cases h
        · cases h
      · rename_i ht
        have hP : compP tst r v = false := by unfold compP; rw [hd]; simp only [ht]
        rw [List.filter_cons, hP] at hp
        exact comp_out h hL hp
      · cases h
    · cases h

noncomputable def eComp (elt : Ev) (tst : Tr) (iter : Ev) : Ev := fun r => match iter r with
  | some d => (match itemsOf d with
    | some ds => (match compL elt tst r ds with
      | some out => some (.lst out)
      | none => none)
    | none => none)
  | none => none
theorem eComp_some {elt : Ev} {tst : Tr} {iter : Ev} {r : R} {d : D} (h : eComp elt tst iter r = some d) :
    ∃ di ds out, iter r = some di ∧ itemsOf di = some ds ∧ compL elt tst r ds = some out ∧ d = .lst out := by
  unfold eComp at h
  split at h
  · rename_i di hdi
    split at h
    · rename_i ds hds
      split at h
      · rename_i out ho; cases h; exact ⟨_, _, _, hdi, hds, ho, rfl⟩
      · cases h
    · cases h
  · cases h

section
variable {I : GI} {k : Nat} {sc : Scope} {ns : List Str}

noncomputable def tTrue : Tr := fun _ => some true
/-- the tests of a comprehension: none or one -/
noncomputable def TestsOK (I : GI) (k : Nat) (sc : Scope) (ns : List Str) (ifs : List Expr) (F : Tr) : Prop := (ifs = [] ∧ F = tTrue) ∨ ∃ c, ifs = [c] ∧ TrOK I k sc ns c F
theorem TestsOK.one {c : Expr} {F : Tr} (h : TrOK I k sc ns c F) : TestsOK I k sc ns [c] F := .inr ⟨c, rfl, h⟩

structure CompS (sc scope : Scope) (ns : List Str) (x : Str) : Prop where
  cell : ∀ y ∈ scope.names, y.2 ≠ .cell
  kind : scope.kind = .function
  okind : sc.kind = .function
  names : ∀ y ∈ scope.names, y.2 = .local → scope.names.lookup y.1 = some .local
  local_ : scope.names.lookup x = some .local
  free : ∀ y ∈ scope.names, y.2 = .free → sc.names.lookup y.1 = some .cell
  fresh : ∀ y ∈ ns, (relabelS scope sc).names.lookup y ≠ some .local

theorem relabel_cell {sc : Scope} : ∀ {names : List (Str × NameKind)} {y : Str}, (∀ z ∈ names, z.2 ≠ .cell) →
    (names.map fun (n, k) => if (k == NameKind.free && sc.kind == .function && sc.names.lookup n == some .cell) then (n, NameKind.cell) else (n, k)).lookup y = some .cell → (y, .free) ∈ names ∧ sc.names.lookup y = some .cell
  | [], y, _, h => by simp at h
  | (n, kd) :: r, y, hc, h => by
    rw [List.map_cons] at h
    by_cases hb : (kd == NameKind.free && sc.kind == .function && sc.names.lookup n == some .cell) = true
    · simp only [hb, if_true] at h
      rw [List.lookup_cons] at h
      cases q : y == n with
      | true =>
        have := beq_iff_eq.mp q; subst this
        simp only [Bool.and_eq_true, beq_iff_eq] at hb
        exact ⟨by rw [show kd = .free from hb.1.1]; exact .head _, hb.2⟩
      | false =>
        rw [q] at h
        obtain ⟨a, b⟩ := relabel_cell (fun z hz => hc z (.tail _ hz)) h
        exact ⟨.tail _ a, b⟩
    · simp only [hb] at h
      simp only [Bool.false_eq_true, if_false] at h
      rw [List.lookup_cons] at h
      cases q : y == n with
      | true =>
        rw [q] at h
        exact absurd (Option.some.inj h) (hc (n, kd) (.head _))
      | false =>
        rw [q] at h
        obtain ⟨a, b⟩ := relabel_cell (fun z hz => hc z (.tail _ hz)) h
        exact ⟨.tail _ a, b⟩

/-- the frame of a comprehension, seen from within -/
theorem inner_view {env : Env} {g : G} {r : R} {h₀ h : Heap} {scope : Scope} {cl : List (Str × Addr)} {C : Addr} {x : Str} {v : Value} {xd : D} {m : Str → Option Value} (V : View I env ns g r h₀) (hS : EnvS sc env)
    (cS : CompS sc scope ns x) (hcl : ∀ y ∈ scope.names, y.2 = .free → cl.lookup y.1 = env.cells.lookup y.1) (k₀ : Grow h₀ h) (hn : h.Ns C m) (hm : m x = some v) (hv : Is g xd v) :
    EnvS (relabelS scope sc) (compEnvC scope cl C env) ∧ View I (compEnvC scope cl C env) (x :: ns) g (some xd :: r) h := by
  have er : relabel scope env = relabelS scope sc := by
    unfold relabel relabelS Env.kindOf; rw [hS.scope]
  have free_of : ∀ y, (relabelS scope sc).names.lookup y = some .cell → cl.lookup y = env.cells.lookup y ∧ sc.names.lookup y = some .cell := fun y hy => by
    obtain ⟨a, b⟩ := relabel_cell cS.cell hy
    exact ⟨hcl (y, .free) a rfl, b⟩
  refine ⟨⟨er, hS.globals, hS.builtins, fun y hy => ?_⟩, ⟨fun b o e => k₀ b o (V.sub b o e), I.grow V.gl k₀, fun i y d hy hk hd => ?_⟩⟩
  · obtain ⟨a, b⟩ := free_of y hy
    show (cl.lookup y).isSome = true
    rw [a]; exact hS.cells y b
  · cases i with
    | zero =>
      simp only [List.getElem?_cons_zero, Option.some.injEq] at hy hd
      subst hy hd
      refine ⟨v, hv, .inl ⟨?_, m, hn, hm⟩⟩
      show (relabel scope env).names.lookup x = _
      exact lookup_relabel_local cS.local_
    | succ i =>
      simp only [List.getElem?_cons_succ] at hy hd
      have hk' : (relabelS scope sc).names.lookup y = some .local ∨ (relabelS scope sc).names.lookup y = some .cell := by
        rw [← er]; exact hk
      have hc : (relabelS scope sc).names.lookup y = some .cell := by
        rcases hk' with h | h
        · exact absurd h (cS.fresh y (List.mem_of_getElem? hy))
        · exact h
      obtain ⟨a, b⟩ := free_of y hc
      obtain ⟨v', hi, hh⟩ := V.var i y d hy (.inr (by unfold Env.kindOf; rw [hS.scope]; exact b)) hd
      refine ⟨v', hi, .inr ⟨?_, ?_⟩⟩
      · show (relabel scope env).names.lookup y = _
        rw [er]; exact hc
      · rcases hh with ⟨hl, _⟩ | ⟨_, c, hc', hv'⟩
        · have : env.kindOf y = some .cell := by unfold Env.kindOf; rw [hS.scope]; exact b
          rw [this] at hl; cases hl
        · exact ⟨c, by show cl.lookup y = _; rw [a]; exact hc', hv'.keeps k₀⟩

theorem comp_core {A : Around} {env : Env} {g : G} {r : R} {s : Shared} {d : D} {xv : Value} {ds out : List D} {scope : Scope} {x : Str} {elt : Expr} {ifs : List Expr} {F : Ev} {T : Tr} {cl : List (Str × Addr)}
    {Q : Value → Shared → Prop} {E : Value → Shared → Prop} (hS : EnvS sc env) (hA : AOK k A) (cS : CompS sc scope ns x) (V : View I env ns g r s.heap) (hcl : ∀ y ∈ scope.names, y.2 = .free → cl.lookup y.1 = env.cells.lookup y.1)
    (he : EvOK I k (relabelS scope sc) (x :: ns) elt F) (ht : TestsOK I k (relabelS scope sc) (x :: ns) ifs T) (hv : Is g d xv) (hi : itemsOf d = some ds) (hc : compL F T r ds = some out) (hz : ds.length ≤ sizeLine)
    (h : ∀ (o : Obj) (fp : List Addr) (P : Nat → Value → Prop) (St : Nat → Heap → Prop), Walks I.prog I.w A s.heap.objs.size fp [s.heap.objs.size] ds.length P St → St 0 (s.heap.push o) → (∀ b ∈ fp, b < (s.heap.push o).objs.size) →
      QuietOnC I.prog I.w A env scope cl x ifs elt [s.heap.objs.size] P (compP T r) (compF F r) { s with heap := s.heap.push o } →
      (∀ vs ys : List Value, vs.length = ds.length → (∀ (j : Nat) (v : Value), vs[j]? = some v → P j v) → Paired (compF F r) (vs.filter (compP T r)) ys → IsL g0 out ys) → Q (.ref s.heap.objs.size) { s with heap := s.heap.push o }) :
    wpAny (model I.prog I.w) A (pyIter xv) Q E s := by
  refine iter_ok hA.1 V.sub hv hi fun o fp P St W hP hst hfp _ => h o fp P St W hst (fun b hb => ?_) ?_ fun vs ys hlen hPv hp => ?_
  · rw [Heap.size_push]
    rcases hfp b hb with rfl | hb
    · exact Nat.lt_succ_self _
    · obtain ⟨o', ho'⟩ := Option.isSome_iff_exists.mp hb
      exact Nat.lt_succ_of_lt (Heap.lt_size (V.sub _ _ ho'))
  · have up : ∀ {h' : Heap}, (∀ b o', b ∉ [s.heap.objs.size] → (s.heap.push o).get? b = some o' → h'.get? b = some o') → Grow s.heap h' := fun hk b o' e =>
      hk b o' (by rw [List.mem_singleton]; exact Nat.ne_of_lt (Heap.lt_size e)) (Heap.get?_push_of_some _ e)
    refine ⟨fun C i v s₃ m₃ E' _ hPi hn hm hk _ => ?_, fun C i v s₃ m₃ E' _ hPi hp hn hm hk _ => ?_⟩
    · obtain ⟨xd, hx, hI⟩ := hP i v hPi
      obtain ⟨hfl, b, hb, _⟩ := compL_all hc hx
      have hd := hI.dv hfl
      obtain ⟨hS', V'⟩ := inner_view V hS cS hcl (up hk) hn hm hI
      have hpv : compP T r v = b := by
        unfold compP; rw [hd]; simp only [hb]; cases b <;> rfl
      rcases ht with ⟨rfl, rfl⟩ | ⟨c, rfl, hT⟩
      · cases hb
        exact wpAny_tests_nil ⟨hpv.symm, ⟨s₃.heap, s₃.toks, rfl, fun _ _ e => e⟩⟩
      · exact wpAny_tests_one (hT _ A g _ s₃ b _ E' hS' hA V' hb fun h' tk kk => ⟨hpv.symm, ⟨h', tk, rfl, kk⟩⟩)
    · obtain ⟨xd, hx, hI⟩ := hP i v hPi
      obtain ⟨hfl, b, hb, hy⟩ := compL_all hc hx
      have hd := hI.dv hfl
      obtain ⟨hS', V'⟩ := inner_view V hS cS hcl (up hk) hn hm hI
      have hpv : b = true := by
        unfold compP at hp; rw [hd] at hp; simp only [hb] at hp; cases b
        · cases hp
        · rfl
      obtain ⟨y, hy, hfy⟩ := hy hpv
      exact he _ A g _ s₃ y _ E' hS' hA V' hy fun w h' tk kk hw => ⟨⟨xd, y, hd, hy, hfy, hw.flat hfy⟩, ⟨h', tk, rfl, kk⟩⟩
  · exact comp_out hc (isL_of_get hlen fun j v hv => hP j v (hPv j v hv)) hp

theorem itemsOf_len {d : D} {ds : List D} (h : itemsOf d = some ds) : ds.length ≤ sizeLine := by
  unfold itemsOf at h
  split at h
  · split at h
    · cases h; assumption
    · cases h
  · split at h
    · cases h; assumption
    · cases h
  · split at h
    · rename_i hz; cases h; simpa [rngL] using hz.2.2
    · cases h
  · split at h
    · cases h; rw [List.length_map, Array.length_toList]; assumption
    · cases h
  · cases h

theorem EvOK.comp {elt iter : Expr} {ifs : List Expr} {x : Str} {px pos : Pos} {scope : Scope} {F Fi : Ev} {T : Tr} (cS : CompS sc scope ns x) (hi : EvOK I k sc ns iter Fi)
    (he : EvOK I k (relabelS scope sc) (x :: ns) elt F) (ht : TestsOK I k (relabelS scope sc) (x :: ns) ifs T) (hs : ∀ env x, foldedSetIterable iter env x = pure x) :
    EvOK I k sc ns (.ListComp elt [⟨.Name x px, iter, ifs, 0⟩] scope pos) (eComp F T Fi) := by
  intro env A g r s d Q E hS hA V hF P
  obtain ⟨di, ds, out, h1, h2, h3, rfl⟩ := eComp_some hF
  obtain ⟨cl, e1, e2⟩ := closure_ok (M := model I.prog I.w) (env := env) scope fun y hy hf => hS.cells _ (cS.free y hy hf)
  refine wpAny_ListComp_free (compP T r) (compF F r) e1 cS.cell cS.kind cS.names cS.local_ (hi env A g r s di _ E hS hA V h1 fun xv h₁ tk₁ k₁ hv => ?_) (hs env)
  refine comp_core (s := { s with heap := h₁, toks := tk₁ }) hS hA cS (V.grow k₁) e2 he ht hv h2 h3 (itemsOf_len h2) fun o fp Pp St W hst hfp hq hout => ?_
  refine ⟨_, fp, _, _, Pp, St, rfl, W, itemsOf_len h2, hst, hfp, hq, fun D h' tk ys vs hD hl hpl hlen hPv hp hk => ?_⟩
  have kk : Grow s.heap h' := fun b o' e => hk b o' (by rw [List.mem_singleton]; exact Nat.ne_of_lt (Heap.lt_size (k₁ b o' e))) (Heap.get?_push_of_some _ (k₁ b o' e))
  refine P _ h' tk kk ?_
  obtain ⟨n, hn⟩ := hpl
  refine ⟨D, { cls := .type "list", data := .seq ys n }, ys, n, rfl, ?_, rfl, rfl, IsL.mono (g0_sub _) _ (hout vs ys.toList hlen hPv hp)⟩
  have hDs : s.heap.get? D = none := by
    cases q : s.heap.get? D with
    | none => rfl
    | some o' =>
      have := Heap.get?_push_of_some o (k₁ _ _ q)
      rw [hD] at this; cases this
  rw [ext_new hDs]; exact hn
end
end Mine
open PySem PySem.W PyProof.Rows PySem.Spec
set_option linter.unusedVariables false
set_option Elab.async false
set_option maxRecDepth 100000
namespace Mine

inductive Slot where
  | unb
  | imm (d : D)
  | mt (l : List D)
noncomputable abbrev St := List Slot
noncomputable def rH : Slot → Option D
  | .imm d => some d
  | _ => none
noncomputable def rF : Slot → Option D
  | .imm d => some d
  | .mt l => some (.lst l)
  | .unb => none
noncomputable def rdH (σ : St) : R := σ.map rH
noncomputable def rdF (σ : St) : R := σ.map rF

noncomputable def lobj (vs : Array Value) (n : Nat) : Obj := { cls := .type "list", data := .seq vs n }

structure Owned (env : Env) (g fix : G) (h : Heap) (a : Addr) (l : List D) : Prop where
  obj : ∃ vs n, h.get? a = some (lobj vs n) ∧ IsL g l vs.toList
  off : fix a = none
  loc : a ≠ env.locals
  cel : ∀ n c, env.cells.lookup n = some c → a ≠ c

/-- the frame at hand: g what the names' data rest on, fix what nothing changes -/
structure SR (I : GI) (env : Env) (ns : List Str) (own : Nat → Addr) (g fix : G) (σ : St) (h : Heap) : Prop where
  gfix : Sub g fix
  sub : Sub fix h.get?
  base : ∃ h₀, I.Gl h₀ ∧ Sub h₀.get? fix
  frame : ∃ m, h.Ns env.locals m
  fixL : fix env.locals = none
  cells : ∀ n c, env.cells.lookup n = some c → (∃ v, h.IsCell c v) ∧ fix c = none ∧ c ≠ env.locals
  apart : ∀ n n' c, env.cells.lookup n = some c → env.cells.lookup n' = some c → n = n'
  imm : ∀ (i : Nat) (x : Str) (d : D), ns[i]? = some x → σ[i]? = some (.imm d) → ∃ v, Is g d v ∧ Holds env h x v
  mtd : ∀ (i : Nat) (x : Str) (l : List D), ns[i]? = some x → σ[i]? = some (.mt l) → Holds env h x (.ref (own i)) ∧ Owned env g fix h (own i) l
  inj : ∀ (i j : Nat) (l l' : List D), σ[i]? = some (.mt l) → σ[j]? = some (.mt l') → own i = own j → i = j

section
variable {I : GI} {k : Nat} {sc : Scope} {ns : List Str} {env : Env} {own : Nat → Addr} {g fix : G} {σ : St} {h : Heap}

theorem SR.gl (S : SR I env ns own g fix σ h) : I.Gl h := let ⟨h₀, a, b⟩ := S.base; I.grow a fun i o e => S.sub i o (b i o e)

theorem rdH_get {σ : St} {i : Nat} {d : D} (h : (rdH σ)[i]? = some (some d)) : σ[i]? = some (.imm d) := by
  unfold rdH at h
  rw [List.getElem?_map] at h
  cases q : σ[i]? with
  | none => rw [q] at h; simp at h
  | some sl =>
    rw [q] at h
    cases sl <;> simp [rH] at h
    rw [h]
theorem rdF_get {σ : St} {i : Nat} {d : D} (h : (rdF σ)[i]? = some (some d)) : σ[i]? = some (.imm d) ∨ ∃ l, d = .lst l ∧ σ[i]? = some (.mt l) := by
  unfold rdF at h
  rw [List.getElem?_map] at h
  cases q : σ[i]? with
  | none => rw [q] at h; simp at h
  | some sl =>
    rw [q] at h
    cases sl <;> simp [rF] at h
    · rw [h]; exact .inl rfl
    · exact .inr ⟨_, h.symm, rfl⟩

theorem SR.viewH (S : SR I env ns own g fix σ h) : View I env ns g (rdH σ) h where
  sub := S.gfix.trans S.sub
  gl := S.gl
  var := fun i x d hx _ hd => S.imm i x d hx (rdH_get hd)
theorem SR.viewF (S : SR I env ns own g fix σ h) : View I env ns h.get? (rdF σ) h where
  sub := Sub.refl _
  gl := S.gl
  var := fun i x d hx _ hd => by
    rcases rdF_get hd with q | ⟨l, rfl, q⟩
    · obtain ⟨v, a, b⟩ := S.imm i x d hx q
      exact ⟨v, Is.mono (S.gfix.trans S.sub) d a, b⟩
    · obtain ⟨a, b⟩ := S.mtd i x l hx q
      obtain ⟨vs, n, h1, h2⟩ := b.obj
      exact ⟨_, ⟨own i, _, vs, n, rfl, h1, rfl, rfl, IsL.mono (S.gfix.trans S.sub) l h2⟩, a⟩

/-- the heap grows: what is new may be leant on -/
theorem ext_mono {g g' : G} {h h' : Heap} (s : Sub g g') : Sub (ext g h h') (ext g' h h') := fun b o e => by
  cases q : h.get? b with
  | none => rw [ext_new q] at e ⊢; exact e
  | some o' => rw [ext_old q] at e ⊢; exact s b o e
theorem IsCell.live {h : Heap} {c : Addr} {v : Option Value} (x : h.IsCell c v) : ∃ o, h.get? c = some o := let ⟨o, a, _⟩ := x; ⟨o, a⟩
theorem SR.grow (S : SR I env ns own g fix σ h) {h' : Heap} (kk : Grow h h') : SR I env ns own (ext g h h') (ext fix h h') σ h' where
  gfix := ext_mono S.gfix
  sub := ext_in S.sub kk
  base := let ⟨h₀, a, b⟩ := S.base; ⟨h₀, a, b.trans (ext_sub S.sub)⟩
  frame := let ⟨m, a⟩ := S.frame; ⟨m, a.keeps kk⟩
  fixL := by
    obtain ⟨m, o, _, _, e, _⟩ := S.frame
    rw [ext_old e]; exact S.fixL
  cells := fun n c hc => by
    obtain ⟨⟨v, a⟩, b, d⟩ := S.cells n c hc
    obtain ⟨o, e⟩ := IsCell.live a
    exact ⟨⟨v, a.keeps kk⟩, by rw [ext_old e]; exact b, d⟩
  apart := S.apart
  imm := fun i x d hx hd => let ⟨v, a, b⟩ := S.imm i x d hx hd; ⟨v, Is.mono (ext_sub (S.gfix.trans S.sub)) d a, b.grow kk⟩
  mtd := fun i x l hx hd => by
    obtain ⟨a, b⟩ := S.mtd i x l hx hd
    obtain ⟨vs, n, h1, h2⟩ := b.obj
    exact ⟨a.grow kk, ⟨⟨vs, n, kk _ _ h1, IsL.mono (ext_sub (S.gfix.trans S.sub)) l h2⟩, by rw [ext_old h1]; exact b.off, b.loc, b.cel⟩⟩
  inj := S.inj
/-- the heap grows: nothing new is leant on -/
theorem SR.keep (S : SR I env ns own g fix σ h) {h' : Heap} (kk : Grow h h') : SR I env ns own g fix σ h' where
  gfix := S.gfix
  sub := fun b o e => kk b o (S.sub b o e)
  base := S.base
  frame := let ⟨m, a⟩ := S.frame; ⟨m, a.keeps kk⟩
  fixL := S.fixL
  cells := fun n c hc => let ⟨⟨v, a⟩, b, d⟩ := S.cells n c hc; ⟨⟨v, a.keeps kk⟩, b, d⟩
  apart := S.apart
  imm := fun i x d hx hd => let ⟨v, a, b⟩ := S.imm i x d hx hd; ⟨v, a, b.grow kk⟩
  mtd := fun i x l hx hd => by
    obtain ⟨a, b⟩ := S.mtd i x l hx hd
    obtain ⟨vs, n, h1, h2⟩ := b.obj
    exact ⟨a.grow kk, ⟨⟨vs, n, kk _ _ h1, h2⟩, b.off, b.loc, b.cel⟩⟩
  inj := S.inj

/-- what a step leaves -/
structure After (g fix g' fix' : G) : Prop where
  gg : Sub g g'
  ff : Sub fix fix'
  new : ∀ b o, g' b = some o → g b = some o ∨ fix b = none
theorem Sub.none {g g' : G} (s : Sub g g') {b : Addr} (h : g' b = none) : g b = none := by
  cases q : g b with
  | none => rfl
  | some o => rw [s b o q] at h; cases h
theorem After.refl (g fix : G) : After g fix g fix := ⟨Sub.refl _, Sub.refl _, fun _ _ e => .inl e⟩
theorem After.trans {g fix g₁ fix₁ g₂ fix₂ : G} (x : After g fix g₁ fix₁) (y : After g₁ fix₁ g₂ fix₂) : After g fix g₂ fix₂ :=
  { gg := x.gg.trans y.gg, ff := x.ff.trans y.ff, new := fun b o e => by
      rcases y.new b o e with q | q
      · exact x.new b o q
      · exact .inr (x.ff.none q) }
theorem After.grow {g fix : G} {h h' : Heap} (sg : Sub g h.get?) (sf : Sub fix h.get?) : After g fix (ext g h h') (ext fix h h') :=
  { gg := ext_sub sg, ff := ext_sub sf,
    new := fun b o e => by
      cases q : h.get? b with
      | none => exact .inr (sf.none q)
      | some o' => rw [ext_old q] at e; exact .inl e }

theorem Ns.func {h : Heap} {a : Addr} {m m' : Str → Option Value} (x : h.Ns a m) (y : h.Ns a m') : m = m' := by
  obtain ⟨o, es, ep, h1, h2, _, h4⟩ := x
  obtain ⟨o', es', ep', h1', h2', _, h4'⟩ := y
  rw [h1] at h1'; cases h1'
  rw [h2] at h2'; cases h2'
  funext z; rw [← h4, ← h4']

/-- a name is stored: a change of one place -/
theorem SR.change (S : SR I env ns own g fix σ h) (nd : ns.Nodup) {h' : Heap} {i : Nat} {x : Str} {a : Addr} {sl : Slot} {own' : Nat → Addr} (hx : ns[i]? = some x) (hs : Heap.SameBut a h h') (hfa : fix a = none)
    (hfr : ∃ m, h'.Ns env.locals m) (hce : ∀ n c, env.cells.lookup n = some c → ∃ v, h'.IsCell c v)
    (hoth : ∀ y v, y ≠ x → Holds env h y v → Holds env h' y v)
    (hna : ∀ j l, σ[j]? = some (.mt l) → own j ≠ a)
    (ho : ∀ j, j ≠ i → own' j = own j)
    (himm : ∀ d, sl = .imm d → ∃ v, Is g d v ∧ Holds env h' x v) (hmut : ∀ l, sl = .mt l → Holds env h' x (.ref (own' i)) ∧ Owned env g fix h' (own' i) l ∧ ∀ j l', j ≠ i → σ[j]? = some (.mt l') → own j ≠ own' i) :
    SR I env ns own' g fix (σ.set i sl) h' ∧ After g fix g fix := by
  have sub' : Sub fix h'.get? := fun b o e => by
    have hb : b ≠ a := fun q => by rw [q, hfa] at e; cases e
    rw [hs.2 b hb]; exact S.sub b o e
  have idx : ∀ j y, j ≠ i → ns[j]? = some y → y ≠ x := fun j y hj hy q => by
    subst q
    obtain ⟨l1, e1⟩ := List.getElem?_eq_some_iff.mp hy
    obtain ⟨l2, e2⟩ := List.getElem?_eq_some_iff.mp hx
    exact hj ((List.getElem_inj nd).mp (e1.trans e2.symm))
  have hin : i < σ.length ∨ σ.length ≤ i := by omega
  refine ⟨⟨S.gfix, sub', S.base, hfr, S.fixL, fun n c hc => ⟨hce n c hc, (S.cells n c hc).2⟩, S.apart, fun j y d hy hd => ?_, fun j y l hy hd => ?_, fun j j' l l' hj hj' e => ?_⟩, After.refl _ _⟩
  · by_cases hj : j = i
    · subst hj
      rw [hx] at hy; cases hy
      rw [List.getElem?_set] at hd
      simp only [if_true] at hd
      split at hd
      · exact himm d (by simpa using hd)
      · cases hd
    · rw [List.getElem?_set_ne (Ne.symm hj)] at hd
      obtain ⟨v, p, q⟩ := S.imm j y d hy hd
      exact ⟨v, p, hoth y v (idx j y hj hy) q⟩
  · by_cases hj : j = i
    · subst hj
      rw [hx] at hy; cases hy
      rw [List.getElem?_set] at hd
      simp only [if_true] at hd
      split at hd
      · obtain ⟨p, q, _⟩ := hmut l (by simpa using hd)
        exact ⟨p, q⟩
      · cases hd
    · rw [List.getElem?_set_ne (Ne.symm hj)] at hd
      obtain ⟨p, q⟩ := S.mtd j y l hy hd
      obtain ⟨vs, n, h1, h2⟩ := q.obj
      rw [ho j hj]
      exact ⟨hoth y _ (idx j y hj hy) p, ⟨⟨vs, n, (hs.2 _ (hna j l hd)).trans h1, h2⟩, q.off, q.loc, q.cel⟩⟩
  · by_cases h1 : j = i
    · by_cases h2 : j' = i
      · rw [h1, h2]
      · exfalso
        subst h1
        rw [List.getElem?_set] at hj
        simp only [if_true] at hj
        split at hj
        · obtain ⟨_, _, r⟩ := hmut l (by simpa using hj)
          rw [List.getElem?_set_ne (Ne.symm h2)] at hj'
          exact r j' l' h2 hj' (by rw [← ho j' h2]; exact e.symm)
        · cases hj
    · by_cases h2 : j' = i
      · exfalso
        subst h2
        rw [List.getElem?_set] at hj'
        simp only [if_true] at hj'
        split at hj'
        · obtain ⟨_, _, r⟩ := hmut l' (by simpa using hj')
          rw [List.getElem?_set_ne (Ne.symm h1)] at hj
          exact r j l h1 hj (by rw [← ho j h1]; exact e)
        · cases hj'
      · rw [List.getElem?_set_ne (Ne.symm h1)] at hj
        rw [List.getElem?_set_ne (Ne.symm h2)] at hj'
        rw [ho j h1, ho j' h2] at e
        exact S.inj j j' l l' hj hj' e

/-- storeName, of a local or a cell -/
theorem SR.store {M : Model} {A : Around} {s : Shared} {E : Value → Shared → Prop} {Q : Unit → Shared → Prop} (S : SR I env ns own g fix σ s.heap) (nd : ns.Nodup) (hS : EnvS sc env) (hk : sc.kind = .function) {i : Nat} {x : Str} {v : Value} {sl : Slot} {own' : Nat → Addr} (hx : ns[i]? = some x)
    (hkind : sc.names.lookup x = some .local ∨ sc.names.lookup x = some .cell)
    (ho : ∀ j, j ≠ i → own' j = own j)
    (himm : ∀ d, sl = .imm d → Is g d v) (hmut : ∀ l, sl = .mt l → v = .ref (own' i) ∧ Owned env g fix s.heap (own' i) l ∧ ∀ j l', j ≠ i → σ[j]? = some (.mt l') → own j ≠ own' i)
    (hown : ∀ j l, σ[j]? = some (.mt l) → own j ≠ env.locals ∧ ∀ n c, env.cells.lookup n = some c → own j ≠ c)
    (hQ : ∀ h' tk, SR I env ns own' g fix (σ.set i sl) h' → After g fix g fix → Q () { s with heap := h', toks := tk }) : wpAny M A (storeName env x v) Q E s := by
  obtain ⟨m, hm⟩ := S.frame
  rcases hkind with hl | hc
  · have hl' : env.kindOf x = some .local := by unfold Env.kindOf; rw [hS.scope]; exact hl
    refine wpAny_storeName_local hl' hm (fun h' hn hs => ?_) (by rw [hS.scope, hk]; rfl)
    have cel' : ∀ n c w, env.cells.lookup n = some c → s.heap.IsCell c w → h'.IsCell c w := fun n c w hc hw => hw.sameBut hs (S.cells n c hc).2.2
    have hh : Holds env h' x v := .inl ⟨hl', _, hn, by simp⟩
    obtain ⟨a, b⟩ := S.change nd (h' := h') (sl := sl) (own' := own') hx hs S.fixL ⟨_, hn⟩ (fun n c hc => let ⟨⟨w, a⟩, _⟩ := S.cells n c hc; ⟨w, cel' n c w hc a⟩)
      (fun y w hy hw => by
        rcases hw with ⟨p, m', hm', q⟩ | ⟨p, c, hc, q⟩
        · rw [Ns.func hm' hm] at q
          exact .inl ⟨p, _, hn, by simp only [if_neg hy]; exact q⟩
        · exact .inr ⟨p, c, hc, cel' y c _ hc q⟩)
      (fun j l hj => (hown j l hj).1) ho (fun d hd => ⟨v, himm d hd, hh⟩)
      (fun l hl => by
        obtain ⟨p, q, r⟩ := hmut l hl
        obtain ⟨vs, n, h1, h2⟩ := q.obj
        exact ⟨p ▸ hh, ⟨⟨vs, n, (hs.2 _ q.loc).trans h1, h2⟩, q.off, q.loc, q.cel⟩, r⟩)
    exact hQ h' _ a b
  · have hc' : env.kindOf x = some .cell := by unfold Env.kindOf; rw [hS.scope]; exact hc
    obtain ⟨c, hcl⟩ := Option.isSome_iff_exists.mp (hS.cells x hc)
    obtain ⟨⟨w₀, hw₀⟩, hfc, hcL⟩ := S.cells x c hcl
    refine wpAny_storeName_cell (hS.scope ▸ hk) hc' hcl hw₀ fun h' hv hs => ?_
    have hn : h'.Ns env.locals m := hm.sameBut hs (Ne.symm hcL)
    have cel' : ∀ n c' w, n ≠ x → env.cells.lookup n = some c' → s.heap.IsCell c' w → h'.IsCell c' w := fun n c' w hne hc2 hw => hw.sameBut hs fun q => hne (S.apart n x c' hc2 (q ▸ hcl))
    have hh : Holds env h' x v := .inr ⟨hc', c, hcl, hv⟩
    obtain ⟨a, b⟩ := S.change nd (h' := h') (sl := sl) (own' := own') hx hs hfc ⟨_, hn⟩
      (fun n c' hc2 => by
        by_cases hne : n = x
        · subst hne; rw [hcl] at hc2; cases hc2; exact ⟨_, hv⟩
        · obtain ⟨⟨w, a⟩, _⟩ := S.cells n c' hc2; exact ⟨w, cel' n c' w hne hc2 a⟩)
      (fun y w hy hw => by
        rcases hw with ⟨p, m', hm', q⟩ | ⟨p, c', hc2, q⟩
        · exact .inl ⟨p, _, hm'.sameBut hs (Ne.symm hcL), q⟩
        · exact .inr ⟨p, c', hc2, cel' y c' _ hy hc2 q⟩)
      (fun j l hj => (hown j l hj).2 x c hcl) ho (fun d hd => ⟨v, himm d hd, hh⟩)
      (fun l hl => by
        obtain ⟨p, q, r⟩ := hmut l hl
        obtain ⟨vs, n, h1, h2⟩ := q.obj
        exact ⟨p ▸ hh, ⟨⟨vs, n, (hs.2 _ (q.cel x c hcl)).trans h1, h2⟩, q.off, q.loc, q.cel⟩, r⟩)
    exact hQ h' s.toks a b

end
end Mine
open PySem PySem.W PyProof.Rows PySem.Spec
set_option linter.unusedVariables false
set_option Elab.async false
set_option maxRecDepth 100000
namespace Mine

inductive Fl where
  | next
  | cont
  | ret (d : D)

noncomputable def FlOK (g fix : G) (h : Heap) : Fl → Flow → Prop
  | .next, f => f = .next
  | .cont, f => f = .cont
  | .ret d, f => ∃ v gR, f = .ret v ∧ Is gR d v ∧ Sub gR h.get? ∧ ∀ b o, gR b = some o → g b = some o ∨ fix b = none

noncomputable abbrev Run := Nat → St → Option (St × Fl)
noncomputable def RunOK (I : GI) (k : Nat) (sc : Scope) (ns : List Str) (t : Env → Sem Flow) (F : Run) : Prop :=
  ∀ (env : Env) (A : Around) (own : Nat → Addr) (g fix : G) (σ : St) (s : Shared) (fuel : Nat) (σ' : St) (fl : Fl) (Q : Flow → Shared → Prop) (E : Value → Shared → Prop),
    EnvS sc env → AOK k A → SR I env ns own g fix σ s.heap → F fuel σ = some (σ', fl) →
    (∀ own' g' fix' h' tk f, SR I env ns own' g' fix' σ' h' → After g fix g' fix' → FlOK g' fix' h' fl f → Q f { s with heap := h', toks := tk }) → wpAny (model I.prog I.w) A (t env) Q E s

structure ScS (sc : Scope) (ns : List Str) : Prop where
  kind : sc.kind = .function
  nd : ns.Nodup
  names : ∀ x ∈ ns, sc.names.lookup x = some .local ∨ sc.names.lookup x = some .cell

section
variable {I : GI} {k : Nat} {sc : Scope} {ns : List Str}

open Classical in
/-- the view that also sees the lists that are changed -/
noncomputable def gO (own : Nat → Addr) (g : G) (σ : St) (h : Heap) : G := fun b => if ∃ i l, σ[i]? = some (.mt l) ∧ own i = b then h.get? b else g b
section
variable {env : Env} {own : Nat → Addr} {g fix : G} {σ : St} {h : Heap}
theorem gO_in (S : SR I env ns own g fix σ h) : Sub (gO own g σ h) h.get? := fun b o e => by
  unfold gO at e
  split at e
  · exact e
  · exact S.sub b o (S.gfix b o e)
theorem gO_sub (S : SR I env ns own g fix σ h) (hl : σ.length ≤ ns.length) : Sub g (gO own g σ h) := fun b o e => by
  unfold gO
  split
  · exact S.sub b o (S.gfix b o e)
  · exact e
theorem gO_new (S : SR I env ns own g fix σ h) (hl : σ.length ≤ ns.length) : ∀ b o, gO own g σ h b = some o → g b = some o ∨ fix b = none := fun b o e => by
  unfold gO at e
  split at e
  · rename_i hx
    obtain ⟨i, l, hi, rfl⟩ := hx
    have hlt : i < ns.length := Nat.lt_of_lt_of_le (List.getElem?_eq_some_iff.mp hi).1 hl
    exact .inr (S.mtd i ns[i] l (List.getElem?_eq_getElem hlt) hi).2.off
  · exact .inl e
theorem SR.viewO (S : SR I env ns own g fix σ h) (hl : σ.length ≤ ns.length) : View I env ns (gO own g σ h) (rdF σ) h where
  sub := gO_in S
  gl := S.gl
  var := fun i x d hx _ hd => by
    rcases rdF_get hd with q | ⟨l, rfl, q⟩
    · obtain ⟨v, a, b⟩ := S.imm i x d hx q
      exact ⟨v, Is.mono (gO_sub S hl) d a, b⟩
    · obtain ⟨a, b⟩ := S.mtd i x l hx q
      obtain ⟨vs, n, h1, h2⟩ := b.obj
      have e : gO own g σ h (own i) = some (lobj vs n) := by
        unfold gO; rw [if_pos ⟨i, l, q, rfl⟩]; exact h1
      exact ⟨_, ⟨own i, _, vs, n, rfl, e, rfl, rfl, IsL.mono (gO_sub S hl) l h2⟩, a⟩
end

/-- execs -/
noncomputable def rNil : Run := fun _ σ => some (σ, .next)
noncomputable def rSeq (F Fs : Run) : Run := fun fuel σ => match F fuel σ with
  | some (σ₁, .next) => Fs fuel σ₁
  | r => r
theorem RunOK.nil : RunOK I k sc ns (execs []) rNil := by
  intro env A own g fix σ s fuel σ' fl Q E hS hA S hF P
  cases hF
  exact wpAny_execs_nil (P own g fix s.heap s.toks _ S (After.refl _ _) rfl)
theorem RunOK.cons {st : Stmt} {rest : List Stmt} {F Fs : Run} (h : RunOK I k sc ns (exec st) F) (hs : RunOK I k sc ns (execs rest) Fs) : RunOK I k sc ns (execs (st :: rest)) (rSeq F Fs) := by
  intro env A own g fix σ s fuel σ' fl Q E hS hA S hF P
  unfold rSeq at hF
  refine wpAny_execs_cons ?_
  split at hF
  · rename_i σ₁ h1
    refine h env A own g fix σ s fuel σ₁ .next _ E hS hA S h1 fun own₁ g₁ fix₁ h₁ tk₁ f S₁ A₁ hf => ?_
    rw [show f = .next from hf]
    exact hs env A own₁ g₁ fix₁ σ₁ _ fuel σ' fl Q E hS hA S₁ hF fun own₂ g₂ fix₂ h₂ tk₂ f₂ S₂ A₂ hf₂ => P own₂ g₂ fix₂ h₂ tk₂ f₂ S₂ (A₁.trans A₂) hf₂
  · rename_i hne
    refine h env A own g fix σ s fuel σ' fl _ E hS hA S hF fun own₁ g₁ fix₁ h₁ tk₁ f S₁ A₁ hf => ?_
    have q := P own₁ g₁ fix₁ h₁ tk₁ f S₁ A₁ hf
    cases fl with
    | next => exact absurd hF (hne σ')
    | cont => rw [show f = .cont from hf] at q ⊢; exact q
    | ret d => obtain ⟨v, gR, rfl, _⟩ := hf; exact q

/-- a value that may be kept: the changed lists are unseen, or it bears no reference -/
noncomputable def evS (F : Ev) (σ : St) : Option D := match F (rdH σ) with
  | some d => some d
  | none => match F (rdF σ) with
    | some d => if flat d = true then some d else none
    | none => none
theorem evS_ok {env : Env} {A : Around} {own : Nat → Addr} {g fix : G} {σ : St} {s : Shared} {e : Expr} {F : Ev} {d : D} {Q : Value → Shared → Prop} {E : Value → Shared → Prop} (hS : EnvS sc env) (hA : AOK k A)
    (S : SR I env ns own g fix σ s.heap) (h : EvOK I k sc ns e F) (hF : evS F σ = some d)
    (P : ∀ v h' tk, SR I env ns own (ext g s.heap h') (ext fix s.heap h') σ h' → After g fix (ext g s.heap h') (ext fix s.heap h') → Is (ext g s.heap h') d v → Q v { s with heap := h', toks := tk }) : wpAny (model I.prog I.w) A (eval e env) Q E s := by
  have go : ∀ {h' : Heap}, Grow s.heap h' → SR I env ns own (ext g s.heap h') (ext fix s.heap h') σ h' ∧ After g fix (ext g s.heap h') (ext fix s.heap h') := fun kk =>
    ⟨S.grow kk, After.grow (S.gfix.trans S.sub) S.sub⟩
  unfold evS at hF
  split at hF
  · rename_i d' hd
    cases hF
    exact h env A g (rdH σ) s d Q E hS hA S.viewH hd fun v h' tk kk hv => P v h' tk (go kk).1 (go kk).2 hv
  · split at hF
    · rename_i d' hd
      split at hF
      · rename_i hfl
        cases hF
        exact h env A _ (rdF σ) s d Q E hS hA S.viewF hd fun v h' tk kk hv => P v h' tk (go kk).1 (go kk).2 (hv.flat hfl)
      · cases hF
    · cases hF

theorem SR.ownOff {env : Env} {own : Nat → Addr} {g fix : G} {σ : St} {h : Heap} (S : SR I env ns own g fix σ h) (hl : σ.length ≤ ns.length) : ∀ j l, σ[j]? = some (.mt l) → own j ≠ env.locals ∧ ∀ n c, env.cells.lookup n = some c → own j ≠ c := fun j l hj => by
  have hlt : j < ns.length := Nat.lt_of_lt_of_le (List.getElem?_eq_some_iff.mp hj).1 hl
  have q := (S.mtd j ns[j] l (List.getElem?_eq_getElem hlt) hj).2
  exact ⟨q.loc, q.cel⟩

/-- a name is stored, an immutable datum -/
theorem store_imm {env : Env} {A : Around} {own : Nat → Addr} {g fix : G} {σ : St} {s : Shared} {x : Str} {i : Nat} {v : Value} {d : D} {Q : Unit → Shared → Prop} {E : Value → Shared → Prop} (hc : ScS sc ns) (hS : EnvS sc env)
    (S : SR I env ns own g fix σ s.heap) (hl : σ.length ≤ ns.length) (hx : ns[i]? = some x) (hd : Is g d v)
    (P : ∀ h' tk, SR I env ns own g fix (σ.set i (.imm d)) h' → Q () { s with heap := h', toks := tk }) : wpAny (model I.prog I.w) A (storeName env x v) Q E s :=
  S.store hc.nd hS hc.kind hx (hc.names x (List.mem_of_getElem? hx)) (fun _ _ => rfl) (fun d' e => by cases e; exact hd) (fun l e => by cases e) (S.ownOff hl) fun h' tk S' _ => P h' tk S'

noncomputable def rAsg (i : Nat) (F : Ev) : Run := fun _ σ => if σ.length ≤ i then none else match evS F σ with
  | some d => some (σ.set i (.imm d), .next)
  | none => none
/-- the frame's length holds on: a check that the reader makes -/
noncomputable def lenOk (n : Nat) (F : Run) : Run := fun fuel σ => if σ.length = n then F fuel σ else none

theorem RunOK.asg {x : Str} {px pos : Pos} {e : Expr} {i : Nat} {F : Ev} (hc : ScS sc ns) (hx : ns[i]? = some x) (h : EvOK I k sc ns e F) (hs : ∀ env, swapsWith e (some (.Name x px)) pos.line env = pure false) :
    RunOK I k sc ns (exec (.Assign [.Name x px] e pos)) (lenOk ns.length (rAsg i F)) := by
  intro env A own g fix σ s fuel σ' fl Q E hS hA S hF P
  unfold lenOk at hF
  split at hF
  · rename_i hlen
    unfold rAsg at hF
    split at hF
    · cases hF
    · split at hF
      · rename_i d hd
        cases hF
        refine wpAny_Assign_Name (evS_ok hS hA S h hd fun v h₁ tk₁ S₁ A₁ hv => ?_) (hs env)
        exact store_imm hc hS S₁ (Nat.le_of_eq hlen) hx hv fun h₂ tk₂ S₂ => P own _ _ h₂ tk₂ _ S₂ A₁ rfl
      · cases hF
  · cases hF

noncomputable def rRet (F : Ev) : Run := fun _ σ => match F (rdH σ) with
  | some d => some (σ, .ret d)
  | none => match F (rdF σ) with
    | some d => some (σ, .ret d)
    | none => none
theorem RunOK.ret {e : Expr} {pos : Pos} {F : Ev} (h : EvOK I k sc ns e F) : RunOK I k sc ns (exec (.Return (some e) pos)) (lenOk ns.length (rRet F)) := by
  intro env A own g fix σ s fuel σ' fl Q E hS hA S hF P
  unfold lenOk at hF
  split at hF
  · rename_i hlen
    unfold rRet at hF
    split at hF
    · rename_i d hd
      cases hF
      refine wpAny_Return_some (h env A g (rdH σ) s d _ E hS hA S.viewH hd fun v h' tk kk hv => ?_)
      have S' := S.grow kk
      exact P own _ _ h' tk _ S' (After.grow (S.gfix.trans S.sub) S.sub) ⟨v, _, rfl, hv, S'.gfix.trans S'.sub, fun b o e => .inl e⟩
    · split at hF
      · rename_i d hd
        cases hF
        have hl := Nat.le_of_eq hlen
        refine wpAny_Return_some (h env A _ (rdF σ) s d _ E hS hA (S.viewO hl) hd fun v h' tk kk hv => ?_)
        have S' := S.grow kk
        refine P own _ _ h' tk _ S' (After.grow (S.gfix.trans S.sub) S.sub) ⟨v, _, rfl, hv, ext_in (gO_in S) kk, fun b o e => ?_⟩
        cases q : s.heap.get? b with
        | none => rw [ext_new q] at e ⊢; exact .inl e
        | some o' =>
          rw [ext_old q] at e ⊢
          rcases gO_new S hl b o e with p | p
          · exact .inl p
          · exact .inr (by rw [ext_old q]; exact p)
      · cases hF
  · cases hF
noncomputable def rIf (T : Tr) (F F' : Run) : Run := fun fuel σ => match T (rdF σ) with
  | some true => F fuel σ
  | some false => F' fuel σ
  | none => none
theorem RunOK.ifS {test : Expr} {body orelse : List Stmt} {pos : Pos} {T : Tr} {F F' : Run} (ht : TrOK I k sc ns test T) (hb : RunOK I k sc ns (execs body) F) (ho : RunOK I k sc ns (execs orelse) F') :
    RunOK I k sc ns (exec (.If test body orelse pos)) (rIf T F F') := by
  intro env A own g fix σ s fuel σ' fl Q E hS hA S hF P
  unfold rIf at hF
  split at hF
  · rename_i hT
    refine wpAny_If (ht env A _ (rdF σ) s true _ E hS hA S.viewF hT fun h₁ tk₁ kk => ?_)
    exact hb env A own _ _ σ _ fuel σ' fl Q E hS hA (S.grow kk) hF fun own₂ g₂ fix₂ h₂ tk₂ f₂ S₂ A₂ hf₂ => P own₂ g₂ fix₂ h₂ tk₂ f₂ S₂ ((After.grow (S.gfix.trans S.sub) S.sub).trans A₂) hf₂
  · rename_i hT
    refine wpAny_If (ht env A _ (rdF σ) s false _ E hS hA S.viewF hT fun h₁ tk₁ kk => ?_)
    exact ho env A own _ _ σ _ fuel σ' fl Q E hS hA (S.grow kk) hF fun own₂ g₂ fix₂ h₂ tk₂ f₂ S₂ A₂ hf₂ => P own₂ g₂ fix₂ h₂ tk₂ f₂ S₂ ((After.grow (S.gfix.trans S.sub) S.sub).trans A₂) hf₂
  · cases hF

/-- while -/
noncomputable def whileL (T : Tr) (body : St → Option (St × Fl)) : Nat → St → Option (St × Fl)
  | 0, _ => none
  | n + 1, σ => match T (rdF σ) with
    | some true => (match body σ with
      | some (σ', .next) => whileL T body n σ'
      | some (σ', .cont) => whileL T body n σ'
      | some (σ', .ret d) => some (σ', .ret d)
      | none => none)
    | some false => some (σ, .next)
    | none => none
noncomputable def rWhile (T : Tr) (F : Run) : Run := fun fuel σ => whileL T (F fuel) fuel σ
theorem RunOK.whileS {test : Expr} {body : List Stmt} {pos : Pos} {T : Tr} {F : Run} (ht : TrOK I k sc ns test T) (hb : RunOK I k sc ns (execs body) F) : RunOK I k sc ns (exec (.While test body [] pos)) (rWhile T F) := by
  intro env A own g fix σ s fuel σ' fl Q E hS hA S hF P
  unfold rWhile at hF
  refine wpAny_While (codeAny_whileLoop (fun n s' => ∃ own₁ g₁ fix₁ σ₁ h₁ tk₁, s' = { s with heap := h₁, toks := tk₁ } ∧ SR I env ns own₁ g₁ fix₁ σ₁ h₁ ∧ After g fix g₁ fix₁ ∧ whileL T (F fuel) n σ₁ = some (σ', fl)) ?_ fuel
    ⟨own, g, fix, σ, s.heap, s.toks, rfl, S, After.refl _ _, hF⟩)
  rintro n s' ⟨own₁, g₁, fix₁, σ₁, h₁, tk₁, rfl, S₁, A₁, hW⟩
  cases n with
  | zero => cases hW
  | succ n =>
    unfold whileL at hW
    split at hW
    · rename_i hT
      refine ht env A _ (rdF σ₁) _ true _ _ hS hA S₁.viewF hT fun h₂ tk₂ kk => ?_
      have S₂ := S₁.grow kk
      have A₂ := A₁.trans (After.grow (S₁.gfix.trans S₁.sub) S₁.sub (h' := h₂))
      simp only [if_true]
      split at hW
      · rename_i σ₂ hB
        refine hb env A own₁ _ _ σ₁ _ fuel σ₂ .next _ _ hS hA S₂ hB fun own₃ g₃ fix₃ h₃ tk₃ f₃ S₃ A₃ hf₃ => ?_
        rw [show f₃ = .next from hf₃]
        exact ⟨n, Nat.lt_succ_self n, own₃, g₃, fix₃, σ₂, h₃, tk₃, rfl, S₃, A₂.trans A₃, hW⟩
      · rename_i σ₂ hB
        refine hb env A own₁ _ _ σ₁ _ fuel σ₂ .cont _ _ hS hA S₂ hB fun own₃ g₃ fix₃ h₃ tk₃ f₃ S₃ A₃ hf₃ => ?_
        rw [show f₃ = .cont from hf₃]
        exact ⟨n, Nat.lt_succ_self n, own₃, g₃, fix₃, σ₂, h₃, tk₃, rfl, S₃, A₂.trans A₃, hW⟩
      · rename_i σ₂ d hB
        cases hW
        refine hb env A own₁ _ _ σ₁ _ fuel _ (.ret d) _ _ hS hA S₂ hB fun own₃ g₃ fix₃ h₃ tk₃ f₃ S₃ A₃ hf₃ => ?_
        have q := P own₃ g₃ fix₃ h₃ tk₃ f₃ S₃ (A₂.trans A₃) hf₃
        obtain ⟨v, gR, rfl, _⟩ := hf₃
        exact q
      · cases hW
    · rename_i hT
      cases hW
      refine ht env A _ (rdF _) _ false _ _ hS hA S₁.viewF hT fun h₂ tk₂ kk => ?_
      simp only [Bool.false_eq_true, if_false]
      exact wpAny_execs_nil (P own₁ _ _ h₂ tk₂ _ (S₁.grow kk) (A₁.trans (After.grow (S₁.gfix.trans S₁.sub) S₁.sub)) rfl)
    · cases hW
end
end Mine
open PySem PySem.W PyProof.Rows PySem.Spec
set_option linter.unusedVariables false
set_option Elab.async false
set_option maxRecDepth 100000
namespace Mine
section
variable {I : GI} {k : Nat} {sc : Scope} {ns : List Str}

/-- x op= e, ints -/
noncomputable def IOpOK (I : GI) (k : Nat) (op : Operator) (f : D → D → Option D) : Prop :=
  ∀ (A : Around) (s : Shared) (g : G) (x y d : D) (u v : Value) (Q : Value → Shared → Prop) (E : Value → Shared → Prop),
    AOK k A → Is g x u → Is g y v → f x y = some d → (∀ v' tk, Is g d v' → Q v' { s with toks := tk }) → wpAny (model I.prog I.w) A (inplaceOp op u v) Q E s
noncomputable def fAddI : D → D → Option D
  | .int a, .int b => some (.int (a + b))
  | _, _ => none
theorem IOpOK.add : IOpOK I k .Add fAddI := by
  intro A s g x y d u v Q E hA hx hy hf P
  unfold fAddI at hf
  split at hf
  · obtain ⟨t, rfl⟩ := hx
    obtain ⟨t', rfl⟩ := hy
    cases hf
    exact PySem.P.iadd_int (P _ _ ⟨_, rfl⟩)
  · cases hf
theorem IOpOK.mul : IOpOK I k .Mult fMul := by
  intro A s g x y d u v Q E hA hx hy hf P
  unfold fMul at hf
  split at hf
  · obtain ⟨t, rfl⟩ := hx
    obtain ⟨t', rfl⟩ := hy
    split at hf
    · rename_i hm
      cases hf
      exact PySem.P.imul_int (P _ _ ⟨_, rfl⟩) (mulOk_ok hm)
    · cases hf
  · cases hf
theorem loadName_ok {env : Env} {A : Around} {s : Shared} {x : Str} {v : Value} {Q : Value → Shared → Prop} {E : Value → Shared → Prop} (hS : EnvS sc env) (hk : sc.kind = .function) (hv : Holds env s.heap x v) (q : Q v s) :
    wpAny (model I.prog I.w) A (loadName env x) Q E s := by
  rcases hv with ⟨hl, m, hn, hm⟩ | ⟨hl, c, hc, hv⟩
  · exact wpAny_loadName_local (hS.scope ▸ hk) hl hn hm q
  · exact wpAny_loadName_cell (hS.scope ▸ hk) hl hc hv q

noncomputable def rAug (i : Nat) (f : D → D → Option D) (F : Ev) : Run := fun _ σ => match σ[i]? with
  | some (.imm x) => (match evS F σ with
    | some y => (match f x y with
      | some z => some (σ.set i (.imm z), .next)
      | none => none)
    | none => none)
  | _ => none
theorem RunOK.aug {x : Str} {px pos : Pos} {op : Operator} {e : Expr} {i : Nat} {f : D → D → Option D} {F : Ev} (hc : ScS sc ns) (hx : ns[i]? = some x) (h : EvOK I k sc ns e F) (ho : IOpOK I k op f) :
    RunOK I k sc ns (exec (.AugAssign (.Name x px) op e pos)) (lenOk ns.length (rAug i f F)) := by
  intro env A own g fix σ s fuel σ' fl Q E hS hA S hF P
  unfold lenOk at hF
  split at hF
  · rename_i hlen
    unfold rAug at hF
    split at hF
    · rename_i xd hxd
      split at hF
      · rename_i y hy
        split at hF
        · rename_i z hz
          cases hF
          obtain ⟨vx, hi, hh⟩ := S.imm i x xd hx hxd
          refine wpAny_AugAssign_Name (loadName_ok hS hc.kind hh (evS_ok hS hA S h hy fun v h₁ tk₁ S₁ A₁ hv => ?_))
          refine ho A _ _ xd y z vx v _ E hA (Is.mono A₁.gg xd hi) hv hz fun v' tk₂ hv' => ?_
          exact store_imm (s := { s with heap := h₁, toks := tk₂ }) hc hS S₁ (Nat.le_of_eq hlen) hx hv' fun h₂ tk₂ S₂ => P own _ _ h₂ tk₂ _ S₂ A₁ rfl
        · cases hF
      · cases hF
    · cases hF
  · cases hF

end
end Mine
open PySem PySem.W PyProof.Rows PySem.Spec
set_option linter.unusedVariables false
set_option Elab.async false
set_option maxRecDepth 100000
namespace Mine
section
variable {I : GI} {k : Nat} {sc : Scope} {ns : List Str}

/-- for; the frame's length is a check that the reader makes -/
noncomputable def forL (n j : Nat) (body : St → Option (St × Fl)) : List D → St → Option (St × Fl)
  | [], σ => some (σ, .next)
  | d :: ds, σ => if σ.length = n then (match body (σ.set j (.imm d)) with
    | some (σ', .next) => forL n j body ds σ'
    | some (σ', .cont) => forL n j body ds σ'
    | some (σ', .ret r) => some (σ', .ret r)
    | none => none) else none

noncomputable def isStr : D → Bool
  | .str _ => true
  | _ => false

noncomputable def fixI (fix : G) (h : Heap) (i : Addr) : G := fun b => if b = i then h.get? b else fix b
noncomputable def dropI (fix : G) (i : Addr) : G := fun b => if b = i then none else fix b

theorem SR.iterstep {env : Env} {own : Nat → Addr} {g fix : G} {σ : St} {h h₁ : Heap} {i : Addr} (S : SR I env ns own g fix σ h) (hk : ∀ b o, b ≠ i → h.get? b = some o → h₁.get? b = some o) (hf : fix i = none)
    (hL : env.locals ≠ i) (hC : ∀ n c, env.cells.lookup n = some c → c ≠ i) (hO : ∀ (j : Nat) (x : Str) (l : List D), ns[j]? = some x → σ[j]? = some (.mt l) → own j ≠ i) : SR I env ns own g (fixI fix h₁ i) σ h₁ := by
  have sf : Sub fix (fixI fix h₁ i) := fun b o e => by
    unfold fixI
    split
    · rename_i q; rw [q, hf] at e; cases e
    · exact e
  have none_ : ∀ b, b ≠ i → fix b = none → fixI fix h₁ i b = none := fun b hb e => by unfold fixI; rw [if_neg hb]; exact e
  have holds : ∀ x v, Holds env h x v → Holds env h₁ x v := fun x v hv => by
    rcases hv with ⟨p, m, ⟨o, es, ep, e, r⟩, q⟩ | ⟨p, c, hc, o, e, q⟩
    · exact .inl ⟨p, m, ⟨o, es, ep, hk _ _ hL e, r⟩, q⟩
    · exact .inr ⟨p, c, hc, o, hk _ _ (hC _ _ hc) e, q⟩
  exact {
    gfix := S.gfix.trans sf
    sub := fun b o e => by
      unfold fixI at e
      split at e
      · exact e
      · rename_i q; exact hk b o q (S.sub b o e)
    base := let ⟨h₀, a, b⟩ := S.base; ⟨h₀, a, b.trans sf⟩
    frame := let ⟨m, o, es, ep, e, r⟩ := S.frame; ⟨m, o, es, ep, hk _ _ hL e, r⟩
    fixL := none_ _ hL S.fixL
    cells := fun n c hc => let ⟨⟨v, o, e, q⟩, a, b⟩ := S.cells n c hc; ⟨⟨v, o, hk _ _ (hC _ _ hc) e, q⟩, none_ _ (hC _ _ hc) a, b⟩
    apart := S.apart
    imm := fun j x d hx hd => let ⟨v, a, b⟩ := S.imm j x d hx hd; ⟨v, a, holds x v b⟩
    mtd := fun j x l hx hd => by
      obtain ⟨a, b⟩ := S.mtd j x l hx hd
      obtain ⟨vs, n, h1, h2⟩ := b.obj
      have ho := hO j x l hx hd
      exact ⟨holds x _ a, ⟨⟨vs, n, hk _ _ ho h1, h2⟩, none_ _ ho b.off, b.loc, b.cel⟩⟩
    inj := S.inj }

theorem SR.drop {env : Env} {own : Nat → Addr} {g fix fix₀ : G} {σ : St} {h : Heap} {i : Addr} (S : SR I env ns own g fix σ h) (hg : g i = none) (h0 : ∃ h₀, I.Gl h₀ ∧ Sub h₀.get? fix₀) (hf : Sub fix₀ fix) (hi : fix₀ i = none) :
    SR I env ns own g (dropI fix i) σ h := by
  have none_ : ∀ b, fix b = none → dropI fix i b = none := fun b e => by
    unfold dropI; split
    · rfl
    · exact e
  have sub0 : Sub fix₀ (dropI fix i) := fun b o e => by
    unfold dropI
    split
    · rename_i q; rw [q, hi] at e; cases e
    · exact hf b o e
  exact {
    gfix := fun b o e => by
      unfold dropI
      split
      · rename_i q; rw [q, hg] at e; cases e
      · exact S.gfix b o e
    sub := fun b o e => by
      unfold dropI at e
      split at e
      · cases e
      · exact S.sub b o e
    base := let ⟨h₀, a, b⟩ := h0; ⟨h₀, a, b.trans sub0⟩
    frame := S.frame
    fixL := none_ _ S.fixL
    cells := fun n c hc => let ⟨a, b, d⟩ := S.cells n c hc; ⟨a, none_ _ b, d⟩
    apart := S.apart
    imm := S.imm
    mtd := fun j x l hx hd => let ⟨a, b⟩ := S.mtd j x l hx hd; ⟨a, ⟨b.obj, none_ _ b.off, b.loc, b.cel⟩⟩
    inj := S.inj }

/-- the loop itself, from an iterable's value on -/
theorem for_core {env : Env} {A : Around} {own : Nat → Addr} {g fix : G} {σ : St} {s : Shared} {fuel : Nat} {σ' : St} {fl : Fl} {Q : Flow → Shared → Prop} {E : Value → Shared → Prop} {x : Str} {px : Pos} {j : Nat} {body : List Stmt} {F : Run} {d : D} {xv : Value} {ds : List D} {n : Nat}
    (hc : ScS sc ns) (hx : ns[j]? = some x) (hb : RunOK I k sc ns (execs body) F) (hn : n = ns.length) (hS : EnvS sc env) (hA : AOK k A) (S : SR I env ns own g fix σ s.heap) (hv : Is g d xv) (hi : itemsOf d = some ds) (hne : isStr d = false)
    (hF : forL n j (F fuel) ds σ = some (σ', fl))
    (P : ∀ own' g' fix' h' tk f, SR I env ns own' g' fix' σ' h' → After g fix g' fix' → FlOK g' fix' h' fl f → Q f { s with heap := h', toks := tk }) :
    wpAny (model I.prog I.w) A (pyIter xv) (fun it s₂ => codeAny (model I.prog I.w) A (.forLoop (.Name x px) it body [] env) (fun r s' => match r with | .ok f => Q f s' | .error e => cameBackBy (model I.prog I.w) A env E e s') s₂) E s := by
  refine iter_ok hA.1 (S.gfix.trans S.sub) hv hi fun o fp Pr St₁ W hP hst hfp hlive => ?_
  generalize hI : s.heap.objs.size = It at *
  have hlive := hlive (fun y q => by rw [q] at hne; cases hne)
  have hnone : s.heap.get? It = none := by rw [← hI]; exact fresh_none _
  have gIt : g It = none := (S.gfix.trans S.sub).none hnone
  have fIt : fix It = none := S.sub.none hnone
  have hL0 : env.locals ≠ It := fun q => by
    obtain ⟨m, o', es, ep, e, r⟩ := S.frame
    rw [q, hnone] at e; cases e
  have hC0 : ∀ n c, env.cells.lookup n = some c → c ≠ It := fun n c hc q => by
    obtain ⟨⟨v, o', e, r⟩, _⟩ := S.cells n c hc
    rw [q, hnone] at e; cases e
  have hO0 : ∀ (j : Nat) (x : Str) (l : List D), ns[j]? = some x → σ[j]? = some (.mt l) → own j ≠ It := fun j x l hx hd q => by
    obtain ⟨_, b⟩ := S.mtd j x l hx hd
    obtain ⟨vs, n, h1, _⟩ := b.obj
    rw [q, hnone] at h1; cases h1
  have S0 : SR I env ns own g fix σ (s.heap.push o) := S.keep (Grow.push _ _)
  obtain ⟨h₀, gl₀, sub₀⟩ := S.base
  refine codeAny_forLoop (fun m s' => ∃ own₁ g₁ fix₁ σ₁ h₁ tk₁ i rest, s' = { s with heap := h₁, toks := tk₁ } ∧ SR I env ns own₁ g₁ fix₁ σ₁ h₁ ∧ After g fix g₁ fix₁ ∧ St₁ i h₁ ∧ fix₁ It = none ∧
      (∀ (j : Nat) (x : Str) (l : List D), ns[j]? = some x → σ₁[j]? = some (.mt l) → own₁ j ≠ It) ∧ ds = ds.take i ++ rest ∧ i ≤ ds.length ∧ rest = ds.drop i ∧ m = rest.length ∧ forL n j (F fuel) rest σ₁ = some (σ', fl)) ?_ ds.length
    ⟨own, g, fix, σ, _, s.toks, 0, ds, rfl, S0, After.refl _ _, hst, fIt, hO0, by simp, Nat.zero_le _, by simp, rfl, hF⟩
  rintro m s' ⟨own₁, g₁, fix₁, σ₁, h₁, tk₁, i, rest, rfl, S₁, A₁, hst₁, hf₁, hO₁, hds, hile, hrest, rfl, hW⟩
  cases hr : rest with
  | nil =>
    have hie : i = ds.length := by
      have := congrArg List.length hrest
      rw [hr, List.length_drop, List.length_nil] at this
      omega
    refine W.done _ _ _ (hie ▸ hst₁) fun h₂ tk₂ hk₂ => ?_
    have S₂ : SR I env ns own₁ g₁ (fixI fix₁ h₂ It) σ₁ h₂ := S₁.iterstep (fun b o' hb e => hk₂ b o' (by simpa using hb) e) hf₁ hL0 hC0 hO₁
    rw [hr] at hW
    simp only [forL, Option.some.injEq, Prod.mk.injEq] at hW
    obtain ⟨rfl, rfl⟩ := hW
    have sf : Sub fix₁ (fixI fix₁ h₂ It) := fun b o' e => by
      unfold fixI
      split
      · rename_i q; rw [q, hf₁] at e; cases e
      · exact e
    exact wpAny_execs_nil (P own₁ g₁ _ h₂ tk₂ _ S₂ (A₁.trans ⟨Sub.refl _, sf, fun _ _ e => .inl e⟩) rfl)
  | cons d' rest' =>
    have hlt : i < ds.length := by
      have := congrArg List.length hrest
      rw [hr, List.length_drop, List.length_cons] at this
      omega
    have hd' : ds[i]? = some d' := by
      have : (ds.drop i)[0]? = some d' := by rw [← hrest, hr]; rfl
      rw [List.getElem?_drop] at this
      simpa using this
    have hrest' : rest' = ds.drop (i + 1) := by
      have : rest' = (ds.drop i).drop 1 := by rw [← hrest, hr]; rfl
      rw [this, List.drop_drop]
    refine W.item i _ _ _ hlt hst₁ fun v h₂ tk₂ hPv hst₂ hk₂ => ?_
    have S₂ : SR I env ns own₁ g₁ (fixI fix₁ h₂ It) σ₁ h₂ := S₁.iterstep (fun b o' hb e => hk₂ b o' (by simpa using hb) e) hf₁ hL0 hC0 hO₁
    obtain ⟨xd, hxd, hI2⟩ := hP i v hPv
    rw [hd'] at hxd; cases hxd
    have sf : Sub fix₁ (fixI fix₁ h₂ It) := fun b o' e => by
      unfold fixI
      split
      · rename_i q; rw [q, hf₁] at e; cases e
      · exact e
    have hliv : ∃ o', fixI fix₁ h₂ It It = some o' := by
      have := hlive (i + 1) h₂ hst₂
      obtain ⟨o', e⟩ := Option.isSome_iff_exists.mp this
      exact ⟨o', by unfold fixI; rw [if_pos rfl]; exact e⟩
    rw [hr] at hW
    unfold forL at hW
    by_cases hlen₁ : σ₁.length = n
    case neg => rw [if_neg hlen₁] at hW; cases hW
    rw [if_pos hlen₁] at hW
    refine wpAny_assign_Name (store_imm (s := { s with heap := h₂, toks := tk₂ }) hc hS S₂ (by omega) hx (Is.mono A₁.gg d' hI2) fun h₃ tk₃ S₃ => ?_)
    have body : ∀ σ₄ fl₄ (Q' : Flow → Shared → Prop) (E' : Value → Shared → Prop), F fuel (σ₁.set j (.imm d')) = some (σ₄, fl₄) →
        (∀ own₄ g₄ fix₄ h₄ tk₄ f, SR I env ns own₄ g₄ fix₄ σ₄ h₄ → After g₁ (fixI fix₁ h₂ It) g₄ fix₄ → FlOK g₄ fix₄ h₄ fl₄ f → Q' f { s with heap := h₄, toks := tk₄ }) →
        wpAny (model I.prog I.w) A (execs body env) Q' E' { s with heap := h₃, toks := tk₃ } := fun σ₄ fl₄ Q' E' hq hQ => hb env A own₁ g₁ _ _ _ fuel σ₄ fl₄ Q' E' hS hA S₃ hq hQ
    have again : ∀ {own₄ g₄ fix₄ σ₄ h₄}, SR I env ns own₄ g₄ fix₄ σ₄ h₄ → After g₁ (fixI fix₁ h₂ It) g₄ fix₄ →
        SR I env ns own₄ g₄ (dropI fix₄ It) σ₄ h₄ ∧ After g fix g₄ (dropI fix₄ It) ∧ St₁ (i + 1) h₄ ∧ dropI fix₄ It It = none ∧ (∀ (j : Nat) (x : Str) (l : List D), ns[j]? = some x → σ₄[j]? = some (.mt l) → own₄ j ≠ It) := fun {own₄ g₄ fix₄ σ₄ h₄} S₄ A₄ => by
      obtain ⟨o', ho'⟩ := hliv
      have g4 : g₄ It = none := by
        cases q : g₄ It with
        | none => rfl
        | some o2 =>
          rcases A₄.new It o2 q with p | p
          · have := S₂.gfix.trans S₂.sub It o2 p
            have q1 : g₁ It = none := by
              cases q2 : g₁ It with
              | none => rfl
              | some o3 =>
                rcases A₁.new It o3 q2 with p3 | p3
                · rw [gIt] at p3; cases p3
                · have := S₁.gfix It o3 q2; rw [hf₁] at this; cases this
            rw [q1] at p; cases p
          · rw [ho'] at p; cases p
      refine ⟨S₄.drop (fix₀ := fix₁) g4 S₁.base (sf.trans A₄.ff) hf₁, ⟨A₁.gg.trans A₄.gg, ?_, ?_⟩, ?_, by unfold dropI; rw [if_pos rfl], fun j x l hx hd q => ?_⟩
      · intro b o2 e
        unfold dropI
        split
        · rename_i q; rw [q, fIt] at e; cases e
        · exact A₄.ff b o2 (sf b o2 (A₁.ff b o2 e))
      · intro b o2 e
        rcases A₄.new b o2 e with p | p
        · exact A₁.new b o2 p
        · exact .inr (A₁.ff.none (sf.none p))
      · refine W.frame (i + 1) h₂ h₄ hst₂ fun b hb o2 e => ?_
        have e' : fixI fix₁ h₂ It b = some o2 := by
          unfold fixI
          split
          · exact e
          · rename_i hbI
            rcases hfp b hb with q | q
            · exact absurd q hbI
            · obtain ⟨o3, q⟩ := Option.isSome_iff_exists.mp q
              have := A₁.ff b o3 (S.gfix b o3 q)
              have q2 := S₂.sub b o3 (sf b o3 this)
              rw [e] at q2; cases q2
              exact this
        exact S₄.sub b o2 (A₄.ff b o2 e')
      · have := (S₄.mtd j x l hx hd).2.off
        rw [q] at this
        have := A₄.ff.none this
        rw [ho'] at this; cases this
    split at hW
    · rename_i σ₄ hq
      refine body σ₄ .next _ _ hq fun own₄ g₄ fix₄ h₄ tk₄ f S₄ A₄ hf => ?_
      rw [show f = .next from hf]
      obtain ⟨a1, a2, a3, a4, a5⟩ := again S₄ A₄
      exact ⟨rest'.length, by simp, own₄, g₄, _, σ₄, h₄, tk₄, i + 1, rest', rfl, a1, a2, a3, a4, a5, by rw [hrest', List.take_append_drop], hlt, hrest', rfl, hW⟩
    · rename_i σ₄ hq
      refine body σ₄ .cont _ _ hq fun own₄ g₄ fix₄ h₄ tk₄ f S₄ A₄ hf => ?_
      rw [show f = .cont from hf]
      obtain ⟨a1, a2, a3, a4, a5⟩ := again S₄ A₄
      exact ⟨rest'.length, by simp, own₄, g₄, _, σ₄, h₄, tk₄, i + 1, rest', rfl, a1, a2, a3, a4, a5, by rw [hrest', List.take_append_drop], hlt, hrest', rfl, hW⟩
    · rename_i σ₄ dr hq
      cases hW
      refine body _ (.ret dr) _ _ hq fun own₄ g₄ fix₄ h₄ tk₄ f S₄ A₄ hf => ?_
      obtain ⟨a1, a2, a3, a4, a5⟩ := again S₄ A₄
      have q := P own₄ g₄ _ h₄ tk₄ f S₄ (A₁.trans (After.trans ⟨Sub.refl _, sf, fun _ _ e => .inl e⟩ A₄)) hf
      obtain ⟨v', gR, rfl, _⟩ := hf
      exact q
    · cases hW

noncomputable def rFor (n j : Nat) (F : Ev) (B : Run) : Run := fun fuel σ => match F (rdH σ) with
  | some d => if isStr d = true then none else (match itemsOf d with
    | some ds => forL n j (B fuel) ds σ
    | none => none)
  | none => none
theorem RunOK.forS {x : Str} {px pos : Pos} {e : Expr} {j : Nat} {body : List Stmt} {F : Ev} {B : Run} (hc : ScS sc ns) (hx : ns[j]? = some x) (he : EvOK I k sc ns e F) (hb : RunOK I k sc ns (execs body) B) (hs : ∀ env x, foldedSetIterable e env x = pure x) :
    RunOK I k sc ns (exec (.For (.Name x px) e body [] pos)) (rFor ns.length j F B) := by
  intro env A own g fix σ s fuel σ' fl Q E hS hA S hF P
  unfold rFor at hF
  split at hF
  · rename_i d hd
    split at hF
    · cases hF
    · rename_i hns
      split at hF
      · rename_i ds hds
        refine wpAny_For (he env A g (rdH σ) s d _ E hS hA S.viewH hd fun v h₁ tk₁ kk hv => ?_) (hs env)
        have A₁ := After.grow (S.gfix.trans S.sub) S.sub (h' := h₁)
        exact for_core (s := { s with heap := h₁, toks := tk₁ }) hc hx hb rfl hS hA (S.grow kk) hv hds (by simpa using hns) hF fun own₂ g₂ fix₂ h₂ tk₂ f₂ S₂ A₂ hf₂ => P own₂ g₂ fix₂ h₂ tk₂ f₂ S₂ (A₁.trans A₂) hf₂
      · cases hF
  · cases hF

end
end Mine
open PySem PySem.W PyProof.Rows PySem.Spec
set_option linter.unusedVariables false
set_option Elab.async false
set_option maxRecDepth 100000
namespace Mine
section
variable {I : GI} {k : Nat} {sc : Scope} {ns : List Str}

/-- a new list that will be changed -/
theorem store_new {env : Env} {A : Around} {own : Nat → Addr} {g fix : G} {σ : St} {s : Shared} {x : Str} {i : Nat} {vs : Array Value} {l : List D} {Q : Unit → Shared → Prop} {E : Value → Shared → Prop} (hc : ScS sc ns) (hS : EnvS sc env)
    (S : SR I env ns own g fix σ s.heap) (hl : σ.length ≤ ns.length) (hx : ns[i]? = some x) (hd : IsL g l vs.toList)
    (P : ∀ own' h' tk, SR I env ns own' g fix (σ.set i (.mt l)) h' → Q () { s with heap := h', toks := tk }) :
    wpAny (model I.prog I.w) A (storeName env x (.ref s.heap.objs.size)) Q E { s with heap := s.heap.push (lobj vs 0) } := by
  have kk : Grow s.heap (s.heap.push (lobj vs 0)) := Grow.push _ _
  have S₁ := S.keep kk
  have hn := fresh_none s.heap
  have hlt : ∀ {b : Addr} {o : Obj}, s.heap.get? b = some o → b ≠ s.heap.objs.size := fun e q => by rw [q, hn] at e; cases e
  have hown : ∀ j l', σ[j]? = some (.mt l') → own j ≠ s.heap.objs.size := fun j l' hj => by
    have hlt' : j < ns.length := Nat.lt_of_lt_of_le (List.getElem?_eq_some_iff.mp hj).1 hl
    obtain ⟨vs', n', h1, _⟩ := (S.mtd j ns[j] l' (List.getElem?_eq_getElem hlt') hj).2.obj
    exact hlt h1
  refine S₁.store (s := { s with heap := s.heap.push (lobj vs 0) }) hc.nd hS hc.kind (sl := .mt l) (own' := fun j => if j = i then s.heap.objs.size else own j) hx (hc.names x (List.mem_of_getElem? hx)) (fun j hj => by simp only [if_neg hj]) (fun d e => by cases e) (fun l' e => ?_) (S₁.ownOff hl) fun h' tk S' _ => P _ h' tk S'
  cases e
  show _ = Value.ref (if i = i then _ else _) ∧ Owned _ _ _ _ (if i = i then _ else _) _ ∧ (∀ j l', _ → _ → own j ≠ (if i = i then _ else _))
  rw [if_pos rfl]
  refine ⟨rfl, ⟨⟨vs, 0, Heap.get?_push_size _ rfl, hd⟩, S.sub.none hn, fun q => ?_, fun n c hc q => ?_⟩, fun j l' _ hj => hown j l' hj⟩
  · obtain ⟨m, o, _, _, e, _⟩ := S.frame
    exact hlt e q.symm
  · obtain ⟨⟨v, o, e, _⟩, _⟩ := S.cells n c hc
    exact hlt e q.symm

/-- x = [..], a list that will be changed -/
noncomputable def evsS (Fs : Evs) (σ : St) : Option (List D) := Fs (rdH σ)
noncomputable def rNew (i : Nat) (Fs : Evs) : Run := fun _ σ => match evsS Fs σ with
  | some ds => if ds.length ≤ sizeLine then some (σ.set i (.mt ds), .next) else none
  | none => none
theorem RunOK.new {x : Str} {px pos lpos : Pos} {es : List Expr} {i : Nat} {Fs : Evs} (hc : ScS sc ns) (hx : ns[i]? = some x) (h : EvsOK I k sc ns es Fs) (hs : ∀ env, swapsWith (.List es lpos) (some (.Name x px)) pos.line env = pure false) :
    RunOK I k sc ns (exec (.Assign [.Name x px] (.List es lpos) pos)) (lenOk ns.length (rNew i Fs)) := by
  intro env A own g fix σ s fuel σ' fl Q E hS hA S hF P
  unfold lenOk at hF
  split at hF
  · rename_i hlen
    unfold rNew at hF
    split at hF
    · rename_i ds hds
      split at hF
      · rename_i hz
        cases hF
        refine wpAny_Assign_Name (wpAny_List (h env A g (rdH σ) s ds lpos _ E hS hA S.viewH hds fun vs h₁ tk₁ kk hvs => ⟨by rw [hvs.length]; exact hz, ?_⟩)) (hs env)
        exact store_new (s := { s with heap := h₁, toks := tk₁ }) (vs := vs.toArray) hc hS (S.grow kk) (Nat.le_of_eq hlen) hx (by simpa using hvs) fun own' h₂ tk₂ S₂ => P own' _ _ h₂ tk₂ _ S₂ (After.grow (S.gfix.trans S.sub) S.sub) rfl
      · cases hF
    · cases hF
  · cases hF

end
end Mine
open PySem PySem.W PyProof.Rows PySem.Spec
set_option linter.unusedVariables false
set_option Elab.async false
set_option maxRecDepth 100000
namespace Mine
section
variable {I : GI} {k : Nat} {sc : Scope} {ns : List Str}

theorem SR.mutate {env : Env} {own : Nat → Addr} {g fix : G} {σ : St} {h h' : Heap} {i : Nat} {x : Str} {l l' : List D} {vs' : Array Value} {n' : Nat} (S : SR I env ns own g fix σ h) (hl : σ.length ≤ ns.length) (hx : ns[i]? = some x) (hi : σ[i]? = some (.mt l))
    (hs : Heap.SameBut (own i) h h') (ho : h'.get? (own i) = some (lobj vs' n')) (hL : IsL g l' vs'.toList) : SR I env ns own g fix (σ.set i (.mt l')) h' := by
  obtain ⟨hh, hO⟩ := S.mtd i x l hx hi
  have keep : ∀ b o, b ≠ own i → h.get? b = some o → h'.get? b = some o := fun b o hb e => (hs.2 b hb).trans e
  have holds : ∀ z v, Holds env h z v → Holds env h' z v := fun z v hv => by
    rcases hv with ⟨p, m, ⟨o, es, ep, e, r⟩, q⟩ | ⟨p, c, hc, o, e, q⟩
    · exact .inl ⟨p, m, ⟨o, es, ep, keep _ _ (Ne.symm hO.loc) e, r⟩, q⟩
    · exact .inr ⟨p, c, hc, o, keep _ _ (Ne.symm (hO.cel z c hc)) e, q⟩
  have set_ne : ∀ (j : Nat) (s' : Slot), j ≠ i → (σ.set i (.mt l'))[j]? = some s' → σ[j]? = some s' := fun j s' hj e => by rwa [List.getElem?_set_ne (Ne.symm hj)] at e
  have set_eq : ∀ (s' : Slot), (σ.set i (.mt l'))[i]? = some s' → s' = .mt l' := fun s' e => by
    rw [List.getElem?_set] at e
    simp only [if_true] at e
    split at e
    · exact (Option.some.inj e).symm
    · cases e
  have back : ∀ (j : Nat) (l1 : List D), (σ.set i (.mt l'))[j]? = some (.mt l1) → ∃ l2, σ[j]? = some (.mt l2) := fun j l1 e => by
    by_cases hj : j = i
    · exact ⟨l, by rw [hj]; exact hi⟩
    · exact ⟨l1, set_ne j _ hj e⟩
  exact {
    gfix := S.gfix
    sub := fun b o e => keep b o (fun q => by rw [q, hO.off] at e; cases e) (S.sub b o e)
    base := S.base
    frame := let ⟨m, o, es, ep, e, r⟩ := S.frame; ⟨m, o, es, ep, keep _ _ (Ne.symm hO.loc) e, r⟩
    fixL := S.fixL
    cells := fun n c hc => let ⟨⟨v, o, e, q⟩, a, b⟩ := S.cells n c hc; ⟨⟨v, o, keep _ _ (Ne.symm (hO.cel n c hc)) e, q⟩, a, b⟩
    apart := S.apart
    imm := fun j z d hz hd => by
      by_cases hj : j = i
      · subst hj; have := set_eq _ hd; cases this
      · obtain ⟨v, a, b⟩ := S.imm j z d hz (set_ne j _ hj hd)
        exact ⟨v, a, holds z v b⟩
    mtd := fun j z l1 hz hd => by
      by_cases hj : j = i
      · subst hj
        rw [hx] at hz; cases hz
        have := set_eq _ hd; cases this
        exact ⟨holds _ _ hh, ⟨⟨vs', n', ho, hL⟩, hO.off, hO.loc, hO.cel⟩⟩
      · have hd' := set_ne j _ hj hd
        obtain ⟨a, b⟩ := S.mtd j z l1 hz hd'
        obtain ⟨vs, n, p1, p2⟩ := b.obj
        exact ⟨holds _ _ a, ⟨⟨vs, n, keep _ _ (fun q => hj (S.inj j i l1 l hd' hi q)) p1, p2⟩, b.off, b.loc, b.cel⟩⟩
    inj := fun j j' l1 l2 p p' e => by
      obtain ⟨m1, q1⟩ := back j l1 p
      obtain ⟨m2, q2⟩ := back j' l2 p'
      exact S.inj j j' m1 m2 q1 q2 e }

noncomputable def rApp (i : Nat) (F : Ev) : Run := fun _ σ => match σ[i]? with
  | some (.mt l) => if l.length ≤ sizeLine then (match evS F σ with
    | some d => some (σ.set i (.mt (l ++ [d])), .next)
    | none => none) else none
  | _ => none
theorem interactive_fun {env : Env} (hS : EnvS sc env) (hk : sc.kind = .function) : interactive env = false := by
  unfold interactive
  rw [hS.scope, hk]; rfl
theorem RunOK.app {x : Str} {px apos cpos pos : Pos} {i : Nat} {e : Expr} {F : Ev} {pl : Env → Sem Bool} (hc : ScS sc ns) (hx : ns[i]? = some x) (hd : (x == ("__debug__" : Str)) = false) (h : EvOK I k sc ns e F)
    (hst : ∀ env, starEach [e] env = (false, eval e env) :: starEach [] env)
    (he : ∀ env, eval (.Call (.Attribute (.Name x px) "append" apos) [e] [] cpos) env = (do
      let ov ← eval (.Name x px) env
      standAt apos.atName
      let (f, first) ← holding [ov] (getMethod ov "append" (pl env))
      callWith cpos f first (backTo cpos (starEach [e] env)) []))
    (hs : ∀ env, swapsWith (.Call (.Attribute (.Name x px) "append" apos) [e] [] cpos) none pos.line env = pure false) :
    RunOK I k sc ns (exec (.Expr (.Call (.Attribute (.Name x px) "append" apos) [e] [] cpos) pos)) (lenOk ns.length (rApp i F)) := by
  intro env A own g fix σ s fuel σ' fl Q E hS hA S hF P
  unfold lenOk at hF
  split at hF
  · rename_i hlen
    unfold rApp at hF
    split at hF
    · rename_i l hl
      split at hF
      · rename_i hz
        split at hF
        · rename_i d hdd
          cases hF
          obtain ⟨hh, hO⟩ := S.mtd i x l hx hl
          obtain ⟨vs, n, p1, p2⟩ := hO.obj
          refine wpAny_Expr ?_ (interactive_fun hS hc.kind) (hs env)
          refine MethodCall_ (pl := pl env) (wpAny_Name (loadName_ok hS hc.kind hh ?_) hd) (he env)
          refine Calls.getMethod_list_append p1 rfl rfl ?_
          refine callWith_method1 (args_cons (evS_ok hS hA S h hdd fun v h₁ tk₁ S₁ A₁ hv => args_nil ?_) (hst env)) (hst env) rfl
          obtain ⟨hh₁, hO₁⟩ := S₁.mtd i x l hx hl
          obtain ⟨vs₁, n₁, q1, q2⟩ := hO₁.obj
          have el := q2.length
          simp only [Array.length_toList] at el
          refine wpAny_list_append_plain (items := vs₁) ⟨n₁, q1⟩ (fun h₂ hp hsb => ?_) (by omega)
          obtain ⟨n₂, hp⟩ := hp
          have S₂ := S₁.mutate (Nat.le_of_eq hlen) hx hl hsb hp (l' := l ++ [d]) (by rw [Array.toList_push]; exact IsL.append q2 ⟨v, [], rfl, hv, rfl⟩)
          exact P own _ _ h₂ tk₁ _ S₂ A₁ rfl
        · cases hF
      · cases hF
    · cases hF
  · cases hF

/-- a def of the text: what its body means is what a call of it means -/
structure FnAt (I : GI) (x : Str) (params : Arguments) (body : List Stmt) (sc : Scope) : Prop where
  at_ : ∃ a, I.mg x = some (.ref a) ∧ ∀ h, I.Gl h → ∃ o pm code doc, h.get? a = some o ∧ o.data = .func (Calls.docDef x params body sc pm code doc) ∧ h.CodeRec code x

theorem bindL_off {kindOf : Str → Option NameKind} {z : Str} : ∀ {l : List (Str × Value)} {m : Str → Option Value}, (∀ p ∈ l, p.1 ≠ z) → bindL kindOf l m z = m z
  | [], _, _ => rfl
  | (n, v) :: r, m, h => by
    unfold bindL
    rw [bindL_off fun p hp => h p (.tail _ hp)]
    have hn : z ≠ n := Ne.symm (h (n, v) (.head _))
    split
    · exact if_neg hn
    · rfl
theorem bindC_off {kindOf : Str → Option NameKind} {z : Str} : ∀ {l : List (Str × Value)} {m : Str → Option Value}, (∀ p ∈ l, p.1 ≠ z) → bindC kindOf l m z = m z
  | [], _, _ => rfl
  | (n, v) :: r, m, h => by
    unfold bindC
    rw [bindC_off fun p hp => h p (.tail _ hp)]
    have hn : z ≠ n := Ne.symm (h (n, v) (.head _))
    split
    · rfl
    · exact if_neg hn
theorem bindL_get {kindOf : Str → Option NameKind} : ∀ {xs : List Str} {vs : List Value} {m : Str → Option Value} {i : Nat} {x : Str} {v : Value}, xs.Nodup → xs[i]? = some x → vs[i]? = some v → kindOf x = some .local → bindL kindOf (xs.zip vs) m x = some v
  | y :: xs, u :: vs, m, 0, x, v, nd, hx, hv, hk => by
    simp only [List.getElem?_cons_zero, Option.some.injEq] at hx hv
    subst hx hv
    rw [List.zip_cons_cons, bindL, if_pos hk, bindL_off]
    · simp
    · intro p hp q
      have := (List.of_mem_zip (a := p.1) (b := p.2) hp).1
      exact (List.nodup_cons.mp nd).1 (q ▸ this)
  | y :: xs, u :: vs, m, i + 1, x, v, nd, hx, hv, hk => by
    rw [List.zip_cons_cons, bindL]
    exact bindL_get (i := i) (List.nodup_cons.mp nd).2 (by simpa using hx) (by simpa using hv) hk
  | [], _, _, i, _, _, _, hx, _, _ => by simp at hx
  | _ :: _, [], _, i, _, _, _, _, hv, _ => by simp at hv
theorem bindC_get {kindOf : Str → Option NameKind} : ∀ {xs : List Str} {vs : List Value} {m : Str → Option Value} {i : Nat} {x : Str} {v : Value}, xs.Nodup → xs[i]? = some x → vs[i]? = some v → kindOf x ≠ some .local → bindC kindOf (xs.zip vs) m x = some v
  | y :: xs, u :: vs, m, 0, x, v, nd, hx, hv, hk => by
    simp only [List.getElem?_cons_zero, Option.some.injEq] at hx hv
    subst hx hv
    rw [List.zip_cons_cons, bindC, if_neg hk, bindC_off]
    · simp
    · intro p hp q
      have := (List.of_mem_zip (a := p.1) (b := p.2) hp).1
      exact (List.nodup_cons.mp nd).1 (q ▸ this)
  | y :: xs, u :: vs, m, i + 1, x, v, nd, hx, hv, hk => by
    rw [List.zip_cons_cons, bindC]
    exact bindC_get (i := i) (List.nodup_cons.mp nd).2 (by simpa using hx) (by simpa using hv) hk
  | [], _, _, i, _, _, _, hx, _, _ => by simp at hx
  | _ :: _, [], _, i, _, _, _, _, hv, _ => by simp at hv

/-- the slots at the start: the arguments, then names without a value -/
noncomputable def startSt (ds : List D) (n : Nat) : St := ds.map Slot.imm ++ List.replicate (n - ds.length) .unb
noncomputable def callF (n : Nat) (F : Run) (fuel : Nat) (ds : List D) : Option D := match F fuel (startSt ds n) with
  | some (_, .ret d) => some d
  | some (_, .next) => some .none
  | _ => none

theorem startSt_get {ds : List D} {n i : Nat} {sl : Slot} (h : (startSt ds n)[i]? = some sl) : sl = .unb ∨ ∃ d, ds[i]? = some d ∧ sl = .imm d := by
  unfold startSt at h
  by_cases hi : i < (ds.map Slot.imm).length
  · rw [List.getElem?_append_left hi, List.getElem?_map] at h
    cases q : ds[i]? with
    | none => rw [q] at h; cases h
    | some d => rw [q] at h; exact .inr ⟨d, rfl, (Option.some.inj h).symm⟩
  · rw [List.getElem?_append_right (by omega), List.getElem?_replicate] at h
    split at h
    · exact .inl (Option.some.inj h).symm
    · cases h

theorem cellsFrom_some' {x : Str} : ∀ (names : List (Str × NameKind)) (n : Nat) (acc : List (Str × Addr)), names.lookup x = some .cell → ((cellsFrom n names acc).lookup x).isSome = true := fun names n acc h =>
  cellsFrom_some names n acc (.inl h)

theorem FunOK.def {x : Str} {params : Arguments} {body : List Stmt} {m : Nat} {F : Run} {F' : List D → Option D} (hat : FnAt I x params body sc) (hc : ScS sc ns) (hm : m ≤ ns.length)
    (hbind : ∀ pm cd doc vs, vs.length = m → bindArgs (Calls.docDef x params body sc pm cd doc) ⟨vs, []⟩ = pure ((ns.take m).zip vs)) (hco : sc.isCoroutine = false) (hgen : sc.isGenerator = false)
    (hr : RunOK I k sc ns (execs body) F) (hF : ∀ ds d, F' ds = some d → ds.length = m ∧ ∃ fuel, callF ns.length F fuel ds = some d) : FunOK I (k + 1) x F' := by
  obtain ⟨a, hmg, hgl⟩ := hat.at_
  refine ⟨.ref a, .inl hmg, fun h hG => ?_, ?_⟩
  · obtain ⟨o, pm, code, doc, ho, hd, _⟩ := hgl h hG
    refine ⟨.frame, .inl rfl, (Looks.ld (part := none) ho).andThen ?_⟩
    rw [hd]; exact Looks.now
  · intro A g s ds vs d Q E hA sub gl hf hv P
    obtain ⟨hlen, fuel, hcall⟩ := hF ds d hf
    obtain ⟨o, pm, code, doc, ho, hd, hcd⟩ := hgl s.heap gl
    have hvl : vs.length = m := by rw [hv.length, hlen]
    refine wpAny_call (codeAny_call_cells (fd := Calls.docDef x params body sc pm code doc) (binds := (ns.take m).zip vs) (by have := hA.2.1; omega) ho hd (I.nolimit gl) hcd rfl (hbind pm code doc vs hvl) rfl ?_ ?_ hco hgen hc.kind)
    · intro y hy
      have hmem := List.mem_of_mem_take (List.of_mem_zip (a := y.1) (b := y.2) hy).1
      rcases hc.names y.1 hmem with h | h
      · exact .inl h
      · exact .inr ⟨h, cellsFrom_some' _ _ _ h⟩
    · intro s₁ X
      generalize he : callEnvC (Calls.docDef x params body sc pm code doc) s.heap.objs.size a = env at X
      have esc : env.scope = sc := by rw [← he]; rfl
      have eloc : env.locals = s.heap.objs.size := by rw [← he]; rfl
      have hS : EnvS sc env := ⟨esc, by rw [← he]; rfl, by rw [← he]; rfl, fun y hy => by rw [← he]; exact cellsFrom_some' _ _ _ hy⟩
      obtain ⟨h₁, tk₁, rfl⟩ := X.toInCall.same
      have hkeep : Grow s.heap h₁ := X.toInCall.keep
      have hnone := fresh_none s.heap
      have above : ∀ n c, env.cells.lookup n = some c → s.heap.get? c = none ∧ c ≠ env.locals := fun n c hc2 => by
        have := X.above n c (mem_of_lookup hc2)
        rw [eloc] at this ⊢
        refine ⟨?_, Nat.ne_of_gt this⟩
        cases q : s.heap.get? c with
        | none => rfl
        | some o' => exact absurd (Heap.lt_size q) (Nat.not_lt.mpr (Nat.le_of_lt this))
      have S : SR I env ns (fun _ => 0) g s.heap.get? (startSt ds ns.length) h₁ := {
        gfix := sub
        sub := hkeep
        base := ⟨s.heap, gl, Sub.refl _⟩
        frame := ⟨_, X.toInCall.ns⟩
        fixL := by rw [eloc]; exact hnone
        cells := fun n c hc2 => ⟨⟨_, X.cell n c hc2⟩, (above n c hc2).1, (above n c hc2).2⟩
        apart := fun n n' c h1 h2 => name_of_addr X.apart (mem_of_lookup h1) (mem_of_lookup h2)
        imm := fun i y d' hy hd' => by
          rcases startSt_get hd' with q | ⟨d2, q, e⟩
          · cases q
          · cases e
            obtain ⟨v, hv1, hv2⟩ := hv.get q
            refine ⟨v, hv2, ?_⟩
            have hi : i < m := by
              have := (List.getElem?_eq_some_iff.mp q).1
              omega
            have hy' : (ns.take m)[i]? = some y := by rw [List.getElem?_take_of_lt hi]; exact hy
            have nd' : (ns.take m).Nodup := List.Nodup.sublist (List.take_sublist m ns) hc.nd
            rcases hc.names y (List.mem_of_getElem? hy) with h | h
            · have hk : env.kindOf y = some .local := by unfold Env.kindOf; rw [esc]; exact h
              exact .inl ⟨hk, _, X.toInCall.ns, bindL_get nd' hy' hv1 hk⟩
            · have hk : env.kindOf y = some .cell := by unfold Env.kindOf; rw [esc]; exact h
              obtain ⟨c, hc2⟩ := Option.isSome_iff_exists.mp (hS.cells y h)
              have := X.cell y c hc2
              rw [bindC_get nd' hy' hv1 (by rw [hk]; exact fun q => by cases q)] at this
              exact .inr ⟨hk, c, hc2, this⟩
        mtd := fun i y l hy hd' => by
          rcases startSt_get hd' with q | ⟨d2, q, e⟩
          · cases q
          · cases e
        inj := fun i j l l' hd' _ _ => by
          rcases startSt_get hd' with q | ⟨d2, q, e⟩
          · cases q
          · cases e }
      have fin : ∀ {own' : Nat → Addr} {g' fix' : G} {σ' : St} {h' : Heap} {v : Value} {gR : G} {d : D}, SR I env ns own' g' fix' σ' h' → After g s.heap.get? g' fix' → Is gR d v → Sub gR h'.get? → (∀ b o, gR b = some o → g' b = some o ∨ fix' b = none) →
          Grow s.heap h' ∧ Is (ext g s.heap h') d v := fun {own' g' fix' σ' h' v gR d} S' A' hI hsub hnew => by
        refine ⟨fun b o e => S'.sub b o (A'.ff b o e), Is.mono (fun b o e => ?_) d hI⟩
        have old : s.heap.get? b = none → ext g s.heap h' b = some o := fun q => by rw [ext_new q]; exact hsub b o e
        rcases hnew b o e with p | p
        · rcases A'.new b o p with r | r
          · have q := sub b o r
            rw [ext_old q]; exact r
          · exact old r
        · exact old (A'.ff.none p)
      unfold callF at hcall
      have hA' : AOK k (A.deeper env) := hA.deeper
      split at hcall
      · rename_i σ' d' hrun
        cases hcall
        refine hr env _ _ g _ _ _ fuel σ' (.ret d) _ _ hS hA' S hrun fun own' g' fix' h' tk f S' A' hf => ?_
        obtain ⟨v, gR, rfl, hI, hsub, hnew⟩ := hf
        obtain ⟨p, q⟩ := fin S' A' hI hsub hnew
        exact P v h' tk p q
      · rename_i σ' hrun
        cases hcall
        refine hr env _ _ g _ _ _ fuel σ' .next _ _ hS hA' S hrun fun own' g' fix' h' tk f S' A' hf => ?_
        rw [show f = .next from hf]
        obtain ⟨p, q⟩ := fin (v := .none) (gR := g0) (d := .none) S' A' rfl (g0_sub _) (fun b o e => by cases e)
        exact P _ h' tk p q
      · cases hcall
end
end Mine
open PySem PySem.W PyProof.Rows PySem.Spec
set_option linter.unusedVariables false
set_option Elab.async false
set_option maxRecDepth 100000
namespace Mine

/-- the facts of a top, as the reader wants them -/
noncomputable def giOf (prog : Program) (w : World) (mg mb : Str → Option Value) (p : Program) (loose : List Str) (mean : ExcName → Option Value) (K : Frag) (hboot : ∀ x : Str, x ≠ "__name__" → mb x = bootBuiltins x) : GI where
  prog := prog
  w := w
  mg := mg
  mb := mb
  Gl := fun h => Top p loose mean mg mb h ∧ K.In h
  grow := fun ⟨a, b⟩ k => ⟨a.keeps k, b.keeps k⟩
  g := fun h => h.1.g
  b := fun h => h.1.b
  nolimit := fun h => h.1.nolimit
  boot := hboot

theorem fnAt_of {prog : Program} {w : World} {mg mb : Str → Option Value} {p : Program} {loose : List Str} {mean : ExcName → Option Value} {K : Frag} {hboot : ∀ x : Str, x ≠ "__name__" → mb x = bootBuiltins x} {h₀ : Heap} (T : Top p loose mean mg mb h₀) {d : DefRec} {i : Nat} (hd : (recsOf p)[i]? = some d) :
    FnAt (giOf prog w mg mb p loose mean K hboot) d.name d.params d.body d.scope := by
  have hm : d ∈ recsOf p := List.mem_of_getElem? hd
  obtain ⟨a, _, _, _, _, ha, _⟩ := T.fn d hm
  refine ⟨a, ha, fun h hg => ?_⟩
  obtain ⟨a', o, pm, code, doc, ha', ho, hdt, hc⟩ := hg.1.fn d hm
  have e : a = a' := by
    have : some (Value.ref a) = some (Value.ref a') := ha.symm.trans ha'
    cases this; rfl
  subst e
  exact ⟨o, pm, code, doc, ho, hdt, hc⟩

theorem free_of {mg mb : Str → Option Value} {p : Program} {loose : List Str} {mean : ExcName → Option Value} {K : Frag} {h₀ : Heap} (T : Top p loose mean mg mb h₀) (X : K.In h₀) {x : Str} (e : nsIn K mainGlobals x = some none) : mg x = none := mg_none_of X T.g e

noncomputable def intsD (ns : List Int) : List D := ns.map .int
theorem isL_ints {g : G} : ∀ {vs : List Value} {ns : List Int}, IntsAre vs ns → IsL g (intsD ns) vs
  | _, _, .nil => rfl
  | _, _, .cons n t r => ⟨_, _, rfl, ⟨t, rfl⟩, isL_ints r⟩

end Mine

namespace Mine
noncomputable def idx : List Str → Str → Option Nat
  | [], _ => none
  | y :: r, x => match y == x with
    | true => some 0
    | false => match idx r x with
      | some i => some (i + 1)
      | none => none
theorem idx_get : ∀ {ns : List Str} {x : Str} {i : Nat}, idx ns x = some i → ns[i]? = some x
  | y :: r, x, i, h => by
    unfold idx at h
    split at h
    · rename_i e
      cases h
      rw [beq_iff_eq.mp e]; rfl
    · split at h
      · rename_i j hj
        cases h
        simpa using idx_get hj
      · cases h
section
variable {I : GI} {k : Nat} {sc : Scope} {ns : List Str}
theorem vis_of {sc : Scope} {x : Str} (h : (sc.names.lookup x == some .local || sc.names.lookup x == some .cell) = true) : sc.names.lookup x = some .local ∨ sc.names.lookup x = some .cell := by
  simpa using h
theorem EvOK.v {x : Str} {pos : Pos} {i : Nat} (hx : idx ns x = some i) (hk : sc.kind = .function) (hd : (x == ("__debug__" : Str)) = false) (hn : (sc.names.lookup x == some .local || sc.names.lookup x == some .cell) = true) : EvOK I k sc ns (.Name x pos) (eVar i) :=
  EvOK.var hk (idx_get hx) hd (vis_of hn)
theorem RunOK.asg' {x : Str} {px pos : Pos} {e : Expr} {i : Nat} {F : Ev} (hx : idx ns x = some i) (hs : ∀ env, swapsWith e (some (.Name x px)) pos.line env = pure false) (hc : ScS sc ns) (h : EvOK I k sc ns e F) :
    RunOK I k sc ns (exec (.Assign [.Name x px] e pos)) (lenOk ns.length (rAsg i F)) := RunOK.asg hc (idx_get hx) h hs
theorem RunOK.aug' {x : Str} {px pos : Pos} {op : Operator} {e : Expr} {i : Nat} {f : D → D → Option D} {F : Ev} (hx : idx ns x = some i) (hc : ScS sc ns) (h : EvOK I k sc ns e F) (ho : IOpOK I k op f) :
    RunOK I k sc ns (exec (.AugAssign (.Name x px) op e pos)) (lenOk ns.length (rAug i f F)) := RunOK.aug hc (idx_get hx) h ho
theorem RunOK.for' {x : Str} {px pos : Pos} {e : Expr} {j : Nat} {body : List Stmt} {F : Ev} {B : Run} (hx : idx ns x = some j) (hs : ∀ env x, foldedSetIterable e env x = pure x) (hc : ScS sc ns) (he : EvOK I k sc ns e F) (hb : RunOK I k sc ns (execs body) B) :
    RunOK I k sc ns (exec (.For (.Name x px) e body [] pos)) (rFor ns.length j F B) := RunOK.forS hc (idx_get hx) he hb hs
theorem RunOK.new' {x : Str} {px pos lpos : Pos} {es : List Expr} {i : Nat} {Fs : Evs} (hx : idx ns x = some i) (hs : ∀ env, swapsWith (.List es lpos) (some (.Name x px)) pos.line env = pure false) (hc : ScS sc ns) (h : EvsOK I k sc ns es Fs) :
    RunOK I k sc ns (exec (.Assign [.Name x px] (.List es lpos) pos)) (lenOk ns.length (rNew i Fs)) := RunOK.new hc (idx_get hx) h hs
theorem RunOK.app' {x : Str} {px apos cpos pos : Pos} {i : Nat} {e : Expr} {F : Ev} {pl : Env → Sem Bool} (hx : idx ns x = some i) (hd : (x == ("__debug__" : Str)) = false)
    (hst : ∀ env, starEach [e] env = (false, eval e env) :: starEach [] env)
    (he : ∀ env, eval (.Call (.Attribute (.Name x px) "append" apos) [e] [] cpos) env = (do
      let ov ← eval (.Name x px) env
      standAt apos.atName
      let (f, first) ← holding [ov] (getMethod ov "append" (pl env))
      callWith cpos f first (backTo cpos (starEach [e] env)) []))
    (hs : ∀ env, swapsWith (.Call (.Attribute (.Name x px) "append" apos) [e] [] cpos) none pos.line env = pure false) (hc : ScS sc ns) (h : EvOK I k sc ns e F) :
    RunOK I k sc ns (exec (.Expr (.Call (.Attribute (.Name x px) "append" apos) [e] [] cpos) pos)) (lenOk ns.length (rApp i F)) := RunOK.app hc (idx_get hx) hd h hst he hs
theorem EvOK.call' {x : Str} {px pos : Pos} {args : List Expr} {F : List D → Option D} {Fs : Evs} (hx : sc.names.lookup x = some .globalImplicit) (hk : sc.kind = .function) (hd : (x == ("__debug__" : Str)) = false) (hp : ∀ env, (backTo pos (starEach args env)).any (·.1) = false) (hne : args.isEmpty = false)
    (hs : ∀ env, ∃ t rest, backTo pos (starEach args env) = (false, t) :: rest) (hf : FunOK I k x F) (ha : EvsOK I k sc ns args Fs) :
    EvOK I k sc ns (.Call (.Name x px) args [] pos) (eCall F Fs) := EvOK.call hf ha hk hx hd hp hne hs
end
end Mine
open PySem PySem.W PyProof.Rows PySem.Spec
set_option linter.unusedVariables false
set_option Elab.async false
set_option maxRecDepth 100000
namespace Mine
noncomputable def fnF (m n : Nat) (F : Run) (N : Nat) : List D → Option D := fun ds => if ds.length = m then callF n F N ds else none

noncomputable def HatI (I : GI) (p : Program) : Prop := ∀ (i : Nat) (d : DefRec), (recsOf p)[i]? = some d → FnAt I d.name d.params d.body d.scope

theorem FunOK.of {I : GI} {p : Program} {k m i : Nat} (N : Nat) {d : DefRec} {ns : List Str} {F : Run} (hat : HatI I p) (hd : (recsOf p)[i]? = some d) (hc : ScS d.scope ns) (hm : m ≤ ns.length)
    (hbind : ∀ pm cd doc vs, vs.length = m → bindArgs (Calls.docDef d.name d.params d.body d.scope pm cd doc) ⟨vs, []⟩ = pure ((ns.take m).zip vs)) (hco : d.scope.isCoroutine = false) (hgen : d.scope.isGenerator = false)
    (hr : RunOK I k d.scope ns (execs d.body) F) : FunOK I (k + 1) d.name (fnF m ns.length F N) :=
  FunOK.def (hat i d hd) hc hm hbind hco hgen hr fun ds r h => by
    unfold fnF at h
    split at h
    · rename_i hl; exact ⟨hl, N, h⟩
    · cases h

/-- at most n binary digits -/
noncomputable def Bd (n : Nat) (a : Int) : Prop := a.natAbs < 2 ^ n
theorem Bd.mono {m n : Nat} {a : Int} (h : Bd m a) (l : m ≤ n) : Bd n a := Nat.lt_of_lt_of_le h (Nat.pow_le_pow_right (by decide) l)
theorem Bd.mul {m n : Nat} {a b : Int} (h : Bd m a) (h' : Bd n b) : Bd (m + n) (a * b) := by
  unfold Bd at *
  rw [Int.natAbs_mul, Nat.pow_add]
  exact Nat.mul_lt_mul_of_lt_of_lt h h'
theorem Bd.one {n : Nat} : Bd (n + 1) 1 := by
  unfold Bd
  have : 1 < 2 ^ (n + 1) := Nat.one_lt_two_pow (by omega)
  exact this
theorem Bd.pow {n : Nat} {a : Int} (h : Bd n a) : ∀ k : Nat, Bd (n * k + 1) (a ^ k)
  | 0 => by rw [Int.pow_zero]; exact Bd.one
  | k + 1 => by
    rw [Int.pow_succ]
    have := (Bd.pow h k).mul h
    exact this.mono (by rw [Nat.mul_succ]; omega)
theorem intBits_le {n : Nat} {a : Int} (h : Bd n a) : Builtin.Int.intBits a ≤ n := by
  unfold Builtin.Int.intBits
  unfold Bd at h
  split
  · omega
  · rename_i q
    have q' : a.natAbs ≠ 0 := by
      intro e
      exact q (by rw [Int.natAbs_eq_zero.mp e]; rfl)
    have := (Nat.log2_lt q').mpr h
    omega
theorem mulOk_bd {m n : Nat} {a b : Int} (h : Bd m a) (h' : Bd n b) (l : m + n ≤ 100000000) : mulOk a b = true := by
  have h1 := intBits_le h
  have h2 := intBits_le h'
  have : Builtin.Int.intTooBig (Builtin.Int.intBits a + Builtin.Int.intBits b) = false := by
    unfold Builtin.Int.intTooBig
    rw [decide_eq_false_iff_not]
    have : (bitsLine : Int) ≥ 134217728 := by decide
    omega
  unfold mulOk
  rw [this, Bool.and_false]; rfl
theorem divOk_bd {n : Nat} {a b : Int} (h0 : b ≠ 0) (h : Bd n b) (l : n ≤ 9000) : divOk a b = true := by
  unfold divOk
  have : b.natAbs.log2 < 9000 := by
    have := (Nat.log2_lt (by omega : b.natAbs ≠ 0)).mpr h
    omega
  simp [h0, this]
theorem powOk_bd {n k : Nat} {a : Int} (h : Bd n a) (l : n * k ≤ 100000000) : powOk a k = true := by
  have h1 := intBits_le h
  unfold powOk
  have : (Builtin.Int.intBits a : Int) * (k : Int) ≤ 2 ^ 27 := by
    have := Nat.mul_le_mul_right k h1
    have e : (Builtin.Int.intBits a : Int) * (k : Int) = ((Builtin.Int.intBits a * k : Nat) : Int) := by simp
    rw [e]
    have : (2:Int)^27 = 134217728 := by decide
    omega
  rw [Bool.and_eq_true, decide_eq_true_eq, decide_eq_true_eq]
  exact ⟨by omega, this⟩
/-- a run of ints, multiplied up -/
noncomputable def prodI (l : List Int) : Int := l.foldl (· * ·) 1
theorem foldl_mul (l : List Int) : ∀ z : Int, l.foldl (· * ·) z = z * prodI l := by
  induction l with
  | nil => intro z; simp [prodI]
  | cons x r ih => intro z; rw [List.foldl_cons, ih, show prodI (x :: r) = r.foldl (· * ·) (1 * x) from rfl, ih (1 * x), Int.one_mul, Int.mul_assoc]
theorem prodI_nil : prodI [] = 1 := rfl
theorem prodI_cons (x : Int) (r : List Int) : prodI (x :: r) = x * prodI r := by rw [show prodI (x :: r) = r.foldl (· * ·) (1 * x) from rfl, foldl_mul, Int.one_mul]
theorem intsD_cons (x : Int) (l : List Int) : intsD (x :: l) = .int x :: intsD l := rfl
theorem intsD_length (l : List Int) : (intsD l).length = l.length := by simp [intsD]
theorem sizeLine_ge : 10000 ≤ sizeLine := by rw [sizeLine_eq]; decide
theorem items_lst {l : List D} (h : l.length ≤ 10000) : itemsOf (.lst l) = some l := by
  show (if l.length ≤ sizeLine then some l else none) = some l
  rw [if_pos (Nat.le_trans h sizeLine_ge)]
noncomputable def upI (a : Int) (n : Nat) : List Int := (List.range n).map fun (i : Nat) => a + (i : Int)
noncomputable def stepI (a c : Int) (n : Nat) : List Int := (List.range n).map fun (i : Nat) => a + (i : Int) * c
theorem upI_succ (a : Int) (n : Nat) : upI a (n + 1) = a :: upI (a + 1) n := by
  unfold upI
  rw [List.range_succ_eq_map, List.map_cons, List.map_map]
  refine congr (congrArg _ (by simp)) (List.map_congr_left fun i _ => ?_)
  simp only [Function.comp]; omega
theorem upI_length (a : Int) (n : Nat) : (upI a n).length = n := by simp [upI]
theorem mem_upI {a x : Int} {n : Nat} : x ∈ upI a n ↔ a ≤ x ∧ x < a + n := by
  unfold upI
  rw [List.mem_map]
  constructor
  · rintro ⟨i, hi, rfl⟩
    rw [List.mem_range] at hi; omega
  · rintro ⟨h1, h2⟩
    exact ⟨(x - a).toNat, by rw [List.mem_range]; omega, by omega⟩
theorem rngL_step (a c : Int) (n : Nat) : rngL a c n = intsD (stepI a c n) := by
  unfold rngL intsD stepI
  rw [List.map_map]; rfl
theorem stepI_one (a : Int) (n : Nat) : stepI a 1 n = upI a n := by
  unfold stepI upI
  exact List.map_congr_left fun i _ => by omega
theorem fitsL {a : Int} (h : -(10:Int)^15 ≤ a) (h' : a ≤ 10^15) : Builtin.Range.rangeFitsLong a = true := by
  unfold Builtin.Range.rangeFitsLong
  have : (10:Int)^15 = 1000000000000000 := by decide
  have : (2:Int)^63 = 9223372036854775808 := by decide
  simp only [Bool.and_eq_true, decide_eq_true_eq]
  omega
theorem items_step {a b c : Int} {n : Nat} (hc : 0 < c) (ha : -(10:Int)^6 ≤ a) (ha' : a ≤ 10^6) (hb : -(10:Int)^6 ≤ b) (hb' : b ≤ 10^6) (hc' : c ≤ 10^6) (hn : n ≤ 10000) (hs : Builtin.Range.rangeSize a b c = n) : itemsOf (.rng a b c) = some (intsD (stepI a c n)) := by
  have h6 : (10:Int)^6 = 1000000 := by decide
  have h15 : (10:Int)^15 = 1000000000000000 := by decide
  have hsm : Builtin.Range.small a b c = true := by
    unfold Builtin.Range.small
    rw [hs, fitsL (by omega) (by omega), fitsL (by omega) (by omega), fitsL (by omega) (by omega), fitsL (by omega) (by omega), if_pos hc, fitsL (by omega) (by omega)]
    simp
  show (if Builtin.Range.small a b c = true ∧ 0 ≤ Builtin.Range.rangeSize a b c ∧ (Builtin.Range.rangeSize a b c).toNat ≤ sizeLine then some (rngL a c (Builtin.Range.rangeSize a b c).toNat) else none) = _
  have := sizeLine_ge
  rw [hs, if_pos ⟨hsm, by omega, by omega⟩, rngL_step]
  simp
theorem items_rng {a b : Int} (ha : -(10:Int)^6 ≤ a) (ha' : a ≤ 10^6) (hb : -(10:Int)^6 ≤ b) (hb' : b ≤ 10^6) (hn : (b - a).toNat ≤ 10000) : itemsOf (.rng a b 1) = some (intsD (upI a (b - a).toNat)) := by
  rw [← stepI_one]
  refine items_step (by decide) ha ha' hb hb' (by decide) hn ?_
  unfold Builtin.Range.rangeSize
  rw [if_pos (by decide)]
  split <;> omega

theorem fLen_ints {l : List Int} (h : l.length ≤ 10000) : fLen [.lst (intsD l)] = some (.int (l.length : Int)) := by
  show (if (intsD l).length ≤ sizeLine then some (D.int ((intsD l).length : Int)) else none) = _
  have := sizeLine_ge
  rw [intsD_length, if_pos (by omega)]
theorem fSubs_ints {l : List Int} {n : Nat} {x : Int} (h : l[n]? = some x) (hn : n ≤ 10000) : fSubs (.lst (intsD l)) (.int (n : Int)) = some (.int x) := by
  have : (2:Int)^63 = 9223372036854775808 := by decide
  have c : 0 ≤ (n : Int) ∧ (n : Int) < 2 ^ 63 := ⟨by omega, by omega⟩
  unfold fSubs
  simp only [c, and_self, if_true, Int.toNat_natCast, intsD, List.getElem?_map, h]; rfl
theorem Bd.ofNat {n : Nat} {a : Int} (h0 : 0 ≤ a) (h : a < 2 ^ n) : Bd n a := by
  unfold Bd
  have : ((a.natAbs : Nat) : Int) < ((2 ^ n : Nat) : Int) := by rw [Int.natAbs_of_nonneg h0]; simpa using h
  exact Int.ofNat_lt.mp this
noncomputable def asInt : Option D → Option Int
  | some (.int i) => some i
  | _ => none
theorem asInt_eq {o : Option D} {i : Int} (h : asInt o = some i) : o = some (.int i) := by
  unfold asInt at h
  split at h
  · cases h; rfl
  · cases h
noncomputable def asIntL : List D → Option (List Int)
  | [] => some []
  | .int i :: r => match asIntL r with
    | some l => some (i :: l)
    | none => none
  | _ => none
theorem asIntL_eq : ∀ {l : List D} {r : List Int}, asIntL l = some r → l = intsD r
  | [], r, h => by cases h; rfl
  | d :: l, r, h => by
    unfold asIntL at h
    split at h
    · rename_i e; cases e
    · rename_i i r' e
      cases e
      split at h
      · rename_i q hq
        cases h
        rw [asIntL_eq hq]; rfl
      · cases h
    · cases h
theorem mulOk_sm {a b : Int} (h1 : -(2:Int)^60 < a) (h2 : a < 2^60) : mulOk a b = true := by
  have h : Bd 60 a := by
    unfold Bd
    have : (2:Int)^60 = 1152921504606846976 := by decide
    have : (2:Nat)^60 = 1152921504606846976 := by decide
    omega
  have h1 := intBits_le h
  have : decide (Builtin.Int.intBits a > shortFactorBits) = false := by
    rw [decide_eq_false_iff_not]
    have : shortFactorBits = 64 := rfl
    omega
  unfold mulOk
  rw [this]; rfl
end Mine
open PySem PySem.W PyProof.Rows PySem.Spec
set_option linter.unusedVariables false
set_option Elab.async false
set_option maxRecDepth 100000
namespace Mine
/-! what a run gives, backwards from what is wanted -/
noncomputable def RW (F : Run) (N : Nat) (σ : St) (P : St → Fl → Prop) : Prop := ∃ σ' fl, F N σ = some (σ', fl) ∧ P σ' fl
noncomputable def EW (F : Ev) (r : R) (Q : D → Prop) : Prop := ∃ d, F r = some d ∧ Q d
noncomputable def EsW (F : Evs) (r : R) (Q : List D → Prop) : Prop := ∃ d, F r = some d ∧ Q d
noncomputable def TW (T : Tr) (r : R) (Q : Bool → Prop) : Prop := ∃ b, T r = some b ∧ Q b
noncomputable def CW (f : List D → Option D) (ds : List D) (Q : D → Prop) : Prop := ∃ d, f ds = some d ∧ Q d
noncomputable def OW (f : D → D → Option D) (x y : D) (Q : D → Prop) : Prop := ∃ d, f x y = some d ∧ Q d
noncomputable def UW (f : D → Option D) (x : D) (Q : D → Prop) : Prop := ∃ d, f x = some d ∧ Q d
noncomputable def SW (F : Ev) (σ : St) (Q : D → Prop) : Prop := ∃ d, evS F σ = some d ∧ Q d
noncomputable def SK (Fs : Run) (N : Nat) (P : St → Fl → Prop) (σ : St) : Fl → Prop
  | .next => RW Fs N σ P
  | fl => P σ fl
noncomputable def CK (Q : D → Prop) (σ : St) : Fl → Prop
  | .next => Q .none
  | .ret d => Q d
  | .cont => False
noncomputable def IfK (b : Bool) (p q : Prop) : Prop := match b with
  | true => p
  | false => q
noncomputable def NotK (b : Bool) (Q : Bool → Prop) : Prop := Q (!b)
noncomputable def TruthK (x : D) (K : Bool → Prop) : Prop := ∃ b, fTruth x = some b ∧ K b
noncomputable def PutAt (σ : St) (i : Nat) (s : Slot) (K : St → Prop) : Prop := i < σ.length ∧ K (σ.set i s)
noncomputable def TpK (ds : List D) (Q : D → Prop) : Prop := ds.length ≤ sizeLine ∧ Q (.tup ds)
noncomputable def LsK (ds : List D) (Q : D → Prop) : Prop := ds.length ≤ sizeLine ∧ Q (.lst ds)
noncomputable def LW (n j : Nat) (B : Run) (N : Nat) (ds : List D) (σ : St) (P : St → Fl → Prop) : Prop := ∃ σ' fl, forL n j (B N) ds σ = some (σ', fl) ∧ P σ' fl
noncomputable def ForK (d : D) (n j : Nat) (B : Run) (N : Nat) (σ : St) (P : St → Fl → Prop) : Prop := ∃ ds, isStr d = false ∧ itemsOf d = some ds ∧ LW n j B N ds σ P
noncomputable def WW (T : Tr) (B : Run) (N fuel : Nat) (σ : St) (P : St → Fl → Prop) : Prop := ∃ σ' fl, whileL T (B N) fuel σ = some (σ', fl) ∧ P σ' fl
noncomputable def CompK (elt : Ev) (tst : Tr) (r : R) (d : D) (Q : D → Prop) : Prop := ∃ ds out, itemsOf d = some ds ∧ compL elt tst r ds = some out ∧ Q (.lst out)
noncomputable def LK (P : St → Fl → Prop) (K : St → Prop) (σ : St) : Fl → Prop
  | .ret d => P σ (.ret d)
  | _ => K σ
noncomputable def StartsAt (ds : List D) (n : Nat) (σ : St) : Prop := startSt ds n = σ

section
variable {F Fs F' B : Run} {N n i j m : Nat} {σ σ' : St} {P : St → Fl → Prop} {E G H : Ev} {r : R} {Q : D → Prop} {T T' : Tr} {es : Evs} {d x y : D} {ds : List D} {K : St → Prop}
theorem StartsAt.nil : StartsAt [] 0 [] := rfl
theorem StartsAt.unb (h : StartsAt [] n σ) : StartsAt [] (n + 1) (.unb :: σ) := by
  unfold StartsAt at *; rw [← h]; rfl
theorem StartsAt.cons (h : StartsAt ds n σ) : StartsAt (d :: ds) (n + 1) (.imm d :: σ) := by
  unfold StartsAt at *; rw [← h]
  simp [startSt]
theorem CW.fn (hs : StartsAt ds n σ) (hl : ds.length = m) (h : RW F N σ (CK Q)) : CW (fnF m n F N) ds Q := by
  obtain ⟨σ', fl, e, p⟩ := h
  rw [← show startSt ds n = σ from hs] at e
  unfold CW fnF callF
  rw [if_pos hl, e]
  cases fl with
  | next => exact ⟨_, rfl, p⟩
  | ret d => exact ⟨_, rfl, p⟩
  | cont => exact p.elim
theorem CK.ret (h : Q d) : CK Q σ (.ret d) := h
theorem CW.of {f : List D → Option D} (h : f ds = some d) (k : Q d) : CW f ds Q := ⟨d, h, k⟩
theorem CW.eq {f : List D → Option D} (h : CW f ds (fun z => z = d)) : f ds = some d := by
  obtain ⟨z, e, q⟩ := h; rw [e, q]
theorem OW.of {f : D → D → Option D} (h : f x y = some d) (k : Q d) : OW f x y Q := ⟨d, h, k⟩
theorem RW.nil (h : P σ .next) : RW rNil N σ P := ⟨_, _, rfl, h⟩
theorem RW.seq (h : RW F N σ (SK Fs N P)) : RW (rSeq F Fs) N σ P := by
  obtain ⟨σ', fl, e, p⟩ := h
  unfold RW rSeq
  rw [e]
  cases fl with
  | next => exact p
  | ret d => exact ⟨_, _, rfl, p⟩
  | cont => exact ⟨_, _, rfl, p⟩
theorem SK.next (h : RW Fs N σ P) : SK Fs N P σ .next := h
theorem SK.ret (h : P σ (.ret d)) : SK Fs N P σ (.ret d) := h
theorem LK.next (h : K σ) : LK P K σ .next := h
theorem RW.lenOk (hl : σ.length = n) (h : RW F N σ P) : RW (lenOk n F) N σ P := by
  obtain ⟨σ', fl, e, p⟩ := h
  exact ⟨σ', fl, by unfold Mine.lenOk; rw [if_pos hl]; exact e, p⟩
theorem SW.of (h : EW E (rdH σ) Q) : SW E σ Q := by
  obtain ⟨d, e, q⟩ := h
  exact ⟨d, by unfold evS; rw [e], q⟩
noncomputable def SetR (σ : St) (i : Nat) (s : Slot) (σ' : St) : Prop := i < σ.length ∧ σ.set i s = σ'
theorem SetR.z {s t : Slot} : SetR (t :: σ) 0 s (s :: σ) := ⟨by simp, rfl⟩
theorem SetR.s {s t : Slot} (h : SetR σ i s σ') : SetR (t :: σ) (i + 1) s (t :: σ') := ⟨by have := h.1; simp; exact this, by rw [← h.2]; rfl⟩
theorem SetR.s3 {s t u v : Slot} (h : SetR σ i s σ') : SetR (t :: u :: v :: σ) (i + 3) s (t :: u :: v :: σ') := h.s.s.s
theorem PutAt.of {s : Slot} (h : SetR σ i s σ') (k : K σ') : PutAt σ i s K := ⟨h.1, by rw [h.2]; exact k⟩
theorem RW.asg (h : SW E σ fun d => PutAt σ i (.imm d) fun σ' => P σ' .next) : RW (rAsg i E) N σ P := by
  obtain ⟨d, e, hi, p⟩ := h
  refine ⟨_, _, ?_, p⟩
  unfold rAsg
  rw [if_neg (by omega), e]
theorem RW.ret (h : EW E (rdH σ) fun d => P σ (.ret d)) : RW (rRet E) N σ P := by
  obtain ⟨d, e, p⟩ := h
  exact ⟨_, _, by unfold rRet; rw [e], p⟩
theorem RW.if (h : TW T (rdF σ) fun b => IfK b (RW F N σ P) (RW F' N σ P)) : RW (rIf T F F') N σ P := by
  obtain ⟨b, e, p⟩ := h
  unfold RW rIf
  rw [e]
  cases b <;> exact p
theorem IfK.t {p q : Prop} (h : p) : IfK true p q := h
theorem IfK.f {p q : Prop} (h : q) : IfK false p q := h
theorem IfK.decT {c p q : Prop} [Decidable c] (hc : c) (h : p) : IfK (decide c) p q := by rw [decide_eq_true hc]; exact h
theorem IfK.decF {c p q : Prop} [Decidable c] (hc : ¬ c) (h : q) : IfK (decide c) p q := by rw [decide_eq_false hc]; exact h
theorem NotK.t {Q : Bool → Prop} (h : Q false) : NotK true Q := h
theorem NotK.f {Q : Bool → Prop} (h : Q true) : NotK false Q := h
theorem TruthK.bool {b : Bool} {K : Bool → Prop} (h : K b) : TruthK (.bool b) K := ⟨_, rfl, h⟩
theorem TruthK.lst {l : List D} {K : Bool → Prop} (hl : l.length ≤ 10000) (h : K (!l.isEmpty)) : TruthK (.lst l) K := by
  refine ⟨_, ?_, h⟩
  show (if l.length ≤ sizeLine then some (!l.isEmpty) else Option.none) = _
  rw [if_pos (Nat.le_trans hl sizeLine_ge)]
theorem RW.aug {f : D → D → Option D} (hx : σ[i]? = some (.imm x)) (h : SW E σ fun y => OW f x y fun z => PutAt σ i (.imm z) fun σ' => P σ' .next) : RW (rAug i f E) N σ P := by
  obtain ⟨y, e, z, e', hi, p⟩ := h
  exact ⟨_, _, by unfold rAug; rw [hx]; simp only [e, e'], p⟩
theorem RW.for (h : EW E (rdH σ) fun d => ForK d n j B N σ P) : RW (rFor n j E B) N σ P := by
  obtain ⟨d, e, ds, h1, h2, σ', fl, h3, p⟩ := h
  refine ⟨σ', fl, ?_, p⟩
  unfold rFor
  simp only [e, h1, h2, Bool.false_eq_true, if_false, h3]
theorem ForK.of (h1 : isStr d = false) (h2 : itemsOf d = some ds) (h : LW n j B N ds σ P) : ForK d n j B N σ P := ⟨ds, h1, h2, h⟩
theorem LW.nil (h : P σ .next) : LW n j B N [] σ P := ⟨_, _, rfl, h⟩
theorem LW.cons (hl : σ.length = n) (h : PutAt σ j (.imm d) fun σ₁ => RW B N σ₁ (LK P fun σ' => LW n j B N ds σ' P)) : LW n j B N (d :: ds) σ P := by
  obtain ⟨hj, σ', fl, e, p⟩ := h
  unfold LW forL
  rw [if_pos hl, e]
  cases fl with
  | next => exact p
  | cont => exact p
  | ret d => exact ⟨_, _, rfl, p⟩
theorem LW.inv (Inv : List D → St → Prop) (h0 : Inv ds σ) (hs : ∀ d ds σ, Inv (d :: ds) σ → σ.length = n ∧ PutAt σ j (.imm d) fun σ₁ => RW B N σ₁ (LK P (Inv ds))) (hP : ∀ σ', Inv [] σ' → P σ' .next) : LW n j B N ds σ P := by
  induction ds generalizing σ with
  | nil => exact LW.nil (hP _ h0)
  | cons d ds ih =>
    obtain ⟨hl, hj, σ', fl, e, p⟩ := hs d ds σ h0
    refine LW.cons hl ⟨hj, σ', fl, e, ?_⟩
    cases fl with
    | next => exact ih p
    | cont => exact ih p
    | ret d => exact p
theorem RW.while (h : WW T B N N σ P) : RW (rWhile T B) N σ P := h
theorem WW.inv (Inv : Nat → St → Prop) {k fuel : Nat} (h0 : Inv k σ) (hk : k < fuel) (hs : ∀ k σ, Inv k σ → TW T (rdF σ) fun b => IfK b (RW B N σ (LK P fun σ' => ∃ k', k' < k ∧ Inv k' σ')) (P σ .next)) : WW T B N fuel σ P := by
  induction fuel generalizing k σ with
  | zero => omega
  | succ fuel ih =>
    obtain ⟨b, e, p⟩ := hs k σ h0
    unfold WW whileL
    rw [e]
    cases b with
    | false => exact ⟨_, _, rfl, p⟩
    | true =>
      obtain ⟨σ', fl, e', p'⟩ := p
      simp only [e']
      cases fl with
      | next => obtain ⟨k', hk', hi⟩ := p'; exact ih hi (by omega)
      | cont => obtain ⟨k', hk', hi⟩ := p'; exact ih hi (by omega)
      | ret d => exact ⟨_, _, rfl, p'⟩
theorem EW.var (h : r[i]? = some (some d)) (k : Q d) : EW (eVar i) r Q := ⟨d, by unfold eVar; rw [h], k⟩
theorem EW.cst (k : Q d) : EW (eCst d) r Q := ⟨d, rfl, k⟩
theorem EW.e1 {f : D → Option D} (h : EW E r fun x => UW f x Q) : EW (e1 f E) r Q := by
  obtain ⟨x, e, d, e', q⟩ := h
  exact ⟨d, by unfold Mine.e1; rw [e]; exact e', q⟩
theorem EW.e2 {f : D → D → Option D} (h : EW E r fun x => EW G r fun y => OW f x y Q) : EW (e2 f E G) r Q := by
  obtain ⟨x, e, y, e', d, e'', q⟩ := h
  exact ⟨d, by unfold Mine.e2; rw [e]; simp only [e', e''], q⟩
theorem EW.call {f : List D → Option D} (h : EsW es r fun ds => CW f ds Q) : EW (eCall f es) r Q := by
  obtain ⟨ds, e, d, e', q⟩ := h
  exact ⟨d, by unfold eCall; rw [e]; exact e', q⟩
theorem EsW.nil {Q : List D → Prop} (k : Q []) : EsW es0 r Q := ⟨[], rfl, k⟩
theorem EsW.cons {Q : List D → Prop} (h : EW E r fun d => EsW es r fun ds => Q (d :: ds)) : EsW (esC E es) r Q := by
  obtain ⟨d, e, ds, e', q⟩ := h
  exact ⟨_, by unfold esC; rw [e]; simp only [e'], q⟩
theorem EW.tup (h : EsW es r fun ds => TpK ds Q) : EW (eTup es) r Q := by
  obtain ⟨ds, e, hl, q⟩ := h
  exact ⟨_, by unfold eTup; rw [e]; simp only [hl, if_true], q⟩
theorem EW.lst (h : EsW es r fun ds => LsK ds Q) : EW (eLst es) r Q := by
  obtain ⟨ds, e, hl, q⟩ := h
  exact ⟨_, by unfold eLst; rw [e]; simp only [hl, if_true], q⟩
theorem TpK.mk (h : ds.length ≤ 10000) (k : Q (.tup ds)) : TpK ds Q := ⟨Nat.le_trans h sizeLine_ge, k⟩
theorem LsK.mk (h : ds.length ≤ 10000) (k : Q (.lst ds)) : LsK ds Q := ⟨Nat.le_trans h sizeLine_ge, k⟩
theorem EW.comp (h : EW G r fun d => CompK E T r d Q) : EW (eComp E T G) r Q := by
  obtain ⟨d, e, ds, out, h1, h2, q⟩ := h
  exact ⟨_, by unfold eComp; rw [e]; simp only [h1, h2], q⟩
theorem TW.tOf {Q : Bool → Prop} (h : EW E r fun x => TruthK x Q) : TW (tOf E) r Q := by
  obtain ⟨x, e, b, e', q⟩ := h
  exact ⟨b, by unfold Mine.tOf; rw [e]; exact e', q⟩
theorem TW.not {Q : Bool → Prop} (h : TW T r fun b => NotK b Q) : TW (tNot T) r Q := by
  obtain ⟨b, e, q⟩ := h
  exact ⟨!b, by unfold tNot; rw [e], q⟩
theorem TW.and {Q : Bool → Prop} (h : TW T r fun b => IfK b (TW T' r Q) (Q false)) : TW (tAnd T T') r Q := by
  obtain ⟨b, e, q⟩ := h
  unfold TW tAnd
  rw [e]
  cases b
  · exact ⟨_, rfl, q⟩
  · exact q
section ops
variable {a b : Int}
theorem OW.add (k : Q (.int (a + b))) : OW fAdd (.int a) (.int b) Q := ⟨_, rfl, k⟩
theorem OW.addI (k : Q (.int (a + b))) : OW fAddI (.int a) (.int b) Q := ⟨_, rfl, k⟩
theorem OW.sub (k : Q (.int (a - b))) : OW fSub (.int a) (.int b) Q := ⟨_, rfl, k⟩
theorem OW.mul (h : mulOk a b = true) (k : Q (.int (a * b))) : OW fMul (.int a) (.int b) Q := ⟨_, by simp only [fMul]; rw [if_pos h], k⟩
theorem OW.div (h : divOk a b = true) (k : Q (.int (a.fdiv b))) : OW fDiv (.int a) (.int b) Q := ⟨_, by simp only [fDiv]; rw [if_pos h], k⟩
theorem OW.mod (h : b ≠ 0) (k : Q (.int (a.fmod b))) : OW fMod (.int a) (.int b) Q := ⟨_, by simp only [fMod]; rw [if_pos h], k⟩
theorem OW.pow (h : powOk a b = true) (k : Q (.int (a ^ b.toNat))) : OW fPow (.int a) (.int b) Q := ⟨_, by simp only [fPow]; rw [if_pos h], k⟩
theorem OW.ord {f : Int → Int → Bool} (k : Q (.bool (f a b))) : OW (fOrd f) (.int a) (.int b) Q := ⟨_, rfl, k⟩
theorem OW.eq (k : Q (.bool (decide (a = b)))) : OW fEq (.int a) (.int b) Q := ⟨_, rfl, by
  have : (a == b) = decide (a = b) := by by_cases q : a = b <;> simp [q]
  rw [this]; exact k⟩
theorem OW.ne (k : Q (.bool (decide (a ≠ b)))) : OW fNe (.int a) (.int b) Q := ⟨_, rfl, by
  have : (a != b) = decide (a ≠ b) := by by_cases q : a = b <;> simp [q]
  rw [this]; exact k⟩
theorem UW.neg (k : Q (.int (-a))) : UW fNeg (.int a) Q := ⟨_, rfl, k⟩
theorem CW.abs (k : Q (.int (if a < 0 then -a else a))) : CW fAbs [.int a] Q := ⟨_, rfl, k⟩
theorem CW.range1 (k : Q (.rng 0 a 1)) : CW fRange [.int a] Q := ⟨_, rfl, k⟩
theorem CW.range2 (k : Q (.rng a b 1)) : CW fRange [.int a, .int b] Q := ⟨_, rfl, k⟩
end ops
/-- a comprehension over plain data -/
theorem compL_map {p : D → Bool} {g : D → D} : ∀ {ds : List D}, (∀ x ∈ ds, flat x = true ∧ T (some x :: r) = some (p x) ∧ (p x = true → E (some x :: r) = some (g x) ∧ flat (g x) = true)) → compL E T r ds = some ((ds.filter p).map g)
  | [], _ => rfl
  | x :: ds, h => by
    obtain ⟨h1, h2, h3⟩ := h x (.head _)
    have ih := compL_map (ds := ds) fun y hy => h y (.tail _ hy)
    unfold compL
    rw [if_pos h1, h2]
    cases q : p x with
    | false => simp only [List.filter_cons, q]; exact ih
    | true =>
      obtain ⟨h4, h5⟩ := h3 q
      simp only [h4, h5, if_true, ih, List.filter_cons, q, List.map_cons]
theorem CompK.ints {l : List Int} {p : Int → Bool} {g : Int → Int} (hi : itemsOf d = some (intsD l)) (h : ∀ x ∈ l, TW T (some (.int x) :: r) (fun b => b = p x) ∧ (p x = true → EW E (some (.int x) :: r) fun z => z = .int (g x))) (k : Q (.lst (intsD ((l.filter p).map g)))) : CompK E T r d Q := by
  refine ⟨_, _, hi, compL_map (p := fun z => match z with | .int x => p x | _ => true) (g := fun z => match z with | .int x => .int (g x) | _ => z) ?_, ?_⟩
  · intro x hx
    obtain ⟨y, hy, rfl⟩ := List.mem_map.mp hx
    obtain ⟨⟨b, e, rfl⟩, h2⟩ := h y hy
    refine ⟨rfl, e, fun q => ?_⟩
    obtain ⟨z, e', rfl⟩ := h2 q
    exact ⟨e', rfl⟩
  · have : ((intsD l).filter (fun z => match z with | .int x => p x | _ => true)).map (fun z => match z with | .int x => D.int (g x) | _ => z) = intsD ((l.filter p).map g) := by
      clear hi h k
      induction l with
      | nil => rfl
      | cons x l ih =>
        rw [intsD_cons, List.filter_cons, List.filter_cons]
        by_cases q : p x = true
        · simp only [q, if_true, List.map_cons, ih, intsD_cons]
        · simp only [Bool.not_eq_true] at q
          simp only [q, Bool.false_eq_true, if_false, ih]
    rw [this]; exact k
theorem TW.c {b : Bool} {Q : Bool → Prop} (h : Q b) : TW (fun _ => some b) r Q := ⟨b, rfl, h⟩
theorem RW.mid (M : St → Prop) (h : RW F N σ fun σ' fl => fl = .next ∧ M σ') (k : ∀ σ', M σ' → P σ' .next) : RW F N σ P := by
  obtain ⟨σ', fl, e, rfl, hm⟩ := h
  exact ⟨σ', _, e, k _ hm⟩
end
end Mine
open PySem PySem.W PyProof.Rows PySem.Spec
set_option linter.unusedVariables false
set_option Elab.async false
set_option maxRecDepth 100000
namespace Mine
/-! greatest common parts -/
theorem fmod_nat (m n : Nat) : (m : Int).fmod (n : Int) = ((m % n : Nat) : Int) := by
  rw [Int.fmod_eq_emod_of_nonneg _ (by omega)]; simp
theorem fdiv_nat (m n : Nat) : (m : Int).fdiv (n : Int) = ((m / n : Nat) : Int) := by
  rw [Int.fdiv_eq_ediv_of_nonneg _ (by omega)]; simp
end Mine
open PySem PySem.W PyProof.Rows PySem.Spec
set_option linter.unusedVariables false
set_option Elab.async false
set_option maxRecDepth 100000
namespace Mine
section
variable {F Fs F' B : Run} {N n i j m : Nat} {σ σ' : St} {P : St → Fl → Prop} {E G H : Ev} {r : R} {Q : D → Prop} {T T' : Tr} {es : Evs} {d x y : D} {ds : List D} {K : St → Prop}
theorem RW.retF (h0 : E (rdH σ) = none) (h : EW E (rdF σ) fun d => P σ (.ret d)) : RW (rRet E) N σ P := by
  obtain ⟨d, e, p⟩ := h
  exact ⟨_, _, by unfold rRet; rw [h0]; simp only [e], p⟩
theorem RW.new (h : EsW es (rdH σ) fun ds => ds.length ≤ 10000 ∧ PutAt σ i (.mt ds) fun σ' => P σ' .next) : RW (rNew i es) N σ P := by
  obtain ⟨ds, e, hl, hi, p⟩ := h
  exact ⟨_, _, by unfold rNew evsS; rw [e]; simp only [Nat.le_trans hl sizeLine_ge, if_true], p⟩
theorem RW.app {l : List D} (hx : σ[i]? = some (.mt l)) (hl : l.length ≤ 10000) (h : SW E σ fun d => PutAt σ i (.mt (l ++ [d])) fun σ' => P σ' .next) : RW (rApp i E) N σ P := by
  obtain ⟨d, e, hi, p⟩ := h
  exact ⟨_, _, by unfold rApp; rw [hx]; simp only [Nat.le_trans hl sizeLine_ge, if_true, e], p⟩
theorem TruthK.lstE {l : List D} {K : Bool → Prop} (h : l = []) (k : K false) : TruthK (.lst l) K := by
  subst h; exact TruthK.lst (by decide) k
theorem TruthK.lstN {l : List D} {K : Bool → Prop} (h : l ≠ []) (hl : l.length ≤ 10000) (k : K true) : TruthK (.lst l) K := by
  refine TruthK.lst hl ?_
  cases l with
  | nil => exact absurd rfl h
  | cons a b => exact k
end
/-- the primes as the programs build them -/
noncomputable def natI (l : List Nat) : List Int := l.map fun (n : Nat) => (n : Int)
theorem natI_cons (n : Nat) (l : List Nat) : natI (n :: l) = (n : Int) :: natI l := rfl
theorem natI_length (l : List Nat) : (natI l).length = l.length := by simp [natI]
theorem mem_natI {x : Int} {l : List Nat} : x ∈ natI l ↔ ∃ n ∈ l, x = (n : Int) := by
  unfold natI; rw [List.mem_map]
  exact ⟨fun ⟨a, b, c⟩ => ⟨a, b, c.symm⟩, fun ⟨a, b, c⟩ => ⟨a, b, c.symm⟩⟩
noncomputable def pgT (n p : Nat) : Bool := decide (p * p ≤ n) && decide (n % p = 0)
noncomputable def pgS (l : List Nat) (n : Nat) : List Nat := if (l.filter (pgT n)).isEmpty = true then l ++ [n] else l
noncomputable def pgR : Nat → List Nat
  | 0 => []
  | k + 1 => pgS (pgR k) (k + 2)
theorem pgR_mem : ∀ {k x : Nat}, x ∈ pgR k → 2 ≤ x ∧ x ≤ k + 1
  | k + 1, x, h => by
    rw [pgR, pgS] at h
    split at h
    · rcases List.mem_append.mp h with h | h
      · have := pgR_mem h; omega
      · have : x = k + 2 := by simpa using h
        omega
    · have := pgR_mem h; omega
theorem pgR_length : ∀ k, (pgR k).length ≤ k
  | 0 => Nat.le_refl 0
  | k + 1 => by
    have := pgR_length k
    rw [pgR, pgS]
    split
    · rw [List.length_append]; simp; exact this
    · omega
theorem filter_natI (p : Int → Bool) (l : List Nat) : (natI l).filter p = natI (l.filter fun n => p (n : Int)) := by
  induction l with
  | nil => rfl
  | cons a l ih =>
    rw [natI_cons, List.filter_cons, List.filter_cons, ih]
    split <;> rfl
theorem Bd.sm {x : Int} (h : -1000 ≤ x) (h' : x ≤ 1000) : Bd 10 x := by
  unfold Bd
  have : (2:Nat) ^ 10 = 1024 := by decide
  omega
end Mine
open PySem PySem.W PyProof.Rows PySem.Spec
set_option linter.unusedVariables false
set_option Elab.async false
set_option maxRecDepth 100000
namespace Mine
end Mine
open PySem PySem.W PyProof.Rows PySem.Spec PySem.Calls
set_option linter.unusedVariables false
set_option Elab.async false
set_option maxRecDepth 100000
namespace Mine
section
variable {I : GI} {k : Nat}
end
end Mine
open PySem PySem.W PyProof.Rows PySem.Spec PySem.Calls
set_option linter.unusedVariables false
set_option Elab.async false
set_option maxRecDepth 100000
namespace Mine
section
variable {I : GI} {k : Nat} {sc : Scope} {ns : List Str}
end
end Mine
section
open PySem PySem.W PyProof.Rows PySem.Spec
set_option linter.unusedVariables false
set_option Elab.async false
set_option maxRecDepth 100000
namespace Mine
section
variable {I : GI} {k : Nat} {sc : Scope} {ns : List Str}

/-- str of an int -/
noncomputable def fStr : List D → Option D
  | [.int a] => if a.natAbs < 10 ^ 4300 then some (.str (Str.ofString (toString a))) else none
  | _ => none
theorem PrimOK.str (hd : ∀ h, I.Gl h → h.NoDigits) : PrimOK I k (.type "str") fStr := by
  intro A g s ds vs d Q E hA sub gl hf hv P
  unfold fStr at hf
  split at hf
  · split at hf
    · rename_i a hz
      cases hf
      obtain ⟨v, rfl, t, rfl⟩ := hv.one
      exact str_of_int_or hA.1 (hd _ gl) (fun _ => P.now sub ⟨_, rfl⟩) fun h => absurd hz (Nat.not_lt_of_le h)
    · cases hf
  · cases hf

/-- int of a text or an int -/
noncomputable def fInt : List D → Option D
  | [.int a] => some (.int a)
  | [.str x] => if x.length ≤ 640 then (match PySem.intText? x with
    | some n => some (.int n)
    | none => none) else none
  | _ => none
theorem PrimOK.int : PrimOK I k (.type "int") fInt := by
  intro A g s ds vs d Q E hA sub gl hf hv P
  unfold fInt at hf
  split at hf
  · cases hf
    obtain ⟨v, rfl, t, rfl⟩ := hv.one
    exact call_int_int (P.now (tk := s.toks) sub ⟨_, rfl⟩)
  · split at hf
    · rename_i hz
      split at hf
      · rename_i n hn
        cases hf
        obtain ⟨v, rfl, t, rfl⟩ := hv.one
        exact KIN.call_text hn hz (P.now sub ⟨_, rfl⟩)
      · cases hf
    · cases hf
  · cases hf

/-- a text's words -/
noncomputable def strsD (l : List Str) : List D := l.map .str
theorem isL_strs {g : G} : ∀ (l : List (Str × Tok)), IsL g (strsD (l.map (·.1))) (strValues l)
  | [] => rfl
  | p :: r => ⟨_, _, rfl, ⟨p.2, rfl⟩, isL_strs r⟩
noncomputable def fSplit : D → Option D
  | .str x => if x.length + 1 ≤ sizeLine then some (.lst (strsD (Txt.words x))) else none
  | _ => none
theorem words_fit {x : Str} (h : x.length + 1 ≤ sizeLine) : (Builtin.Str.spaceWords x (x.length + 1)).length ≤ sizeLine :=
  Nat.le_trans (StrLaws.len_le_wsum _) (Nat.le_trans (StrLaws.sw_weight x).1 h)
theorem split_ok {A : Around} {g : G} {s : Shared} {x : Str} {t : Tok} {Q : Value → Shared → Prop} {E : Value → Shared → Prop} (sub : Sub g s.heap.get?) (hz : x.length + 1 ≤ sizeLine)
    (P : Post g s (.lst (strsD (Txt.words x))) Q) : wpAny (model I.prog I.w) A (call (.builtin "str.split") [.str x t]) Q E s := by
  refine call_meets F.slot_str_split (typeIs_str _ _ _) F.entry_str_split (F.args_str_split_1 _) (meets_str_split_space x t (Nat.le_of_succ_le hz) (words_fit hz)) ?_
  have fin : ∀ (l : List (Str × Tok)) (tk : Nat), l.map (·.1) = Txt.words x → Q (.ref s.heap.objs.size) { s with heap := s.heap.push { cls := .type "list", data := .seq (strValues l).toArray }, toks := tk } := fun l tk e =>
    P.newList sub (by rw [← e]; exact isL_strs l)
  cases hw : Builtin.Str.spaceWords x (x.length + 1) == [(0, x.length)]
  · simp only [Bool.false_eq_true, if_false]
    rw [strsFrom_eq]
    exact fin (numbered s.toks (PySem.wordsOf x)) _ ((numbered_texts _ _).trans (if_neg (ne_true_of_eq_false hw)).symm)
  · simp only [if_true]
    exact fin [(x, t)] _ (if_pos hw).symm
theorem EvOK.split {e : Expr} {apos cpos : Pos} {F : Ev} {pl : Env → Sem Bool} (he : ∀ env, eval (.Call (.Attribute e "split" apos) [] [] cpos) env = (do
      let ov ← eval e env
      standAt apos.atName
      let (f, first) ← holding [ov] (getMethod ov "split" (pl env))
      callWith cpos f first (backTo cpos (starEach [] env)) [])) (h : EvOK I k sc ns e F) : EvOK I k sc ns (.Call (.Attribute e "split" apos) [] [] cpos) (e1 fSplit F) := by
  intro env A g r s d Q E hS hA V hF P
  unfold e1 at hF
  split at hF
  · rename_i xd hx
    unfold fSplit at hF
    split at hF
    · split at hF
      · rename_i x hz
        cases hF
        refine MethodCall_ (pl := pl env) (h env A g r s _ _ E hS hA V hx fun v h₁ tk₁ k₁ hv => ?_) (he env)
        obtain ⟨t, rfl⟩ := hv
        refine GM.split (callWith_method0 ?_)
        exact split_ok (s := { s with heap := h₁, toks := tk₁ }) (V.grow k₁).sub hz (P.step k₁)
      · cases hF
    · cases hF
  · cases hF

/-- a text in a text -/
noncomputable def fInS (neg : Bool) : D → D → Option D
  | .str y, .str x => some (.bool (neg ^^ Txt.contains x y))
  | _, _ => none
theorem OpOK.notInS : OpOK I k (compareOp .NotIn) (fInS true) := by
  intro A g s x y d u v Q E hA sub gl hx hy hf P
  unfold fInS at hf
  split at hf
  · obtain ⟨t, rfl⟩ := hx
    obtain ⟨t', rfl⟩ := hy
    cases hf
    refine PySem.P.notIn_str (P.now (tk := s.toks) sub ?_)
    rw [Bool.true_xor]; rfl
  · cases hf

/-- a text from a place on -/
noncomputable def fSloS : D → D → Option D
  | .str x, .int i => if 0 ≤ i ∧ i ≤ x.length ∧ x.length ≤ sizeLine then some (.str ⟨(x.cps.toList.drop i.toNat).toArray⟩) else none
  | _, _ => none
theorem EvOK.sliceLoS {value low : Expr} {p pos : Pos} {F F' : Ev} (hv : EvOK I k sc ns value F) (hu : EvOK I k sc ns low F') (ht : ∀ o r, letTemporaryGo value o r = pure ()) :
    EvOK I k sc ns (.Subscript value (.Slice (Option.some low) Option.none Option.none p) pos) (e2 fSloS F F') := by
  intro env A g r s d Q E hS hA V hF P
  obtain ⟨x, y, hx, hy, hf⟩ := e2_some hF
  unfold fSloS at hf
  split at hf
  · rename_i x i
    split at hf
    · rename_i hb
      cases hf
      refine wpAny_Subscript_str_slice (hv env A g r s _ _ E hS hA V hx fun u h₁ tk₁ k₁ hu' => ?_) ht
      rw [evalPart_none, evalPart_some]
      refine hu env A _ r _ _ _ E hS hA (V.grow k₁) hy fun v h₂ tk₂ k₂ hv' => wpAny_pure ?_
      have V₂ := (V.grow k₁).grow k₂
      obtain ⟨t, rfl⟩ := hu'
      obtain ⟨t', rfl⟩ := hv'
      have ex : x.cps.toList.length = x.length := Array.length_toList
      have e := StrLaws.sliceText_from (x := x) (i := i) ⟨hb.1, by rw [ex]; exact hb.2.1⟩
      refine ⟨x, t, some (i, t'), none, rfl, rfl, rfl, ?_⟩
      have P₂ := (P.step (tk := tk₁) k₁).step (s := { s with heap := h₁, toks := tk₁ }) (tk := tk₂) k₂
      have P₃ := P₂.step (tk := tk₂) (Grow.push h₂ { cls := .type "slice", data := .fields #[.int i t', .none, .none] })
      have es : Txt.slice x (some i) none = ⟨(x.cps.toList.drop i.toNat).toArray⟩ := by
        show StrLaws.sliceText x (some i) none = _
        rw [e, List.take_of_length_le]
        rw [List.length_drop]; omega
      refine post_val_or_str (s := { s with heap := h₂.push { cls := .type "slice", data := .fields #[.int i t', .none, .none] }, toks := tk₂ }) ⟨Nat.le_trans (Txt.slice_le x _ _) hb.2.2, fun t'' kk => ?_⟩
      have q := P₃.now (tk := kk) (ext_in V₂.sub (Grow.push _ _)) (v := .str ⟨(x.cps.toList.drop i.toNat).toArray⟩ t'') ⟨_, rfl⟩
      rw [← es] at q
      exact q
    · cases hf
  · cases hf

/-- y = x.pop() -/
noncomputable def rPop (i j : Nat) : Run := fun _ σ => match σ[i]? with
  | some (.mt l) => if l.length ≤ sizeLine then (match l.getLast? with
    | some d => some ((σ.set i (.mt l.dropLast)).set j (.imm d), .next)
    | none => none) else none
  | _ => none
theorem IsL.dropLast {g : G} : ∀ {l : List D} {vs : List Value}, IsL g l vs → IsL g l.dropLast vs.dropLast
  | [], _, h => by rw [show _ = [] from h]; rfl
  | [d], _, ⟨v, r, e, _, h⟩ => by rw [e, show r = [] from h]; rfl
  | d :: d' :: ds, _, ⟨v, r, e, hv, h⟩ => by
    obtain ⟨v', r', e', hv', h'⟩ := h
    rw [e, e']
    exact ⟨v, _, rfl, hv, IsL.dropLast ⟨v', r', rfl, hv', h'⟩⟩
theorem erase_last {α : Type} (vs : Array α) : (vs.eraseIdxIfInBounds (vs.size - 1)).toList = vs.toList.dropLast := by
  rw [Array.toList_eraseIdxIfInBounds, ← Array.length_toList, List.eraseIdx_length_sub_one]
theorem RunOK.pop {x y : Str} {px py apos cpos pos : Pos} {i j : Nat} {pl : Env → Sem Bool} (hx : idx ns x = some i) (hy : idx ns y = some j) (hd : (x == ("__debug__" : Str)) = false)
    (he : ∀ env, eval (.Call (.Attribute (.Name x px) "pop" apos) [] [] cpos) env = (do
      let ov ← eval (.Name x px) env
      standAt apos.atName
      let (f, first) ← holding [ov] (getMethod ov "pop" (pl env))
      callWith cpos f first (backTo cpos (starEach [] env)) []))
    (hs : ∀ env, swapsWith (.Call (.Attribute (.Name x px) "pop" apos) [] [] cpos) (some (.Name y py)) pos.line env = pure false) (hc : ScS sc ns) :
    RunOK I k sc ns (exec (.Assign [.Name y py] (.Call (.Attribute (.Name x px) "pop" apos) [] [] cpos) pos)) (lenOk ns.length (rPop i j)) := by
  intro env A own g fix σ s fuel σ' fl Q E hS hA S hF P
  unfold lenOk at hF
  split at hF
  · rename_i hlen
    unfold rPop at hF
    split at hF
    · rename_i l hl
      split at hF
      · rename_i hz
        split at hF
        · rename_i d hdd
          cases hF
          have hx' := idx_get hx
          obtain ⟨hh, hO⟩ := S.mtd i x l hx' hl
          obtain ⟨vs, n, p1, p2⟩ := hO.obj
          have el := p2.length
          have hne : l ≠ [] := fun q => by rw [q] at hdd; cases hdd
          have hpos : 0 < l.length := List.length_pos_iff.mpr hne
          rw [Array.length_toList] at el
          have hlast : l[l.length - 1]? = some d := by rw [← List.getLast?_eq_getElem?]; exact hdd
          obtain ⟨v, hv1, hv2⟩ := p2.get hlast
          have hv1' : vs[vs.size - 1]? = some v := by rw [el]; simpa using hv1
          refine wpAny_Assign_Name ?_ (hs env)
          refine MethodCall_ (pl := pl env) (wpAny_Name (loadName_ok hS hc.kind hh ?_) hd) (he env)
          refine getMethod_list_of PySem.F.slot_list_pop PySem.F.type_list_pop ⟨_, p1, rfl, n, rfl⟩ ⟨_, p1, rfl⟩ (callWith_method0 ?_)
          refine call_meets PySem.F.slot_list_pop ⟨_, p1, rfl⟩ PySem.F.entry_list_pop (PySem.F.args_list_pop_1 _) (PySem.MeetsSeq.list_pop_last (own i) vs n v hv1' (by omega)) ⟨p1, ?_⟩
          have hfin : (s.heap.update (own i) (Obj.mapSeq fun xs => xs.eraseIdxIfInBounds (vs.size - 1))).get? (own i) = some (Obj.mapSeq (fun xs => xs.eraseIdxIfInBounds (vs.size - 1)) (lobj vs n)) := Heap.get?_update_self _ p1 rfl
          have S₁ := S.mutate (Nat.le_of_eq hlen) hx' hl (Heap.SameBut.update ..) (vs' := vs.eraseIdxIfInBounds (vs.size - 1)) (l' := l.dropLast) hfin (by rw [erase_last]; exact IsL.dropLast p2)
          have hl1 : (σ.set i (.mt l.dropLast)).length ≤ ns.length := by rw [List.length_set]; exact Nat.le_of_eq hlen
          exact store_imm (s := { s with heap := s.heap.update (own i) (Obj.mapSeq fun xs => xs.eraseIdxIfInBounds (vs.size - 1)) }) hc hS S₁ hl1 (idx_get hy) hv2 fun h₂ tk₂ S₂ => P own g fix h₂ tk₂ _ S₂ (After.refl _ _) rfl
        · cases hF
      · cases hF
    · cases hF
  · cases hF
/-- code that is not reached -/
noncomputable def rDead : Run := fun _ _ => none
theorem RunOK.dead {t : Env → Sem Flow} : RunOK I k sc ns t rDead := by
  intro env A own g fix σ s fuel σ' fl Q E hS hA S hF P
  cases hF
end
end Mine
end
section
open PySem PySem.W PyProof.Rows PySem.Spec
set_option linter.unusedVariables false
set_option Elab.async false
set_option maxRecDepth 100000
namespace Mine
section
variable {M : Model} {A : Around} {R : GenEnd} {Y : Protocol} {n : Nat} {s₀ : Shared} {c : Code} {fs : List Frame} {s : Shared} {env : Env}
  {K : Flow → Sem Fin} {H : Value → Sem Fin} {gd : Bool → Bool} {lv : List Value → List Value}

/-- what goes on behind a loop of a generator's body -/
noncomputable def backF (env : Env) (K : Flow → Sem Fin) (H : Value → Sem Fin) (gd : Bool → Bool) (lv : List Value → List Value) : Result → Sem Fin := fun r =>
  ((match r with | .ok f => (.pure f : Sem Flow) | .error e => .raise e).onRaise fun (x : Value) => do
    if (← field x 1) == Value.none then unsupported "frame.own-activation:exception-without-traceback"
    setFlight x env.frame).wrap K H gd lv
theorem seg_For {target iter : Expr} {body orelse : List Stmt} {pos : Pos} (hs : ∀ v, foldedSetIterable iter env v = pure v)
    (h : wpAny M (A.over c fs) (eval iter env) (fun v s1 => wpAny M (A.over c fs) (pyIter v) (fun it s2 => ∀ p, Seg M A R Y n s₀ (.forLoop target it body orelse env) (M.den (.forLoop target it body orelse env))
      (.ret (backF env K H gd lv) none (gd false) (lv []) c p [] :: fs) s2) (fun x s' => Seg M A R Y n s₀ c (H x) fs s') s1) (fun x s' => Seg M A R Y n s₀ c (H x) fs s') s) :
    Seg M A R Y n s₀ c ((exec (.For target iter body orelse pos) env).wrap K H gd lv) fs s := by
  rw [exec_For]
  refine seg_bind_wrap (wpAny_standAt ?_)
  refine seg_bind_wrap (wpAny_mono h (fun v s1 h1 => ?_) fun _ _ e => e)
  refine seg_bind_wrap (wpAny_of_eq (hs v) ?_)
  refine seg_bind_wrap (wpAny_standAt ?_)
  refine seg_bind_wrap (wpAny_holding (wpAny_mono h1 (fun it s2 h2 => ?_) fun _ _ e => e))
  exact seg_call h2
end

section
variable {prog : Program} {w : World} {A : Around} {R : GenEnd} {Y : Protocol} {n : Nat} {s₀ : Shared} {fs : List Frame} {s : Shared} {env : Env}

theorem seg_congr {c : Code} {t t' : Sem Fin} (e : t = t') (h : Seg (model prog w) A R Y n s₀ c t' fs s) : Seg (model prog w) A R Y n s₀ c t fs s := by rw [e]; exact h
noncomputable def turnK (c : Code) : Flow → Sem Fin := fun f => match f with
  | .next | .cont => .pure (.again c)
  | .brk => .pure (.done .next)
  | .ret v => .pure (.done (.ret v))
noncomputable def turnH (env : Env) : Value → Sem Fin := fun e => (do noteFrame e env; theTreesLotGoes e : Sem Unit).wrap (fun _ => .raise e) .raise id id

theorem seg_forLoop {x : Str} {px : Pos} {it : Value} {body orelse : List Stmt} {I : Addr} (hit : it = .ref I)
    (h : wpAny (model prog w) (A.over (.forLoop (.Name x px) it body orelse env) fs) (pyNext it) (fun r s' => match r with
      | none => Seg (model prog w) A R Y n s₀ (.forLoop (.Name x px) it body orelse env) (.pure (.again (.block orelse env))) fs s'
      | some v => wpAny (model prog w) (A.over (.forLoop (.Name x px) it body orelse env) fs) (assign (.Name x px) env v) (fun _ s'' =>
          Seg (model prog w) A R Y n s₀ (.forLoop (.Name x px) it body orelse env) ((execs body env).wrap (turnK (.forLoop (.Name x px) it body orelse env)) (turnH env) id id) fs s'')
          (fun e s'' => Seg (model prog w) A R Y n s₀ (.forLoop (.Name x px) it body orelse env) (turnH env e) fs s'') s')
      (fun e s'' => Seg (model prog w) A R Y n s₀ (.forLoop (.Name x px) it body orelse env) (turnH env e) fs s'') s) :
    Seg (model prog w) A R Y n s₀ (.forLoop (.Name x px) it body orelse env) ((model prog w).den (.forLoop (.Name x px) it body orelse env)) fs s := by
  subst hit
  have eH : ∀ e : Value, ((do noteFrame e env; theTreesLotGoes e : Sem Unit).bind fun _ => (.raise e : Sem Fin)) = turnH env e := fun e => Sem.bind_eq_wrap _ _
  show Seg _ A R Y n s₀ _ ((forTurn (.Name x px) (.ref I) body orelse env).onRaise (fun x => do noteFrame x env; theTreesLotGoes x)) fs s
  rw [Sem.onRaise_eq_wrap, show (fun e : Value => ((do noteFrame e env; theTreesLotGoes e : Sem Unit).bind fun _ => (.raise e : Sem Fin))) = turnH env from funext eH]
  unfold forTurn
  refine seg_bind_wrap (wpAny_standAt ?_)
  refine seg_bind_wrap (wpAny_onRaise (wpAny_mono h (fun r s1 h1 => ?_) fun _ _ h' => wpAny_standAt h'))
  cases r with
  | none => exact h1
  | some v =>
    refine seg_bind_wrap (wpAny_of_eq (rfl : letOwnedTupleGo (.Name x px) (.ref I) v = pure ()) ?_)
    refine seg_bind_wrap (wpAny_mono h1 (fun _ s2 h2 => ?_) fun _ _ e => e)
    rw [Sem.bind_eq_wrap', Sem.wrap_wrap]
    exact seg_congr (Sem.wrap_congr (execs body env) _ _ (K' := turnK (.forLoop (.Name x px) (.ref I) body orelse env)) (H' := turnH env) (fun f => by cases f <;> rfl) (fun e => rfl)) h2
theorem seg_block_nil {K : Result → Sem Fin} {g l c₁ p₁ kp} {c : Code} (h : Seg (model prog w) A R Y n s₀ c₁ (K (.ok .next)) fs s) :
    Seg (model prog w) A R Y n s₀ c (.pure (.again (.block [] env))) (.ret K none g l c₁ p₁ kp :: fs) s :=
  seg_again rfl (seg_leaf (.ok .next) h)
end
end Mine
end
section
open PySem PySem.W PyProof.Rows PySem.Spec
set_option linter.unusedVariables false
set_option Elab.async false
set_option maxRecDepth 100000
namespace Mine

noncomputable def GSince (L : Addr) (old : Addr → Prop) (s₀ s : Shared) : Prop := ∃ h' tk, s = { s₀ with heap := h', toks := tk } ∧ ∀ b o, old b → b ≠ L → s₀.heap.get? b = some o → h'.get? b = some o
theorem GSince.refl (L : Addr) (old : Addr → Prop) (s : Shared) : GSince L old s s := ⟨s.heap, s.toks, rfl, fun _ _ _ _ e => e⟩
theorem GSince.step {L : Addr} {old : Addr → Prop} {s₀ s : Shared} (x : GSince L old s₀ s) {h' : Heap} {tk : Nat} (hk : ∀ b o, old b → b ≠ L → s.heap.get? b = some o → h'.get? b = some o) : GSince L old s₀ { s with heap := h', toks := tk } := by
  obtain ⟨h₁, tk₁, rfl, hk₁⟩ := x
  exact ⟨h', tk, rfl, fun b o hb hL e => hk b o hb hL (hk₁ b o hb hL e)⟩
noncomputable def gR (L : Addr) (old : Addr → Prop) : GenEnd := fun n s₀ r s => r = .ok (.ret .none) ∧ (n = 0 ∧ GSince L old s₀ s)
noncomputable def gY (L : Addr) (old W : Addr → Prop) (vals : List Int) : Protocol := fun m s₀ v s kap =>
  (∃ a t, vals[vals.length - 1 - m]? = some a ∧ v = .int a t) ∧ GSince L old s₀ s ∧ ∀ s'' : Shared, (∀ b o, ¬ W b → s.heap.get? b = some o → s''.heap.get? b = some o) → kap (.send .none) s''

section
variable {I : GI} {k : Nat} {sc : Scope} {ns : List Str}

/-- the loop's frame, as it stands between two values -/
structure LoopSt (I : GI) (env : Env) (fixC : G) (St : Nat → Heap → Prop) (j : Nat) (h : Heap) : Prop where
  ns : ∃ m, h.Ns env.locals m
  st : St j h
  fix : Sub fixC h.get?

noncomputable def xr (n ix : Nat) (a : Int) : R := (List.replicate n none).set ix (some (.int a))
theorem xr_get {n ix i : Nat} {a : Int} {d : D} (h : (xr n ix a)[i]? = some (some d)) : i = ix ∧ d = .int a := by
  unfold xr at h
  by_cases e : i = ix
  · subst e
    rw [List.getElem?_set] at h
    simp only [if_true] at h
    split at h
    · cases h; exact ⟨rfl, rfl⟩
    · cases h
  · rw [List.getElem?_set_ne (Ne.symm e), List.getElem?_replicate] at h
    split at h <;> cases h

theorem gen_loop {A : Around} {env : Env} {fixC : G} {old W : Addr → Prop} {vals : List Int} {St : Nat → Heap → Prop} {It S : Addr} {vs : Array Value} {x : Str} {px ypos epos : Pos} {e : Expr} {ix : Nat} {Fe : Ev} {fr : Frame} {c₁ : Code} {kp : Pos} {RK : Result → Sem Fin} {g : Bool} {l : List Value}
    (hfr : fr = .ret RK none g l c₁ kp []) (hg : g = false)
    (hS : EnvS sc env) (hsk : sc.kind = .function) (hco : sc.isCoroutine = false) (hx : ns[ix]? = some x) (hxl : sc.names.lookup x = some .local) (hns : ns.Nodup)
    (hbase : ∃ h₀, I.Gl h₀ ∧ Sub h₀.get? fixC) (hA : AOK k (A.over (.forLoop (.Name x px) (.ref It) [.Expr (.Yield (some e) ypos) epos] [] env) [fr]))
    (Wk : Walks I.prog I.w (A.over (.forLoop (.Name x px) (.ref It) [.Expr (.Yield (some e) ypos) epos] [] env) [fr]) It [It, S] [It] vs.size (fun i u => vs[i]? = some u) St)
    (hv : ∀ (j : Nat) (u : Value), vs[j]? = some u → ∃ a t, vals[j]? = some a ∧ u = .int a t) (hsz : vs.size = vals.length)
    (he : EvOK I k sc ns e Fe) (hF : ∀ a, Fe (xr ns.length ix a) = some (.int a))
    (hIL : It ≠ env.locals) (hSL : S ≠ env.locals) (hfI : fixC It = none) (hfL : fixC env.locals = none) (hoI : ¬ old It) (hWI : ¬ W It) (hWS : ¬ W S) (hWL : ¬ W env.locals) (hWf : ∀ b o, fixC b = some o → ¬ W b)
    (hend : ∀ s₀ s, GSince env.locals old s₀ s → Seg (model I.prog I.w) A (gR env.locals old) (gY env.locals old W vals) 0 s₀ c₁ (RK (.ok .next)) [] s) :
    ∀ (m j : Nat) (s₀ s : Shared), vals.length - j = m → j ≤ vals.length → LoopSt I env fixC St j s.heap → GSince env.locals old s₀ s →
      Seg (model I.prog I.w) A (gR env.locals old) (gY env.locals old W vals) m s₀ (.forLoop (.Name x px) (.ref It) [.Expr (.Yield (some e) ypos) epos] [] env)
        ((model I.prog I.w).den (.forLoop (.Name x px) (.ref It) [.Expr (.Yield (some e) ypos) epos] [] env)) [fr] s := by
  have hkx : env.kindOf x = some .local := by unfold Env.kindOf; rw [hS.scope]; exact hxl
  have hint : interactive env = false := interactive_fun hS hsk
  intro m
  induction m with
  | zero =>
    intro j s₀ s hm hj hst hsin
    have hjn : j = vs.size := by omega
    refine seg_forLoop rfl (Wk.done s _ _ (hjn ▸ hst.st) fun h₁ tk₁ hk₁ => ?_)
    subst hfr
    refine seg_block_nil (hend _ _ (hsin.step fun b o hb hL q => hk₁ b o (by rw [List.mem_singleton]; exact fun z => hoI (z ▸ hb)) q))
  | succ m ih =>
    intro j s₀ s hm hj hst hsin
    have hlt : j < vs.size := by omega
    refine seg_forLoop rfl (Wk.item j s _ _ hlt hst.st fun v h₁ tk₁ hPv hst₁ hk₁ => ?_)
    obtain ⟨mm, hmm⟩ := hst.ns
    obtain ⟨a, t, ha, rfl⟩ := hv j v hPv
    have hk₁' : ∀ b o, b ≠ It → s.heap.get? b = some o → h₁.get? b = some o := fun b o hb q => hk₁ b o (by rw [List.mem_singleton]; exact hb) q
    have hn₁ : h₁.Ns env.locals mm := hmm.at' fun o q => hk₁' _ o (Ne.symm hIL) q
    refine wpAny_assign_Name (wpAny_storeName_local hkx hn₁ (fun h₂ hn₂ hs₂ => ?_) (by rw [hS.scope, hsk]; rfl))
    have up₂ : ∀ b o, b ≠ It → b ≠ env.locals → s.heap.get? b = some o → h₂.get? b = some o := fun b o hb hL q => (hs₂.2 b hL).trans (hk₁' b o hb q)
    have fix₂ : Sub fixC h₂.get? := fun b o q => up₂ b o (fun z => by rw [z, hfI] at q; cases q) (fun z => by rw [z, hfL] at q; cases q) (hst.fix b o q)
    have st₂ : St (j + 1) h₂ := Wk.frame (j + 1) h₁ h₂ hst₁ fun b hb o q => by
      refine (hs₂.2 b ?_).trans q
      rcases List.mem_cons.mp hb with rfl | hb
      · exact hIL
      · rw [List.mem_singleton.mp hb]; exact hSL
    obtain ⟨h₀, gl₀, sub₀⟩ := hbase
    have V : View I env ns g0 (xr ns.length ix a) h₂ := {
      sub := g0_sub _
      gl := I.grow gl₀ fun b o q => fix₂ b o (sub₀ b o q)
      var := fun i y d hy hk hd => by
        obtain ⟨rfl, rfl⟩ := xr_get hd
        rw [hx] at hy; cases hy
        exact ⟨.int a t, ⟨t, rfl⟩, .inl ⟨hkx, _, hn₂, by simp⟩⟩ }
    subst hfr hg
    refine seg_execs_cons (seg_Expr_Yield rfl rfl rfl (he env _ g0 _ _ (.int a) _ _ hS hA V (hF a) fun w h₃ tk₃ k₃ hw => ?_) (by rw [hS.scope]; exact hco) hint)
    obtain ⟨t₃, rfl⟩ := hw
    intro kap hkap
    refine ⟨⟨a, t₃, ?_, rfl⟩, hsin.step fun b o hb hL q => k₃ b o (up₂ b o (fun z => hoI (z ▸ hb)) hL q), fun s'' hal => hkap .none s'' ?_⟩
    · have : vals.length - 1 - m = j := by omega
      rw [this]; exact ha
    show Seg _ A _ _ m s'' _ (.pure (.again (.forLoop (.Name x px) (.ref It) [.Expr (.Yield (some e) ypos) epos] [] env))) _ s''
    refine seg_again rfl (ih (j + 1) s'' s'' (by omega) (by omega) ⟨⟨_, (hn₂.keeps k₃).at' fun o q => hal _ o hWL q⟩, ?_, fun b o q => hal b o (hWf b o q) (k₃ b o (fix₂ b o q))⟩ (GSince.refl _ _ _))
    refine Wk.frame (j + 1) h₂ s''.heap st₂ fun b hb o q => ?_
    rcases List.mem_cons.mp hb with rfl | hb
    · exact hal _ o hWI (k₃ _ o q)
    · rw [List.mem_singleton.mp hb] at q ⊢
      exact hal _ o hWS (k₃ _ o q)
end
end Mine
end
section
open PySem PySem.W PyProof.Rows PySem.Spec
set_option linter.unusedVariables false
set_option Elab.async false
set_option maxRecDepth 100000
namespace Mine
section
variable {I : GI} {k : Nat} {sc : Scope} {ns : List Str}

theorem AOK.over0 {A : Around} {body : List Stmt} {env : Env} (h : AOK (k + 1) A) : AOK k (A.over (.func body env) []) := by
  obtain ⟨a, b, c⟩ := h
  refine ⟨a, ?_, ?_⟩
  · show A.depth + 0 + 1 + k < _; omega
  · show A.units + 0 + 3 + 3 * k + 200 < _; omega
theorem AOK.over1 {A : Around} {body body' : List Stmt} {env env' : Env} {t : Expr} {it : Value} {RK : Result → Sem Fin} {g : Bool} {l : List Value} {p : Pos} (h : AOK (k + 1) A) : AOK k (A.over (.forLoop t it body' [] env') [.ret RK none g l (.func body env) p []]) := by
  obtain ⟨a, b, c⟩ := h
  refine ⟨a, ?_, ?_⟩
  · show A.depth + (1 + 0) + 0 + k < _; omega
  · show A.units + (3 + 0) + 0 + 3 * k + 200 < _; omega

/-- all that stands is leant on, but for the frame's own names -/
noncomputable def allBut (h : Heap) (L : Addr) : G := fun b => if b = L then none else h.get? b
theorem SR.max {env : Env} {own : Nat → Addr} {g fix : G} {σ : St} {h : Heap} (S : SR I env ns own g fix σ h) (hcl : env.cells = []) (hno : ∀ (i : Nat) (l : List D), σ[i]? ≠ some (.mt l)) : SR I env ns own g (allBut h env.locals) σ h := by
  have sf : Sub fix (allBut h env.locals) := fun b o e => by
    unfold allBut
    rw [if_neg (fun q => by rw [q, S.fixL] at e; cases e)]
    exact S.sub b o e
  exact {
    gfix := S.gfix.trans sf
    sub := fun b o e => by
      unfold allBut at e
      split at e
      · cases e
      · exact e
    base := let ⟨h₀, a, b⟩ := S.base; ⟨h₀, a, b.trans sf⟩
    frame := S.frame
    fixL := by unfold allBut; rw [if_pos rfl]
    cells := fun n c hc => by rw [hcl] at hc; cases hc
    apart := fun n n' c hc _ => by rw [hcl] at hc; cases hc
    imm := S.imm
    mtd := fun i x l _ hi => absurd hi (hno i l)
    inj := fun i j l l' hi _ _ => absurd hi (hno i l) }

theorem gen_first {A : Around} {env : Env} {own : Nat → Addr} {g fixC : G} {σ0 σ1 σ2 : St} {s : Shared} {W : Addr → Prop} {vals : List Int} {x y : Str} {px py ypos epos fpos : Pos} {e : Expr} {ix iy fuel : Nat} {Fe : Ev} {F1 F2 : Run} {st1 st2 : Stmt}
    (hc : ScS sc ns) (hco : sc.isCoroutine = false) (hS : EnvS sc env) (hcl : env.cells = []) (h1 : RunOK I k sc ns (exec st1) F1) (h2 : RunOK I k sc ns (exec st2) F2)
    (hr1 : F1 fuel σ0 = some (σ1, .next)) (hr2 : F2 fuel σ1 = some (σ2, .next)) (hno : ∀ (i : Nat) (l : List D), σ0[i]? ≠ some (.mt l)) (hst : σ2[iy]? = some (.mt (intsD vals))) (hz : vals.length ≤ sizeLine)
    (hx : ns[ix]? = some x) (hxl : sc.names.lookup x = some .local) (hy : ns[iy]? = some y) (hyd : (y == ("__debug__" : Str)) = false) (hfold : ∀ v, foldedSetIterable (.Name y py) env v = pure v)
    (he : EvOK I k sc ns e Fe) (hF : ∀ a, Fe (xr ns.length ix a) = some (.int a)) (hA : AOK (k + 1) A)
    (S : SR I env ns own g fixC σ0 s.heap) (hW : ∀ b, W b → (s.heap.get? b).isSome = true ∧ b ≠ env.locals ∧ fixC b = none) :
    Seg (model I.prog I.w) A (gR env.locals fun b => (s.heap.get? b).isSome = true) (gY env.locals (fun b => (s.heap.get? b).isSome = true) W vals) vals.length s
      (.func [st1, st2, .For (.Name x px) (.Name y py) [.Expr (.Yield (some e) ypos) epos] [] fpos] env)
      ((model I.prog I.w).den (.func [st1, st2, .For (.Name x px) (.Name y py) [.Expr (.Yield (some e) ypos) epos] [] fpos] env)) [] s := by
  have Sm := S.max hcl hno
  have hA0 : AOK k (A.over (.func [st1, st2, .For (.Name x px) (.Name y py) [.Expr (.Yield (some e) ypos) epos] [] fpos] env) []) := hA.over0
  refine seg_func (seg_execs_cons (seg_wrap (h1 env _ own g _ σ0 s fuel σ1 .next _ _ hS hA0 Sm hr1 fun own1 g1 fix1 e1 tk1 f1 S1 A1 hf1 => ?_)))
  rw [show f1 = .next from hf1]
  refine seg_execs_cons (seg_wrap (h2 env _ own1 g1 fix1 σ1 _ fuel σ2 .next _ _ hS hA0 S1 hr2 fun own2 g2 fix2 e2 tk2 f2 S2 A2 hf2 => ?_))
  rw [show f2 = .next from hf2]
  have AA := A1.trans A2
  have live : ∀ b o, s.heap.get? b = some o → b ≠ env.locals → fix2 b = some o := fun b o q hb => AA.ff b o (by unfold allBut; rw [if_neg hb]; exact q)
  obtain ⟨hh, hO⟩ := S2.mtd iy y (intsD vals) hy hst
  obtain ⟨vs, nn, p1, p2⟩ := hO.obj
  have hl : e2.IsList (own2 iy) vs := ⟨_, p1, rfl, nn, rfl⟩
  refine seg_execs_cons (seg_For hfold (wpAny_Name (loadName_ok (s := { s with heap := e2, toks := tk2 }) hS hc.kind hh (wpAny_pyIter_list hl fun p => ?_)) hyd))
  have hnone := fresh_none e2
  have hfr : ∃ m, e2.Ns env.locals m := S2.frame
  have hLlive : ∃ o, e2.get? env.locals = some o := by obtain ⟨m, o, es, ep, q, r⟩ := hfr; exact ⟨o, q⟩
  have hIL : e2.objs.size ≠ env.locals := fun q => by obtain ⟨o, z⟩ := hLlive; rw [← q, hnone] at z; cases z
  have hIS : own2 iy ≠ e2.objs.size := fun q => by rw [q, hnone] at p1; cases p1
  have fixlive : ∀ b o, fixC b = some o → fix2 b = some o ∧ b ≠ env.locals := fun b o q => by
    have hb : b ≠ env.locals := fun z => by rw [z, S.fixL] at q; cases q
    exact ⟨live b o (S.sub b o q) hb, hb⟩
  have hsin : GSince env.locals (fun b => (s.heap.get? b).isSome = true) s { s with heap := e2, toks := tk2 } := ⟨e2, tk2, rfl, fun b o _ hb q => S2.sub b o (live b o q hb)⟩
  have Wlive : ∀ b, W b → ∃ o, fix2 b = some o := fun b hb => by
    obtain ⟨q1, q2, _⟩ := hW b hb
    obtain ⟨o, ho⟩ := Option.isSome_iff_exists.mp q1
    exact ⟨o, live b o ho q2⟩
  refine gen_loop (S := own2 iy) (It := e2.objs.size) (vs := vs) (old := fun b => (s.heap.get? b).isSome = true) (fixC := fixC) (ns := ns) (k := k) (sc := sc) (I := I) rfl rfl hS hc.kind hco hx hxl hc.nd
    (let ⟨h₀, a, b⟩ := S.base; ⟨h₀, a, b⟩) hA.over1 (Walks.list hA.over1.1 e2.objs.size (own2 iy) hIS vs) ?_ ?_ he hF hIL hO.loc ?_ S.fixL ?_ ?_ ?_ ?_ ?_ ?_ vals.length 0 s _ rfl (Nat.zero_le _) ?_ ?_
  · intro j u hu
    have hj : j < (intsD vals).length := by
      have h3 := (Array.getElem?_eq_some_iff.mp hu).1
      have h4 := p2.length
      rw [Array.length_toList] at h4
      omega
    obtain ⟨w, hw, hI⟩ := p2.get (List.getElem?_eq_getElem hj)
    have : vs[j]? = some w := by simpa using hw
    rw [hu] at this; cases this
    have hj' : j < vals.length := by rw [intsD_length] at hj; exact hj
    have e3 : (intsD vals)[j] = .int vals[j] := by simp [intsD]
    rw [e3] at hI
    obtain ⟨t, rfl⟩ := hI
    exact ⟨vals[j], t, List.getElem?_eq_getElem hj', rfl⟩
  · have h4 := p2.length
    rw [Array.length_toList, intsD_length] at h4
    exact h4
  · cases q : fixC e2.objs.size with
    | none => rfl
    | some o => have := S2.sub _ o (fixlive _ o q).1; rw [hnone] at this; cases this
  · intro hb
    obtain ⟨o, ho⟩ := Option.isSome_iff_exists.mp hb
    have := S2.sub _ o (live _ o ho hIL)
    rw [hnone] at this; cases this
  · intro hb
    obtain ⟨o, ho⟩ := Wlive _ hb
    have := S2.sub _ o ho
    rw [hnone] at this; cases this
  · intro hb
    obtain ⟨o, ho⟩ := Wlive _ hb
    rw [hO.off] at ho; cases ho
  · exact fun hb => (hW _ hb).2.1 rfl
  · intro b o q hb
    rw [(hW b hb).2.2] at q; cases q
  · intro s₀ s' hs
    exact seg_end (.ok (.ret .none)) ⟨rfl, rfl, hs⟩
  · refine ⟨let ⟨m, q⟩ := hfr; ⟨m, q.keeps (Grow.push _ _)⟩, ⟨⟨_, Heap.get?_push_size _ rfl, rfl, rfl⟩, hl.push _⟩, fun b o q => Heap.get?_push_of_some _ (S2.sub b o (fixlive b o q).1)⟩
  · exact hsin.step (tk := tk2) fun b o _ _ q => Heap.get?_push_of_some _ q
end
end Mine
end
section
open PySem PySem.W PyProof.Rows PySem.Spec
set_option linter.unusedVariables false
set_option Elab.async false
set_option maxRecDepth 100000
namespace Mine
section
variable {I : GI} {k : Nat} {sc : Scope} {ns : List Str}

/-- the frame at hand stands, whatever one address that it does not lean on is made -/
theorem SR.other {env : Env} {own : Nat → Addr} {g fix : G} {σ : St} {h h₁ : Heap} {i : Addr} (S : SR I env ns own g fix σ h) (hcl : env.cells = []) (hno : ∀ (j : Nat) (l : List D), σ[j]? ≠ some (.mt l)) (hk : ∀ b o, b ≠ i → h.get? b = some o → h₁.get? b = some o) (hf : fix i = none)
    (hL : env.locals ≠ i) : SR I env ns own g fix σ h₁ := {
  gfix := S.gfix
  sub := fun b o e => hk b o (fun q => by rw [q, hf] at e; cases e) (S.sub b o e)
  base := S.base
  frame := let ⟨m, o, es, ep, e, r⟩ := S.frame; ⟨m, o, es, ep, hk _ _ hL e, r⟩
  fixL := S.fixL
  cells := fun n c hc => by rw [hcl] at hc; cases hc
  apart := fun n n' c hc _ => by rw [hcl] at hc; cases hc
  imm := fun j x d hx hd => by
    obtain ⟨v, a, b⟩ := S.imm j x d hx hd
    refine ⟨v, a, ?_⟩
    rcases b with ⟨p, m, ⟨o, es, ep, e, r⟩, q⟩ | ⟨p, c, hc, _⟩
    · exact .inl ⟨p, m, ⟨o, es, ep, hk _ _ hL e, r⟩, q⟩
    · rw [hcl] at hc; cases hc
  mtd := fun j x l _ hi => absurd hi (hno j l)
  inj := fun j j' l l' hi _ _ => absurd hi (hno j l) }

theorem startSt_no {ds : List D} {n : Nat} : ∀ (j : Nat) (l : List D), (startSt ds n)[j]? ≠ some (.mt l) := fun j l h => by
  rcases startSt_get h with q | ⟨d, _, q⟩ <;> cases q

noncomputable def genObj (g : Nat) (nm qn : Str) (t t' : Tok) : Obj := { cls := .type "generator", data := .fields #[.int g 0, .str nm t, .str qn t'] }
/-- a generator's making -/
theorem gen_call {x : Str} {params : Arguments} {body : List Stmt} {m : Nat} (hat : FnAt I x params body sc) (hc : ScS sc ns) (hm : m ≤ ns.length)
    (hbind : ∀ pm cd doc vs, vs.length = m → bindArgs (Calls.docDef x params body sc pm cd doc) ⟨vs, []⟩ = pure ((ns.take m).zip vs)) (hco : sc.isCoroutine = false) (hgen : sc.isGenerator = true) (hcl : ∀ n, cellsFrom n sc.names [] = []) (hlo : ∀ y ∈ ns, sc.names.lookup y = some .local) :
    ∃ a, I.mg x = some (.ref a) ∧ (∀ h, I.Gl h → Looks (model I.prog I.w) h (keeperOf (.ref a)) .frame) ∧
    ∀ (A : Around) (g fixC : G) (s : Shared) (ds : List D) (vs : List Value) (Q : Value → Shared → Prop) (E : Value → Shared → Prop), A.depth < recursionLimit → I.Gl s.heap → Sub g fixC → Sub fixC s.heap.get? → (∃ h₀, I.Gl h₀ ∧ Sub h₀.get? fixC) → IsL g ds vs → ds.length = m →
      (∀ env h₁ tk o, EnvS sc env → env.cells = [] → o = genObj s.gens.size x x tk (tk + 1) → SR I env ns (fun _ => 0) g fixC (startSt ds ns.length) (h₁.push o) → env.locals = s.heap.objs.size → env.locals < h₁.objs.size → Grow s.heap h₁ →
        Q (.ref h₁.objs.size) { s with heap := h₁.push o, toks := tk + 1 + 1, gens := s.gens.push (.fresh (.func body env)) }) → wpAny (model I.prog I.w) A (call (.ref a) vs) Q E s := by
  obtain ⟨a, hmg, hgl⟩ := hat.at_
  refine ⟨a, hmg, fun h hG => ?_, ?_⟩
  · obtain ⟨o, pm, code, doc, ho, hd, _⟩ := hgl h hG
    refine (Looks.ld (part := none) ho).andThen ?_
    rw [hd]; exact Looks.now
  · intro A g fixC s ds vs Q E hroom gl hgf hfs hbase hv hlen P
    obtain ⟨o, pm, code, doc, ho, hd, hcd⟩ := hgl s.heap gl
    have hvl : vs.length = m := by rw [hv.length, hlen]
    refine wpAny_call (codeAny_call_generator (fd := Calls.docDef x params body sc pm code doc) hroom ho hd hco hgen rfl hcd ?_)
    rw [hbind pm code doc vs hvl]
    refine wpAny_pure (wpAny_newFunctionEnv_cells hc.kind ?_ fun env he s₁ X => ?_)
    · intro y hy
      have hmem := List.mem_of_mem_take (List.of_mem_zip (a := y.1) (b := y.2) hy).1
      exact .inl (hlo y.1 hmem)
    · have X' : InCallC s env.locals (bindL env.kindOf ((ns.take m).zip vs) fun _ => none) env.cells (bindC env.kindOf ((ns.take m).zip vs) fun _ => none) s₁ := X
      have esc : env.scope = sc := by rw [he]; rfl
      have eloc : env.locals = s.heap.objs.size := by rw [he]; rfl
      have ecl : env.cells = [] := by rw [he]; exact hcl _
      have hS : EnvS sc env := ⟨esc, by rw [he]; rfl, by rw [he]; rfl, fun y hy => by rw [he]; exact cellsFrom_some' _ _ _ hy⟩
      obtain ⟨h₁, tk₁, rfl⟩ := X'.toInCall.same
      have hkeep : Grow s.heap h₁ := X'.toInCall.keep
      have hnone := fresh_none s.heap
      have S : SR I env ns (fun _ => 0) g fixC (startSt ds ns.length) h₁ := {
        gfix := hgf
        sub := fun b o e => hkeep b o (hfs b o e)
        base := hbase
        frame := ⟨_, X'.toInCall.ns⟩
        fixL := by rw [eloc]; exact Sub.none hfs hnone
        cells := fun n c hc2 => by rw [ecl] at hc2; cases hc2
        apart := fun n n' c h1 _ => by rw [ecl] at h1; cases h1
        imm := fun i y d' hy hd' => by
          rcases startSt_get hd' with q | ⟨d2, q, e⟩
          · cases q
          · cases e
            obtain ⟨v, hv1, hv2⟩ := hv.get q
            refine ⟨v, hv2, ?_⟩
            have hi : i < m := by
              have := (List.getElem?_eq_some_iff.mp q).1
              omega
            have hy' : (ns.take m)[i]? = some y := by rw [List.getElem?_take_of_lt hi]; exact hy
            have nd' : (ns.take m).Nodup := List.Nodup.sublist (List.take_sublist m ns) hc.nd
            have hk : env.kindOf y = some .local := by unfold Env.kindOf; rw [esc]; exact hlo y (List.mem_of_getElem? hy)
            exact .inl ⟨hk, _, X'.toInCall.ns, bindL_get nd' hy' hv1 hk⟩
        mtd := fun i y l _ hd' => absurd hd' (startSt_no i l)
        inj := fun i j l l' hd' _ _ => absurd hd' (startSt_no i l) }
      refine ⟨(I.nolimit gl).keeps hkeep, ?_⟩
      have hLt : env.locals < h₁.objs.size := by
        obtain ⟨m', o', es, ep, e, r⟩ := S.frame
        exact Heap.lt_size e
      exact P env h₁ tk₁ _ hS ecl rfl (S.keep (Grow.push _ _)) eloc hLt hkeep
end
end Mine
end
section
open PySem PySem.W PyProof.Rows PySem.Spec
set_option linter.unusedVariables false
set_option Elab.async false
set_option maxRecDepth 100000
namespace Mine

/-- a generator that a list S takes up: St what stands before each value, Fin what stands behind all -/
structure GW (prog : Program) (w : World) (A : Around) (ga S : Addr) (n : Nat) (P : Nat → Value → Prop) (St : Nat → Shared → Prop) (Fin : Shared → Prop) : Prop where
  gen : ∀ i s, St i s → ∃ g, s.heap.IsGen ga g
  ne : S ≠ ga
  frame : ∀ i (s : Shared) h', St i s → (∀ b o, b ≠ S → s.heap.get? b = some o → h'.get? b = some o) → (h'.get? S).isSome = true → St i { s with heap := h' }
  item : ∀ i (s : Shared) (Q : Option Value → Shared → Prop) (E : Value → Shared → Prop), i < n → St i s →
    (∀ v s', P i v → St (i + 1) s' → (∀ o, s.heap.get? S = some o → s'.heap.get? S = some o) → Q (some v) s') → wpAny (model prog w) A (pyNext (.ref ga)) Q E s
  done : ∀ (s : Shared) (Q : Option Value → Shared → Prop) (E : Value → Shared → Prop), St n s →
    (∀ s', Fin s' → (∀ o, s.heap.get? S = some o → s'.heap.get? S = some o) → Q none s') → wpAny (model prog w) A (pyNext (.ref ga)) Q E s

section
variable {prog : Program} {w : World} {A : Around} {R : Result → Shared → Prop} {ga S : Addr} {n : Nat} {P : Nat → Value → Prop} {St : Nat → Shared → Prop} {Fin : Shared → Prop}

theorem GW.loop (X : GW prog w A.in1 ga S n P St Fin) (hn : n ≤ sizeLine) (res : Value) : ∀ (m i : Nat) (s : Shared) (acc : Array Value) (c : Nat), n - i = m → i ≤ n → St i s → s.heap.get? S = some (lobj acc c) → ItemsOf P acc i →
    (∀ s' acc' c', Fin s' → s'.heap.get? S = some (lobj acc' c') → ItemsOf P acc' n → R (.ok (.ret res)) s') →
    codeAny (model prog w) A (.builtin "list.extend.loop" ⟨[.ref S, .ref ga, res], []⟩) R s := by
  intro m
  induction m with
  | zero =>
    intro i s acc c hm hi hst hS hacc hR
    have e : i = n := by omega
    subst e
    refine codeAny_builtin F.entry_extend_loop ?_
    rw [Around.under_plainId F.plain_extend_loop _]
    exact wpAny_bind (X.done s _ _ hst fun s' hf hk => wpAny_pure (hR s' acc c hf (hk _ hS) hacc))
  | succ m ih =>
    intro i s acc c hm hi hst hS hacc hR
    refine codeAny_builtin F.entry_extend_loop ?_
    rw [Around.under_plainId F.plain_extend_loop _]
    refine wpAny_bind (X.item i s _ _ (by omega) hst fun v s' hP hst' hk => ?_)
    have hS' := hk _ hS
    refine wpAny_bind (wpAny_updateSeq hS' rfl (wpAny_pure ⟨plainId_quiet F.plain_extend_loop _, ih (i + 1) _ (acc.push v) _ (by omega) (by omega) (X.frame _ s' _ hst' (fun b o hb q => (Heap.get?_update_other _ _ (Ne.symm hb)).trans q) (Option.isSome_iff_exists.mpr ⟨_, Heap.get?_update_self _ hS' rfl⟩)) (Heap.get?_update_self _ hS' rfl) (hacc.push hP) hR⟩) ?_ ?_)
    · rw [hacc.1]; omega
    · show (acc.push v).size ≤ sizeLine + 1
      rw [Array.size_push, hacc.1]; omega

theorem GW.extend (X : GW prog w A.in1 ga S n P St Fin) (hn : n ≤ sizeLine) (res : Value) {s : Shared} {c₀ : Nat} (hst : St 0 s) (hS : s.heap.get? S = some (lobj #[] c₀))
    (hR : ∀ s' acc' c', Fin s' → s'.heap.get? S = some (lobj acc' c') → ItemsOf P acc' n → R (.ok (.ret res)) s') :
    wpAny (model prog w) A.in1 (Builtin.List.listExtendWith (.ref S) (.ref ga) res)
      (fun fin s' => match fin with | .done f => R (.ok f) s' | .again c' => c'.quiet = true ∧ codeAny (model prog w) A c' R s') (fun e s' => R (.error e) s') s := by
  obtain ⟨g, hg⟩ := X.gen 0 s hst
  have h1 : Builtin.List.listSameRef (.ref S) (.ref ga) = false := by simp [Builtin.List.listSameRef, X.ne]
  have h2 : (Value.type "generator" == Value.type "list") = false := by decide
  have h3 : (Value.type "generator" == Value.type "tuple") = false := by decide
  unfold Builtin.List.listExtendWith
  refine wpAny_bind (wpAny_typeOf hg.typeIs ?_)
  simp only [h1, h2, h3, Bool.or_false, Bool.false_eq_true, if_false]
  refine wpAny_bind (wpAny_pyIter_gen hg (wpAny_bind (wpAny_holding ?_)))
  unfold Builtin.List.listLengthHint
  refine wpAny_bind (wpAny_specialOf hg.typeIs F.gen_no_len ?_)
  show wpAny _ A.in1 (specialOf (Value.ref ga) (Str.ofString "__length_hint__") >>= _) _ _ _
  refine wpAny_bind (wpAny_specialOf hg.typeIs F.gen_no_hint (wpAny_pure ?_))
  show wpAny _ A.in1 (rule "list.extend.makes-room" >>= fun _ => (updateSeq S (·.push .none) >>= fun _ => updateSeq S (·.pop)) >>= fun _ =>
    again (.builtin "list.extend.loop" ⟨[.ref S, .ref ga, res], []⟩)) _ _ _
  have k1 := Heap.get?_update_self (Obj.mapSeq (·.push Value.none)) hS rfl
  have k2 := Heap.get?_update_self (Obj.mapSeq (·.pop)) k1 rfl
  refine wpAny_bind (wpAny_rule (wpAny_bind (wpAny_bind (wpAny_updateSeq hS rfl (wpAny_updateSeq (hz := by seq_fits) k1 rfl (wpAny_pure ⟨plainId_quiet F.plain_extend_loop _, ?_⟩))))))
  exact X.loop hn res n 0 _ _ _ rfl (Nat.zero_le _) (X.frame 0 s _ hst (fun b o hb q => (Heap.get?_update_other _ _ (Ne.symm hb)).trans ((Heap.get?_update_other _ _ (Ne.symm hb)).trans q)) (Option.isSome_iff_exists.mpr ⟨_, k2⟩)) k2 (ItemsOf.nil P) hR
end

section
variable {prog : Program} {w : World} {A : Around} {E : Value → Shared → Prop} {ga : Addr} {n : Nat} {P : Nat → Value → Prop} {St : Nat → Shared → Prop} {Fin : Shared → Prop}
theorem GW.list {s : Shared} {Q : Value → Shared → Prop} (X : GW prog w A.in1.in1 ga s.heap.objs.size n P St Fin) (hn : n ≤ sizeLine) (hst : St 0 { s with heap := s.heap.push (lobj #[] 0) })
    (hQ : ∀ s' acc' c', Fin s' → s'.heap.get? s.heap.objs.size = some (lobj acc' c') → ItemsOf P acc' n → Q (.ref s.heap.objs.size) s') : wpAny (model prog w) A (call (.type "list") [.ref ga]) Q E s := by
  refine callType_codes (Q₁ := fun obj s₁ => obj = .ref s.heap.objs.size ∧ s₁ = { s with heap := s.heap.push (lobj #[] 0) }) F.called_list (F.typeCall_list_1 _) F.entry_list_init
    (code_list_new _ ⟨rfl, rfl⟩) fun obj s₁ h₁ => ?_
  obtain ⟨rfl, rfl⟩ := h₁
  have hS : (s.heap.push (lobj #[] 0)).get? s.heap.objs.size = some (lobj #[] 0) := Heap.get?_push_size _ rfl
  refine ⟨⟨_, hS, rfl⟩, F.args_list_init_2 _ _, ?_⟩
  show wpAny _ A.in1.in1 (do let old ← Builtin.List.listItems (.ref s.heap.objs.size); Builtin.List.listUpdate (.ref s.heap.objs.size) (fun _ => #[]); letGo old.toList.reverse; Builtin.List.listExtendWith (.ref s.heap.objs.size) (.ref ga) .none) _ _ _
  unfold Builtin.List.listItems
  refine wpAny_bind (wpAny_bind (wpAny_seqItems hS rfl (wpAny_pure ?_)))
  have k1 := Heap.get?_update_self (Obj.mapSeq (fun _ => (#[] : Array Value))) hS rfl
  show wpAny _ A.in1.in1 (updateSeq s.heap.objs.size (fun _ => #[]) >>= fun _ => letGo (#[] : Array Value).toList.reverse >>= fun _ => Builtin.List.listExtendWith (.ref s.heap.objs.size) (.ref ga) .none) _ _ _
  refine wpAny_bind (wpAny_updateSeq hS rfl (wpAny_bind (wpAny_letGo ?_)))
  exact X.extend hn .none (X.frame 0 _ _ hst (fun b o hb q => (Heap.get?_update_other _ _ (Ne.symm hb)).trans q) (Option.isSome_iff_exists.mpr ⟨_, k1⟩)) k1 fun s' acc' c' hf hS' hacc => ⟨rfl, hQ s' acc' c' hf hS' hacc⟩
end
end Mine
end
section
open PySem PySem.W PyProof.Rows PySem.Spec
set_option linter.unusedVariables false
set_option Elab.async false
set_option maxRecDepth 100000
namespace Mine
section
variable {I : GI} {k : Nat} {sc : Scope} {ns : List Str}

theorem set_push {B : Array GenState} {x y : GenState} : (B.push y).setIfInBounds B.size x = B.push x := by
  apply Array.ext'
  simp
theorem setGen_push {s : Shared} {B : Array GenState} {x y : GenState} (h : s.gens = B.push y) : s.setGen B.size x = { s with gens := B.push x } := by
  unfold Shared.setGen
  rw [h, set_push]
theorem AOK.in1s {A : Around} (h : AOK (k + 1) A) : AOK k A.in1.in1.in1 := by
  obtain ⟨a, b, c⟩ := h
  refine ⟨a, ?_, ?_⟩
  · show A.depth + k < _; omega
  · show A.units + 1 + 1 + 1 + 3 * k + 200 < _; omega
theorem isGen_but {h h' : Heap} {ga S : Addr} {g : Nat} (x : h.IsGen ga g) (hk : ∀ b o, b ≠ S → h.get? b = some o → h'.get? b = some o) (hne : ga ≠ S) : h'.IsGen ga g :=
  let ⟨o, nm, qn, ho, r⟩ := x; ⟨o, nm, qn, hk _ _ hne ho, r⟩

theorem some_live {h : Heap} {b : Addr} {o : Obj} (q : h.get? b = some o) : (h.get? b).isSome = true := by rw [q]; rfl
noncomputable def gSt (I : GI) (ns : List Str) (A : Around) (env : Env) (own : Nat → Addr) (g fixC : G) (σ0 : St) (body : List Stmt) (vals : List Int) (ga S : Addr) (sI : Shared) : Nat → Shared → Prop
  | 0 => fun s' => ∃ h tk, s' = { sI with heap := h, toks := tk, gens := sI.gens.push (.fresh (.func body env)) } ∧ SR I env ns own g fixC σ0 h ∧ h.IsGen ga sI.gens.size ∧ Grow sI.heap h ∧ (h.get? S).isSome = true
  | j + 1 => fun s' => ∃ h tk gs old, s' = { sI with heap := h, toks := tk, gens := sI.gens.push gs } ∧ h.IsGen ga sI.gens.size ∧ Grow sI.heap h ∧ (∀ b, (sI.heap.get? b).isSome = true → old b) ∧ old S ∧ old ga ∧
      ∀ s'' : Shared, (∀ b o, b ≠ S → h.get? b = some o → s''.heap.get? b = some o) → gs.Goes (model I.prog I.w) A.in1 (gR env.locals old) (gY env.locals old (· = S) vals) (vals.length - (j + 1)) (.send .none) s''
noncomputable def gFin (sI : Shared) (s' : Shared) : Prop := ∃ h tk, s' = { sI with heap := h, toks := tk, gens := sI.gens.push .finished } ∧ Grow sI.heap h

theorem gen_gw {A : Around} {env : Env} {own : Nat → Addr} {g fixC : G} {σ0 σ1 σ2 : St} {sI : Shared} {ga S : Addr} {vals : List Int} {x y : Str} {px py ypos epos fpos : Pos} {e : Expr} {ix iy fuel : Nat} {Fe : Ev} {F1 F2 : Run} {st1 st2 : Stmt} {body : List Stmt} (hbody : body = [st1, st2, .For (.Name x px) (.Name y py) [.Expr (.Yield (some e) ypos) epos] [] fpos])
    (hc : ScS sc ns) (hco : sc.isCoroutine = false) (hS : EnvS sc env) (hcl : env.cells = []) (h1 : RunOK I k sc ns (exec st1) F1) (h2 : RunOK I k sc ns (exec st2) F2)
    (hr1 : F1 fuel σ0 = some (σ1, .next)) (hr2 : F2 fuel σ1 = some (σ2, .next)) (hno : ∀ (i : Nat) (l : List D), σ0[i]? ≠ some (.mt l)) (hst : σ2[iy]? = some (.mt (intsD vals))) (hz : vals.length ≤ sizeLine)
    (hx : ns[ix]? = some x) (hxl : sc.names.lookup x = some .local) (hy : ns[iy]? = some y) (hyd : (y == ("__debug__" : Str)) = false) (hfold : ∀ v, foldedSetIterable (.Name y py) env v = pure v)
    (he : EvOK I k sc ns e Fe) (hF : ∀ a, Fe (xr ns.length ix a) = some (.int a)) (hA : AOK (k + 1) A.in1)
    (hgl : I.Gl sI.heap) (hL : sI.heap.get? env.locals = none) (hSn : sI.heap.get? S = none) (hSf : fixC S = none) (hSL : S ≠ env.locals) (hgS : ga ≠ S) (hgL : ga ≠ env.locals) :
    GW I.prog I.w A ga S vals.length (fun j v => ∃ a t, vals[j]? = some a ∧ v = .int a t) (gSt I ns A env own g fixC σ0 body vals ga S sI) (gFin sI) := by
  subst hbody
  have liveNe : ∀ b, (sI.heap.get? b).isSome = true → b ≠ S ∧ b ≠ env.locals := fun b hb => ⟨fun q => (by rw [q, hSn] at hb; cases hb), fun q => (by rw [q, hL] at hb; cases hb)⟩
  have growOf : ∀ {h h' : Heap}, Grow sI.heap h → (∀ b o, b ≠ S → b ≠ env.locals → h.get? b = some o → h'.get? b = some o) → Grow sI.heap h' := fun hg hk b o q => by
    obtain ⟨n1, n2⟩ := liveNe b (some_live q)
    exact hk b o n1 n2 (hg b o q)
  have glOf : ∀ {h : Heap}, Grow sI.heap h → I.Gl h := fun hg => I.grow hgl hg
  have hh : A.handled = none := hA.1
  have hroom : A.depth < recursionLimit := by have := hA.2.1; show A.depth < _; change A.depth + (k + 1) < _ at this; omega
  have gens_get : ∀ {x : GenState}, (sI.gens.push x)[sI.gens.size]? = some x := Array.getElem?_push_size ..
  refine ⟨?_, Ne.symm hgS, ?_, ?_, ?_⟩
  · intro i s' hs
    cases i with
    | zero => obtain ⟨h, tk, rfl, _, hg, _⟩ := hs; exact ⟨_, hg⟩
    | succ j => obtain ⟨h, tk, gs, old, rfl, hg, _⟩ := hs; exact ⟨_, hg⟩
  · intro i s' h' hs hk hlv
    cases i with
    | zero =>
      obtain ⟨h, tk, rfl, hSR, hg, hgr, _⟩ := hs
      exact ⟨h', tk, rfl, hSR.other hcl hno hk hSf (Ne.symm hSL), isGen_but hg hk hgS, growOf hgr fun b o n1 _ q => hk b o n1 q, hlv⟩
    | succ j =>
      obtain ⟨h, tk, gs, old, rfl, hg, hgr, ho1, ho2, ho3, hgo⟩ := hs
      exact ⟨h', tk, gs, old, rfl, isGen_but hg hk hgS, growOf hgr fun b o n1 _ q => hk b o n1 q, ho1, ho2, ho3, fun s'' hal => hgo s'' fun b o n1 q => hal b o n1 (hk b o n1 q)⟩
  · intro i s' Q E hi hs hQ
    obtain ⟨m, hm⟩ : ∃ m, vals.length - i = m + 1 := ⟨vals.length - i - 1, by omega⟩
    cases i with
    | zero =>
      obtain ⟨h, tk, rfl, hSR, hg, hgr, hlv⟩ := hs
      have hseg := gen_first (A := A.in1) (W := fun b => b = S) (vals := vals) (px := px) (py := py) (ypos := ypos) (epos := epos) (fpos := fpos) hc hco hS hcl h1 h2 hr1 hr2 hno hst hz hx hxl hy hyd hfold he hF hA
        (s := ({ sI with heap := h, toks := tk, gens := sI.gens.push (.fresh (.func [st1, st2, .For (.Name x px) (.Name y py) [.Expr (.Yield (some e) ypos) epos] [] fpos] env)) } : Shared).setGen sI.gens.size .running) hSR (fun b hb => by subst hb; exact ⟨hlv, hSL, hSf⟩)
      have hlen : vals.length = m + 1 := by omega
      rw [hlen] at hseg
      refine wpAny_pyNext_gen (n := m + 1) (P := fun n s₀ s₁ => n = 0 ∧ GSince env.locals (fun b => (h.get? b).isSome = true) s₀ s₁) (Y := gY env.locals (fun b => (h.get? b).isSome = true) (fun b => b = S) vals) hh (I.nolimit (glOf hgr)) hroom hg gens_get ⟨rfl, hseg⟩ (fun v s₁ gs' hv => ?_) (fun s₁ hp => absurd hp.1 (Nat.succ_ne_zero m))
      obtain ⟨⟨a, t, ha, rfl⟩, ⟨h₁, tk₁, rfl, hk₁⟩, hkap⟩ := hv
      rw [setGen_push (B := sI.gens) (y := .running) (by rw [setGen_push (B := sI.gens) rfl])]
      have e0 : vals.length - 1 - (m + 1 - 1) = 0 := by omega
      rw [e0] at ha
      have old_of : ∀ {b o}, b ≠ env.locals → h.get? b = some o → h₁.get? b = some o := fun hb q => hk₁ _ _ (some_live q) hb q
      obtain ⟨og, nm, qn, hog, rr⟩ := id hg
      refine hQ _ _ ⟨a, t, ha, rfl⟩ ⟨h₁, tk₁, gs', (fun b => (h.get? b).isSome = true), rfl, ⟨og, nm, qn, old_of hgL hog, rr⟩, growOf hgr fun b o _ n2 q => old_of n2 q, fun b hb => ?_, hlv, some_live hog, fun s'' hal => ?_⟩ fun o q => old_of hSL q
      · obtain ⟨o, q⟩ := Option.isSome_iff_exists.mp hb
        exact Option.isSome_iff_exists.mpr ⟨o, hgr _ _ q⟩
      · have e1 : vals.length - (0 + 1) = m := by omega
        rw [e1]
        exact hkap s'' fun b o n1 q => hal b o n1 q
    | succ j =>
      obtain ⟨h, tk, gs, old, rfl, hg, hgr, ho1, ho2, ho3, hgo⟩ := hs
      rw [hm] at hgo
      refine wpAny_pyNext_gen (n := m + 1) (P := fun n s₀ s₁ => n = 0 ∧ GSince env.locals old s₀ s₁) (Y := gY env.locals old (fun b => b = S) vals) hh (I.nolimit (glOf hgr)) hroom hg gens_get (hgo _ fun _ _ _ q => q) (fun v s₁ gs' hv => ?_) (fun s₁ hp => absurd hp.1 (Nat.succ_ne_zero m))
      obtain ⟨⟨a, t, ha, rfl⟩, ⟨h₁, tk₁, rfl, hk₁⟩, hkap⟩ := hv
      rw [setGen_push (B := sI.gens) (y := .running) (by rw [setGen_push (B := sI.gens) rfl])]
      have e0 : vals.length - 1 - (m + 1 - 1) = j + 1 := by omega
      rw [e0] at ha
      obtain ⟨og, nm, qn, hog, rr⟩ := id hg
      refine hQ _ _ ⟨a, t, ha, rfl⟩ ⟨h₁, tk₁, gs', old, rfl, ⟨og, nm, qn, hk₁ _ _ ho3 hgL hog, rr⟩, ?_, ho1, ho2, ho3, fun s'' hal => ?_⟩ fun o q => hk₁ _ _ ho2 hSL q
      · intro b o q
        obtain ⟨n1, n2⟩ := liveNe b (some_live q)
        exact hk₁ b o (ho1 b (some_live q)) n2 (hgr b o q)
      · have e1 : vals.length - (j + 1 + 1) = m := by omega
        rw [e1]
        exact hkap s'' fun b o n1 q => hal b o n1 q
  · intro s' Q E hs hQ
    cases hn : vals.length with
    | zero =>
      rw [hn] at hs
      obtain ⟨h, tk, rfl, hSR, hg, hgr, hlv⟩ := hs
      have hseg := gen_first (A := A.in1) (W := fun b => b = S) (vals := vals) (px := px) (py := py) (ypos := ypos) (epos := epos) (fpos := fpos) hc hco hS hcl h1 h2 hr1 hr2 hno hst hz hx hxl hy hyd hfold he hF hA
        (s := ({ sI with heap := h, toks := tk, gens := sI.gens.push (.fresh (.func [st1, st2, .For (.Name x px) (.Name y py) [.Expr (.Yield (some e) ypos) epos] [] fpos] env)) } : Shared).setGen sI.gens.size .running) hSR (fun b hb => by subst hb; exact ⟨hlv, hSL, hSf⟩)
      rw [hn] at hseg
      refine wpAny_pyNext_gen (n := 0) (P := fun n s₀ s₁ => n = 0 ∧ GSince env.locals (fun b => (h.get? b).isSome = true) s₀ s₁) (Y := gY env.locals (fun b => (h.get? b).isSome = true) (fun b => b = S) vals) hh (I.nolimit (glOf hgr)) hroom hg gens_get ⟨rfl, hseg⟩ (fun v s₁ gs' hv => ?_) (fun s₁ hp h' hk => ?_)
      · exact (hv.2.2 s₁ fun _ _ _ q => q).elim
      · obtain ⟨_, h₁, tk₁, rfl, hk₁⟩ := hp
        rw [setGen_push (B := sI.gens) (y := .running) (by rw [setGen_push (B := sI.gens) rfl])]
        exact hQ _ ⟨h', tk₁, rfl, growOf hgr fun b o _ n2 q => hk b o (hk₁ b o (some_live q) n2 q)⟩ fun o q => hk _ o (hk₁ _ o (some_live q) hSL q)
    | succ j =>
      rw [hn] at hs
      obtain ⟨h, tk, gs, old, rfl, hg, hgr, ho1, ho2, ho3, hgo⟩ := hs
      rw [hn, Nat.sub_self] at hgo
      refine wpAny_pyNext_gen (n := 0) (P := fun n s₀ s₁ => n = 0 ∧ GSince env.locals old s₀ s₁) (Y := gY env.locals old (fun b => b = S) vals) hh (I.nolimit (glOf hgr)) hroom hg gens_get (hgo _ fun _ _ _ q => q) (fun v s₁ gs' hv => ?_) (fun s₁ hp h' hk => ?_)
      · exact (hv.2.2 s₁ fun _ _ _ q => q).elim
      · obtain ⟨_, h₁, tk₁, rfl, hk₁⟩ := hp
        rw [setGen_push (B := sI.gens) (y := .running) (by rw [setGen_push (B := sI.gens) rfl])]
        refine hQ _ ⟨h', tk₁, rfl, fun b o q => ?_⟩ fun o q => hk _ o (hk₁ _ o ho2 hSL q)
        obtain ⟨n1, n2⟩ := liveNe b (some_live q)
        exact hk b o (hk₁ b o (ho1 b (some_live q)) n2 (hgr b o q))
end
end Mine
end
section
open PySem PySem.W PyProof.Rows PySem.Spec
set_option linter.unusedVariables false
set_option Elab.async false
set_option maxRecDepth 100000
namespace Mine

/-- as Post, where generators may have been made and run out -/
noncomputable def PostG (g : G) (s : Shared) (d : D) (Q : Value → Shared → Prop) : Prop :=
  ∀ v h' tk gs, Grow s.heap h' → AllBare gs → Is (ext g s.heap h') d v → Q v { s with heap := h', toks := tk, gens := gs }
theorem PostG.step {g : G} {s : Shared} {d : D} {Q : Value → Shared → Prop} {h₁ : Heap} {tk : Nat} {gs : Array GenState} (P : PostG g s d Q) (k₁ : Grow s.heap h₁) :
    PostG (ext g s.heap h₁) { s with heap := h₁, toks := tk, gens := gs } d Q := fun v h' tk' gs' k₂ hb h => P v h' tk' gs' (k₁.trans k₂) hb (by rw [ext_ext k₁ k₂] at h; exact h)
theorem PostG.post {g : G} {s : Shared} {d : D} {Q : Value → Shared → Prop} (P : PostG g s d Q) (hb : AllBare s.gens) : Post g s d Q := fun v h' tk k₁ h => P v h' tk s.gens k₁ hb h

noncomputable def EvG (I : GI) (k : Nat) (sc : Scope) (ns : List Str) (e : Expr) (F : Ev) : Prop :=
  ∀ (env : Env) (A : Around) (g : G) (r : R) (s : Shared) (d : D) (Q : Value → Shared → Prop) (E : Value → Shared → Prop),
    EnvS sc env → AOK k A → View I env ns g r s.heap → AllBare s.gens → F r = some d → PostG g s d Q → wpAny (model I.prog I.w) A (eval e env) Q E s
noncomputable def TrG (I : GI) (k : Nat) (sc : Scope) (ns : List Str) (e : Expr) (F : Tr) : Prop :=
  ∀ (env : Env) (A : Around) (g : G) (r : R) (s : Shared) (b : Bool) (Q : Bool → Shared → Prop) (E : Value → Shared → Prop),
    EnvS sc env → AOK k A → View I env ns g r s.heap → AllBare s.gens → F r = some b → (∀ h' tk gs, Grow s.heap h' → AllBare gs → Q b { s with heap := h', toks := tk, gens := gs }) → wpAny (model I.prog I.w) A (isTrue e env (eval e env)) Q E s
noncomputable def RunG (I : GI) (k : Nat) (sc : Scope) (ns : List Str) (t : Env → Sem Flow) (F : Run) : Prop :=
  ∀ (env : Env) (A : Around) (own : Nat → Addr) (g fix : G) (σ : St) (s : Shared) (fuel : Nat) (σ' : St) (fl : Fl) (Q : Flow → Shared → Prop) (E : Value → Shared → Prop),
    EnvS sc env → AOK k A → SR I env ns own g fix σ s.heap → AllBare s.gens → F fuel σ = some (σ', fl) →
    (∀ own' g' fix' h' tk gs f, SR I env ns own' g' fix' σ' h' → After g fix g' fix' → FlOK g' fix' h' fl f → AllBare gs → Q f { s with heap := h', toks := tk, gens := gs }) → wpAny (model I.prog I.w) A (t env) Q E s

section
variable {I : GI} {k : Nat} {sc : Scope} {ns : List Str}

theorem RunG.of {t : Env → Sem Flow} {F : Run} (h : RunOK I k sc ns t F) : RunG I k sc ns t F := fun env A own g fix σ s fuel σ' fl Q E hS hA S hb hF P =>
  h env A own g fix σ s fuel σ' fl Q E hS hA S hF fun own' g' fix' h' tk f S' A' hf => P own' g' fix' h' tk s.gens f S' A' hf hb
theorem RunG.cons {st : Stmt} {rest : List Stmt} {F Fs : Run} (h : RunG I k sc ns (exec st) F) (hs : RunG I k sc ns (execs rest) Fs) : RunG I k sc ns (execs (st :: rest)) (rSeq F Fs) := by
  intro env A own g fix σ s fuel σ' fl Q E hS hA S hb hF P
  unfold rSeq at hF
  refine wpAny_execs_cons ?_
  split at hF
  · rename_i σ₁ h1
    refine h env A own g fix σ s fuel σ₁ .next _ E hS hA S hb h1 fun own₁ g₁ fix₁ h₁ tk₁ gs₁ f S₁ A₁ hf hb₁ => ?_
    rw [show f = .next from hf]
    exact hs env A own₁ g₁ fix₁ σ₁ _ fuel σ' fl Q E hS hA S₁ hb₁ hF fun own₂ g₂ fix₂ h₂ tk₂ gs₂ f₂ S₂ A₂ hf₂ hb₂ => P own₂ g₂ fix₂ h₂ tk₂ gs₂ f₂ S₂ (A₁.trans A₂) hf₂ hb₂
  · rename_i hne
    refine h env A own g fix σ s fuel σ' fl _ E hS hA S hb hF fun own₁ g₁ fix₁ h₁ tk₁ gs₁ f S₁ A₁ hf hb₁ => ?_
    have q := P own₁ g₁ fix₁ h₁ tk₁ gs₁ f S₁ A₁ hf hb₁
    cases fl with
    | next => exact absurd hF (hne σ')
    | cont => rw [show f = .cont from hf] at q ⊢; exact q
    | ret d => obtain ⟨v, gR, rfl, _⟩ := hf; exact q
theorem RunG.ifS {test : Expr} {body orelse : List Stmt} {pos : Pos} {T : Tr} {F F' : Run} (ht : TrG I k sc ns test T) (hb : RunG I k sc ns (execs body) F) (ho : RunG I k sc ns (execs orelse) F') :
    RunG I k sc ns (exec (.If test body orelse pos)) (rIf T F F') := by
  intro env A own g fix σ s fuel σ' fl Q E hS hA S hbr hF P
  unfold rIf at hF
  split at hF
  · rename_i hT
    refine wpAny_If (ht env A _ (rdF σ) s true _ E hS hA S.viewF hbr hT fun h₁ tk₁ gs₁ kk hb₁ => ?_)
    exact hb env A own _ _ σ _ fuel σ' fl Q E hS hA (S.grow kk) hb₁ hF fun own₂ g₂ fix₂ h₂ tk₂ gs₂ f₂ S₂ A₂ hf₂ hb₂ => P own₂ g₂ fix₂ h₂ tk₂ gs₂ f₂ S₂ ((After.grow (S.gfix.trans S.sub) S.sub).trans A₂) hf₂ hb₂
  · rename_i hT
    refine wpAny_If (ht env A _ (rdF σ) s false _ E hS hA S.viewF hbr hT fun h₁ tk₁ gs₁ kk hb₁ => ?_)
    exact ho env A own _ _ σ _ fuel σ' fl Q E hS hA (S.grow kk) hb₁ hF fun own₂ g₂ fix₂ h₂ tk₂ gs₂ f₂ S₂ A₂ hf₂ hb₂ => P own₂ g₂ fix₂ h₂ tk₂ gs₂ f₂ S₂ ((After.grow (S.gfix.trans S.sub) S.sub).trans A₂) hf₂ hb₂
  · cases hF
noncomputable def rRetG (F : Ev) : Run := fun _ σ => match F (rdH σ) with
  | some d => some (σ, .ret d)
  | none => none
theorem RunG.ret {e : Expr} {pos : Pos} {F : Ev} (h : EvG I k sc ns e F) : RunG I k sc ns (exec (.Return (some e) pos)) (rRetG F) := by
  intro env A own g fix σ s fuel σ' fl Q E hS hA S hb hF P
  unfold rRetG at hF
  split at hF
  · rename_i d hd
    cases hF
    refine wpAny_Return_some (h env A g (rdH σ) s d _ E hS hA S.viewH hb hd fun v h' tk gs kk hb' hv => ?_)
    have S' := S.grow kk
    exact P own _ _ h' tk gs _ S' (After.grow (S.gfix.trans S.sub) S.sub) ⟨v, _, rfl, hv, S'.gfix.trans S'.sub, fun b o e => .inl e⟩ hb'
  · cases hF
theorem RW.retG {E : Ev} {N : Nat} {σ : St} {P : St → Fl → Prop} (h : EW E (rdH σ) fun d => P σ (.ret d)) : RW (rRetG E) N σ P := by
  obtain ⟨d, e, p⟩ := h
  exact ⟨_, _, by unfold rRetG; rw [e], p⟩

theorem EvG.cmp {l r : Expr} {op : CmpOp} {pos : Pos} {F F' : Ev} {f : D → D → Option D} (hl : EvG I k sc ns l F) (hr : EvOK I k sc ns r F') (ho : OpOK I k (compareOp op) f)
    (hm : behindInMarks op r = false) : EvG I k sc ns (.Compare l [op] [r] pos) (e2 f F F') := by
  intro env A g rr s d Q E hS hA V hb hF P
  obtain ⟨x, y, hx, hy, hf⟩ := e2_some hF
  refine wpAny_Compare1 (hl env A g rr s x _ E hS hA V hb hx fun u h₁ tk₁ gs₁ k₁ hb₁ hu => ?_) hm
  refine hr env A _ rr _ y _ E hS hA (V.grow k₁) hy fun v h₂ tk₂ k₂ hv => ?_
  have V₂ := (V.grow k₁).grow k₂
  refine ho A _ _ x y d u v Q E hA V₂.sub V₂.gl (Is.mono (ext_sub (V.grow k₁).sub) x hu) hv hf ?_
  exact ((P.step (tk := tk₁) (gs := gs₁) k₁).post hb₁).step (s := { s with heap := h₁, toks := tk₁, gens := gs₁ }) k₂
theorem TrG.cmp {l r : Expr} {op : CmpOp} {pos : Pos} {F F' : Ev} {f : D → D → Option D} (hl : EvG I k sc ns l F) (hr : EvOK I k sc ns r F') (ho : OpOK I k (compareOp op) f)
    (hm : behindInMarks op r = false) : TrG I k sc ns (.Compare l [op] [r] pos) (tOf (e2 f F F')) := by
  intro env A g rr s b Q E hS hA V hb hF P
  unfold tOf at hF
  split at hF
  · rename_i d hd
    obtain ⟨x, y, hx, hy, hf⟩ := e2_some hd
    refine wpAny_isTrue_Compare1 (hl env A g rr s x _ E hS hA V hb hx fun u h₁ tk₁ gs₁ k₁ hb₁ hu => ?_) hm
    refine hr env A _ rr _ y _ E hS hA (V.grow k₁) hy fun v h₂ tk₂ k₂ hv => ?_
    have V₂ := (V.grow k₁).grow k₂
    refine ho A _ _ x y d u v _ E hA V₂.sub V₂.gl (Is.mono (ext_sub (V.grow k₁).sub) x hu) hv hf fun c h₃ tk₃ k₃ hc => ?_
    exact truth_ok (s := { s with heap := h₃, toks := tk₃, gens := gs₁ }) (V₂.grow k₃).sub hc hF fun tk => P _ _ _ ((k₁.trans k₂).trans k₃) hb₁
  · cases hF

/-- a generator function, met within list(..) -/
noncomputable def GenList (I : GI) (k : Nat) (x : Str) (Fg : List D → Option (List Int)) : Prop :=
  ∃ a, I.mg x = some (.ref a) ∧ (∀ h, I.Gl h → Looks (model I.prog I.w) h (keeperOf (.ref a)) .frame) ∧
    ∀ (A : Around) (g : G) (s : Shared) (ds : List D) (vs : List Value) (vals : List Int) (Q : Value → Shared → Prop) (E : Value → Shared → Prop), AOK k A → Sub g s.heap.get? → I.Gl s.heap → AllBare s.gens → IsL g ds vs → Fg ds = some vals →
      (∀ ga s', Grow s.heap s'.heap → (∀ (A' : Around) (Q' : Value → Shared → Prop) (E' : Value → Shared → Prop), AOK k A' → PostG g s (.lst (intsD vals)) Q' → wpAny (model I.prog I.w) A' (call (.type "list") [.ref ga]) Q' E' s') → Q (.ref ga) s') →
      wpAny (model I.prog I.w) A (call (.ref a) vs) Q E s

noncomputable def genF (m n iy : Nat) (F1 F2 : Run) (N : Nat) : List D → Option (List Int) := fun ds => if ds.length = m then (match F1 N (startSt ds n) with
  | some (σ1, .next) => (match F2 N σ1 with
    | some (σ2, .next) => (match σ2[iy]? with
      | some (.mt l) => if l.length ≤ sizeLine then asIntL l else none
      | _ => none)
    | _ => none)
  | _ => none) else none
theorem genF_some {m n iy : Nat} {F1 F2 : Run} {N : Nat} {ds : List D} {vals : List Int} (h : genF m n iy F1 F2 N ds = some vals) : ds.length = m ∧ ∃ σ1 σ2, F1 N (startSt ds n) = some (σ1, .next) ∧ F2 N σ1 = some (σ2, .next) ∧ σ2[iy]? = some (.mt (intsD vals)) ∧ vals.length ≤ sizeLine := by
  unfold genF at h
  split at h
  · rename_i hl
    split at h
    · rename_i σ1 e1
      split at h
      · rename_i σ2 e2
        split at h
        · rename_i l e3
          split at h
          · rename_i hz
            have := asIntL_eq h
            subst this
            exact ⟨hl, σ1, σ2, e1, e2, e3, by rw [intsD_length] at hz; exact hz⟩
          · cases h
        · cases h
      · cases h
    · cases h
  · cases h

theorem GenList.def {x : Str} {params : Arguments} {body : List Stmt} {m : Nat} {xv y : Str} {px py ypos epos fpos : Pos} {e : Expr} {ix iy : Nat} (N : Nat) {Fe : Ev} {F1 F2 : Run} {st1 st2 : Stmt} (hbody : body = [st1, st2, .For (.Name xv px) (.Name y py) [.Expr (.Yield (some e) ypos) epos] [] fpos])
    (hat : FnAt I x params body sc) (hc : ScS sc ns) (hm : m ≤ ns.length)
    (hbind : ∀ pm cd doc vs, vs.length = m → bindArgs (Calls.docDef x params body sc pm cd doc) ⟨vs, []⟩ = pure ((ns.take m).zip vs)) (hco : sc.isCoroutine = false) (hgen : sc.isGenerator = true) (hcl : ∀ n, cellsFrom n sc.names [] = []) (hlo : ∀ y ∈ ns, sc.names.lookup y = some .local)
    (hx : idx ns xv = some ix) (hy : idx ns y = some iy) (hyd : (y == ("__debug__" : Str)) = false) (hfold : ∀ env v, foldedSetIterable (.Name y py) env v = pure v)
    (he : EvOK I k sc ns e Fe) (hF : ∀ a, Fe (xr ns.length ix a) = some (.int a))
    (h1 : RunOK I k sc ns (exec st1) F1) (h2 : RunOK I k sc ns (exec st2) F2) : GenList I (k + 2) x (genF m ns.length iy F1 F2 N) := by
  obtain ⟨a, hmg, hkp, hcall⟩ := gen_call hat hc hm hbind hco hgen hcl hlo
  refine ⟨a, hmg, hkp, fun A g s ds vs vals Q E hA sub gl hb hv hf P => ?_⟩
  obtain ⟨hlen, σ1, σ2, e1, e2, e3, hz⟩ := genF_some hf
  refine hcall A g s.heap.get? s ds vs Q E (by have := hA.2.1; omega) gl sub (Sub.refl _) ⟨s.heap, gl, Sub.refl _⟩ hv hlen fun env h₁ tk o hS ecl ho S eloc hLt hkeep => ?_
  have kk : Grow s.heap (h₁.push o) := hkeep.trans (Grow.push _ _)
  refine P _ _ kk fun A' Q' E' hA' P' => ?_
  have hsz : (h₁.push o).objs.size = h₁.objs.size + 1 := Heap.size_push _ _
  have hSn : s.heap.get? (h₁.push o).objs.size = none := by
    cases q : s.heap.get? (h₁.push o).objs.size with
    | none => rfl
    | some o' => exact absurd (Heap.lt_size (kk _ _ q)) (Nat.lt_irrefl _)
  have hxx := idx_get hx
  have hfr : o.isFreed = false := by rw [ho]; rfl
  have hgen' : (h₁.push o).IsGen h₁.objs.size s.gens.size := ⟨o, _, _, Heap.get?_push_size _ hfr, by rw [ho]; rfl, by rw [ho]; rfl, by rw [ho]; rfl⟩
  have X := gen_gw (A := A'.in1.in1) (sI := s) (ga := h₁.objs.size) (S := (h₁.push o).objs.size) (vals := vals) (px := px) (py := py) (ypos := ypos) (epos := epos) (fpos := fpos) hbody hc hco hS ecl h1 h2 e1 e2 startSt_no e3 hz hxx
    (hlo xv (List.mem_of_getElem? hxx)) (idx_get hy) hyd (hfold env) he hF hA'.in1s gl (by rw [eloc]; exact fresh_none _) hSn hSn (by rw [hsz]; exact Nat.ne_of_gt (Nat.lt_succ_of_lt hLt)) (by rw [hsz]; exact Nat.ne_of_lt (Nat.lt_succ_self _)) (Nat.ne_of_gt hLt) (g := g) (own := fun _ => 0)
  refine GW.list (s := { s with heap := h₁.push o, toks := tk + 1 + 1, gens := s.gens.push (.fresh (.func body env)) }) X hz ?_ fun s' acc c hfin hget hacc => ?_
  · refine ⟨_, tk + 1 + 1, rfl, S.keep (Grow.push _ _), hgen'.push _, kk.trans (Grow.push _ _), ?_⟩
    exact some_live (Heap.get?_push_size _ rfl)
  · obtain ⟨h', tk', rfl, hg'⟩ := hfin
    refine P' _ h' tk' _ hg' (hb.push rfl) ⟨_, _, acc, c, rfl, (ext_new hSn).trans hget, rfl, rfl, ?_⟩
    refine isL_of_get (by rw [Array.length_toList, hacc.1, intsD_length]) fun j v hv => ?_
    obtain ⟨b, t, hb', rfl⟩ := hacc.2 j v (by simpa using hv)
    exact ⟨.int b, by simp [intsD, hb'], ⟨t, rfl⟩⟩
end
end Mine
end
section
open PySem PySem.W PyProof.Rows PySem.Spec
set_option linter.unusedVariables false
set_option Elab.async false
set_option maxRecDepth 100000
namespace Mine
section
variable {I : GI} {k : Nat} {sc : Scope} {ns : List Str}

/-- a call of a global or built-in name -/
theorem call_name {env : Env} {A : Around} {s : Shared} {x : Str} {px pos : Pos} {args : List Expr} {f : Value} {Q : Value → Shared → Prop} {E : Value → Shared → Prop} (hS : EnvS sc env) (hk : sc.kind = .function) (hx : sc.names.lookup x = some .globalImplicit) (hd : (x == ("__debug__" : Str)) = false) (gl : I.Gl s.heap)
    (hn : I.mg x = some f ∨ (I.mg x = none ∧ x ≠ "__name__" ∧ bootBuiltins x = some f)) (hkp : ∀ h, I.Gl h → ∃ kp, (kp = Keeper.frame ∨ kp = Keeper.machine ∨ kp = Keeper.boundFrame) ∧ Looks (model I.prog I.w) h (keeperOf f) kp)
    (hp : (backTo pos (starEach args env)).any (·.1) = false) (hs : ∃ t rest, backTo pos (starEach args env) = (false, t) :: rest)
    (h : wpAny (model I.prog I.w) A (spliced (backTo pos (starEach args env))) (fun vs s₁ => I.Gl s₁.heap ∧ wpAny (model I.prog I.w) A (call f vs) Q E s₁) E s) : wpAny (model I.prog I.w) A (eval (.Call (.Name x px) args [] pos) env) Q E s := by
  refine Call_ ?_ rfl
  have go : wpAny (model I.prog I.w) A (callWith pos f [] (backTo pos (starEach args env)) []) Q E s := by
    refine callWith_of (P := I.Gl) (by rw [hp]; rfl) hkp ?_
    obtain ⟨t, rest, e⟩ := hs
    rw [e]
    refine Calls.evalArgs_plain ?_
    rw [← e]
    exact h
  have hx' : env.kindOf x = some .globalImplicit := by unfold Env.kindOf; rw [hS.scope]; exact hx
  refine Calls.Name_function_global (hS.scope ▸ hk) hx' ?_ hd
  rcases hn with hn | ⟨hn, hne', hb⟩
  · exact Calls.loadGlobal_global (hS.globals ▸ I.g gl) hn go
  · exact Calls.loadGlobal_builtin (hS.globals ▸ I.g gl) hn (hS.builtins ▸ I.b gl) ((I.boot x hne').trans hb) go

noncomputable def eGen (Fg : List D → Option (List Int)) (Fs : Evs) : Ev := fun r => match Fs r with
  | some ds => (match Fg ds with
    | some vals => some (.lst (intsD vals))
    | none => none)
  | none => none
/-- list(x(..)), x a generator function -/
theorem EvG.listGen {x : Str} {pl px p1 p2 : Pos} {arg : List Expr} {Fg : List D → Option (List Int)} {Fs : Evs}
    (hlx : sc.names.lookup ("list" : Str) = some .globalImplicit) (hk : sc.kind = .function) (hx : sc.names.lookup x = some .globalImplicit) (hd : (x == ("__debug__" : Str)) = false)
    (hp : ∀ env, (backTo p1 (starEach arg env)).any (·.1) = false) (hs : ∀ env, ∃ t rest, backTo p1 (starEach arg env) = (false, t) :: rest)
    (hp2 : ∀ env, (backTo p2 (starEach [.Call (.Name x px) arg [] p1] env)).any (·.1) = false) (hs2 : ∀ env, ∃ t rest, backTo p2 (starEach [.Call (.Name x px) arg [] p1] env) = (false, t) :: rest) (he2 : ∀ env, starEach [.Call (.Name x px) arg [] p1] env = (false, eval (.Call (.Name x px) arg [] p1) env) :: starEach [] env)
    (hl : I.mg ("list" : Str) = none) (hG : GenList I k x Fg) (ha : EvsOK I k sc ns arg Fs) : EvG I k sc ns (.Call (.Name "list" pl) [.Call (.Name x px) arg [] p1] [] p2) (eGen Fg Fs) := by
  intro env A g r s d Q E hS hA V hb hF P
  unfold eGen at hF
  split at hF
  · rename_i ds hds
    split at hF
    · rename_i vals hvals
      cases hF
      obtain ⟨a, hmg, hkp, hcall⟩ := hG
      refine call_name (I := I) hS hk hlx rfl V.gl (.inr ⟨hl, by decide, rfl⟩) (fun h _ => keeper_type h) (hp2 env) (hs2 env) (args_cons (call_name (I := I) hS hk hx hd V.gl (.inl hmg) (fun h gl => ⟨.frame, .inl rfl, hkp h gl⟩) (hp env) (hs env) ?_) (he2 env))
      refine ha env A g r s ds p1 _ E hS hA V hds fun vs h₁ tk₁ k₁ hvs => ⟨I.grow V.gl k₁, ?_⟩
      refine hcall A _ { s with heap := h₁, toks := tk₁ } ds vs vals _ E hA (V.grow k₁).sub (I.grow V.gl k₁) hb hvs hvals fun ga s' kk' hlist => args_nil ⟨I.grow (I.grow V.gl k₁) kk', ?_⟩
      exact hlist A Q E hA (P.step k₁)
    · cases hF
  · cases hF

/-- functions that run generators -/
noncomputable def PrimG (I : GI) (k : Nat) (f : Value) (F : List D → Option D) : Prop :=
  ∀ (A : Around) (g : G) (s : Shared) (ds : List D) (vs : List Value) (d : D) (Q : Value → Shared → Prop) (E : Value → Shared → Prop),
    AOK k A → Sub g s.heap.get? → I.Gl s.heap → AllBare s.gens → F ds = some d → IsL g ds vs → PostG g s d Q → wpAny (model I.prog I.w) A (call f vs) Q E s
structure FunG (I : GI) (k : Nat) (x : Str) (F : List D → Option D) : Prop where
  ok : ∃ f, I.mg x = some f ∧ (∀ h, I.Gl h → ∃ kp, (kp = Keeper.frame ∨ kp = Keeper.machine ∨ kp = Keeper.boundFrame) ∧ Looks (model I.prog I.w) h (keeperOf f) kp) ∧ PrimG I k f F
theorem FunG.def {x : Str} {params : Arguments} {body : List Stmt} {m : Nat} {F : Run} {F' : List D → Option D} (hat : FnAt I x params body sc) (hc : ScS sc ns) (hm : m ≤ ns.length)
    (hbind : ∀ pm cd doc vs, vs.length = m → bindArgs (Calls.docDef x params body sc pm cd doc) ⟨vs, []⟩ = pure ((ns.take m).zip vs)) (hco : sc.isCoroutine = false) (hgen : sc.isGenerator = false)
    (hr : RunG I k sc ns (execs body) F) (hF : ∀ ds d, F' ds = some d → ds.length = m ∧ ∃ fuel, callF ns.length F fuel ds = some d) : FunG I (k + 1) x F' := by
  obtain ⟨a, hmg, hgl⟩ := hat.at_
  refine ⟨.ref a, hmg, fun h hG => ?_, ?_⟩
  · obtain ⟨o, pm, code, doc, ho, hd, _⟩ := hgl h hG
    refine ⟨.frame, .inl rfl, (Looks.ld (part := none) ho).andThen ?_⟩
    rw [hd]; exact Looks.now
  · intro A g s ds vs d Q E hA sub gl hb hf hv P
    obtain ⟨hlen, fuel, hcall⟩ := hF ds d hf
    obtain ⟨o, pm, code, doc, ho, hd, hcd⟩ := hgl s.heap gl
    have hvl : vs.length = m := by rw [hv.length, hlen]
    refine wpAny_call (codeAny_call_cells (fd := Calls.docDef x params body sc pm code doc) (binds := (ns.take m).zip vs) (by have := hA.2.1; omega) ho hd (I.nolimit gl) hcd rfl (hbind pm code doc vs hvl) rfl ?_ ?_ hco hgen hc.kind)
    · intro y hy
      have hmem := List.mem_of_mem_take (List.of_mem_zip (a := y.1) (b := y.2) hy).1
      rcases hc.names y.1 hmem with h | h
      · exact .inl h
      · exact .inr ⟨h, cellsFrom_some' _ _ _ h⟩
    · intro s₁ X
      generalize he : callEnvC (Calls.docDef x params body sc pm code doc) s.heap.objs.size a = env at X
      have esc : env.scope = sc := by rw [← he]; rfl
      have eloc : env.locals = s.heap.objs.size := by rw [← he]; rfl
      have hS : EnvS sc env := ⟨esc, by rw [← he]; rfl, by rw [← he]; rfl, fun y hy => by rw [← he]; exact cellsFrom_some' _ _ _ hy⟩
      obtain ⟨h₁, tk₁, rfl⟩ := X.toInCall.same
      have hkeep : Grow s.heap h₁ := X.toInCall.keep
      have hnone := fresh_none s.heap
      have above : ∀ n c, env.cells.lookup n = some c → s.heap.get? c = none ∧ c ≠ env.locals := fun n c hc2 => by
        have := X.above n c (mem_of_lookup hc2)
        rw [eloc] at this ⊢
        refine ⟨?_, Nat.ne_of_gt this⟩
        cases q : s.heap.get? c with
        | none => rfl
        | some o' => exact absurd (Heap.lt_size q) (Nat.not_lt.mpr (Nat.le_of_lt this))
      have S : SR I env ns (fun _ => 0) g s.heap.get? (startSt ds ns.length) h₁ := {
        gfix := sub
        sub := hkeep
        base := ⟨s.heap, gl, Sub.refl _⟩
        frame := ⟨_, X.toInCall.ns⟩
        fixL := by rw [eloc]; exact hnone
        cells := fun n c hc2 => ⟨⟨_, X.cell n c hc2⟩, (above n c hc2).1, (above n c hc2).2⟩
        apart := fun n n' c h1 h2 => name_of_addr X.apart (mem_of_lookup h1) (mem_of_lookup h2)
        imm := fun i y d' hy hd' => by
          rcases startSt_get hd' with q | ⟨d2, q, e⟩
          · cases q
          · cases e
            obtain ⟨v, hv1, hv2⟩ := hv.get q
            refine ⟨v, hv2, ?_⟩
            have hi : i < m := by
              have := (List.getElem?_eq_some_iff.mp q).1
              omega
            have hy' : (ns.take m)[i]? = some y := by rw [List.getElem?_take_of_lt hi]; exact hy
            have nd' : (ns.take m).Nodup := List.Nodup.sublist (List.take_sublist m ns) hc.nd
            rcases hc.names y (List.mem_of_getElem? hy) with h | h
            · have hk : env.kindOf y = some .local := by unfold Env.kindOf; rw [esc]; exact h
              exact .inl ⟨hk, _, X.toInCall.ns, bindL_get nd' hy' hv1 hk⟩
            · have hk : env.kindOf y = some .cell := by unfold Env.kindOf; rw [esc]; exact h
              obtain ⟨c, hc2⟩ := Option.isSome_iff_exists.mp (hS.cells y h)
              have := X.cell y c hc2
              rw [bindC_get nd' hy' hv1 (by rw [hk]; exact fun q => by cases q)] at this
              exact .inr ⟨hk, c, hc2, this⟩
        mtd := fun i y l hy hd' => by
          rcases startSt_get hd' with q | ⟨d2, q, e⟩
          · cases q
          · cases e
        inj := fun i j l l' hd' _ _ => by
          rcases startSt_get hd' with q | ⟨d2, q, e⟩
          · cases q
          · cases e }
      have fin : ∀ {own' : Nat → Addr} {g' fix' : G} {σ' : St} {h' : Heap} {v : Value} {gR : G} {d : D}, SR I env ns own' g' fix' σ' h' → After g s.heap.get? g' fix' → Is gR d v → Sub gR h'.get? → (∀ b o, gR b = some o → g' b = some o ∨ fix' b = none) →
          Grow s.heap h' ∧ Is (ext g s.heap h') d v := fun {own' g' fix' σ' h' v gR d} S' A' hI hsub hnew => by
        refine ⟨fun b o e => S'.sub b o (A'.ff b o e), Is.mono (fun b o e => ?_) d hI⟩
        have old : s.heap.get? b = none → ext g s.heap h' b = some o := fun q => by rw [ext_new q]; exact hsub b o e
        rcases hnew b o e with p | p
        · rcases A'.new b o p with r | r
          · have q := sub b o r
            rw [ext_old q]; exact r
          · exact old r
        · exact old (A'.ff.none p)
      unfold callF at hcall
      have hA' : AOK k (A.deeper env) := hA.deeper
      split at hcall
      · rename_i σ' d' hrun
        cases hcall
        refine hr env _ _ g _ _ _ fuel σ' (.ret d) _ _ hS hA' S hb hrun fun own' g' fix' h' tk gs f S' A' hf hb' => ?_
        obtain ⟨v, gR, rfl, hI, hsub, hnew⟩ := hf
        obtain ⟨p, q⟩ := fin S' A' hI hsub hnew
        exact P v h' tk gs p hb' q
      · rename_i σ' hrun
        cases hcall
        refine hr env _ _ g _ _ _ fuel σ' .next _ _ hS hA' S hb hrun fun own' g' fix' h' tk gs f S' A' hf hb' => ?_
        rw [show f = .next from hf]
        obtain ⟨p, q⟩ := fin (v := .none) (gR := g0) (d := .none) S' A' rfl (g0_sub _) (fun b o e => by cases e)
        exact P _ h' tk gs p hb' q
      · cases hcall
theorem FunG.of {p : Program} {m i : Nat} (N : Nat) {d : DefRec} {F : Run} (hat : HatI I p) (hd : (recsOf p)[i]? = some d) (hc : ScS d.scope ns) (hm : m ≤ ns.length)
    (hbind : ∀ pm cd doc vs, vs.length = m → bindArgs (Calls.docDef d.name d.params d.body d.scope pm cd doc) ⟨vs, []⟩ = pure ((ns.take m).zip vs)) (hco : d.scope.isCoroutine = false) (hgen : d.scope.isGenerator = false)
    (hr : RunG I k d.scope ns (execs d.body) F) : FunG I (k + 1) d.name (fnF m ns.length F N) :=
  FunG.def (hat i d hd) hc hm hbind hco hgen hr fun ds r h => by
    unfold fnF at h
    split at h
    · rename_i hl; exact ⟨hl, N, h⟩
    · cases h
end

theorem law_endG {prog : Program} {w : World} {mg mb : Str → Option Value} {p : Program} {loose : List Str} {mean : ExcName → Option Value} {K : Frag} {hboot : ∀ x : Str, x ≠ "__name__" → mb x = bootBuiltins x} {s₁ : Shared} {x : Str} {fa l : Addr} {vs : List Value} {ns : List Int}
    {k : Nat} {F : List D → Option D} {Q E : Value → Shared → Prop} (T : Top p loose mean mg mb s₁.heap) (X : K.In s₁.heap) (hmg : mg x = some (.ref fa)) (hF : FunG (giOf prog w mg mb p loose mean K hboot) k x F) (hk : k ≤ 20) (hb : s₁.gens = #[]) (hl : s₁.heap.IsList l vs.toArray) (hi : IntsAre vs ns)
    (hr : F [.lst (intsD ns)] = some (.bool true)) (hQ : ∀ h' tk gs, Grow s₁.heap h' → AllBare gs → Q (.bool true) { s₁ with heap := h', toks := tk, gens := gs }) : wpAny (model prog w) callerA (call (.ref fa) [.ref l]) Q E s₁ := by
  obtain ⟨f, hn, _, hp⟩ := hF.ok
  have ef : f = .ref fa := by
    have : mg x = some f := hn
    rw [hmg] at this; cases this; rfl
  subst ef
  obtain ⟨o, ho, hc, n, hd⟩ := hl
  refine hp callerA s₁.heap.get? s₁ [.lst (intsD ns)] [.ref l] (.bool true) Q E (AOK.le ⟨rfl, by decide, by decide⟩ hk) (Sub.refl _) ⟨T, X⟩ (.of_eq hb) hr ⟨_, [], rfl, ⟨l, o, vs.toArray, n, rfl, ho, hc, hd, by simpa using isL_ints hi⟩, rfl⟩ fun v h' tk gs kk hb' hv => ?_
  rw [show v = .bool true from hv]
  exact hQ h' tk gs kk hb'
end Mine
end
section
open PySem PySem.W PyProof.Rows PySem.Spec
set_option linter.unusedVariables false
set_option Elab.async false
set_option maxRecDepth 100000
namespace Mine
/-! texts as lists of signs -/
noncomputable def mkS (l : List Nat) : Str := ⟨l.toArray⟩
theorem mkS_of (x : Str) : mkS x.cps.toList = x := by unfold mkS; simp
theorem mkS_length (l : List Nat) : (mkS l).length = l.length := by show (l.toArray).size = _; simp
theorem mkS_append (l r : List Nat) : mkS l ++ mkS r = mkS (l ++ r) := by
  show (⟨l.toArray ++ r.toArray⟩ : Str) = _
  unfold mkS; simp
open StrLaws in
section
noncomputable def wordsL : List Nat → List Nat → List (List Nat)
  | cur, [] => if cur = [] then [] else [cur]
  | cur, c :: r => if Unicode.isSpace c = true then (if cur = [] then wordsL [] r else cur :: wordsL [] r) else wordsL (cur ++ [c]) r
noncomputable def curOf (l : List Nat) (i : Nat) : Option Nat → List Nat
  | none => []
  | some b => (l.drop b).take (i - b)
noncomputable def subP (x : Str) (p : Nat × Nat) : Str := Builtin.Str.strSub x p.1 p.2
theorem strSub_mk (l : List Nat) (i j : Nat) : Builtin.Str.strSub (mkS l) i j = mkS ((l.drop i).take (j - i)) := by
  unfold Builtin.Str.strSub mkS
  simp
theorem sw_words (l : List Nat) : ∀ (m i : Nat) (W : Array (Nat × Nat)) (start : Option Nat), i + m = l.length → W.size ≤ i → (∀ b, start = some b → b < i) →
    (swEnd (mkS l) (forIn (List.range' i m) ((none, W, start) : SwSt) (swBody (mkS l) ((mkS l).length + 1))).run).map (subP (mkS l)) = W.toList.map (subP (mkS l)) ++ (wordsL (curOf l i start) (l.drop i)).map mkS
  | 0, i, W, start, hi, hW, hb => by
    have hd : l.drop i = [] := List.drop_of_length_le (by omega)
    rw [hd]
    show (swEnd (mkS l) (none, W, start)).map _ = _
    unfold swEnd
    cases start with
    | none => simp [curOf, wordsL]
    | some b =>
      have hb' := hb b rfl
      have hne : curOf l i (some b) ≠ [] := by
        intro e
        have := congrArg List.length e
        unfold curOf at this
        rw [List.length_take, List.length_drop] at this
        simp at this; omega
      unfold wordsL
      rw [if_neg hne]
      show ((W.push (b, (mkS l).length)).toList).map _ = _
      rw [Array.toList_push, List.map_append, List.map_cons, List.map_nil, List.map_cons, List.map_nil]
      congr 1
      show [Builtin.Str.strSub (mkS l) b (mkS l).length] = _
      rw [strSub_mk, mkS_length]
      unfold curOf
      rw [show l.length = i by omega]
  | m + 1, i, W, start, hi, hW, hb => by
    have hlt : i < l.length := by omega
    have hsz : ¬ ((W.size == (mkS l).length + 1) = true) := by
      rw [beq_iff_eq, mkS_length]; omega
    have hget : (mkS l).cps.getD i 0 = l[i] := by
      show (l.toArray).getD i 0 = _
      simp [Array.getD, hlt]
    have hd : l.drop i = l[i] :: l.drop (i + 1) := List.drop_eq_getElem_cons hlt
    rw [List.range'_succ, List.forIn_cons, hd]
    unfold wordsL
    have cur_succ : ∀ b, b ≤ i → (l.drop b).take (i + 1 - b) = (l.drop b).take (i - b) ++ [l[i]] := fun b hbi => by
      rw [show i + 1 - b = (i - b) + 1 by omega, List.take_succ]
      congr 1
      rw [List.getElem?_drop, show b + (i - b) = i by omega, List.getElem?_eq_getElem hlt]; rfl
    cases hsp : Unicode.isSpace l[i] with
    | true =>
      cases start with
      | none =>
        have e : swBody (mkS l) ((mkS l).length + 1) i (none, W, none) = pure (ForInStep.yield (none, W, none)) := by
          unfold swBody
          simp only [hsz, if_false, hget, hsp]; rfl
        rw [e]
        have ih := sw_words l m (i + 1) W none (by omega) (by omega) (fun b q => by cases q)
        simp only [curOf, if_true]
        exact ih
      | some b =>
        have hb' := hb b rfl
        have hne : curOf l i (some b) ≠ [] := by
          intro q
          have := congrArg List.length q
          unfold curOf at this
          rw [List.length_take, List.length_drop] at this
          simp at this; omega
        have e : swBody (mkS l) ((mkS l).length + 1) i (none, W, some b) = pure (ForInStep.yield (none, W.push (b, i), none)) := by
          unfold swBody
          simp only [hsz, if_false, hget, hsp]; rfl
        rw [e, if_pos rfl, if_neg hne]
        have ih := sw_words l m (i + 1) (W.push (b, i)) none (by omega) (by rw [Array.size_push]; omega) (fun b q => by cases q)
        refine (show _ = _ from ih).trans ?_
        rw [Array.toList_push, List.map_append, List.append_assoc]
        congr 1
        show [Builtin.Str.strSub (mkS l) b i] ++ _ = _
        rw [strSub_mk]; rfl
    | false =>
      simp only [Bool.false_eq_true, if_false]
      cases start with
      | none =>
        have e : swBody (mkS l) ((mkS l).length + 1) i (none, W, none) = pure (ForInStep.yield (none, W, some i)) := by
          unfold swBody
          simp only [hsz, if_false, hget, hsp]; rfl
        rw [e]
        have ih := sw_words l m (i + 1) W (some i) (by omega) (by omega) (fun b q => by cases q; omega)
        refine (show _ = _ from ih).trans ?_
        have : curOf l (i + 1) (some i) = curOf l i none ++ [l[i]] := by
          unfold curOf
          simp only
          rw [cur_succ i (Nat.le_refl _), Nat.sub_self, List.take_zero]
        rw [this]
      | some b =>
        have hb' := hb b rfl
        have e : swBody (mkS l) ((mkS l).length + 1) i (none, W, some b) = pure (ForInStep.yield (none, W, some b)) := by
          unfold swBody
          simp only [hsz, if_false, hget, hsp]; rfl
        rw [e]
        have ih := sw_words l m (i + 1) W (some b) (by omega) (by omega) (fun b q => by cases q; omega)
        refine (show _ = _ from ih).trans ?_
        have : curOf l (i + 1) (some b) = curOf l i (some b) ++ [l[i]] := by
          unfold curOf
          simp only
          exact cur_succ b (by omega)
        rw [this]
theorem words_eq (l : List Nat) : Txt.words (mkS l) = (wordsL [] l).map mkS := by
  have h := sw_words l l.length 0 #[] none (by omega) (Nat.le_refl _) (fun b q => by cases q)
  have e : (Builtin.Str.spaceWords (mkS l) ((mkS l).length + 1)).map (subP (mkS l)) = (wordsL [] l).map mkS := by
    rw [sw_eq]
    have : (mkS l).length = l.length := mkS_length l
    refine Eq.trans ?_ (h.trans ?_)
    · rw [mkS_length l]
    · simp [curOf]
  have ew : PySem.wordsOf (mkS l) = (Builtin.Str.spaceWords (mkS l) ((mkS l).length + 1)).map (subP (mkS l)) := by
    unfold PySem.wordsOf
    apply List.map_congr_left
    intro ⟨a, b⟩ _
    rfl
  unfold Txt.words
  split
  · rename_i hq
    have hq' := eq_of_beq hq
    rw [hq'] at e
    rw [← e]
    show _ = [Builtin.Str.strSub (mkS l) 0 (mkS l).length]
    rw [strSub_mk, mkS_length, List.drop_zero, Nat.sub_zero, List.take_length]
  · rw [← e, ← ew]
end
noncomputable def noSp (t : List Nat) : Prop := ∀ c ∈ t, Unicode.isSpace c = false
noncomputable def allSp (t : List Nat) : Prop := ∀ c ∈ t, Unicode.isSpace c = true
theorem wordsL_tok {t : List Nat} (h : noSp t) : ∀ (cur r : List Nat), wordsL cur (t ++ r) = wordsL (cur ++ t) r := by
  induction t with
  | nil => intro cur r; rw [List.nil_append, List.append_nil]
  | cons c t ih =>
    intro cur r
    have hc := h c (.head _)
    rw [List.cons_append, wordsL, hc]
    simp only [Bool.false_eq_true, if_false]
    rw [ih (fun d hd => h d (.tail _ hd)), List.append_assoc]; rfl
theorem wordsL_sp0 {b : List Nat} (h : allSp b) : ∀ r : List Nat, wordsL [] (b ++ r) = wordsL [] r := by
  induction b with
  | nil => intro r; rfl
  | cons c b ih =>
    intro r
    rw [List.cons_append, wordsL, h c (.head _)]
    simp only [if_true]
    exact ih (fun d hd => h d (.tail _ hd)) r
theorem wordsL_sp {b cur : List Nat} (h : allSp b) (hb : b ≠ []) (hc : cur ≠ []) (r : List Nat) : wordsL cur (b ++ r) = cur :: wordsL [] r := by
  cases b with
  | nil => exact absurd rfl hb
  | cons c b =>
    rw [List.cons_append, wordsL, h c (.head _)]
    simp only [if_true, if_neg hc]
    rw [wordsL_sp0 (fun d hd => h d (.tail _ hd))]
/-- tokens, one blank between each two -/
noncomputable def jn : List (List Nat) → List Nat
  | [] => []
  | [t] => t
  | t :: u :: r => t ++ 32 :: jn (u :: r)
theorem jn_append : ∀ {ts us : List (List Nat)}, ts ≠ [] → us ≠ [] → jn (ts ++ us) = jn ts ++ 32 :: jn us
  | [], _, h, _ => absurd rfl h
  | [t], us, _, hu => by
    cases us with
    | nil => exact absurd rfl hu
    | cons u r => rfl
  | t :: t' :: r, us, _, hu => by
    have ih := jn_append (ts := t' :: r) (us := us) (by simp) hu
    show t ++ 32 :: jn (t' :: r ++ us) = _
    rw [ih]
    show _ = (t ++ 32 :: jn (t' :: r)) ++ _
    simp
theorem sp32 : Unicode.isSpace 32 = true := by decide +kernel
theorem wordsL_jn : ∀ {ts : List (List Nat)}, (∀ t ∈ ts, noSp t ∧ t ≠ []) → wordsL [] (jn ts) = ts
  | [], _ => rfl
  | [t], h => by
    obtain ⟨h1, h2⟩ := h t (.head _)
    show wordsL [] t = _
    have := wordsL_tok h1 [] []
    rw [List.append_nil] at this
    rw [this, List.nil_append, wordsL, if_neg h2]
  | t :: u :: r, h => by
    obtain ⟨h1, h2⟩ := h t (.head _)
    have ih := wordsL_jn (ts := u :: r) fun s hs => h s (.tail _ hs)
    show wordsL [] (t ++ 32 :: jn (u :: r)) = _
    rw [wordsL_tok h1, List.nil_append]
    have := wordsL_sp (b := [32]) (cur := t) (fun c hc => by rw [List.mem_singleton.mp hc]; exact sp32) (by simp) h2 (jn (u :: r))
    rw [List.singleton_append] at this
    rw [this, ih]
end Mine
end
section
open PySem PySem.W PyProof.Rows PySem.Spec
set_option linter.unusedVariables false
set_option linter.unusedSimpArgs false
set_option Elab.async false
set_option maxRecDepth 100000
namespace Mine
/-! figures -/
noncomputable def isDg (c : Nat) : Bool := decide (48 ≤ c) && decide (c ≤ 57)
theorem isDg_iff {c : Nat} : isDg c = true ↔ 48 ≤ c ∧ c ≤ 57 := by unfold isDg; simp
noncomputable def dgs (m : Nat) : List Nat := (Nat.toDigits 10 m).map Char.toNat
theorem dgs_all (m : Nat) : ∀ c ∈ dgs m, 48 ≤ c ∧ c ≤ 57 := fun c hc => by
  obtain ⟨ch, hch, e⟩ := List.mem_map.mp hc
  have r := digit_range (Nat.isDigit_of_mem_toDigits (by decide) (by decide) hch)
  rw [← e]; exact r
theorem dgs_ne (m : Nat) : dgs m ≠ [] := fun e => by
  have h := toDigits_len_ge 10 m
  rw [List.map_eq_nil_iff.mp e] at h
  exact absurd h (by decide)
theorem dgs_val (m : Nat) : NumText.digitsVal (dgs m) = m := KIN.val_back m
theorem dgs_len : ∀ (k m : Nat), m < 10 ^ (k + 1) → (dgs m).length ≤ k + 1
  | 0, m, h => by
    unfold dgs
    rw [Nat.toDigits_of_lt_base (by simpa using h)]; simp
  | k + 1, m, h => by
    by_cases hs : m < 10
    · unfold dgs
      rw [Nat.toDigits_of_lt_base hs]; simp
    · have hm : m % 10 < 10 := Nat.mod_lt m (by decide)
      have t : Nat.toDigits 10 (m / 10) ++ Nat.toDigits 10 (m % 10) = Nat.toDigits 10 (10 * (m / 10) + m % 10) := Nat.toDigits_append_toDigits (by decide) (by omega) hm
      rw [Nat.div_add_mod] at t
      have ih := dgs_len k (m / 10) (by rw [Nat.pow_succ] at h; omega)
      unfold dgs at ih ⊢
      rw [← t, List.map_append, List.length_append, Nat.toDigits_of_lt_base hm]
      simp only [List.map_cons, List.map_nil, List.length_cons, List.length_nil]
      omega
/-- an int's text -/
noncomputable def numL (a : Int) : List Nat := if a < 0 then 45 :: dgs a.natAbs else dgs a.natAbs
theorem str_num (a : Int) : Str.ofString (toString a) = mkS (numL a) := by
  rw [← mkS_of (Str.ofString (toString a))]
  congr 1
  unfold numL
  cases a with
  | ofNat m =>
    rw [if_neg (show ¬ (Int.ofNat m < 0) from Int.not_lt.mpr (Int.natCast_nonneg m))]
    exact KIN.signs_num m
  | negSucc m =>
    rw [if_pos (Int.negSucc_lt_zero m), signs_ofString]
    show ("-" ++ Nat.repr (m + 1)).toList.map Char.toNat = _
    rw [String.toList_append, List.map_append, Nat.toList_repr]
    rfl
theorem numL_ne (a : Int) : numL a ≠ [] := by
  unfold numL
  split
  · simp
  · exact dgs_ne _
theorem numL_len {k : Nat} {a : Int} (h : a.natAbs < 10 ^ (k + 1)) : (numL a).length ≤ k + 2 := by
  have := dgs_len k a.natAbs h
  unfold numL
  split
  · rw [List.length_cons]; omega
  · omega
theorem dg_noSp {c : Nat} (h : 48 ≤ c ∧ c ≤ 57) : Unicode.isSpace c = false := by
  have key : (List.range 10).all (fun i => !Unicode.isSpace (48 + i)) = true := by decide +kernel
  have := List.all_eq_true.mp key (c - 48) (List.mem_range.mpr (by omega))
  rw [show 48 + (c - 48) = c by omega] at this
  simpa using this
theorem dgs_noSp (m : Nat) : noSp (dgs m) := fun c hc => dg_noSp (dgs_all m c hc)
theorem numL_noSp (a : Int) : noSp (numL a) := by
  unfold numL
  split
  · intro c hc
    rcases List.mem_cons.mp hc with rfl | hc
    · decide +kernel
    · exact dgs_noSp _ c hc
  · exact dgs_noSp _

/-- tokens of ints: figures, or - and figures -/
noncomputable def NumTok (l : List Nat) (n : Int) : Prop := l.length ≤ 640 ∧ ((l ≠ [] ∧ (∀ c ∈ l, 48 ≤ c ∧ c ≤ 57) ∧ n = (NumText.digitsVal l : Nat)) ∨ ∃ ds, l = 45 :: ds ∧ ds ≠ [] ∧ (∀ c ∈ ds, 48 ≤ c ∧ c ≤ 57) ∧ n = -(NumText.digitsVal ds : Nat))
theorem NumTok.num {a : Int} (h : a.natAbs < 10 ^ 600) : NumTok (numL a) a := by
  refine ⟨Nat.le_trans (numL_len (k := 599) h) (by decide), ?_⟩
  unfold numL
  by_cases ha : a < 0
  · rw [if_pos ha]
    refine .inr ⟨_, rfl, dgs_ne _, dgs_all _, ?_⟩
    rw [dgs_val]; omega
  · rw [if_neg ha]
    refine .inl ⟨dgs_ne _, dgs_all _, ?_⟩
    rw [dgs_val]; omega
theorem NumTok.reads {l : List Nat} {n : Int} (h : NumTok l n) : fInt [.str (mkS l)] = some (.int n) := by
  obtain ⟨hl, h⟩ := h
  have e : PySem.intText? (mkS l) = some n := by
    rcases h with ⟨h1, h2, rfl⟩ | ⟨ds, rfl, h1, h2, rfl⟩
    · exact intText_digits (x := mkS l) h2 h1 (by rw [mkS_length]; omega)
    · exact intText_neg (x := mkS (45 :: ds)) rfl h2 h1 (by rw [mkS_length]; omega)
  unfold fInt
  simp only [mkS_length, hl, if_true, e]
theorem NumTok.all {l : List Nat} {n : Int} (h : NumTok l n) : (l.all isDg = true) ∨ (l.all isDg = false ∧ ∃ ds, l = 45 :: ds ∧ ds ≠ [] ∧ ds.all isDg = true) := by
  obtain ⟨hl, h⟩ := h
  rcases h with ⟨h1, h2, _⟩ | ⟨ds, rfl, h1, h2, _⟩
  · exact .inl (List.all_eq_true.mpr fun c hc => isDg_iff.mpr (h2 c hc))
  · exact .inr ⟨by rw [List.all_cons]; rfl, ds, rfl, h1, List.all_eq_true.mpr fun c hc => isDg_iff.mpr (h2 c hc)⟩

/-! the tests of texts -/
noncomputable def chD (c : Nat) : D := .str (mkS [c])
theorem itemsS {l : List Nat} (h : l.length ≤ 10000) : itemsOf (.str (mkS l)) = some (l.map chD) := by
  show (if (mkS l).length ≤ sizeLine then some ((mkS l).cps.toList.map fun c => D.str ⟨#[c]⟩) else none) = _
  rw [mkS_length, if_pos (Nat.le_trans h sizeLine_ge)]; rfl
theorem figS_eq : (Str.ofString "1234567890").cps.toList = [49, 50, 51, 52, 53, 54, 55, 56, 57, 48] := by decide +kernel
theorem contains_fig (c : Nat) : Txt.contains (Str.ofString "1234567890") (mkS [c]) = isDg c := by
  unfold Txt.contains
  rw [show mkS [c] = ⟨#[c]⟩ from rfl, StrLaws.found_one, figS_eq]
  unfold isDg
  rw [Bool.eq_iff_iff]
  simp only [decide_eq_true_eq, Bool.and_eq_true, List.mem_cons, List.not_mem_nil, or_false]
  omega
section
variable {r : R} {Q : D → Prop} {G : Ev}
theorem comp_dgs : ∀ (l : List Nat), compL (eVar 0) (tOf (e2 (fInS true) (eVar 0) (eCst (.str (Str.ofString "1234567890"))))) r (l.map chD) = some ((l.filter fun c => !isDg c).map chD)
  | [] => rfl
  | c :: l => by
    have ih := comp_dgs l
    rw [List.map_cons]
    unfold compL
    have ht : tOf (e2 (fInS true) (eVar 0) (eCst (.str (Str.ofString "1234567890")))) (some (chD c) :: r) = some (!isDg c) := by
      show (match (some (D.bool (true ^^ Txt.contains (Str.ofString "1234567890") (mkS [c]))) : Option D) with | some x => fTruth x | none => none) = _
      rw [contains_fig, Bool.true_xor]; rfl
    rw [if_pos (show flat (chD c) = true from rfl), ht, List.filter_cons]
    cases isDg c with
    | true => simp only [Bool.not_true]; exact ih
    | false =>
      simp only [Bool.not_false, if_true, List.map_cons]
      have he : eVar 0 (some (chD c) :: r) = some (chD c) := rfl
      rw [he, ih]
      rfl
theorem EW.dgs {l : List Nat} (hl : l.length ≤ 10000) (hG : EW G r fun d => d = .str (mkS l)) (k : Q (.lst ((l.filter fun c => !isDg c).map chD))) : EW (eComp (eVar 0) (tOf (Mine.e2 (fInS true) (eVar 0) (eCst (.str (Str.ofString "1234567890"))))) G) r Q := by
  obtain ⟨d, e, rfl⟩ := hG
  refine ⟨_, ?_, k⟩
  unfold eComp
  simp only [e, itemsS hl, comp_dgs]
end
/-- plain data that may be compared -/
noncomputable def flatO : D → Bool
  | .none | .bool _ | .int _ => true
  | .str x => PyData.strOk x
  | _ => false
theorem flats {l : List D} (h : ∀ x ∈ l, flatO x = true) : noRngL l = true ∧ PyData.canLayAll0 (pyL l) = true ∧ PyData.depthAll (pyL l) = 0 := by
  induction l with
  | nil => exact ⟨rfl, rfl, rfl⟩
  | cons x l ih =>
    obtain ⟨h1, h2, h3⟩ := ih fun y hy => h y (.tail _ hy)
    have hx := h x (.head _)
    cases x with
    | str y => exact ⟨by rw [noRngL, h1]; rfl, by rw [pyL, PyData.canLayAll0, h2]; show (PyData.strOk y && true) = true; rw [Bool.and_true]; exact hx, by rw [pyL, PyData.depthAll, h3]; rfl⟩
    | tup _ => cases hx
    | lst _ => cases hx
    | rng _ _ _ => cases hx
    | _ => exact ⟨by rw [noRngL, h1]; rfl, by rw [pyL, PyData.canLayAll0, h2]; rfl, by rw [pyL, PyData.depthAll, h3]; rfl⟩
theorem eqOk_flats {l r : List D} (h : ∀ x ∈ l, flatO x = true) (h' : ∀ x ∈ r, flatO x = true) : eqOk (.lst l) (.lst r) = true := by
  obtain ⟨a1, a2, a3⟩ := flats h
  obtain ⟨b1, b2, b3⟩ := flats h'
  unfold eqOk SeqAt.shaped
  simp only [noRng, py, PyData.canLay0, PyData.depth, a1, a2, a3, b1, b2, b3]; rfl
theorem strOk_ch {c : Nat} (h : c < 128) : PyData.strOk (mkS [c]) = true := by
  show (#[c] : Array Nat).all (· < 0x110000) = true
  simp; omega
theorem OW.eqNil {l : List Nat} {Q : D → Prop} (hl : ∀ c ∈ l, c < 128) (k : Q (.bool (l.all isDg))) : OW fEq (.lst ((l.filter fun c => !isDg c).map chD)) (.lst []) Q := by
  refine ⟨_, ?_, k⟩
  show (if eqOk _ _ = true then some (D.bool (PyData.eqvAll (pyL _) [])) else none) = _
  rw [if_pos (eqOk_flats (fun x hx => by obtain ⟨c, hc, rfl⟩ := List.mem_map.mp hx; exact strOk_ch (hl c (List.mem_filter.mp hc).1)) (fun x hx => by cases hx))]
  congr 2
  clear k hl
  induction l with
  | nil => rfl
  | cons c l ih =>
    rw [List.filter_cons, List.all_cons]
    cases isDg c with
    | true => simp only [Bool.not_true, Bool.true_and, Bool.false_eq_true, if_false]; exact ih
    | false => rfl
/-- two rows of ints -/
theorem eqv_ints : ∀ (l r : List Int), PyData.eqvAll (pyL (intsD l)) (pyL (intsD r)) = (l == r)
  | [], [] => rfl
  | [], _ :: _ => rfl
  | _ :: _, [] => rfl
  | a :: l, b :: r => by
    have ih := eqv_ints l r
    show (a == b && PyData.eqvAll (pyL (intsD l)) (pyL (intsD r))) = _
    rw [ih]; rfl
theorem intsD_flatO {l : List Int} : ∀ x ∈ intsD l, flatO x = true := fun x hx => by obtain ⟨y, _, rfl⟩ := List.mem_map.mp hx; rfl
theorem OW.eqL {l r : List Int} {Q : D → Prop} (k : Q (.bool (l == r))) : OW fEq (.lst (intsD l)) (.lst (intsD r)) Q := by
  refine ⟨_, ?_, k⟩
  show (if eqOk _ _ = true then some (D.bool (PyData.eqvAll (pyL (intsD l)) (pyL (intsD r)))) else none) = _
  rw [if_pos (eqOk_flats intsD_flatO intsD_flatO), eqv_ints]
theorem OW.neL {l r : List Int} {Q : D → Prop} (k : Q (.bool (!(l == r)))) : OW fNe (.lst (intsD l)) (.lst (intsD r)) Q := by
  refine ⟨_, ?_, k⟩
  show (if eqOk _ _ = true then some (D.bool (!PyData.eqvAll (pyL (intsD l)) (pyL (intsD r)))) else none) = _
  rw [if_pos (eqOk_flats intsD_flatO intsD_flatO), eqv_ints]
noncomputable def asB : Option D → Option Bool
  | some (.bool b) => some b
  | _ => none
theorem asB_eq {o : Option D} {b : Bool} (h : asB o = some b) : o = some (.bool b) := by
  unfold asB at h
  split at h
  · cases h; rfl
  · cases h
theorem OW.clT {f : D → D → Option D} {x y : D} {Q : D → Prop} (h : asB (f x y) = some true) (k : Q (.bool true)) : OW f x y Q := ⟨_, asB_eq h, k⟩
theorem OW.clF {f : D → D → Option D} {x y : D} {Q : D → Prop} (h : asB (f x y) = some false) (k : Q (.bool false)) : OW f x y Q := ⟨_, asB_eq h, k⟩
theorem IfK.hT {b : Bool} {p q : Prop} (hb : b = true) (h : p) : IfK b p q := by rw [hb]; exact h
theorem IfK.hF {b : Bool} {p q : Prop} (hb : b = false) (h : q) : IfK b p q := by rw [hb]; exact h
theorem OW.addS {l r : List Nat} {Q : D → Prop} (h : l.length + r.length ≤ 10000) (k : Q (.str (mkS (l ++ r)))) : OW fAdd (.str (mkS l)) (.str (mkS r)) Q := ⟨_, by
  show (if (mkS l).length + (mkS r).length ≤ sizeLine then some (D.str (mkS l ++ mkS r)) else none) = _
  rw [mkS_length, mkS_length, if_pos (Nat.le_trans h sizeLine_ge), mkS_append], k⟩
theorem CW.str {a : Int} {Q : D → Prop} (h : a.natAbs < 10 ^ 600) (k : Q (.str (mkS (numL a)))) : CW fStr [.int a] Q := ⟨_, by
  show (if a.natAbs < 10 ^ 4300 then some (D.str (Str.ofString (toString a))) else none) = _
  rw [if_pos (Nat.lt_of_lt_of_le h (Nat.pow_le_pow_right (by decide) (by decide))), str_num], k⟩
theorem CW.intT {l : List Nat} {n : Int} {Q : D → Prop} (h : NumTok l n) (k : Q (.int n)) : CW fInt [.str (mkS l)] Q := ⟨_, h.reads, k⟩
theorem UW.split {ts : List (List Nat)} {l : List Nat} {Q : D → Prop} (hl : l.length ≤ 9999) (h : wordsL [] l = ts) (k : Q (.lst (ts.map fun t => .str (mkS t)))) : UW fSplit (.str (mkS l)) Q := ⟨_, by
  show (if (mkS l).length + 1 ≤ sizeLine then some (D.lst (strsD (Txt.words (mkS l)))) else none) = _
  have := sizeLine_ge
  rw [mkS_length, if_pos (by omega), words_eq, h]
  unfold strsD
  rw [List.map_map]; rfl, k⟩
theorem OW.sloS {l : List Nat} {i : Nat} {Q : D → Prop} (hi : i ≤ l.length) (hl : l.length ≤ 10000) (k : Q (.str (mkS (l.drop i)))) : OW fSloS (.str (mkS l)) (.int (i : Int)) Q := ⟨_, by
  show (if 0 ≤ (i : Int) ∧ (i : Int) ≤ (mkS l).length ∧ (mkS l).length ≤ sizeLine then some (D.str ⟨((mkS l).cps.toList.drop (i : Int).toNat).toArray⟩) else none) = _
  have := sizeLine_ge
  rw [mkS_length, if_pos ⟨by omega, by omega, by omega⟩, Int.toNat_natCast]; rfl, k⟩
theorem CW.lenS {l : List Nat} {Q : D → Prop} (hl : l.length ≤ 10000) (k : Q (.int (l.length : Int))) : CW fLen [.str (mkS l)] Q := ⟨_, by
  show (if (mkS l).length ≤ sizeLine then some (D.int (((mkS l).length : Nat) : Int)) else none) = _
  rw [mkS_length, if_pos (Nat.le_trans hl sizeLine_ge)], k⟩
theorem RW.pop {σ : St} {i j : Nat} {N : Nat} {P : St → Fl → Prop} {l : List D} {d : D} (hx : σ[i]? = some (.mt (l ++ [d]))) (hl : l.length ≤ 9999) (h : PutAt σ i (.mt l) fun σ₁ => PutAt σ₁ j (.imm d) fun σ' => P σ' .next) : RW (rPop i j) N σ P := by
  obtain ⟨hi, hj, p⟩ := h
  refine ⟨_, _, ?_, p⟩
  unfold rPop
  have := sizeLine_ge
  rw [hx]
  simp only [List.length_append, List.length_cons, List.length_nil, List.getLast?_append, List.getLast?_singleton, Option.some_or, List.dropLast_concat]
  rw [if_pos (by omega)]
end Mine
end
section
open PySem PySem.W PyProof.Rows PySem.Spec
set_option linter.unusedVariables false
set_option linter.unusedSimpArgs false
set_option Elab.async false
set_option maxRecDepth 100000
namespace Mine
theorem GenList.of {I : GI} {p : Program} {k m i : Nat} {ns : List Str} {d : DefRec} {xv y : Str} {px py ypos epos fpos : Pos} {e : Expr} {ix iy : Nat} (N : Nat) {Fe : Ev} {F1 F2 : Run} {st1 st2 : Stmt} (hat : HatI I p) (hd : (recsOf p)[i]? = some d)
    (hbody : d.body = [st1, st2, .For (.Name xv px) (.Name y py) [.Expr (.Yield (some e) ypos) epos] [] fpos]) (hc : ScS d.scope ns) (hm : m ≤ ns.length)
    (hbind : ∀ pm cd doc vs, vs.length = m → bindArgs (Calls.docDef d.name d.params d.body d.scope pm cd doc) ⟨vs, []⟩ = pure ((ns.take m).zip vs)) (hco : d.scope.isCoroutine = false) (hgen : d.scope.isGenerator = true) (hcl : ∀ n, cellsFrom n d.scope.names [] = []) (hlo : ∀ y ∈ ns, d.scope.names.lookup y = some .local)
    (hx : idx ns xv = some ix) (hy : idx ns y = some iy) (hyd : (y == ("__debug__" : Str)) = false) (hfold : ∀ env v, foldedSetIterable (.Name y py) env v = pure v)
    (he : EvOK I k d.scope ns e Fe) (hF : ∀ a, Fe (xr ns.length ix a) = some (.int a))
    (h1 : RunOK I k d.scope ns (exec st1) F1) (h2 : RunOK I k d.scope ns (exec st2) F2) : GenList I (k + 2) d.name (genF m ns.length iy F1 F2 N) :=
  GenList.def N hbody (hat i d hd) hc hm hbind hco hgen hcl hlo hx hy hyd hfold he hF h1 h2
end Mine
namespace Mine
section
open PySem
variable {P : List Value → Prop}
theorem vs0 (h : P []) : ∀ vs : List Value, vs.length = 0 → P vs
  | [], _ => h
theorem vsS {n : Nat} (h : ∀ a, ∀ vs : List Value, vs.length = n → P (a :: vs)) : ∀ vs : List Value, vs.length = n + 1 → P vs
  | a :: r, e => h a r (Nat.succ.inj e)
end
section
open PySem
variable {P : List Value → Prop}
theorem vs1 (h : ∀ a, P [a]) : ∀ vs : List Value, vs.length = 1 → P vs := vsS fun a => vs0 (h a)
theorem vs2 (h : ∀ a b, P [a, b]) : ∀ vs : List Value, vs.length = 2 → P vs := vsS fun a => vsS fun b => vs0 (h a b)
end
noncomputable def StopIf : Prop := True
theorem IfK.gd {c p q : Prop} [Decidable c] (h : IfK (decide c) p q) : IfK (decide c) p q := h
theorem sub_next {n t : Nat} (h : t < n) : ∃ u, n - t = u + 1 ∧ u = n - (t + 1) := ⟨_, (Nat.succ_pred_eq_of_pos (Nat.sub_pos_of_lt h)).symm, rfl⟩
end Mine
namespace Mine
section
variable {r : R} {Q : D → Prop}
theorem EW.dgsVar {i : Nat} {l : List Nat} (hr : r[i]? = some (some (.str (mkS l)))) (hl : l.length ≤ 10000) (k : Q (.lst ((l.filter fun c => !isDg c).map chD))) : EW (eComp (eVar 0) (tOf (Mine.e2 (fInS true) (eVar 0) (eCst (.str (Str.ofString "1234567890"))))) (eVar i)) r Q :=
  EW.dgs hl (EW.var hr rfl) k
theorem EW.dgsTail {i c : Nat} {l : List Nat} (hr : r[i]? = some (some (.str (mkS (c :: l))))) (hl : l.length ≤ 9999) (k : Q (.lst ((l.filter fun c => !isDg c).map chD))) : EW (eComp (eVar 0) (tOf (Mine.e2 (fInS true) (eVar 0) (eCst (.str (Str.ofString "1234567890"))))) (Mine.e2 fSloS (eVar i) (eCst (.int 1)))) r Q :=
  EW.dgs (Nat.le_succ_of_le hl) (EW.e2 (EW.var hr (EW.cst (OW.sloS (i := 1) (by rw [List.length_cons]; omega) (by rw [List.length_cons]; omega) rfl)))) k
end
/-! rpn's signs -/
inductive Op2 | add | sub | mul | mulx | div | divv | mod | pow | powx
inductive Op1 | fac | fct | prm | prp
noncomputable def op2S : Op2 → List Nat
  | .add => [43] | .sub => [45] | .mul => [42] | .mulx => [120] | .div => [47] | .divv => [47, 47] | .mod => [37] | .pow => [42, 42] | .powx => [120, 120]
noncomputable def op1S : Op1 → List Nat
  | .fac => [33] | .fct => [102] | .prm => [35] | .prp => [112]
noncomputable def op2 (a b : Int) : Op2 → Option Int
  | .add => some (a + b)
  | .sub => some (a - b)
  | .mul | .mulx => if mulOk a b = true then some (a * b) else none
  | .div | .divv => if divOk a b = true then some (a.fdiv b) else none
  | .mod => if b ≠ 0 then some (a.fmod b) else none
  | .pow | .powx => if powOk a b = true then some (a ^ b.toNat) else none
noncomputable def facI (a : Int) : Int := prodI (upI 1 a.toNat)
noncomputable def prmI (a : Int) : Int := prodI (natI (pgR (a.toNat - 1)))
noncomputable def op1 (a : Int) : Op1 → Option Int
  | .fac | .fct => if -1000 ≤ a ∧ a ≤ 100 then some (facI a) else none
  | .prm | .prp => if -1000 ≤ a ∧ a ≤ 100 then some (prmI a) else none
inductive StepT : List Nat → List Int → List Int → Prop
  | num {t : List Nat} {n : Int} {st : List Int} (h : NumTok t n) : StepT t st (st ++ [n])
  | two {o : Op2} {a b c : Int} {st : List Int} (h : op2 a b o = some c) : StepT (op2S o) (st ++ [a] ++ [b]) (st ++ [c])
  | one {o : Op1} {a c : Int} {st : List Int} (h : op1 a o = some c) : StepT (op1S o) (st ++ [a]) (st ++ [c])
inductive Runs : List (List Nat) → List Int → List Int → Prop
  | nil {st : List Int} : Runs [] st st
  | cons {t : List Nat} {ts : List (List Nat)} {st st' v : List Int} (h : StepT t st st') (r : Runs ts st' v) : Runs (t :: ts) st v
theorem Runs.append {ts us : List (List Nat)} {a b c : List Int} (h : Runs ts a b) (h' : Runs us b c) : Runs (ts ++ us) a c := by
  induction h with
  | nil => exact h'
  | cons s r ih => exact .cons s (ih h')
theorem intsD_snoc (st : List Int) (a : Int) : intsD (st ++ [a]) = intsD st ++ [.int a] := by simp [intsD]
theorem StepT.len {t : List Nat} {st st' : List Int} (h : StepT t st st') : st'.length ≤ st.length + 1 := by
  cases h <;> simp
end Mine
namespace Mine
theorem asIntL_ints : ∀ l : List Int, asIntL (intsD l) = some l
  | [] => rfl
  | a :: l => by rw [intsD_cons, asIntL, asIntL_ints l]
theorem genF_of {m n iy N : Nat} {F1 F2 : Run} {ds : List D} {σ0 : St} {vals : List Int} (hs : StartsAt ds n σ0) (hl : ds.length = m) (h : RW F1 N σ0 fun σ1 fl => fl = .next ∧ RW F2 N σ1 fun σ2 fl2 => fl2 = .next ∧ σ2[iy]? = some (.mt (intsD vals)) ∧ vals.length ≤ 10000) :
    genF m n iy F1 F2 N ds = some vals := by
  obtain ⟨σ1, fl, e1, rfl, σ2, fl2, e2, rfl, e3, hz⟩ := h
  rw [← show startSt ds n = σ0 from hs] at e1
  unfold genF
  rw [if_pos hl, e1]
  simp only [e2, e3]
  rw [if_pos (by rw [intsD_length]; exact Nat.le_trans hz sizeLine_ge), asIntL_ints]
noncomputable def strT (t : List Nat) : D := .str (mkS t)
theorem items_strs {ts : List (List Nat)} (h : ts.length ≤ 10000) : itemsOf (.lst (ts.map strT)) = some (ts.map strT) := items_lst (by rw [List.length_map]; exact h)
theorem runs_cons {t : List Nat} {ts : List (List Nat)} {st v : List Int} (h : Runs (t :: ts) st v) : ∃ st', StepT t st st' ∧ Runs ts st' v := by
  cases h with
  | cons s r => exact ⟨_, s, r⟩
theorem runs_nil {st v : List Int} (h : Runs [] st v) : st = v := by
  cases h; rfl
theorem numTok_128 {l : List Nat} {n : Int} (h : NumTok l n) : ∀ c ∈ l, c < 128 := by
  obtain ⟨_, h⟩ := h
  rcases h with ⟨_, h2, _⟩ | ⟨ds, rfl, _, h2, _⟩
  · exact fun c hc => by have := h2 c hc; omega
  · intro c hc
    rcases List.mem_cons.mp hc with rfl | hc
    · decide
    · have := h2 c hc; omega
end Mine
namespace Mine
theorem ite_some {c : Prop} [Decidable c] {α : Type} {x y : α} (h : (if c then some x else none) = some y) : c ∧ x = y := by
  split at h
  · rename_i hc; cases h; exact ⟨hc, rfl⟩
  · cases h
end Mine
end
section
open PySem PySem.W PyProof.Rows PySem.Spec
set_option linter.unusedVariables false
set_option linter.unusedSimpArgs false
set_option Elab.async false
set_option maxRecDepth 100000
namespace Mine
/-! law 04's numbers -/
noncomputable def atI (row ns : List Int) (p : Nat) : Int := match ns[p]? with
  | some x => x
  | none => row.getD (p % row.length) 0
noncomputable def cutI (v t : Int) : Int := if v < 0 then -((-v).fmod t) else v.fmod t
noncomputable def hv (b : Nat) (F : List Nat) : Nat := F.foldl (fun a d => a * b + d) 0
theorem hv_go (b : Nat) : ∀ (F : List Nat) (z : Nat), F.foldl (fun a d => a * b + d) z = z * b ^ F.length + hv b F
  | [], z => by simp [hv]
  | d :: F, z => by
    have h1 := hv_go b F (z * b + d)
    have h2 := hv_go b F (0 * b + d)
    unfold hv
    rw [List.foldl_cons, List.foldl_cons, h1, h2, List.length_cons, Nat.pow_succ, Nat.add_mul, Nat.add_mul]
    rw [Nat.mul_assoc z b, Nat.mul_comm b]
    omega
theorem hv_cons (b d : Nat) (F : List Nat) : hv b (d :: F) = d * b ^ F.length + hv b F := by
  have := hv_go b F d
  unfold hv at this ⊢
  rw [List.foldl_cons, Nat.zero_mul, Nat.zero_add]
  exact this
theorem hv_snoc (b d : Nat) (F : List Nat) : hv b (F ++ [d]) = hv b F * b + d := by
  unfold hv
  rw [List.foldl_append]; rfl
theorem hv_take (b : Nat) {F : List Nat} {k d : Nat} (h : F[k]? = some d) : hv b (F.take (k + 1)) = hv b (F.take k) * b + d := by
  rw [List.take_add_one, h]
  exact hv_snoc b d _
theorem hv_le (b : Nat) (hb : 1 ≤ b) : ∀ (F : List Nat) (k : Nat), hv b (F.take k) ≤ hv b F := by
  intro F k
  have e : hv b F = hv b (F.take k) * b ^ (F.drop k).length + hv b (F.drop k) := by
    have := hv_go b (F.drop k) (hv b (F.take k))
    rw [← this]
    unfold hv
    rw [← List.foldl_append, List.take_append_drop]
  have h1 : 1 ≤ b ^ (F.drop k).length := Nat.pow_pos (by omega)
  have := Nat.mul_le_mul_left (hv b (F.take k)) h1
  omega
/-- the primes as the law finds them -/
noncomputable def isPr (n : Nat) : Bool := (List.range n).all fun d => d < 2 || n % d != 0
noncomputable def lprS (l : List Nat) (n : Nat) : List Nat := if isPr n = true then l ++ [n] else l
noncomputable def lpr : Nat → List Nat
  | 0 => []
  | k + 1 => lprS (lpr k) (k + 2)
theorem lpr_length : ∀ k, (lpr k).length ≤ k
  | 0 => Nat.le_refl 0
  | k + 1 => by
    have := lpr_length k
    rw [lpr, lprS]
    split
    · rw [List.length_append]; simp; exact this
    · omega
theorem lpr_mem : ∀ {k x : Nat}, x ∈ lpr k → 2 ≤ x ∧ x ≤ k + 1
  | k + 1, x, h => by
    rw [lpr, lprS] at h
    split at h
    · rcases List.mem_append.mp h with h | h
      · have := lpr_mem h; omega
      · have : x = k + 2 := by simpa using h
        omega
    · have := lpr_mem h; omega
/-- down is multiplied by p's powers -/
noncomputable def dwP (p : Nat) : Nat → Nat → Int → Int
  | 0, _, d => d
  | f + 1, part, d => if 0 < part then dwP p f (part / p) (d * (p : Int) ^ part) else d
noncomputable def dwF (m : Nat) (l : List Nat) (d : Int) : Int := l.foldl (fun d p => dwP p 30 (m / p) d) d
theorem dw_key : (List.range 25).all (fun m => dwF m (lpr (m - 1)) 1 == facI (m : Int) && (prodI (natI (lpr (m - 1))) == prmI (m : Int))) = true := by decide +kernel
end Mine
end
section
open PySem PySem.W PyProof.Rows PySem.Spec
set_option linter.unusedVariables false
set_option linter.unusedSimpArgs false
set_option Elab.async false
set_option maxRecDepth 100000
namespace Mine
/-! law 04's texts -/
noncomputable def TokOk (t : List Nat) : Prop := noSp t ∧ t ≠ []
theorem tokNum (a : Int) : TokOk (numL a) := ⟨numL_noSp a, numL_ne a⟩
theorem tokLit {t : List Nat} (h : (t.all fun c => !Unicode.isSpace c) = true) (h' : t ≠ []) : TokOk t := ⟨fun c hc => by have := List.all_eq_true.mp h c hc; simpa using this, h'⟩
theorem tokOp2 (o : Op2) : TokOk (op2S o) := by cases o <;> exact tokLit (by decide +kernel) (by decide)
theorem tokOp1 (o : Op1) : TokOk (op1S o) := by cases o <;> exact tokLit (by decide +kernel) (by decide)
noncomputable def opm (i : Nat) : Op2 := if i % 2 = 0 then .mul else .mulx
noncomputable def opd (i : Nat) : Op2 := if i % 2 = 0 then .div else .divv
noncomputable def numN (d : Nat) : List Nat := numL (d : Int)
noncomputable def T1 (b : Nat) (F : List Nat) : Nat → List (List Nat)
  | 0 => [numN (F.getD 0 0)]
  | k + 1 => T1 b F k ++ [numN b, op2S (opm (k + 1)), numN (F.getD (k + 1) 0), op2S .add]
theorem T1_ok (b : Nat) (F : List Nat) : ∀ k, ∀ t ∈ T1 b F k, TokOk t
  | 0, t, h => by rw [List.mem_singleton.mp h]; exact tokNum _
  | k + 1, t, h => by
    rcases List.mem_append.mp h with h | h
    · exact T1_ok b F k t h
    · simp only [List.mem_cons, List.not_mem_nil, or_false] at h
      rcases h with rfl | rfl | rfl | rfl
      · exact tokNum _
      · exact tokOp2 _
      · exact tokNum _
      · exact tokOp2 _
theorem T1_len (b : Nat) (F : List Nat) : ∀ k, (T1 b F k).length = 1 + 4 * k
  | 0 => rfl
  | k + 1 => by
    rw [T1, List.length_append, T1_len b F k]; simp; omega
theorem T1_ne (b : Nat) (F : List Nat) (k : Nat) : T1 b F k ≠ [] := fun e => by
  have := T1_len b F k
  rw [e] at this; simp at this; omega
theorem numN_tok {d : Nat} (h : d < 10 ^ 61) : NumTok (numN d) (d : Int) := NumTok.num (by rw [Int.natAbs_natCast]; exact Nat.lt_of_lt_of_le h (Nat.pow_le_pow_right (by decide) (by decide)))
theorem mulN {a b : Nat} (ha : a < 10 ^ 62) (hb : b < 10 ^ 62) : mulOk (a : Int) (b : Int) = true := by
  have e : (10:Nat) ^ 62 < 2 ^ 210 := by decide
  refine mulOk_bd (m := 210) (n := 210) ?_ ?_ (by decide)
  · unfold Bd; rw [Int.natAbs_natCast]; omega
  · unfold Bd; rw [Int.natAbs_natCast]; omega
theorem T1_runs {b : Nat} {F : List Nat} (hb : b < 10 ^ 10) (hb1 : 1 ≤ b) (hd : ∀ d ∈ F, d < b) (hN : hv b F < 10 ^ 61) : ∀ k, k < F.length → Runs (T1 b F k) [] [((hv b (F.take (k + 1)) : Nat) : Int)]
  | 0, hk => by
    have h0 : F[0]? = some F[0] := List.getElem?_eq_getElem hk
    have hl : F[0] < 10 ^ 61 := Nat.lt_trans (hd _ (List.getElem_mem hk)) (Nat.lt_of_lt_of_le hb (Nat.pow_le_pow_right (by decide) (by decide)))
    have e : hv b (F.take (0 + 1)) = F[0] := by rw [hv_take b h0]; simp [hv]
    rw [e, T1]
    have eg : F.getD 0 0 = F[0] := by rw [List.getD_eq_getElem?_getD, h0]; rfl
    rw [eg]
    exact .cons (.num (st := []) (numN_tok hl)) .nil
  | k + 1, hk => by
    have ih := T1_runs hb hb1 hd hN k (by omega)
    have h0 : F[k + 1]? = some F[k + 1] := List.getElem?_eq_getElem hk
    have hl : F[k + 1] < 10 ^ 61 := Nat.lt_trans (hd _ (List.getElem_mem hk)) (Nat.lt_of_lt_of_le hb (Nat.pow_le_pow_right (by decide) (by decide)))
    have hbl : b < 10 ^ 61 := Nat.lt_of_lt_of_le hb (Nat.pow_le_pow_right (by decide) (by decide))
    have hle := hv_le b hb1 F (k + 1)
    have eg : F.getD (k + 1) 0 = F[k + 1] := by rw [List.getD_eq_getElem?_getD, h0]; rfl
    rw [hv_take b h0, T1, eg]
    generalize hv b (F.take (k + 1)) = x at *
    have hx : x < 10 ^ 61 := by omega
    have hm : mulOk (x : Int) (b : Int) = true := mulN (Nat.lt_of_lt_of_le hx (Nat.pow_le_pow_right (by decide) (by decide))) (Nat.lt_of_lt_of_le hbl (Nat.pow_le_pow_right (by decide) (by decide)))
    have hmul : op2 (x : Int) (b : Int) (opm (k + 1)) = some ((x : Int) * (b : Int)) := by
      unfold opm
      split <;> exact if_pos hm
    refine ih.append (.cons (.num (numN_tok hbl)) (.cons (.two (st := []) hmul) (.cons (.num (numN_tok hl)) ?_)))
    have := Runs.cons (StepT.two (st := []) (o := .add) (a := (x : Int) * (b : Int)) (b := ((F[k + 1] : Nat) : Int)) (c := ((x * b + F[k + 1] : Nat) : Int)) (by
      show some _ = some _
      rw [Int.natCast_add, Int.natCast_mul])) .nil
    exact this
/-- a longer text -/
theorem jn_more4 {T : List (List Nat)} (hT : T ≠ []) (a o d p : List Nat) : jn T ++ [32] ++ a ++ (32 :: (o ++ [32])) ++ d ++ (32 :: p) = jn (T ++ [a, o, d, p]) := by
  rw [jn_append hT (by simp)]
  show _ = jn T ++ 32 :: (a ++ 32 :: (o ++ 32 :: (d ++ 32 :: p)))
  simp
theorem jn_more2 {T : List (List Nat)} (hT : T ≠ []) (a o : List Nat) : jn T ++ [32] ++ a ++ (32 :: o) = jn (T ++ [a, o]) := by
  rw [jn_append hT (by simp)]
  show _ = jn T ++ 32 :: (a ++ 32 :: o)
  simp
theorem numN_len {d : Nat} (h : d < 10 ^ 10) : (numN d).length ≤ 11 := numL_len (k := 9) (by rw [Int.natAbs_natCast]; exact h)
theorem T1_size {b : Nat} {F : List Nat} (hb : b < 10 ^ 10) (hd : ∀ d ∈ F, d < b) : ∀ k, k < F.length → (jn (T1 b F k)).length ≤ 11 + 30 * k
  | 0, hk => by
    have h0 : F[0]? = some F[0] := List.getElem?_eq_getElem hk
    have eg : F.getD 0 0 = F[0] := by rw [List.getD_eq_getElem?_getD, h0]; rfl
    show (numN (F.getD 0 0)).length ≤ _
    rw [eg]
    exact numN_len (Nat.lt_trans (hd _ (List.getElem_mem hk)) hb)
  | k + 1, hk => by
    have ih := T1_size hb hd k (by omega)
    have h0 : F[k + 1]? = some F[k + 1] := List.getElem?_eq_getElem hk
    have eg : F.getD (k + 1) 0 = F[k + 1] := by rw [List.getD_eq_getElem?_getD, h0]; rfl
    have l1 := numN_len hb
    have l2 := numN_len (Nat.lt_trans (hd _ (List.getElem_mem hk)) hb)
    have l3 : (op2S (opm (k + 1))).length ≤ 1 := by unfold opm; split <;> decide
    have l4 : (op2S .add).length = 1 := rfl
    rw [T1, ← jn_more4 (T1_ne b F k), eg]
    simp only [List.length_append, List.length_cons, List.length_nil]
    omega
/-- below nought -/
theorem neg_text {T : List (List Nat)} (hT : T ≠ []) : [48, 32] ++ jn T ++ [32, 45] = jn ([[48]] ++ T ++ [op2S .sub]) := by
  rw [jn_append (by simp) (by simp), jn_append (by simp) hT]
  show _ = ([48] ++ 32 :: jn T) ++ 32 :: [45]
  simp
theorem neg_runs {T : List (List Nat)} {x : Nat} (h : ∀ st, Runs T st (st ++ [(x : Int)])) : Runs ([[48]] ++ T ++ [op2S .sub]) [] [-(x : Int)] := by
  refine Runs.append (Runs.append (Runs.cons (StepT.num (st := []) (n := 0) ⟨by decide, .inl ⟨by decide, by decide, rfl⟩⟩) .nil) (h _)) ?_
  have := Runs.cons (StepT.two (st := []) (o := .sub) (a := 0) (b := (x : Int)) (c := -(x : Int)) (by
    show some _ = some _
    rw [Int.zero_sub])) .nil
  exact this
theorem StepT.under {t : List Nat} {a c : List Int} (h : StepT t a c) (st : List Int) : StepT t (st ++ a) (st ++ c) := by
  cases h with
  | num h => rw [← List.append_assoc]; exact .num h
  | two h => rw [← List.append_assoc, ← List.append_assoc, ← List.append_assoc]; exact .two h
  | one h => rw [← List.append_assoc, ← List.append_assoc]; exact .one h
theorem Runs.under {ts : List (List Nat)} {a c : List Int} (h : Runs ts a c) (st : List Int) : Runs ts (st ++ a) (st ++ c) := by
  induction h with
  | nil => exact .nil
  | cons s r ih => exact .cons (s.under st) ih
/-! the second row -/
noncomputable def T2 (b : Nat) (n : Int) : Nat → List (List Nat)
  | 0 => [numL n]
  | k + 1 => T2 b n k ++ [numN b, op2S (opd k)]
theorem T2_ok (b : Nat) (n : Int) : ∀ k, ∀ t ∈ T2 b n k, TokOk t
  | 0, t, h => by rw [List.mem_singleton.mp h]; exact tokNum _
  | k + 1, t, h => by
    rcases List.mem_append.mp h with h | h
    · exact T2_ok b n k t h
    · simp only [List.mem_cons, List.not_mem_nil, or_false] at h
      rcases h with rfl | rfl
      · exact tokNum _
      · exact tokOp2 _
theorem T2_len (b : Nat) (n : Int) : ∀ k, (T2 b n k).length = 1 + 2 * k
  | 0 => rfl
  | k + 1 => by
    rw [T2, List.length_append, T2_len b n k]; simp; omega
theorem T2_ne (b : Nat) (n : Int) (k : Nat) : T2 b n k ≠ [] := fun e => by
  have := T2_len b n k
  rw [e] at this; simp at this; omega
theorem T2_size {b : Nat} {n : Int} (hb : b < 10 ^ 10) (hn : n.natAbs < 10 ^ 61) : ∀ k, (jn (T2 b n k)).length ≤ 62 + 20 * k
  | 0 => numL_len (k := 60) hn
  | k + 1 => by
    have ih := T2_size (n := n) hb hn k
    have l1 := numN_len hb
    have l3 : (op2S (opd k)).length ≤ 2 := by unfold opd; split <;> decide
    rw [T2, ← jn_more2 (T2_ne b n k)]
    simp only [List.length_append, List.length_cons, List.length_nil]
    omega
theorem fdiv_pow (n : Int) (b k : Nat) : (n.fdiv ((b : Int) ^ k)).fdiv (b : Int) = n.fdiv ((b : Int) ^ (k + 1)) := by
  have h0 : (0 : Int) ≤ (b : Int) ^ k := Int.pow_nonneg (by omega)
  rw [Int.fdiv_eq_ediv_of_nonneg _ h0, Int.fdiv_eq_ediv_of_nonneg _ (by omega), Int.fdiv_eq_ediv_of_nonneg _ (Int.pow_nonneg (by omega)), Int.pow_succ, Int.ediv_ediv, if_neg (fun h => absurd h.1 (Int.not_lt.mpr h0)), Int.sub_zero]
theorem divB {a : Int} {b : Nat} (h0 : 0 < b) (hb : b < 10 ^ 10) : divOk a (b : Int) = true := by
  have t40 : (2:Int) ^ 40 = 1099511627776 := by decide
  have t10 : (10:Nat) ^ 10 = 10000000000 := by decide
  exact divOk_bd (n := 40) (by omega) (Bd.ofNat (by omega) (by omega)) (by decide)
theorem T2_runs {b : Nat} {n : Int} (h0 : 0 < b) (hb : b < 10 ^ 10) (hn : n.natAbs < 10 ^ 61) : ∀ k, Runs (T2 b n k) [] [n.fdiv ((b : Int) ^ k)]
  | 0 => by
    rw [Int.pow_zero, Int.fdiv_one]
    exact .cons (.num (st := []) (NumTok.num (Nat.lt_of_lt_of_le hn (Nat.pow_le_pow_right (by decide) (by decide))))) .nil
  | k + 1 => by
    have ih := T2_runs (n := n) h0 hb hn k
    have hbl : b < 10 ^ 61 := Nat.lt_of_lt_of_le hb (Nat.pow_le_pow_right (by decide) (by decide))
    refine ih.append (.cons (.num (numN_tok hbl)) (.cons (.two (st := []) (c := n.fdiv ((b : Int) ^ (k + 1))) ?_) .nil))
    rw [← fdiv_pow]
    unfold opd
    split <;> exact if_pos (divB h0 hb)
theorem T2_fin {b : Nat} {n : Int} (h0 : 0 < b) (hb : b < 10 ^ 10) (hn : n.natAbs < 10 ^ 61) (k : Nat) : Runs (T2 b n k ++ [numN b, op2S .mod]) [] [(n.fdiv ((b : Int) ^ k)).fmod (b : Int)] := by
  have hbl : b < 10 ^ 61 := Nat.lt_of_lt_of_le hb (Nat.pow_le_pow_right (by decide) (by decide))
  refine (T2_runs h0 hb hn k).append (.cons (.num (numN_tok hbl)) (.cons (.two (st := []) ?_) .nil))
  show (if (b : Int) ≠ 0 then some _ else none) = _
  rw [if_pos (by omega)]
theorem figure_eq (n : Int) {b : Nat} (h0 : 0 < b) (k : Nat) : (n.fmod ((b : Int) ^ (k + 1)) - n.fmod ((b : Int) ^ k)).fdiv ((b : Int) ^ k) = (n.fdiv ((b : Int) ^ k)).fmod (b : Int) := by
  have hB : (0 : Int) < (b : Int) ^ k := Int.pow_pos (by omega)
  have hb : (0 : Int) < (b : Int) := by omega
  rw [Int.pow_succ]
  generalize (b : Int) ^ k = B at *
  generalize (b : Int) = c at *
  have hBc : 0 < B * c := Int.mul_pos hB hb
  rw [Int.fmod_eq_emod_of_nonneg _ (Int.le_of_lt hBc), Int.fmod_eq_emod_of_nonneg _ (Int.le_of_lt hB), Int.fdiv_eq_ediv_of_nonneg _ (Int.le_of_lt hB), Int.fdiv_eq_ediv_of_nonneg _ (Int.le_of_lt hB), Int.fmod_eq_emod_of_nonneg _ (Int.le_of_lt hb)]
  have e1 := Int.mul_ediv_add_emod n B
  have e2 := Int.mul_ediv_add_emod (n / B) c
  have r1 := Int.emod_nonneg n (Int.ne_of_gt hB)
  have r2 := Int.emod_lt_of_pos n hB
  have s1 := Int.emod_nonneg (n / B) (Int.ne_of_gt hb)
  have s2 := Int.emod_lt_of_pos (n / B) hb
  have key : n % (B * c) = B * (n / B % c) + n % B := by
    have e3 : n = B * c * (n / B / c) + (B * (n / B % c) + n % B) := by
      rw [Int.mul_assoc, ← Int.add_assoc, ← Int.mul_add, e2, e1]
    have b1 : 0 ≤ B * (n / B % c) + n % B := Int.add_nonneg (Int.mul_nonneg (Int.le_of_lt hB) s1) r1
    have b2 : B * (n / B % c) + n % B < B * c := by
      have : B * (n / B % c) ≤ B * (c - 1) := Int.mul_le_mul_of_nonneg_left (by omega) (Int.le_of_lt hB)
      rw [Int.mul_sub, Int.mul_one] at this
      omega
    conv => lhs; rw [e3]
    rw [Int.mul_add_emod_self_left, Int.emod_eq_of_lt b1 b2]
  rw [key, Int.add_sub_cancel, Int.mul_ediv_cancel_left _ (Int.ne_of_gt hB)]
/-! the third row -/
noncomputable def T3 (m : Int) : List (List Nat) := [numL m, op1S .fac, numL m, op1S .prm, numL m, op1S .fct, numL m, op1S .prp]
theorem T3_ok (m : Int) : ∀ t ∈ T3 m, TokOk t := by
  intro t h
  simp only [T3, List.mem_cons, List.not_mem_nil, or_false] at h
  rcases h with rfl | rfl | rfl | rfl | rfl | rfl | rfl | rfl <;> first | exact tokNum _ | exact tokOp1 _
theorem T3_jn (m : Int) : numL m ++ [32, 33, 32] ++ numL m ++ [32, 35, 32] ++ numL m ++ [32, 102, 32] ++ numL m ++ [32, 112] = jn (T3 m) := by
  show _ = numL m ++ 32 :: ([33] ++ 32 :: (numL m ++ 32 :: ([35] ++ 32 :: (numL m ++ 32 :: ([102] ++ 32 :: (numL m ++ 32 :: [112]))))))
  simp
theorem T3_runs {m : Int} (h1 : -3 ≤ m) (h2 : m ≤ 24) : Runs (T3 m) [] [facI m, prmI m, facI m, prmI m] := by
  have ht : NumTok (numL m) m := NumTok.num (Nat.lt_of_lt_of_le (show m.natAbs < 10 ^ 2 by omega) (Nat.pow_le_pow_right (by decide) (by decide)))
  have c : -1000 ≤ m ∧ m ≤ 100 := by omega
  exact .cons (.num (st := []) ht) (.cons (.one (st := []) (if_pos c)) (.cons (.num (st := [facI m]) ht) (.cons (.one (st := [facI m]) (if_pos c)) (.cons (.num (st := [facI m, prmI m]) ht) (.cons (.one (st := [facI m, prmI m]) (if_pos c))
    (.cons (.num (st := [facI m, prmI m, facI m]) ht) (.cons (.one (st := [facI m, prmI m, facI m]) (if_pos c)) .nil)))))))
theorem dw_eq {m : Int} (h1 : -3 ≤ m) (h2 : m ≤ 24) : dwF m.toNat (lpr (m.toNat - 1)) 1 = facI m ∧ prodI (natI (lpr (m.toNat - 1))) = prmI m := by
  have key := List.all_eq_true.mp dw_key m.toNat (List.mem_range.mpr (by omega))
  rw [Bool.and_eq_true, beq_iff_eq, beq_iff_eq] at key
  have e1 : facI ((m.toNat : Nat) : Int) = facI m := by unfold facI; rw [Int.toNat_natCast]
  have e2 : prmI ((m.toNat : Nat) : Int) = prmI m := by unfold prmI; rw [Int.toNat_natCast]
  rw [← e1, ← e2]
  exact key
end Mine
end
section
open PySem PySem.W PyProof.Rows PySem.Spec
set_option linter.unusedVariables false
set_option linter.unusedSimpArgs false
set_option Elab.async false
set_option maxRecDepth 100000
namespace Mine
section
variable {r : R} {Q : D → Prop} {es : Evs} {Fg : List D → Option (List Int)} {ds : List D} {vals : List Int}
noncomputable def GK (Fg : List D → Option (List Int)) (ds : List D) (Q : D → Prop) : Prop := ∃ vals, Fg ds = some vals ∧ Q (.lst (intsD vals))
theorem GK.of (h : Fg ds = some vals) (k : Q (.lst (intsD vals))) : GK Fg ds Q := ⟨vals, h, k⟩
theorem EW.gen (h : EsW es r fun ds => GK Fg ds Q) : EW (eGen Fg es) r Q := by
  obtain ⟨ds, e, vals, e', q⟩ := h
  exact ⟨_, by unfold eGen; rw [e]; simp only [e'], q⟩
theorem OW.neSelf {a : Int} (k : Q (.bool false)) : OW fNe (.lst (intsD [a])) (.lst [.int a]) Q := OW.neL (l := [a]) (r := [a]) (by rw [beq_self_eq_true]; exact k)
theorem OW.eqSelf4 {a b c d : Int} (k : Q (.bool true)) : OW fEq (.lst (intsD [a, b, c, d])) (.lst [.int a, .int b, .int c, .int d]) Q := OW.eqL (l := [a, b, c, d]) (r := [a, b, c, d]) (by rw [beq_self_eq_true]; exact k)
theorem EW.cstS {x : Str} {l : List Nat} (h : x = mkS l) (k : Q (.str (mkS l))) : EW (eCst (.str x)) r Q := EW.cst (by rw [h]; exact k)
end
theorem cutI_lt {v t : Int} (h : 0 < t) : (cutI v t).natAbs < t.natAbs := by
  unfold cutI
  have a1 := Int.fmod_nonneg_of_pos v h
  have a2 := Int.fmod_lt_of_pos v h
  have b1 := Int.fmod_nonneg_of_pos (-v) h
  have b2 := Int.fmod_lt_of_pos (-v) h
  split <;> omega
theorem base_nat (v : Int) : ∃ b : Nat, 10 + (if v < 0 then -v else v).fmod (10 ^ (9 : Int).toNat + 7) = (b : Int) ∧ 10 ≤ b ∧ b < 10 ^ 10 := by
  have h : (0 : Int) < 10 ^ (9 : Int).toNat + 7 := by decide
  have e : (10 : Int) ^ (9 : Int).toNat + 7 = 1000000007 := by decide
  have a1 := Int.fmod_nonneg_of_pos (if v < 0 then -v else v) h
  have a2 := Int.fmod_lt_of_pos (if v < 0 then -v else v) h
  rw [e] at a1 a2 ⊢
  have t10 : (10:Nat) ^ 10 = 10000000000 := by decide
  generalize (if v < 0 then -v else v).fmod 1000000007 = z at *
  exact ⟨(10 + z).toNat, by omega, by omega, by omega⟩
theorem mod_nat (v : Int) {k : Nat} (h : 0 < k) : ∃ P : Nat, v.fmod (k : Int) = (P : Int) ∧ P < k := by
  have a1 := Int.fmod_nonneg_of_pos v (show (0 : Int) < (k : Int) by omega)
  have a2 := Int.fmod_lt_of_pos v (show (0 : Int) < (k : Int) by omega)
  exact ⟨(v.fmod (k : Int)).toNat, by omega, by omega⟩
theorem getD_ints {F : List Nat} {k : Nat} (h : k < F.length) (hk : k ≤ 10000) : fSubs (.lst (intsD (natI F))) (.int (k : Int)) = some (.int ((F.getD k 0 : Nat) : Int)) := by
  refine fSubs_ints ?_ hk
  unfold natI
  rw [List.getElem?_map, List.getD_eq_getElem?_getD, List.getElem?_eq_getElem h]; rfl
theorem pick_m (k : Nat) : fSubs (.tup [.str (mkS [32, 42, 32]), .str (mkS [32, 120, 32])]) (.int (((k : Int) + 1).fmod 2)) = some (.str (mkS (32 :: (op2S (opm (k + 1)) ++ [32])))) := by
  rw [show ((k : Int) + 1).fmod 2 = (((k + 1) % 2 : Nat) : Int) from fmod_nat (k + 1) 2]
  unfold opm
  rcases Nat.mod_two_eq_zero_or_one (k + 1) with h | h <;> rw [h] <;> rfl
theorem pick_d (k : Nat) : fSubs (.tup [.str (mkS [32, 47]), .str (mkS [32, 47, 47])]) (.int ((k : Int).fmod 2)) = some (.str (mkS (32 :: op2S (opd k)))) := by
  rw [show (k : Int).fmod 2 = ((k % 2 : Nat) : Int) from fmod_nat k 2]
  unfold opd
  rcases Nat.mod_two_eq_zero_or_one k with h | h <;> rw [h] <;> rfl
/-! the tokens with the sign -/
noncomputable def TS (neg : Prop) [Decidable neg] (T : List (List Nat)) : List (List Nat) := if neg then [[48]] ++ T ++ [op2S .sub] else T
theorem TS_words {neg : Prop} [Decidable neg] {T : List (List Nat)} (h : ∀ t ∈ T, TokOk t) : wordsL [] (jn (TS neg T)) = TS neg T := by
  refine wordsL_jn ?_
  unfold TS
  split
  · intro t ht
    rcases List.mem_append.mp ht with ht | ht
    · rcases List.mem_append.mp ht with ht | ht
      · rw [List.mem_singleton.mp ht]; exact tokLit (by decide +kernel) (by decide)
      · exact h t ht
    · rw [List.mem_singleton.mp ht]; exact tokOp2 _
  · exact h
theorem TS_size {neg : Prop} [Decidable neg] {T : List (List Nat)} (hT : T ≠ []) : (jn (TS neg T)).length ≤ (jn T).length + 4 := by
  unfold TS
  split
  · rw [← neg_text hT]; simp
  · omega
theorem TS_len {neg : Prop} [Decidable neg] {T : List (List Nat)} : (TS neg T).length ≤ T.length + 2 := by
  unfold TS
  split
  · simp
  · omega
theorem TS_runs {T : List (List Nat)} {n : Int} {x : Nat} (hx : x = n.natAbs) (h : Runs T [] [(x : Int)]) : Runs (TS (n < 0) T) [] [n] := by
  unfold TS
  split
  · have := neg_runs (x := x) fun st => by simpa using h.under st
    rwa [show -(x : Int) = n by omega] at this
  · rwa [show (x : Int) = n by omega] at h
/-! the loops of the third row -/
theorem bdN {k : Nat} {a : Nat} (h : a < 2 ^ k) : Bd k (a : Int) := by unfold Bd; rw [Int.natAbs_natCast]; exact h
theorem dwP_zero (p f : Nat) (d : Int) : dwP p f 0 d = d := by cases f <;> rfl
theorem dwP_step {p f part : Nat} {d : Int} (h : 0 < part) (hf : part ≤ f) : ∃ f', f = f' + 1 ∧ dwP p f part d = dwP p f' (part / p) (d * (p : Int) ^ part) := by
  obtain ⟨f', rfl⟩ : ∃ f', f = f' + 1 := ⟨f - 1, by omega⟩
  exact ⟨f', rfl, by rw [dwP, if_pos h]⟩
theorem pp_bd {p part : Nat} (hp : p ≤ 25) (hq : part ≤ 25) : Bd 130 ((p : Int) ^ part) := by
  have e : (p : Int) ^ part = ((p ^ part : Nat) : Int) := by simp
  rw [e]
  refine bdN (Nat.lt_of_le_of_lt (Nat.le_trans (Nat.pow_le_pow_left hp part) (Nat.pow_le_pow_right (by decide) hq)) (by decide))
end Mine
end
open PySem PySem.W PyProof.Rows PySem.Spec
set_option linter.unusedVariables false
set_option linter.unusedSimpArgs false
set_option Elab.async false
set_option maxRecDepth 100000
open_top Mine.hd for PySem.Challenge.rw_yt0001_04
namespace Mine
set_option maxHeartbeats 4000000


theorem ok_primegen {I : GI} (hat : HatI I hd.view_39)  : ∃ d, (recsOf hd.view_39)[0]? = some d ∧ d.name = ("primegen" : Str) ∧ ∃ G, FunOK I 1 d.name G ∧
    ∀ (L : Int), L ≤ 200 → G [.int L] = some (.lst (intsD (natI (pgR (L.toNat - 2))))) := by
  refine' ⟨_, rfl, rfl, _, FunOK.of 1000 (i := 0) (ns := ["limit", "found", "n"]) (m := 1) hat rfl ⟨rfl, by decide, by decide⟩ (by decide) (fun pm cd doc => vs1 fun a => rfl) rfl rfl ?h, ?g⟩
  case h =>
    dsimp only
    repeat' ((show (_ : Prop)); first | (with_reducible first | refine' RunG.cons ?_ ?_ | refine' RunG.ifS (TrG.cmp (EvG.listGen (by with_unfolding_all exact rfl) (by with_unfolding_all exact rfl) (by with_unfolding_all exact rfl) (by with_unfolding_all exact rfl) (by with_unfolding_all exact fun _ => rfl) (by with_unfolding_all exact fun _ => ⟨_, _, rfl⟩) (by with_unfolding_all exact fun _ => rfl) (by with_unfolding_all exact fun _ => ⟨_, _, rfl⟩) (by with_unfolding_all exact fun _ => rfl) (by assumption) (by assumption) ?_) ?_ ?_ (by with_unfolding_all exact rfl)) ?_ ?_ | refine' RunG.ret (EvG.cmp (EvG.listGen (by with_unfolding_all exact rfl) (by with_unfolding_all exact rfl) (by with_unfolding_all exact rfl) (by with_unfolding_all exact rfl) (by with_unfolding_all exact fun _ => rfl) (by with_unfolding_all exact fun _ => ⟨_, _, rfl⟩) (by with_unfolding_all exact fun _ => rfl) (by with_unfolding_all exact fun _ => ⟨_, _, rfl⟩) (by with_unfolding_all exact fun _ => rfl) (by assumption) (by assumption) ?_) ?_ ?_ (by with_unfolding_all exact rfl)) | refine' RunG.of ?_ | refine' EvOK.split (by with_unfolding_all exact fun _ => rfl) ?_ | refine' RunOK.pop (by with_unfolding_all exact rfl) (by with_unfolding_all exact rfl) (by with_unfolding_all exact rfl) (by with_unfolding_all exact fun _ => rfl) (by with_unfolding_all exact fun _ => rfl) (by with_unfolding_all exact ⟨rfl, by decide, by decide⟩) | exact (RunOK.dead : RunOK _ _ _ _ (exec (.Raise _ _ _)) _) | exact OpOK.add | exact OpOK.sub | exact OpOK.mul | exact OpOK.div | exact OpOK.mod | exact OpOK.pow | exact OpOK.lt | exact OpOK.le | exact OpOK.gt | exact OpOK.ge | exact OpOK.eq | exact OpOK.ne | exact OpOK.isIn | exact OpOK.notInS | exact IOpOK.add | exact IOpOK.mul | exact EvOK.cint | exact EvOK.cstr | exact EvOK.cbool | refine' EvOK.v (by with_unfolding_all exact rfl) (by with_unfolding_all exact rfl) (by with_unfolding_all exact rfl) (by with_unfolding_all exact rfl) | refine' EvOK.bin ?_ ?_ ?_ | refine' EvOK.neg ?_ | refine' EvOK.tup ?_ | refine' EvOK.lst ?_ | refine' EvOK.call' (by with_unfolding_all exact rfl) (by with_unfolding_all exact rfl) (by with_unfolding_all exact rfl) (by with_unfolding_all exact fun _ => rfl) (by with_unfolding_all exact rfl) (by with_unfolding_all exact fun _ => ⟨_, _, rfl⟩) (by with_unfolding_all first | assumption | exact FunOK.le (by assumption) (by decide)) ?_ | refine' EvOK.sliceLoS ?_ ?_ (by with_unfolding_all exact fun _ _ => rfl) | refine' EvOK.subs ?_ ?_ (by with_unfolding_all exact fun _ _ => rfl) | refine' EvOK.comp (by with_unfolding_all exact ⟨by decide, rfl, rfl, by decide, rfl, by decide, by decide⟩) ?_ ?_ ?_ (by with_unfolding_all exact fun _ _ => rfl) | exact EvsOK.nil | refine' EvsOK.cons ?_ ?_ (by with_unfolding_all exact fun _ => rfl) | refine' TestsOK.one ?_ | refine' TrOK.cmp ?_ ?_ ?_ (by with_unfolding_all exact rfl) | refine' TrOK.not ?_ | exact TrOK.and0 | refine' TrOK.and ?_ ?_ | refine' TrOK.plain ?_ (by with_unfolding_all exact fun _ _ => rfl) | exact RunOK.nil | refine' RunOK.cons ?_ ?_ | refine' RunOK.ret ?_ | refine' RunOK.ifS ?_ ?_ ?_ | refine' RunOK.whileS ?_ ?_ | refine' RunOK.new' (by with_unfolding_all exact rfl) (by with_unfolding_all exact fun _ => rfl) (by with_unfolding_all exact ⟨rfl, by decide, by decide⟩) ?_ | refine' RunOK.asg' (by with_unfolding_all exact rfl) (by with_unfolding_all exact fun _ => rfl) (by with_unfolding_all exact ⟨rfl, by decide, by decide⟩) ?_ | refine' RunOK.aug' (by with_unfolding_all exact rfl) (by with_unfolding_all exact ⟨rfl, by decide, by decide⟩) ?_ ?_ | refine' RunOK.for' (by with_unfolding_all exact rfl) (by with_unfolding_all exact fun _ _ => rfl) (by with_unfolding_all exact ⟨rfl, by decide, by decide⟩) ?_ ?_ | refine' RunOK.app' (by with_unfolding_all exact rfl) (by with_unfolding_all exact rfl) (by with_unfolding_all exact fun _ => rfl) (by with_unfolding_all exact fun _ => rfl) (by with_unfolding_all exact fun _ => rfl) (by with_unfolding_all exact ⟨rfl, by decide, by decide⟩) ?_))
  case g =>
    intro L hL
    refine CW.eq ?_
    repeat' ((fail_if_success (with_reducible refine (?_ : @Eq _ _ _))); first | ((with_reducible refine (?_ : EW (eCst (D.str _)) _ _)); with_reducible refine' EW.cstS (by with_reducible assumption) ?_) | ((with_reducible refine (?_ : OW fAdd (D.str _) (D.str _) _)); with_reducible refine' OW.addS (by with_unfolding_all (simp only [List.length_append, List.length_cons, List.length_nil]; omega)) ?_) | ((with_reducible refine (?_ : CW fStr _ _)); with_reducible refine' CW.str (by with_reducible assumption) ?_) | ((with_reducible refine (?_ : EW (eGen _ _) _ _)); with_reducible refine' EW.gen ?_) | ((with_reducible refine (?_ : GK _ _ _)); with_reducible refine' GK.of (by with_reducible assumption) ?_) | ((with_reducible refine (?_ : OW fNe (D.lst _) (D.lst _) _)); with_reducible refine' OW.neSelf ?_) | ((with_reducible refine (?_ : OW fEq (D.lst (intsD [_, _, _, _])) (D.lst _) _)); with_reducible refine' OW.eqSelf4 ?_) | ((with_reducible refine (?_ : EW (eComp _ _ (eVar _)) _ _)); with_reducible refine' EW.dgsVar (by with_unfolding_all exact rfl) (by first | with_reducible assumption | with_unfolding_all exact Nat.le_of_ble_eq_true rfl) ?_) | ((with_reducible refine (?_ : EW (eComp _ _ (Mine.e2 fSloS _ _)) _ _)); with_reducible refine' EW.dgsTail (by with_unfolding_all exact rfl) (by with_reducible assumption) ?_) | ((with_reducible refine (?_ : OW fEq (D.lst (List.map chD _)) (D.lst []) _)); with_reducible refine' OW.eqNil (by first | with_reducible assumption | decide) ?_) | ((with_reducible refine (?_ : IfK (List.all _ _) _ _)); with_reducible first | refine' IfK.hT (by first | with_reducible assumption | decide) ?_ | refine' IfK.hF (by first | with_reducible assumption | decide) ?_) | ((with_reducible refine (?_ : CW fInt [D.str _] _)); with_reducible refine' CW.intT (by with_reducible assumption) ?_) | ((with_reducible refine (?_ : CW fLen [D.str _] _)); with_reducible refine' CW.lenS (by first | with_reducible assumption | with_unfolding_all exact Nat.le_of_ble_eq_true rfl) ?_) | ((with_reducible refine (?_ : OW fEq (D.str _) (D.str _) _)); with_reducible first | refine' OW.clT (by decide +kernel) ?_ | refine' OW.clF (by decide +kernel) ?_) | ((with_reducible refine (?_ : OW (fIn false) (D.str _) (D.tup _) _)); with_reducible first | refine' OW.clT (by decide +kernel) ?_ | refine' OW.clF (by decide +kernel) ?_) | ((with_reducible refine (?_ : RW (rPop _ _) _ _ _)); with_reducible refine' RW.pop (by with_unfolding_all exact rfl) (by with_reducible assumption) ?_) | ((with_reducible refine (?_ : RW (rRetG _) _ _ _)); with_reducible refine' RW.retG ?_) | ((with_reducible refine (?_ : IfK (@decide ((1:Int) < (List.length _ : Int)) _) _ _)); with_reducible first | refine' IfK.decT (by first | with_reducible assumption | decide) ?_ | refine' IfK.decF (by first | with_reducible assumption | decide) ?_) | (with_reducible first | refine' CK.ret ?_ | refine' SK.next ?_ | refine' SK.ret ?_ | refine' LK.next ?_ | refine' RW.nil ?_ | refine' RW.seq ?_) | ((with_reducible refine (?_ : RW _ _ _ _)); with_reducible refine' RW.lenOk (by with_unfolding_all exact rfl) ?_) | (with_reducible first | refine' SW.of ?_ | refine' PutAt.of ?_ ?_) | with_reducible exact SetR.z | (with_reducible first | refine' SetR.s3 ?_ | refine' SetR.s ?_) | (with_reducible refine (?_ : SetR _ (0 + 1) _ _)); refine SetR.s ?_ | ((with_reducible refine (?_ : RW _ _ _ _)); with_reducible refine' RW.retF (E := eVar _) (by with_unfolding_all exact rfl) ?_) | (with_reducible first | refine' RW.asg ?_ | refine' RW.ret ?_) | (fail_if_success (have : StopIf := by with_reducible assumption)); (with_reducible refine' RW.if ?_) | (with_reducible first | refine' RW.for ?_ | refine' RW.while ?_ | refine' RW.new ?_) | ((with_reducible refine (?_ : RW _ _ _ _)); with_reducible refine' RW.app (by with_unfolding_all exact rfl) (by first | with_reducible assumption | with_unfolding_all exact Nat.le_of_ble_eq_true rfl) ?_) | ((with_reducible refine (?_ : RW _ _ _ _)); with_reducible refine' RW.aug (by with_unfolding_all exact rfl) ?_) | (with_reducible first | refine' IfK.t ?_ | refine' IfK.f ?_) | (with_reducible refine' IfK.gd ?_; with_reducible refine' IfK.decT (by first | with_reducible assumption | with_unfolding_all omega) ?_) | (with_reducible refine' IfK.gd ?_; with_reducible refine' IfK.decF (by first | with_reducible assumption | with_unfolding_all omega) ?_) | (with_reducible first | refine' NotK.t ?_ | refine' NotK.f ?_ | refine' TruthK.bool ?_) | ((with_reducible refine (?_ : EW (eVar _) _ _)); with_reducible refine' EW.var (by with_unfolding_all exact rfl) ?_) | (with_reducible first | refine' EW.cst ?_ | refine' EW.e1 ?_ | refine' EW.e2 ?_ | refine' EW.call ?_ | refine' EW.tup ?_ | refine' EW.lst ?_ | refine' EW.comp ?_ | refine' EsW.nil ?_ | refine' EsW.cons ?_ | refine' TW.c ?_) | ((with_reducible refine (?_ : TpK _ _)); with_reducible refine' TpK.mk (by with_unfolding_all exact Nat.le_of_ble_eq_true rfl) ?_) | ((with_reducible refine (?_ : LsK _ _)); with_reducible refine' LsK.mk (by with_unfolding_all exact Nat.le_of_ble_eq_true rfl) ?_) | (with_reducible first | refine' TW.tOf ?_ | refine' TW.not ?_ | refine' TW.and ?_) | ((with_reducible refine (?_ : CW _ _ _)); with_reducible refine' CW.of (by with_reducible assumption) ?_) | ((with_reducible refine (?_ : OW _ _ _ _)); with_reducible refine' OW.of (by with_reducible assumption) ?_) | (with_reducible first | refine' OW.add ?_ | refine' OW.addI ?_ | refine' OW.sub ?_ | refine' OW.ord ?_ | refine' OW.eq ?_ | refine' OW.ne ?_) | ((with_reducible refine (?_ : OW fMul _ _ _)); with_reducible refine' OW.mul (by first | with_reducible assumption | with_unfolding_all exact mulOk_sm (by omega) (by omega)) ?_) | ((with_reducible refine (?_ : OW fDiv _ _ _)); with_reducible refine' OW.div (by with_reducible assumption) ?_) | ((with_reducible refine (?_ : OW fMod _ _ _)); with_reducible refine' OW.mod (by first | with_reducible assumption | with_unfolding_all omega) ?_) | ((with_reducible refine (?_ : OW fPow _ _ _)); with_reducible refine' OW.pow (by with_reducible assumption) ?_) | (with_reducible first | refine' UW.neg ?_) | (with_reducible first | refine' CW.abs ?_ | refine' CW.range1 ?_ | refine' CW.range2 ?_) | ((with_reducible refine (?_ : CW _ _ _)); with_reducible refine' CW.fn (by with_unfolding_all (repeat (first | exact StartsAt.nil | apply StartsAt.cons | apply StartsAt.unb))) (by with_unfolding_all exact rfl) ?_))
    refine ⟨by decide, ?_⟩
    repeat' ((fail_if_success (with_reducible refine (?_ : @Eq _ _ _))); first | ((with_reducible refine (?_ : EW (eCst (D.str _)) _ _)); with_reducible refine' EW.cstS (by with_reducible assumption) ?_) | ((with_reducible refine (?_ : OW fAdd (D.str _) (D.str _) _)); with_reducible refine' OW.addS (by with_unfolding_all (simp only [List.length_append, List.length_cons, List.length_nil]; omega)) ?_) | ((with_reducible refine (?_ : CW fStr _ _)); with_reducible refine' CW.str (by with_reducible assumption) ?_) | ((with_reducible refine (?_ : EW (eGen _ _) _ _)); with_reducible refine' EW.gen ?_) | ((with_reducible refine (?_ : GK _ _ _)); with_reducible refine' GK.of (by with_reducible assumption) ?_) | ((with_reducible refine (?_ : OW fNe (D.lst _) (D.lst _) _)); with_reducible refine' OW.neSelf ?_) | ((with_reducible refine (?_ : OW fEq (D.lst (intsD [_, _, _, _])) (D.lst _) _)); with_reducible refine' OW.eqSelf4 ?_) | ((with_reducible refine (?_ : EW (eComp _ _ (eVar _)) _ _)); with_reducible refine' EW.dgsVar (by with_unfolding_all exact rfl) (by first | with_reducible assumption | with_unfolding_all exact Nat.le_of_ble_eq_true rfl) ?_) | ((with_reducible refine (?_ : EW (eComp _ _ (Mine.e2 fSloS _ _)) _ _)); with_reducible refine' EW.dgsTail (by with_unfolding_all exact rfl) (by with_reducible assumption) ?_) | ((with_reducible refine (?_ : OW fEq (D.lst (List.map chD _)) (D.lst []) _)); with_reducible refine' OW.eqNil (by first | with_reducible assumption | decide) ?_) | ((with_reducible refine (?_ : IfK (List.all _ _) _ _)); with_reducible first | refine' IfK.hT (by first | with_reducible assumption | decide) ?_ | refine' IfK.hF (by first | with_reducible assumption | decide) ?_) | ((with_reducible refine (?_ : CW fInt [D.str _] _)); with_reducible refine' CW.intT (by with_reducible assumption) ?_) | ((with_reducible refine (?_ : CW fLen [D.str _] _)); with_reducible refine' CW.lenS (by first | with_reducible assumption | with_unfolding_all exact Nat.le_of_ble_eq_true rfl) ?_) | ((with_reducible refine (?_ : OW fEq (D.str _) (D.str _) _)); with_reducible first | refine' OW.clT (by decide +kernel) ?_ | refine' OW.clF (by decide +kernel) ?_) | ((with_reducible refine (?_ : OW (fIn false) (D.str _) (D.tup _) _)); with_reducible first | refine' OW.clT (by decide +kernel) ?_ | refine' OW.clF (by decide +kernel) ?_) | ((with_reducible refine (?_ : RW (rPop _ _) _ _ _)); with_reducible refine' RW.pop (by with_unfolding_all exact rfl) (by with_reducible assumption) ?_) | ((with_reducible refine (?_ : RW (rRetG _) _ _ _)); with_reducible refine' RW.retG ?_) | ((with_reducible refine (?_ : IfK (@decide ((1:Int) < (List.length _ : Int)) _) _ _)); with_reducible first | refine' IfK.decT (by first | with_reducible assumption | decide) ?_ | refine' IfK.decF (by first | with_reducible assumption | decide) ?_) | (with_reducible first | refine' CK.ret ?_ | refine' SK.next ?_ | refine' SK.ret ?_ | refine' LK.next ?_ | refine' RW.nil ?_ | refine' RW.seq ?_) | ((with_reducible refine (?_ : RW _ _ _ _)); with_reducible refine' RW.lenOk (by with_unfolding_all exact rfl) ?_) | (with_reducible first | refine' SW.of ?_ | refine' PutAt.of ?_ ?_) | with_reducible exact SetR.z | (with_reducible first | refine' SetR.s3 ?_ | refine' SetR.s ?_) | (with_reducible refine (?_ : SetR _ (0 + 1) _ _)); refine SetR.s ?_ | ((with_reducible refine (?_ : RW _ _ _ _)); with_reducible refine' RW.retF (E := eVar _) (by with_unfolding_all exact rfl) ?_) | (with_reducible first | refine' RW.asg ?_ | refine' RW.ret ?_) | (fail_if_success (have : StopIf := by with_reducible assumption)); (with_reducible refine' RW.if ?_) | (with_reducible first | refine' RW.for ?_ | refine' RW.while ?_ | refine' RW.new ?_) | ((with_reducible refine (?_ : RW _ _ _ _)); with_reducible refine' RW.app (by with_unfolding_all exact rfl) (by first | with_reducible assumption | with_unfolding_all exact Nat.le_of_ble_eq_true rfl) ?_) | ((with_reducible refine (?_ : RW _ _ _ _)); with_reducible refine' RW.aug (by with_unfolding_all exact rfl) ?_) | (with_reducible first | refine' IfK.t ?_ | refine' IfK.f ?_) | (with_reducible refine' IfK.gd ?_; with_reducible refine' IfK.decT (by first | with_reducible assumption | with_unfolding_all omega) ?_) | (with_reducible refine' IfK.gd ?_; with_reducible refine' IfK.decF (by first | with_reducible assumption | with_unfolding_all omega) ?_) | (with_reducible first | refine' NotK.t ?_ | refine' NotK.f ?_ | refine' TruthK.bool ?_) | ((with_reducible refine (?_ : EW (eVar _) _ _)); with_reducible refine' EW.var (by with_unfolding_all exact rfl) ?_) | (with_reducible first | refine' EW.cst ?_ | refine' EW.e1 ?_ | refine' EW.e2 ?_ | refine' EW.call ?_ | refine' EW.tup ?_ | refine' EW.lst ?_ | refine' EW.comp ?_ | refine' EsW.nil ?_ | refine' EsW.cons ?_ | refine' TW.c ?_) | ((with_reducible refine (?_ : TpK _ _)); with_reducible refine' TpK.mk (by with_unfolding_all exact Nat.le_of_ble_eq_true rfl) ?_) | ((with_reducible refine (?_ : LsK _ _)); with_reducible refine' LsK.mk (by with_unfolding_all exact Nat.le_of_ble_eq_true rfl) ?_) | (with_reducible first | refine' TW.tOf ?_ | refine' TW.not ?_ | refine' TW.and ?_) | ((with_reducible refine (?_ : CW _ _ _)); with_reducible refine' CW.of (by with_reducible assumption) ?_) | ((with_reducible refine (?_ : OW _ _ _ _)); with_reducible refine' OW.of (by with_reducible assumption) ?_) | (with_reducible first | refine' OW.add ?_ | refine' OW.addI ?_ | refine' OW.sub ?_ | refine' OW.ord ?_ | refine' OW.eq ?_ | refine' OW.ne ?_) | ((with_reducible refine (?_ : OW fMul _ _ _)); with_reducible refine' OW.mul (by first | with_reducible assumption | with_unfolding_all exact mulOk_sm (by omega) (by omega)) ?_) | ((with_reducible refine (?_ : OW fDiv _ _ _)); with_reducible refine' OW.div (by with_reducible assumption) ?_) | ((with_reducible refine (?_ : OW fMod _ _ _)); with_reducible refine' OW.mod (by first | with_reducible assumption | with_unfolding_all omega) ?_) | ((with_reducible refine (?_ : OW fPow _ _ _)); with_reducible refine' OW.pow (by with_reducible assumption) ?_) | (with_reducible first | refine' UW.neg ?_) | (with_reducible first | refine' CW.abs ?_ | refine' CW.range1 ?_ | refine' CW.range2 ?_) | ((with_reducible refine (?_ : CW _ _ _)); with_reducible refine' CW.fn (by with_unfolding_all (repeat (first | exact StartsAt.nil | apply StartsAt.cons | apply StartsAt.unb))) (by with_unfolding_all exact rfl) ?_))
    refine WW.inv (fun k σ => ∃ t : Nat, σ = [.imm (.int L), .mt (intsD (natI (pgR t))), .imm (.int ((t : Int) + 2))] ∧ t + k = L.toNat - 2) (k := L.toNat - 2) ⟨0, rfl, by omega⟩ ?_ ?_
    · omega
    rintro k σ ⟨t, rfl, ht⟩
    have pl := pgR_length t
    have el : (intsD (natI (pgR t))).length ≤ 10000 := by rw [intsD_length, natI_length]; omega
    by_cases c : (t : Int) + 2 < L
    · repeat' ((fail_if_success (with_reducible refine (?_ : @Eq _ _ _))); first | ((with_reducible refine (?_ : EW (eCst (D.str _)) _ _)); with_reducible refine' EW.cstS (by with_reducible assumption) ?_) | ((with_reducible refine (?_ : OW fAdd (D.str _) (D.str _) _)); with_reducible refine' OW.addS (by with_unfolding_all (simp only [List.length_append, List.length_cons, List.length_nil]; omega)) ?_) | ((with_reducible refine (?_ : CW fStr _ _)); with_reducible refine' CW.str (by with_reducible assumption) ?_) | ((with_reducible refine (?_ : EW (eGen _ _) _ _)); with_reducible refine' EW.gen ?_) | ((with_reducible refine (?_ : GK _ _ _)); with_reducible refine' GK.of (by with_reducible assumption) ?_) | ((with_reducible refine (?_ : OW fNe (D.lst _) (D.lst _) _)); with_reducible refine' OW.neSelf ?_) | ((with_reducible refine (?_ : OW fEq (D.lst (intsD [_, _, _, _])) (D.lst _) _)); with_reducible refine' OW.eqSelf4 ?_) | ((with_reducible refine (?_ : EW (eComp _ _ (eVar _)) _ _)); with_reducible refine' EW.dgsVar (by with_unfolding_all exact rfl) (by first | with_reducible assumption | with_unfolding_all exact Nat.le_of_ble_eq_true rfl) ?_) | ((with_reducible refine (?_ : EW (eComp _ _ (Mine.e2 fSloS _ _)) _ _)); with_reducible refine' EW.dgsTail (by with_unfolding_all exact rfl) (by with_reducible assumption) ?_) | ((with_reducible refine (?_ : OW fEq (D.lst (List.map chD _)) (D.lst []) _)); with_reducible refine' OW.eqNil (by first | with_reducible assumption | decide) ?_) | ((with_reducible refine (?_ : IfK (List.all _ _) _ _)); with_reducible first | refine' IfK.hT (by first | with_reducible assumption | decide) ?_ | refine' IfK.hF (by first | with_reducible assumption | decide) ?_) | ((with_reducible refine (?_ : CW fInt [D.str _] _)); with_reducible refine' CW.intT (by with_reducible assumption) ?_) | ((with_reducible refine (?_ : CW fLen [D.str _] _)); with_reducible refine' CW.lenS (by first | with_reducible assumption | with_unfolding_all exact Nat.le_of_ble_eq_true rfl) ?_) | ((with_reducible refine (?_ : OW fEq (D.str _) (D.str _) _)); with_reducible first | refine' OW.clT (by decide +kernel) ?_ | refine' OW.clF (by decide +kernel) ?_) | ((with_reducible refine (?_ : OW (fIn false) (D.str _) (D.tup _) _)); with_reducible first | refine' OW.clT (by decide +kernel) ?_ | refine' OW.clF (by decide +kernel) ?_) | ((with_reducible refine (?_ : RW (rPop _ _) _ _ _)); with_reducible refine' RW.pop (by with_unfolding_all exact rfl) (by with_reducible assumption) ?_) | ((with_reducible refine (?_ : RW (rRetG _) _ _ _)); with_reducible refine' RW.retG ?_) | ((with_reducible refine (?_ : IfK (@decide ((1:Int) < (List.length _ : Int)) _) _ _)); with_reducible first | refine' IfK.decT (by first | with_reducible assumption | decide) ?_ | refine' IfK.decF (by first | with_reducible assumption | decide) ?_) | (with_reducible first | refine' CK.ret ?_ | refine' SK.next ?_ | refine' SK.ret ?_ | refine' LK.next ?_ | refine' RW.nil ?_ | refine' RW.seq ?_) | ((with_reducible refine (?_ : RW _ _ _ _)); with_reducible refine' RW.lenOk (by with_unfolding_all exact rfl) ?_) | (with_reducible first | refine' SW.of ?_ | refine' PutAt.of ?_ ?_) | with_reducible exact SetR.z | (with_reducible first | refine' SetR.s3 ?_ | refine' SetR.s ?_) | (with_reducible refine (?_ : SetR _ (0 + 1) _ _)); refine SetR.s ?_ | ((with_reducible refine (?_ : RW _ _ _ _)); with_reducible refine' RW.retF (E := eVar _) (by with_unfolding_all exact rfl) ?_) | (with_reducible first | refine' RW.asg ?_ | refine' RW.ret ?_) | (fail_if_success (have : StopIf := by with_reducible assumption)); (with_reducible refine' RW.if ?_) | (with_reducible first | refine' RW.for ?_ | refine' RW.while ?_ | refine' RW.new ?_) | ((with_reducible refine (?_ : RW _ _ _ _)); with_reducible refine' RW.app (by with_unfolding_all exact rfl) (by first | with_reducible assumption | with_unfolding_all exact Nat.le_of_ble_eq_true rfl) ?_) | ((with_reducible refine (?_ : RW _ _ _ _)); with_reducible refine' RW.aug (by with_unfolding_all exact rfl) ?_) | (with_reducible first | refine' IfK.t ?_ | refine' IfK.f ?_) | (with_reducible refine' IfK.gd ?_; with_reducible refine' IfK.decT (by first | with_reducible assumption | with_unfolding_all omega) ?_) | (with_reducible refine' IfK.gd ?_; with_reducible refine' IfK.decF (by first | with_reducible assumption | with_unfolding_all omega) ?_) | (with_reducible first | refine' NotK.t ?_ | refine' NotK.f ?_ | refine' TruthK.bool ?_) | ((with_reducible refine (?_ : EW (eVar _) _ _)); with_reducible refine' EW.var (by with_unfolding_all exact rfl) ?_) | (with_reducible first | refine' EW.cst ?_ | refine' EW.e1 ?_ | refine' EW.e2 ?_ | refine' EW.call ?_ | refine' EW.tup ?_ | refine' EW.lst ?_ | refine' EW.comp ?_ | refine' EsW.nil ?_ | refine' EsW.cons ?_ | refine' TW.c ?_) | ((with_reducible refine (?_ : TpK _ _)); with_reducible refine' TpK.mk (by with_unfolding_all exact Nat.le_of_ble_eq_true rfl) ?_) | ((with_reducible refine (?_ : LsK _ _)); with_reducible refine' LsK.mk (by with_unfolding_all exact Nat.le_of_ble_eq_true rfl) ?_) | (with_reducible first | refine' TW.tOf ?_ | refine' TW.not ?_ | refine' TW.and ?_) | ((with_reducible refine (?_ : CW _ _ _)); with_reducible refine' CW.of (by with_reducible assumption) ?_) | ((with_reducible refine (?_ : OW _ _ _ _)); with_reducible refine' OW.of (by with_reducible assumption) ?_) | (with_reducible first | refine' OW.add ?_ | refine' OW.addI ?_ | refine' OW.sub ?_ | refine' OW.ord ?_ | refine' OW.eq ?_ | refine' OW.ne ?_) | ((with_reducible refine (?_ : OW fMul _ _ _)); with_reducible refine' OW.mul (by first | with_reducible assumption | with_unfolding_all exact mulOk_sm (by omega) (by omega)) ?_) | ((with_reducible refine (?_ : OW fDiv _ _ _)); with_reducible refine' OW.div (by with_reducible assumption) ?_) | ((with_reducible refine (?_ : OW fMod _ _ _)); with_reducible refine' OW.mod (by first | with_reducible assumption | with_unfolding_all omega) ?_) | ((with_reducible refine (?_ : OW fPow _ _ _)); with_reducible refine' OW.pow (by with_reducible assumption) ?_) | (with_reducible first | refine' UW.neg ?_) | (with_reducible first | refine' CW.abs ?_ | refine' CW.range1 ?_ | refine' CW.range2 ?_) | ((with_reducible refine (?_ : CW _ _ _)); with_reducible refine' CW.fn (by with_unfolding_all (repeat (first | exact StartsAt.nil | apply StartsAt.cons | apply StartsAt.unb))) (by with_unfolding_all exact rfl) ?_))
      refine CompK.ints (p := fun x => decide (x * x ≤ (t : Int) + 2) && decide (((t : Int) + 2).fmod x = 0)) (g := fun x => x) (items_lst (by rw [intsD_length, natI_length]; omega)) ?_ ?_
      · intro x hx
        obtain ⟨n, hn, rfl⟩ := mem_natI.mp hx
        have hm := pgR_mem hn
        have x0 : (n : Int) ≠ 0 := by omega
        refine ⟨?_, fun _ => by repeat' ((fail_if_success (with_reducible refine (?_ : @Eq _ _ _))); first | ((with_reducible refine (?_ : EW (eCst (D.str _)) _ _)); with_reducible refine' EW.cstS (by with_reducible assumption) ?_) | ((with_reducible refine (?_ : OW fAdd (D.str _) (D.str _) _)); with_reducible refine' OW.addS (by with_unfolding_all (simp only [List.length_append, List.length_cons, List.length_nil]; omega)) ?_) | ((with_reducible refine (?_ : CW fStr _ _)); with_reducible refine' CW.str (by with_reducible assumption) ?_) | ((with_reducible refine (?_ : EW (eGen _ _) _ _)); with_reducible refine' EW.gen ?_) | ((with_reducible refine (?_ : GK _ _ _)); with_reducible refine' GK.of (by with_reducible assumption) ?_) | ((with_reducible refine (?_ : OW fNe (D.lst _) (D.lst _) _)); with_reducible refine' OW.neSelf ?_) | ((with_reducible refine (?_ : OW fEq (D.lst (intsD [_, _, _, _])) (D.lst _) _)); with_reducible refine' OW.eqSelf4 ?_) | ((with_reducible refine (?_ : EW (eComp _ _ (eVar _)) _ _)); with_reducible refine' EW.dgsVar (by with_unfolding_all exact rfl) (by first | with_reducible assumption | with_unfolding_all exact Nat.le_of_ble_eq_true rfl) ?_) | ((with_reducible refine (?_ : EW (eComp _ _ (Mine.e2 fSloS _ _)) _ _)); with_reducible refine' EW.dgsTail (by with_unfolding_all exact rfl) (by with_reducible assumption) ?_) | ((with_reducible refine (?_ : OW fEq (D.lst (List.map chD _)) (D.lst []) _)); with_reducible refine' OW.eqNil (by first | with_reducible assumption | decide) ?_) | ((with_reducible refine (?_ : IfK (List.all _ _) _ _)); with_reducible first | refine' IfK.hT (by first | with_reducible assumption | decide) ?_ | refine' IfK.hF (by first | with_reducible assumption | decide) ?_) | ((with_reducible refine (?_ : CW fInt [D.str _] _)); with_reducible refine' CW.intT (by with_reducible assumption) ?_) | ((with_reducible refine (?_ : CW fLen [D.str _] _)); with_reducible refine' CW.lenS (by first | with_reducible assumption | with_unfolding_all exact Nat.le_of_ble_eq_true rfl) ?_) | ((with_reducible refine (?_ : OW fEq (D.str _) (D.str _) _)); with_reducible first | refine' OW.clT (by decide +kernel) ?_ | refine' OW.clF (by decide +kernel) ?_) | ((with_reducible refine (?_ : OW (fIn false) (D.str _) (D.tup _) _)); with_reducible first | refine' OW.clT (by decide +kernel) ?_ | refine' OW.clF (by decide +kernel) ?_) | ((with_reducible refine (?_ : RW (rPop _ _) _ _ _)); with_reducible refine' RW.pop (by with_unfolding_all exact rfl) (by with_reducible assumption) ?_) | ((with_reducible refine (?_ : RW (rRetG _) _ _ _)); with_reducible refine' RW.retG ?_) | ((with_reducible refine (?_ : IfK (@decide ((1:Int) < (List.length _ : Int)) _) _ _)); with_reducible first | refine' IfK.decT (by first | with_reducible assumption | decide) ?_ | refine' IfK.decF (by first | with_reducible assumption | decide) ?_) | (with_reducible first | refine' CK.ret ?_ | refine' SK.next ?_ | refine' SK.ret ?_ | refine' LK.next ?_ | refine' RW.nil ?_ | refine' RW.seq ?_) | ((with_reducible refine (?_ : RW _ _ _ _)); with_reducible refine' RW.lenOk (by with_unfolding_all exact rfl) ?_) | (with_reducible first | refine' SW.of ?_ | refine' PutAt.of ?_ ?_) | with_reducible exact SetR.z | (with_reducible first | refine' SetR.s3 ?_ | refine' SetR.s ?_) | (with_reducible refine (?_ : SetR _ (0 + 1) _ _)); refine SetR.s ?_ | ((with_reducible refine (?_ : RW _ _ _ _)); with_reducible refine' RW.retF (E := eVar _) (by with_unfolding_all exact rfl) ?_) | (with_reducible first | refine' RW.asg ?_ | refine' RW.ret ?_) | (fail_if_success (have : StopIf := by with_reducible assumption)); (with_reducible refine' RW.if ?_) | (with_reducible first | refine' RW.for ?_ | refine' RW.while ?_ | refine' RW.new ?_) | ((with_reducible refine (?_ : RW _ _ _ _)); with_reducible refine' RW.app (by with_unfolding_all exact rfl) (by first | with_reducible assumption | with_unfolding_all exact Nat.le_of_ble_eq_true rfl) ?_) | ((with_reducible refine (?_ : RW _ _ _ _)); with_reducible refine' RW.aug (by with_unfolding_all exact rfl) ?_) | (with_reducible first | refine' IfK.t ?_ | refine' IfK.f ?_) | (with_reducible refine' IfK.gd ?_; with_reducible refine' IfK.decT (by first | with_reducible assumption | with_unfolding_all omega) ?_) | (with_reducible refine' IfK.gd ?_; with_reducible refine' IfK.decF (by first | with_reducible assumption | with_unfolding_all omega) ?_) | (with_reducible first | refine' NotK.t ?_ | refine' NotK.f ?_ | refine' TruthK.bool ?_) | ((with_reducible refine (?_ : EW (eVar _) _ _)); with_reducible refine' EW.var (by with_unfolding_all exact rfl) ?_) | (with_reducible first | refine' EW.cst ?_ | refine' EW.e1 ?_ | refine' EW.e2 ?_ | refine' EW.call ?_ | refine' EW.tup ?_ | refine' EW.lst ?_ | refine' EW.comp ?_ | refine' EsW.nil ?_ | refine' EsW.cons ?_ | refine' TW.c ?_) | ((with_reducible refine (?_ : TpK _ _)); with_reducible refine' TpK.mk (by with_unfolding_all exact Nat.le_of_ble_eq_true rfl) ?_) | ((with_reducible refine (?_ : LsK _ _)); with_reducible refine' LsK.mk (by with_unfolding_all exact Nat.le_of_ble_eq_true rfl) ?_) | (with_reducible first | refine' TW.tOf ?_ | refine' TW.not ?_ | refine' TW.and ?_) | ((with_reducible refine (?_ : CW _ _ _)); with_reducible refine' CW.of (by with_reducible assumption) ?_) | ((with_reducible refine (?_ : OW _ _ _ _)); with_reducible refine' OW.of (by with_reducible assumption) ?_) | (with_reducible first | refine' OW.add ?_ | refine' OW.addI ?_ | refine' OW.sub ?_ | refine' OW.ord ?_ | refine' OW.eq ?_ | refine' OW.ne ?_) | ((with_reducible refine (?_ : OW fMul _ _ _)); with_reducible refine' OW.mul (by first | with_reducible assumption | with_unfolding_all exact mulOk_sm (by omega) (by omega)) ?_) | ((with_reducible refine (?_ : OW fDiv _ _ _)); with_reducible refine' OW.div (by with_reducible assumption) ?_) | ((with_reducible refine (?_ : OW fMod _ _ _)); with_reducible refine' OW.mod (by first | with_reducible assumption | with_unfolding_all omega) ?_) | ((with_reducible refine (?_ : OW fPow _ _ _)); with_reducible refine' OW.pow (by with_reducible assumption) ?_) | (with_reducible first | refine' UW.neg ?_) | (with_reducible first | refine' CW.abs ?_ | refine' CW.range1 ?_ | refine' CW.range2 ?_) | ((with_reducible refine (?_ : CW _ _ _)); with_reducible refine' CW.fn (by with_unfolding_all (repeat (first | exact StartsAt.nil | apply StartsAt.cons | apply StartsAt.unb))) (by with_unfolding_all exact rfl) ?_))
                                rfl⟩
        by_cases c1 : (n : Int) * (n : Int) ≤ (t : Int) + 2 <;> by_cases c2 : ((t : Int) + 2).fmod (n : Int) = 0 <;>
        · repeat' ((fail_if_success (with_reducible refine (?_ : @Eq _ _ _))); first | ((with_reducible refine (?_ : EW (eCst (D.str _)) _ _)); with_reducible refine' EW.cstS (by with_reducible assumption) ?_) | ((with_reducible refine (?_ : OW fAdd (D.str _) (D.str _) _)); with_reducible refine' OW.addS (by with_unfolding_all (simp only [List.length_append, List.length_cons, List.length_nil]; omega)) ?_) | ((with_reducible refine (?_ : CW fStr _ _)); with_reducible refine' CW.str (by with_reducible assumption) ?_) | ((with_reducible refine (?_ : EW (eGen _ _) _ _)); with_reducible refine' EW.gen ?_) | ((with_reducible refine (?_ : GK _ _ _)); with_reducible refine' GK.of (by with_reducible assumption) ?_) | ((with_reducible refine (?_ : OW fNe (D.lst _) (D.lst _) _)); with_reducible refine' OW.neSelf ?_) | ((with_reducible refine (?_ : OW fEq (D.lst (intsD [_, _, _, _])) (D.lst _) _)); with_reducible refine' OW.eqSelf4 ?_) | ((with_reducible refine (?_ : EW (eComp _ _ (eVar _)) _ _)); with_reducible refine' EW.dgsVar (by with_unfolding_all exact rfl) (by first | with_reducible assumption | with_unfolding_all exact Nat.le_of_ble_eq_true rfl) ?_) | ((with_reducible refine (?_ : EW (eComp _ _ (Mine.e2 fSloS _ _)) _ _)); with_reducible refine' EW.dgsTail (by with_unfolding_all exact rfl) (by with_reducible assumption) ?_) | ((with_reducible refine (?_ : OW fEq (D.lst (List.map chD _)) (D.lst []) _)); with_reducible refine' OW.eqNil (by first | with_reducible assumption | decide) ?_) | ((with_reducible refine (?_ : IfK (List.all _ _) _ _)); with_reducible first | refine' IfK.hT (by first | with_reducible assumption | decide) ?_ | refine' IfK.hF (by first | with_reducible assumption | decide) ?_) | ((with_reducible refine (?_ : CW fInt [D.str _] _)); with_reducible refine' CW.intT (by with_reducible assumption) ?_) | ((with_reducible refine (?_ : CW fLen [D.str _] _)); with_reducible refine' CW.lenS (by first | with_reducible assumption | with_unfolding_all exact Nat.le_of_ble_eq_true rfl) ?_) | ((with_reducible refine (?_ : OW fEq (D.str _) (D.str _) _)); with_reducible first | refine' OW.clT (by decide +kernel) ?_ | refine' OW.clF (by decide +kernel) ?_) | ((with_reducible refine (?_ : OW (fIn false) (D.str _) (D.tup _) _)); with_reducible first | refine' OW.clT (by decide +kernel) ?_ | refine' OW.clF (by decide +kernel) ?_) | ((with_reducible refine (?_ : RW (rPop _ _) _ _ _)); with_reducible refine' RW.pop (by with_unfolding_all exact rfl) (by with_reducible assumption) ?_) | ((with_reducible refine (?_ : RW (rRetG _) _ _ _)); with_reducible refine' RW.retG ?_) | ((with_reducible refine (?_ : IfK (@decide ((1:Int) < (List.length _ : Int)) _) _ _)); with_reducible first | refine' IfK.decT (by first | with_reducible assumption | decide) ?_ | refine' IfK.decF (by first | with_reducible assumption | decide) ?_) | (with_reducible first | refine' CK.ret ?_ | refine' SK.next ?_ | refine' SK.ret ?_ | refine' LK.next ?_ | refine' RW.nil ?_ | refine' RW.seq ?_) | ((with_reducible refine (?_ : RW _ _ _ _)); with_reducible refine' RW.lenOk (by with_unfolding_all exact rfl) ?_) | (with_reducible first | refine' SW.of ?_ | refine' PutAt.of ?_ ?_) | with_reducible exact SetR.z | (with_reducible first | refine' SetR.s3 ?_ | refine' SetR.s ?_) | (with_reducible refine (?_ : SetR _ (0 + 1) _ _)); refine SetR.s ?_ | ((with_reducible refine (?_ : RW _ _ _ _)); with_reducible refine' RW.retF (E := eVar _) (by with_unfolding_all exact rfl) ?_) | (with_reducible first | refine' RW.asg ?_ | refine' RW.ret ?_) | (fail_if_success (have : StopIf := by with_reducible assumption)); (with_reducible refine' RW.if ?_) | (with_reducible first | refine' RW.for ?_ | refine' RW.while ?_ | refine' RW.new ?_) | ((with_reducible refine (?_ : RW _ _ _ _)); with_reducible refine' RW.app (by with_unfolding_all exact rfl) (by first | with_reducible assumption | with_unfolding_all exact Nat.le_of_ble_eq_true rfl) ?_) | ((with_reducible refine (?_ : RW _ _ _ _)); with_reducible refine' RW.aug (by with_unfolding_all exact rfl) ?_) | (with_reducible first | refine' IfK.t ?_ | refine' IfK.f ?_) | (with_reducible refine' IfK.gd ?_; with_reducible refine' IfK.decT (by first | with_reducible assumption | with_unfolding_all omega) ?_) | (with_reducible refine' IfK.gd ?_; with_reducible refine' IfK.decF (by first | with_reducible assumption | with_unfolding_all omega) ?_) | (with_reducible first | refine' NotK.t ?_ | refine' NotK.f ?_ | refine' TruthK.bool ?_) | ((with_reducible refine (?_ : EW (eVar _) _ _)); with_reducible refine' EW.var (by with_unfolding_all exact rfl) ?_) | (with_reducible first | refine' EW.cst ?_ | refine' EW.e1 ?_ | refine' EW.e2 ?_ | refine' EW.call ?_ | refine' EW.tup ?_ | refine' EW.lst ?_ | refine' EW.comp ?_ | refine' EsW.nil ?_ | refine' EsW.cons ?_ | refine' TW.c ?_) | ((with_reducible refine (?_ : TpK _ _)); with_reducible refine' TpK.mk (by with_unfolding_all exact Nat.le_of_ble_eq_true rfl) ?_) | ((with_reducible refine (?_ : LsK _ _)); with_reducible refine' LsK.mk (by with_unfolding_all exact Nat.le_of_ble_eq_true rfl) ?_) | (with_reducible first | refine' TW.tOf ?_ | refine' TW.not ?_ | refine' TW.and ?_) | ((with_reducible refine (?_ : CW _ _ _)); with_reducible refine' CW.of (by with_reducible assumption) ?_) | ((with_reducible refine (?_ : OW _ _ _ _)); with_reducible refine' OW.of (by with_reducible assumption) ?_) | (with_reducible first | refine' OW.add ?_ | refine' OW.addI ?_ | refine' OW.sub ?_ | refine' OW.ord ?_ | refine' OW.eq ?_ | refine' OW.ne ?_) | ((with_reducible refine (?_ : OW fMul _ _ _)); with_reducible refine' OW.mul (by first | with_reducible assumption | with_unfolding_all exact mulOk_sm (by omega) (by omega)) ?_) | ((with_reducible refine (?_ : OW fDiv _ _ _)); with_reducible refine' OW.div (by with_reducible assumption) ?_) | ((with_reducible refine (?_ : OW fMod _ _ _)); with_reducible refine' OW.mod (by first | with_reducible assumption | with_unfolding_all omega) ?_) | ((with_reducible refine (?_ : OW fPow _ _ _)); with_reducible refine' OW.pow (by with_reducible assumption) ?_) | (with_reducible first | refine' UW.neg ?_) | (with_reducible first | refine' CW.abs ?_ | refine' CW.range1 ?_ | refine' CW.range2 ?_) | ((with_reducible refine (?_ : CW _ _ _)); with_reducible refine' CW.fn (by with_unfolding_all (repeat (first | exact StartsAt.nil | apply StartsAt.cons | apply StartsAt.unb))) (by with_unfolding_all exact rfl) ?_))
          simp only [c1, c2, decide_true, decide_false]; rfl
      · rw [List.map_id'', filter_natI]
        · have e : (pgR t).filter (fun (n : Nat) => decide ((n : Int) * (n : Int) ≤ (t : Int) + 2) && decide (((t : Int) + 2).fmod (n : Int) = 0)) = (pgR t).filter (pgT (t + 2)) := by
            refine List.filter_congr fun n hn => ?_
            have hm := pgR_mem hn
            unfold pgT
            have e1 : decide ((n : Int) * (n : Int) ≤ (t : Int) + 2) = decide (n * n ≤ t + 2) := by
              rw [← Int.natCast_mul]; congr 1; apply propext; omega
            have e2 : decide (((t : Int) + 2).fmod (n : Int) = 0) = decide ((t + 2) % n = 0) := by
              rw [show (t : Int) + 2 = ((t + 2 : Nat) : Int) by omega, fmod_nat]; congr 1; apply propext; omega
            rw [e1, e2]
          rw [e]
          by_cases hf : ((pgR t).filter (pgT (t + 2))).isEmpty = true
          · refine TruthK.lstE (by rw [List.isEmpty_iff.mp hf]; rfl) ?_
            repeat' ((fail_if_success (with_reducible refine (?_ : @Eq _ _ _))); first | ((with_reducible refine (?_ : EW (eCst (D.str _)) _ _)); with_reducible refine' EW.cstS (by with_reducible assumption) ?_) | ((with_reducible refine (?_ : OW fAdd (D.str _) (D.str _) _)); with_reducible refine' OW.addS (by with_unfolding_all (simp only [List.length_append, List.length_cons, List.length_nil]; omega)) ?_) | ((with_reducible refine (?_ : CW fStr _ _)); with_reducible refine' CW.str (by with_reducible assumption) ?_) | ((with_reducible refine (?_ : EW (eGen _ _) _ _)); with_reducible refine' EW.gen ?_) | ((with_reducible refine (?_ : GK _ _ _)); with_reducible refine' GK.of (by with_reducible assumption) ?_) | ((with_reducible refine (?_ : OW fNe (D.lst _) (D.lst _) _)); with_reducible refine' OW.neSelf ?_) | ((with_reducible refine (?_ : OW fEq (D.lst (intsD [_, _, _, _])) (D.lst _) _)); with_reducible refine' OW.eqSelf4 ?_) | ((with_reducible refine (?_ : EW (eComp _ _ (eVar _)) _ _)); with_reducible refine' EW.dgsVar (by with_unfolding_all exact rfl) (by first | with_reducible assumption | with_unfolding_all exact Nat.le_of_ble_eq_true rfl) ?_) | ((with_reducible refine (?_ : EW (eComp _ _ (Mine.e2 fSloS _ _)) _ _)); with_reducible refine' EW.dgsTail (by with_unfolding_all exact rfl) (by with_reducible assumption) ?_) | ((with_reducible refine (?_ : OW fEq (D.lst (List.map chD _)) (D.lst []) _)); with_reducible refine' OW.eqNil (by first | with_reducible assumption | decide) ?_) | ((with_reducible refine (?_ : IfK (List.all _ _) _ _)); with_reducible first | refine' IfK.hT (by first | with_reducible assumption | decide) ?_ | refine' IfK.hF (by first | with_reducible assumption | decide) ?_) | ((with_reducible refine (?_ : CW fInt [D.str _] _)); with_reducible refine' CW.intT (by with_reducible assumption) ?_) | ((with_reducible refine (?_ : CW fLen [D.str _] _)); with_reducible refine' CW.lenS (by first | with_reducible assumption | with_unfolding_all exact Nat.le_of_ble_eq_true rfl) ?_) | ((with_reducible refine (?_ : OW fEq (D.str _) (D.str _) _)); with_reducible first | refine' OW.clT (by decide +kernel) ?_ | refine' OW.clF (by decide +kernel) ?_) | ((with_reducible refine (?_ : OW (fIn false) (D.str _) (D.tup _) _)); with_reducible first | refine' OW.clT (by decide +kernel) ?_ | refine' OW.clF (by decide +kernel) ?_) | ((with_reducible refine (?_ : RW (rPop _ _) _ _ _)); with_reducible refine' RW.pop (by with_unfolding_all exact rfl) (by with_reducible assumption) ?_) | ((with_reducible refine (?_ : RW (rRetG _) _ _ _)); with_reducible refine' RW.retG ?_) | ((with_reducible refine (?_ : IfK (@decide ((1:Int) < (List.length _ : Int)) _) _ _)); with_reducible first | refine' IfK.decT (by first | with_reducible assumption | decide) ?_ | refine' IfK.decF (by first | with_reducible assumption | decide) ?_) | (with_reducible first | refine' CK.ret ?_ | refine' SK.next ?_ | refine' SK.ret ?_ | refine' LK.next ?_ | refine' RW.nil ?_ | refine' RW.seq ?_) | ((with_reducible refine (?_ : RW _ _ _ _)); with_reducible refine' RW.lenOk (by with_unfolding_all exact rfl) ?_) | (with_reducible first | refine' SW.of ?_ | refine' PutAt.of ?_ ?_) | with_reducible exact SetR.z | (with_reducible first | refine' SetR.s3 ?_ | refine' SetR.s ?_) | (with_reducible refine (?_ : SetR _ (0 + 1) _ _)); refine SetR.s ?_ | ((with_reducible refine (?_ : RW _ _ _ _)); with_reducible refine' RW.retF (E := eVar _) (by with_unfolding_all exact rfl) ?_) | (with_reducible first | refine' RW.asg ?_ | refine' RW.ret ?_) | (fail_if_success (have : StopIf := by with_reducible assumption)); (with_reducible refine' RW.if ?_) | (with_reducible first | refine' RW.for ?_ | refine' RW.while ?_ | refine' RW.new ?_) | ((with_reducible refine (?_ : RW _ _ _ _)); with_reducible refine' RW.app (by with_unfolding_all exact rfl) (by first | with_reducible assumption | with_unfolding_all exact Nat.le_of_ble_eq_true rfl) ?_) | ((with_reducible refine (?_ : RW _ _ _ _)); with_reducible refine' RW.aug (by with_unfolding_all exact rfl) ?_) | (with_reducible first | refine' IfK.t ?_ | refine' IfK.f ?_) | (with_reducible refine' IfK.gd ?_; with_reducible refine' IfK.decT (by first | with_reducible assumption | with_unfolding_all omega) ?_) | (with_reducible refine' IfK.gd ?_; with_reducible refine' IfK.decF (by first | with_reducible assumption | with_unfolding_all omega) ?_) | (with_reducible first | refine' NotK.t ?_ | refine' NotK.f ?_ | refine' TruthK.bool ?_) | ((with_reducible refine (?_ : EW (eVar _) _ _)); with_reducible refine' EW.var (by with_unfolding_all exact rfl) ?_) | (with_reducible first | refine' EW.cst ?_ | refine' EW.e1 ?_ | refine' EW.e2 ?_ | refine' EW.call ?_ | refine' EW.tup ?_ | refine' EW.lst ?_ | refine' EW.comp ?_ | refine' EsW.nil ?_ | refine' EsW.cons ?_ | refine' TW.c ?_) | ((with_reducible refine (?_ : TpK _ _)); with_reducible refine' TpK.mk (by with_unfolding_all exact Nat.le_of_ble_eq_true rfl) ?_) | ((with_reducible refine (?_ : LsK _ _)); with_reducible refine' LsK.mk (by with_unfolding_all exact Nat.le_of_ble_eq_true rfl) ?_) | (with_reducible first | refine' TW.tOf ?_ | refine' TW.not ?_ | refine' TW.and ?_) | ((with_reducible refine (?_ : CW _ _ _)); with_reducible refine' CW.of (by with_reducible assumption) ?_) | ((with_reducible refine (?_ : OW _ _ _ _)); with_reducible refine' OW.of (by with_reducible assumption) ?_) | (with_reducible first | refine' OW.add ?_ | refine' OW.addI ?_ | refine' OW.sub ?_ | refine' OW.ord ?_ | refine' OW.eq ?_ | refine' OW.ne ?_) | ((with_reducible refine (?_ : OW fMul _ _ _)); with_reducible refine' OW.mul (by first | with_reducible assumption | with_unfolding_all exact mulOk_sm (by omega) (by omega)) ?_) | ((with_reducible refine (?_ : OW fDiv _ _ _)); with_reducible refine' OW.div (by with_reducible assumption) ?_) | ((with_reducible refine (?_ : OW fMod _ _ _)); with_reducible refine' OW.mod (by first | with_reducible assumption | with_unfolding_all omega) ?_) | ((with_reducible refine (?_ : OW fPow _ _ _)); with_reducible refine' OW.pow (by with_reducible assumption) ?_) | (with_reducible first | refine' UW.neg ?_) | (with_reducible first | refine' CW.abs ?_ | refine' CW.range1 ?_ | refine' CW.range2 ?_) | ((with_reducible refine (?_ : CW _ _ _)); with_reducible refine' CW.fn (by with_unfolding_all (repeat (first | exact StartsAt.nil | apply StartsAt.cons | apply StartsAt.unb))) (by with_unfolding_all exact rfl) ?_))
            refine ⟨k - 1, by omega, t + 1, ?_, by omega⟩
            have : pgR (t + 1) = pgR t ++ [t + 2] := by rw [pgR, pgS, if_pos hf]
            rw [this]
            simp [natI, intsD]
            omega
          · refine TruthK.lstN (fun h => hf (by simpa [intsD, natI] using h)) (by rw [intsD_length, natI_length]; exact Nat.le_trans (List.length_filter_le _ _) (by omega)) ?_
            repeat' ((fail_if_success (with_reducible refine (?_ : @Eq _ _ _))); first | ((with_reducible refine (?_ : EW (eCst (D.str _)) _ _)); with_reducible refine' EW.cstS (by with_reducible assumption) ?_) | ((with_reducible refine (?_ : OW fAdd (D.str _) (D.str _) _)); with_reducible refine' OW.addS (by with_unfolding_all (simp only [List.length_append, List.length_cons, List.length_nil]; omega)) ?_) | ((with_reducible refine (?_ : CW fStr _ _)); with_reducible refine' CW.str (by with_reducible assumption) ?_) | ((with_reducible refine (?_ : EW (eGen _ _) _ _)); with_reducible refine' EW.gen ?_) | ((with_reducible refine (?_ : GK _ _ _)); with_reducible refine' GK.of (by with_reducible assumption) ?_) | ((with_reducible refine (?_ : OW fNe (D.lst _) (D.lst _) _)); with_reducible refine' OW.neSelf ?_) | ((with_reducible refine (?_ : OW fEq (D.lst (intsD [_, _, _, _])) (D.lst _) _)); with_reducible refine' OW.eqSelf4 ?_) | ((with_reducible refine (?_ : EW (eComp _ _ (eVar _)) _ _)); with_reducible refine' EW.dgsVar (by with_unfolding_all exact rfl) (by first | with_reducible assumption | with_unfolding_all exact Nat.le_of_ble_eq_true rfl) ?_) | ((with_reducible refine (?_ : EW (eComp _ _ (Mine.e2 fSloS _ _)) _ _)); with_reducible refine' EW.dgsTail (by with_unfolding_all exact rfl) (by with_reducible assumption) ?_) | ((with_reducible refine (?_ : OW fEq (D.lst (List.map chD _)) (D.lst []) _)); with_reducible refine' OW.eqNil (by first | with_reducible assumption | decide) ?_) | ((with_reducible refine (?_ : IfK (List.all _ _) _ _)); with_reducible first | refine' IfK.hT (by first | with_reducible assumption | decide) ?_ | refine' IfK.hF (by first | with_reducible assumption | decide) ?_) | ((with_reducible refine (?_ : CW fInt [D.str _] _)); with_reducible refine' CW.intT (by with_reducible assumption) ?_) | ((with_reducible refine (?_ : CW fLen [D.str _] _)); with_reducible refine' CW.lenS (by first | with_reducible assumption | with_unfolding_all exact Nat.le_of_ble_eq_true rfl) ?_) | ((with_reducible refine (?_ : OW fEq (D.str _) (D.str _) _)); with_reducible first | refine' OW.clT (by decide +kernel) ?_ | refine' OW.clF (by decide +kernel) ?_) | ((with_reducible refine (?_ : OW (fIn false) (D.str _) (D.tup _) _)); with_reducible first | refine' OW.clT (by decide +kernel) ?_ | refine' OW.clF (by decide +kernel) ?_) | ((with_reducible refine (?_ : RW (rPop _ _) _ _ _)); with_reducible refine' RW.pop (by with_unfolding_all exact rfl) (by with_reducible assumption) ?_) | ((with_reducible refine (?_ : RW (rRetG _) _ _ _)); with_reducible refine' RW.retG ?_) | ((with_reducible refine (?_ : IfK (@decide ((1:Int) < (List.length _ : Int)) _) _ _)); with_reducible first | refine' IfK.decT (by first | with_reducible assumption | decide) ?_ | refine' IfK.decF (by first | with_reducible assumption | decide) ?_) | (with_reducible first | refine' CK.ret ?_ | refine' SK.next ?_ | refine' SK.ret ?_ | refine' LK.next ?_ | refine' RW.nil ?_ | refine' RW.seq ?_) | ((with_reducible refine (?_ : RW _ _ _ _)); with_reducible refine' RW.lenOk (by with_unfolding_all exact rfl) ?_) | (with_reducible first | refine' SW.of ?_ | refine' PutAt.of ?_ ?_) | with_reducible exact SetR.z | (with_reducible first | refine' SetR.s3 ?_ | refine' SetR.s ?_) | (with_reducible refine (?_ : SetR _ (0 + 1) _ _)); refine SetR.s ?_ | ((with_reducible refine (?_ : RW _ _ _ _)); with_reducible refine' RW.retF (E := eVar _) (by with_unfolding_all exact rfl) ?_) | (with_reducible first | refine' RW.asg ?_ | refine' RW.ret ?_) | (fail_if_success (have : StopIf := by with_reducible assumption)); (with_reducible refine' RW.if ?_) | (with_reducible first | refine' RW.for ?_ | refine' RW.while ?_ | refine' RW.new ?_) | ((with_reducible refine (?_ : RW _ _ _ _)); with_reducible refine' RW.app (by with_unfolding_all exact rfl) (by first | with_reducible assumption | with_unfolding_all exact Nat.le_of_ble_eq_true rfl) ?_) | ((with_reducible refine (?_ : RW _ _ _ _)); with_reducible refine' RW.aug (by with_unfolding_all exact rfl) ?_) | (with_reducible first | refine' IfK.t ?_ | refine' IfK.f ?_) | (with_reducible refine' IfK.gd ?_; with_reducible refine' IfK.decT (by first | with_reducible assumption | with_unfolding_all omega) ?_) | (with_reducible refine' IfK.gd ?_; with_reducible refine' IfK.decF (by first | with_reducible assumption | with_unfolding_all omega) ?_) | (with_reducible first | refine' NotK.t ?_ | refine' NotK.f ?_ | refine' TruthK.bool ?_) | ((with_reducible refine (?_ : EW (eVar _) _ _)); with_reducible refine' EW.var (by with_unfolding_all exact rfl) ?_) | (with_reducible first | refine' EW.cst ?_ | refine' EW.e1 ?_ | refine' EW.e2 ?_ | refine' EW.call ?_ | refine' EW.tup ?_ | refine' EW.lst ?_ | refine' EW.comp ?_ | refine' EsW.nil ?_ | refine' EsW.cons ?_ | refine' TW.c ?_) | ((with_reducible refine (?_ : TpK _ _)); with_reducible refine' TpK.mk (by with_unfolding_all exact Nat.le_of_ble_eq_true rfl) ?_) | ((with_reducible refine (?_ : LsK _ _)); with_reducible refine' LsK.mk (by with_unfolding_all exact Nat.le_of_ble_eq_true rfl) ?_) | (with_reducible first | refine' TW.tOf ?_ | refine' TW.not ?_ | refine' TW.and ?_) | ((with_reducible refine (?_ : CW _ _ _)); with_reducible refine' CW.of (by with_reducible assumption) ?_) | ((with_reducible refine (?_ : OW _ _ _ _)); with_reducible refine' OW.of (by with_reducible assumption) ?_) | (with_reducible first | refine' OW.add ?_ | refine' OW.addI ?_ | refine' OW.sub ?_ | refine' OW.ord ?_ | refine' OW.eq ?_ | refine' OW.ne ?_) | ((with_reducible refine (?_ : OW fMul _ _ _)); with_reducible refine' OW.mul (by first | with_reducible assumption | with_unfolding_all exact mulOk_sm (by omega) (by omega)) ?_) | ((with_reducible refine (?_ : OW fDiv _ _ _)); with_reducible refine' OW.div (by with_reducible assumption) ?_) | ((with_reducible refine (?_ : OW fMod _ _ _)); with_reducible refine' OW.mod (by first | with_reducible assumption | with_unfolding_all omega) ?_) | ((with_reducible refine (?_ : OW fPow _ _ _)); with_reducible refine' OW.pow (by with_reducible assumption) ?_) | (with_reducible first | refine' UW.neg ?_) | (with_reducible first | refine' CW.abs ?_ | refine' CW.range1 ?_ | refine' CW.range2 ?_) | ((with_reducible refine (?_ : CW _ _ _)); with_reducible refine' CW.fn (by with_unfolding_all (repeat (first | exact StartsAt.nil | apply StartsAt.cons | apply StartsAt.unb))) (by with_unfolding_all exact rfl) ?_))
            refine ⟨k - 1, by omega, t + 1, ?_, by omega⟩
            have : pgR (t + 1) = pgR t := by rw [pgR, pgS, if_neg hf]
            rw [this, show (((t + 1 : Nat) : Int) + 2) = (t : Int) + 2 + 1 by omega]
        · intro x; rfl
    · have : t = L.toNat - 2 := by omega
      repeat' ((fail_if_success (with_reducible refine (?_ : @Eq _ _ _))); first | ((with_reducible refine (?_ : EW (eCst (D.str _)) _ _)); with_reducible refine' EW.cstS (by with_reducible assumption) ?_) | ((with_reducible refine (?_ : OW fAdd (D.str _) (D.str _) _)); with_reducible refine' OW.addS (by with_unfolding_all (simp only [List.length_append, List.length_cons, List.length_nil]; omega)) ?_) | ((with_reducible refine (?_ : CW fStr _ _)); with_reducible refine' CW.str (by with_reducible assumption) ?_) | ((with_reducible refine (?_ : EW (eGen _ _) _ _)); with_reducible refine' EW.gen ?_) | ((with_reducible refine (?_ : GK _ _ _)); with_reducible refine' GK.of (by with_reducible assumption) ?_) | ((with_reducible refine (?_ : OW fNe (D.lst _) (D.lst _) _)); with_reducible refine' OW.neSelf ?_) | ((with_reducible refine (?_ : OW fEq (D.lst (intsD [_, _, _, _])) (D.lst _) _)); with_reducible refine' OW.eqSelf4 ?_) | ((with_reducible refine (?_ : EW (eComp _ _ (eVar _)) _ _)); with_reducible refine' EW.dgsVar (by with_unfolding_all exact rfl) (by first | with_reducible assumption | with_unfolding_all exact Nat.le_of_ble_eq_true rfl) ?_) | ((with_reducible refine (?_ : EW (eComp _ _ (Mine.e2 fSloS _ _)) _ _)); with_reducible refine' EW.dgsTail (by with_unfolding_all exact rfl) (by with_reducible assumption) ?_) | ((with_reducible refine (?_ : OW fEq (D.lst (List.map chD _)) (D.lst []) _)); with_reducible refine' OW.eqNil (by first | with_reducible assumption | decide) ?_) | ((with_reducible refine (?_ : IfK (List.all _ _) _ _)); with_reducible first | refine' IfK.hT (by first | with_reducible assumption | decide) ?_ | refine' IfK.hF (by first | with_reducible assumption | decide) ?_) | ((with_reducible refine (?_ : CW fInt [D.str _] _)); with_reducible refine' CW.intT (by with_reducible assumption) ?_) | ((with_reducible refine (?_ : CW fLen [D.str _] _)); with_reducible refine' CW.lenS (by first | with_reducible assumption | with_unfolding_all exact Nat.le_of_ble_eq_true rfl) ?_) | ((with_reducible refine (?_ : OW fEq (D.str _) (D.str _) _)); with_reducible first | refine' OW.clT (by decide +kernel) ?_ | refine' OW.clF (by decide +kernel) ?_) | ((with_reducible refine (?_ : OW (fIn false) (D.str _) (D.tup _) _)); with_reducible first | refine' OW.clT (by decide +kernel) ?_ | refine' OW.clF (by decide +kernel) ?_) | ((with_reducible refine (?_ : RW (rPop _ _) _ _ _)); with_reducible refine' RW.pop (by with_unfolding_all exact rfl) (by with_reducible assumption) ?_) | ((with_reducible refine (?_ : RW (rRetG _) _ _ _)); with_reducible refine' RW.retG ?_) | ((with_reducible refine (?_ : IfK (@decide ((1:Int) < (List.length _ : Int)) _) _ _)); with_reducible first | refine' IfK.decT (by first | with_reducible assumption | decide) ?_ | refine' IfK.decF (by first | with_reducible assumption | decide) ?_) | (with_reducible first | refine' CK.ret ?_ | refine' SK.next ?_ | refine' SK.ret ?_ | refine' LK.next ?_ | refine' RW.nil ?_ | refine' RW.seq ?_) | ((with_reducible refine (?_ : RW _ _ _ _)); with_reducible refine' RW.lenOk (by with_unfolding_all exact rfl) ?_) | (with_reducible first | refine' SW.of ?_ | refine' PutAt.of ?_ ?_) | with_reducible exact SetR.z | (with_reducible first | refine' SetR.s3 ?_ | refine' SetR.s ?_) | (with_reducible refine (?_ : SetR _ (0 + 1) _ _)); refine SetR.s ?_ | ((with_reducible refine (?_ : RW _ _ _ _)); with_reducible refine' RW.retF (E := eVar _) (by with_unfolding_all exact rfl) ?_) | (with_reducible first | refine' RW.asg ?_ | refine' RW.ret ?_) | (fail_if_success (have : StopIf := by with_reducible assumption)); (with_reducible refine' RW.if ?_) | (with_reducible first | refine' RW.for ?_ | refine' RW.while ?_ | refine' RW.new ?_) | ((with_reducible refine (?_ : RW _ _ _ _)); with_reducible refine' RW.app (by with_unfolding_all exact rfl) (by first | with_reducible assumption | with_unfolding_all exact Nat.le_of_ble_eq_true rfl) ?_) | ((with_reducible refine (?_ : RW _ _ _ _)); with_reducible refine' RW.aug (by with_unfolding_all exact rfl) ?_) | (with_reducible first | refine' IfK.t ?_ | refine' IfK.f ?_) | (with_reducible refine' IfK.gd ?_; with_reducible refine' IfK.decT (by first | with_reducible assumption | with_unfolding_all omega) ?_) | (with_reducible refine' IfK.gd ?_; with_reducible refine' IfK.decF (by first | with_reducible assumption | with_unfolding_all omega) ?_) | (with_reducible first | refine' NotK.t ?_ | refine' NotK.f ?_ | refine' TruthK.bool ?_) | ((with_reducible refine (?_ : EW (eVar _) _ _)); with_reducible refine' EW.var (by with_unfolding_all exact rfl) ?_) | (with_reducible first | refine' EW.cst ?_ | refine' EW.e1 ?_ | refine' EW.e2 ?_ | refine' EW.call ?_ | refine' EW.tup ?_ | refine' EW.lst ?_ | refine' EW.comp ?_ | refine' EsW.nil ?_ | refine' EsW.cons ?_ | refine' TW.c ?_) | ((with_reducible refine (?_ : TpK _ _)); with_reducible refine' TpK.mk (by with_unfolding_all exact Nat.le_of_ble_eq_true rfl) ?_) | ((with_reducible refine (?_ : LsK _ _)); with_reducible refine' LsK.mk (by with_unfolding_all exact Nat.le_of_ble_eq_true rfl) ?_) | (with_reducible first | refine' TW.tOf ?_ | refine' TW.not ?_ | refine' TW.and ?_) | ((with_reducible refine (?_ : CW _ _ _)); with_reducible refine' CW.of (by with_reducible assumption) ?_) | ((with_reducible refine (?_ : OW _ _ _ _)); with_reducible refine' OW.of (by with_reducible assumption) ?_) | (with_reducible first | refine' OW.add ?_ | refine' OW.addI ?_ | refine' OW.sub ?_ | refine' OW.ord ?_ | refine' OW.eq ?_ | refine' OW.ne ?_) | ((with_reducible refine (?_ : OW fMul _ _ _)); with_reducible refine' OW.mul (by first | with_reducible assumption | with_unfolding_all exact mulOk_sm (by omega) (by omega)) ?_) | ((with_reducible refine (?_ : OW fDiv _ _ _)); with_reducible refine' OW.div (by with_reducible assumption) ?_) | ((with_reducible refine (?_ : OW fMod _ _ _)); with_reducible refine' OW.mod (by first | with_reducible assumption | with_unfolding_all omega) ?_) | ((with_reducible refine (?_ : OW fPow _ _ _)); with_reducible refine' OW.pow (by with_reducible assumption) ?_) | (with_reducible first | refine' UW.neg ?_) | (with_reducible first | refine' CW.abs ?_ | refine' CW.range1 ?_ | refine' CW.range2 ?_) | ((with_reducible refine (?_ : CW _ _ _)); with_reducible refine' CW.fn (by with_unfolding_all (repeat (first | exact StartsAt.nil | apply StartsAt.cons | apply StartsAt.unb))) (by with_unfolding_all exact rfl) ?_))
      rw [this]

theorem ok_iterprod {I : GI} (hat : HatI I hd.view_39)  : ∃ d, (recsOf hd.view_39)[1]? = some d ∧ d.name = ("iterprod" : Str) ∧ ∃ G, FunOK I 1 d.name G ∧
    ∀ (d : D) (l : List Int) (m : Nat), isStr d = false → itemsOf d = some (intsD l) → (∀ x ∈ l, Bd m x) → m * l.length + 1 + m ≤ 100000000 → G [d] = some (.int (prodI l)) := by
  refine' ⟨_, rfl, rfl, _, FunOK.of 1000 (i := 1) (ns := ["l", "z", "x"]) (m := 1) hat rfl ⟨rfl, by decide, by decide⟩ (by decide) (fun pm cd doc => vs1 fun a => rfl) rfl rfl ?h, ?g⟩
  case h =>
    dsimp only
    repeat' ((show (_ : Prop)); first | (with_reducible first | refine' EvOK.split (by with_unfolding_all exact fun _ => rfl) ?_ | refine' RunOK.pop (by with_unfolding_all exact rfl) (by with_unfolding_all exact rfl) (by with_unfolding_all exact rfl) (by with_unfolding_all exact fun _ => rfl) (by with_unfolding_all exact fun _ => rfl) (by with_unfolding_all exact ⟨rfl, by decide, by decide⟩) | exact (RunOK.dead : RunOK _ _ _ _ (exec (.Raise _ _ _)) _) | exact OpOK.add | exact OpOK.sub | exact OpOK.mul | exact OpOK.div | exact OpOK.mod | exact OpOK.pow | exact OpOK.lt | exact OpOK.le | exact OpOK.gt | exact OpOK.ge | exact OpOK.eq | exact OpOK.ne | exact OpOK.isIn | exact OpOK.notInS | exact IOpOK.add | exact IOpOK.mul | exact EvOK.cint | exact EvOK.cstr | exact EvOK.cbool | refine' EvOK.v (by with_unfolding_all exact rfl) (by with_unfolding_all exact rfl) (by with_unfolding_all exact rfl) (by with_unfolding_all exact rfl) | refine' EvOK.bin ?_ ?_ ?_ | refine' EvOK.neg ?_ | refine' EvOK.tup ?_ | refine' EvOK.lst ?_ | refine' EvOK.call' (by with_unfolding_all exact rfl) (by with_unfolding_all exact rfl) (by with_unfolding_all exact rfl) (by with_unfolding_all exact fun _ => rfl) (by with_unfolding_all exact rfl) (by with_unfolding_all exact fun _ => ⟨_, _, rfl⟩) (by with_unfolding_all first | assumption | exact FunOK.le (by assumption) (by decide)) ?_ | refine' EvOK.sliceLoS ?_ ?_ (by with_unfolding_all exact fun _ _ => rfl) | refine' EvOK.subs ?_ ?_ (by with_unfolding_all exact fun _ _ => rfl) | refine' EvOK.comp (by with_unfolding_all exact ⟨by decide, rfl, rfl, by decide, rfl, by decide, by decide⟩) ?_ ?_ ?_ (by with_unfolding_all exact fun _ _ => rfl) | exact EvsOK.nil | refine' EvsOK.cons ?_ ?_ (by with_unfolding_all exact fun _ => rfl) | refine' TestsOK.one ?_ | refine' TrOK.cmp ?_ ?_ ?_ (by with_unfolding_all exact rfl) | refine' TrOK.not ?_ | exact TrOK.and0 | refine' TrOK.and ?_ ?_ | refine' TrOK.plain ?_ (by with_unfolding_all exact fun _ _ => rfl) | exact RunOK.nil | refine' RunOK.cons ?_ ?_ | refine' RunOK.ret ?_ | refine' RunOK.ifS ?_ ?_ ?_ | refine' RunOK.whileS ?_ ?_ | refine' RunOK.asg' (by with_unfolding_all exact rfl) (by with_unfolding_all exact fun _ => rfl) (by with_unfolding_all exact ⟨rfl, by decide, by decide⟩) ?_ | refine' RunOK.aug' (by with_unfolding_all exact rfl) (by with_unfolding_all exact ⟨rfl, by decide, by decide⟩) ?_ ?_ | refine' RunOK.for' (by with_unfolding_all exact rfl) (by with_unfolding_all exact fun _ _ => rfl) (by with_unfolding_all exact ⟨rfl, by decide, by decide⟩) ?_ ?_ | refine' RunOK.app' (by with_unfolding_all exact rfl) (by with_unfolding_all exact rfl) (by with_unfolding_all exact fun _ => rfl) (by with_unfolding_all exact fun _ => rfl) (by with_unfolding_all exact fun _ => rfl) (by with_unfolding_all exact ⟨rfl, by decide, by decide⟩) ?_))
  case g =>
    intro d l m hd hl hm hs
    refine CW.eq ?_
    repeat' ((fail_if_success (with_reducible refine (?_ : @Eq _ _ _))); first | ((with_reducible refine (?_ : EW (eCst (D.str _)) _ _)); with_reducible refine' EW.cstS (by with_reducible assumption) ?_) | ((with_reducible refine (?_ : OW fAdd (D.str _) (D.str _) _)); with_reducible refine' OW.addS (by with_unfolding_all (simp only [List.length_append, List.length_cons, List.length_nil]; omega)) ?_) | ((with_reducible refine (?_ : CW fStr _ _)); with_reducible refine' CW.str (by with_reducible assumption) ?_) | ((with_reducible refine (?_ : EW (eGen _ _) _ _)); with_reducible refine' EW.gen ?_) | ((with_reducible refine (?_ : GK _ _ _)); with_reducible refine' GK.of (by with_reducible assumption) ?_) | ((with_reducible refine (?_ : OW fNe (D.lst _) (D.lst _) _)); with_reducible refine' OW.neSelf ?_) | ((with_reducible refine (?_ : OW fEq (D.lst (intsD [_, _, _, _])) (D.lst _) _)); with_reducible refine' OW.eqSelf4 ?_) | ((with_reducible refine (?_ : EW (eComp _ _ (eVar _)) _ _)); with_reducible refine' EW.dgsVar (by with_unfolding_all exact rfl) (by first | with_reducible assumption | with_unfolding_all exact Nat.le_of_ble_eq_true rfl) ?_) | ((with_reducible refine (?_ : EW (eComp _ _ (Mine.e2 fSloS _ _)) _ _)); with_reducible refine' EW.dgsTail (by with_unfolding_all exact rfl) (by with_reducible assumption) ?_) | ((with_reducible refine (?_ : OW fEq (D.lst (List.map chD _)) (D.lst []) _)); with_reducible refine' OW.eqNil (by first | with_reducible assumption | decide) ?_) | ((with_reducible refine (?_ : IfK (List.all _ _) _ _)); with_reducible first | refine' IfK.hT (by first | with_reducible assumption | decide) ?_ | refine' IfK.hF (by first | with_reducible assumption | decide) ?_) | ((with_reducible refine (?_ : CW fInt [D.str _] _)); with_reducible refine' CW.intT (by with_reducible assumption) ?_) | ((with_reducible refine (?_ : CW fLen [D.str _] _)); with_reducible refine' CW.lenS (by first | with_reducible assumption | with_unfolding_all exact Nat.le_of_ble_eq_true rfl) ?_) | ((with_reducible refine (?_ : OW fEq (D.str _) (D.str _) _)); with_reducible first | refine' OW.clT (by decide +kernel) ?_ | refine' OW.clF (by decide +kernel) ?_) | ((with_reducible refine (?_ : OW (fIn false) (D.str _) (D.tup _) _)); with_reducible first | refine' OW.clT (by decide +kernel) ?_ | refine' OW.clF (by decide +kernel) ?_) | ((with_reducible refine (?_ : RW (rPop _ _) _ _ _)); with_reducible refine' RW.pop (by with_unfolding_all exact rfl) (by with_reducible assumption) ?_) | ((with_reducible refine (?_ : RW (rRetG _) _ _ _)); with_reducible refine' RW.retG ?_) | ((with_reducible refine (?_ : IfK (@decide ((1:Int) < (List.length _ : Int)) _) _ _)); with_reducible first | refine' IfK.decT (by first | with_reducible assumption | decide) ?_ | refine' IfK.decF (by first | with_reducible assumption | decide) ?_) | (with_reducible first | refine' CK.ret ?_ | refine' SK.next ?_ | refine' SK.ret ?_ | refine' LK.next ?_ | refine' RW.nil ?_ | refine' RW.seq ?_) | ((with_reducible refine (?_ : RW _ _ _ _)); with_reducible refine' RW.lenOk (by with_unfolding_all exact rfl) ?_) | (with_reducible first | refine' SW.of ?_ | refine' PutAt.of ?_ ?_) | with_reducible exact SetR.z | (with_reducible first | refine' SetR.s3 ?_ | refine' SetR.s ?_) | (with_reducible refine (?_ : SetR _ (0 + 1) _ _)); refine SetR.s ?_ | ((with_reducible refine (?_ : RW _ _ _ _)); with_reducible refine' RW.retF (E := eVar _) (by with_unfolding_all exact rfl) ?_) | (with_reducible first | refine' RW.asg ?_ | refine' RW.ret ?_) | (fail_if_success (have : StopIf := by with_reducible assumption)); (with_reducible refine' RW.if ?_) | (with_reducible first | refine' RW.for ?_ | refine' RW.while ?_ | refine' RW.new ?_) | ((with_reducible refine (?_ : RW _ _ _ _)); with_reducible refine' RW.app (by with_unfolding_all exact rfl) (by first | with_reducible assumption | with_unfolding_all exact Nat.le_of_ble_eq_true rfl) ?_) | ((with_reducible refine (?_ : RW _ _ _ _)); with_reducible refine' RW.aug (by with_unfolding_all exact rfl) ?_) | (with_reducible first | refine' IfK.t ?_ | refine' IfK.f ?_) | (with_reducible refine' IfK.gd ?_; with_reducible refine' IfK.decT (by first | with_reducible assumption | with_unfolding_all omega) ?_) | (with_reducible refine' IfK.gd ?_; with_reducible refine' IfK.decF (by first | with_reducible assumption | with_unfolding_all omega) ?_) | (with_reducible first | refine' NotK.t ?_ | refine' NotK.f ?_ | refine' TruthK.bool ?_) | ((with_reducible refine (?_ : EW (eVar _) _ _)); with_reducible refine' EW.var (by with_unfolding_all exact rfl) ?_) | (with_reducible first | refine' EW.cst ?_ | refine' EW.e1 ?_ | refine' EW.e2 ?_ | refine' EW.call ?_ | refine' EW.tup ?_ | refine' EW.lst ?_ | refine' EW.comp ?_ | refine' EsW.nil ?_ | refine' EsW.cons ?_ | refine' TW.c ?_) | ((with_reducible refine (?_ : TpK _ _)); with_reducible refine' TpK.mk (by with_unfolding_all exact Nat.le_of_ble_eq_true rfl) ?_) | ((with_reducible refine (?_ : LsK _ _)); with_reducible refine' LsK.mk (by with_unfolding_all exact Nat.le_of_ble_eq_true rfl) ?_) | (with_reducible first | refine' TW.tOf ?_ | refine' TW.not ?_ | refine' TW.and ?_) | ((with_reducible refine (?_ : CW _ _ _)); with_reducible refine' CW.of (by with_reducible assumption) ?_) | ((with_reducible refine (?_ : OW _ _ _ _)); with_reducible refine' OW.of (by with_reducible assumption) ?_) | (with_reducible first | refine' OW.add ?_ | refine' OW.addI ?_ | refine' OW.sub ?_ | refine' OW.ord ?_ | refine' OW.eq ?_ | refine' OW.ne ?_) | ((with_reducible refine (?_ : OW fMul _ _ _)); with_reducible refine' OW.mul (by first | with_reducible assumption | with_unfolding_all exact mulOk_sm (by omega) (by omega)) ?_) | ((with_reducible refine (?_ : OW fDiv _ _ _)); with_reducible refine' OW.div (by with_reducible assumption) ?_) | ((with_reducible refine (?_ : OW fMod _ _ _)); with_reducible refine' OW.mod (by first | with_reducible assumption | with_unfolding_all omega) ?_) | ((with_reducible refine (?_ : OW fPow _ _ _)); with_reducible refine' OW.pow (by with_reducible assumption) ?_) | (with_reducible first | refine' UW.neg ?_) | (with_reducible first | refine' CW.abs ?_ | refine' CW.range1 ?_ | refine' CW.range2 ?_) | ((with_reducible refine (?_ : CW _ _ _)); with_reducible refine' CW.fn (by with_unfolding_all (repeat (first | exact StartsAt.nil | apply StartsAt.cons | apply StartsAt.unb))) (by with_unfolding_all exact rfl) ?_))
    refine ForK.of hd hl (LW.inv (fun ds σ => ∃ (r : List Int) (n : Nat) (z : Int) (sl : Slot), ds = intsD r ∧ σ = [.imm d, .imm (.int z), sl] ∧ z * prodI r = prodI l ∧ Bd n z ∧ (∀ x ∈ r, Bd m x) ∧ n + m * r.length + m ≤ 100000000) ⟨l, 1, 1, _, rfl, rfl, Int.one_mul _, Bd.one, hm, by omega⟩ ?_ ?_)
    · rintro d' ds σ ⟨r, n, z, sl, e, rfl, hz, hn, hr, hb⟩
      cases r with
      | nil => cases e
      | cons x r =>
        cases e
        rw [List.length_cons, Nat.mul_succ] at hb
        have hm := mulOk_bd hn (hr x (.head _)) (by omega)
        refine ⟨rfl, ?_⟩
        repeat' ((fail_if_success (with_reducible refine (?_ : @Eq _ _ _))); first | ((with_reducible refine (?_ : EW (eCst (D.str _)) _ _)); with_reducible refine' EW.cstS (by with_reducible assumption) ?_) | ((with_reducible refine (?_ : OW fAdd (D.str _) (D.str _) _)); with_reducible refine' OW.addS (by with_unfolding_all (simp only [List.length_append, List.length_cons, List.length_nil]; omega)) ?_) | ((with_reducible refine (?_ : CW fStr _ _)); with_reducible refine' CW.str (by with_reducible assumption) ?_) | ((with_reducible refine (?_ : EW (eGen _ _) _ _)); with_reducible refine' EW.gen ?_) | ((with_reducible refine (?_ : GK _ _ _)); with_reducible refine' GK.of (by with_reducible assumption) ?_) | ((with_reducible refine (?_ : OW fNe (D.lst _) (D.lst _) _)); with_reducible refine' OW.neSelf ?_) | ((with_reducible refine (?_ : OW fEq (D.lst (intsD [_, _, _, _])) (D.lst _) _)); with_reducible refine' OW.eqSelf4 ?_) | ((with_reducible refine (?_ : EW (eComp _ _ (eVar _)) _ _)); with_reducible refine' EW.dgsVar (by with_unfolding_all exact rfl) (by first | with_reducible assumption | with_unfolding_all exact Nat.le_of_ble_eq_true rfl) ?_) | ((with_reducible refine (?_ : EW (eComp _ _ (Mine.e2 fSloS _ _)) _ _)); with_reducible refine' EW.dgsTail (by with_unfolding_all exact rfl) (by with_reducible assumption) ?_) | ((with_reducible refine (?_ : OW fEq (D.lst (List.map chD _)) (D.lst []) _)); with_reducible refine' OW.eqNil (by first | with_reducible assumption | decide) ?_) | ((with_reducible refine (?_ : IfK (List.all _ _) _ _)); with_reducible first | refine' IfK.hT (by first | with_reducible assumption | decide) ?_ | refine' IfK.hF (by first | with_reducible assumption | decide) ?_) | ((with_reducible refine (?_ : CW fInt [D.str _] _)); with_reducible refine' CW.intT (by with_reducible assumption) ?_) | ((with_reducible refine (?_ : CW fLen [D.str _] _)); with_reducible refine' CW.lenS (by first | with_reducible assumption | with_unfolding_all exact Nat.le_of_ble_eq_true rfl) ?_) | ((with_reducible refine (?_ : OW fEq (D.str _) (D.str _) _)); with_reducible first | refine' OW.clT (by decide +kernel) ?_ | refine' OW.clF (by decide +kernel) ?_) | ((with_reducible refine (?_ : OW (fIn false) (D.str _) (D.tup _) _)); with_reducible first | refine' OW.clT (by decide +kernel) ?_ | refine' OW.clF (by decide +kernel) ?_) | ((with_reducible refine (?_ : RW (rPop _ _) _ _ _)); with_reducible refine' RW.pop (by with_unfolding_all exact rfl) (by with_reducible assumption) ?_) | ((with_reducible refine (?_ : RW (rRetG _) _ _ _)); with_reducible refine' RW.retG ?_) | ((with_reducible refine (?_ : IfK (@decide ((1:Int) < (List.length _ : Int)) _) _ _)); with_reducible first | refine' IfK.decT (by first | with_reducible assumption | decide) ?_ | refine' IfK.decF (by first | with_reducible assumption | decide) ?_) | (with_reducible first | refine' CK.ret ?_ | refine' SK.next ?_ | refine' SK.ret ?_ | refine' LK.next ?_ | refine' RW.nil ?_ | refine' RW.seq ?_) | ((with_reducible refine (?_ : RW _ _ _ _)); with_reducible refine' RW.lenOk (by with_unfolding_all exact rfl) ?_) | (with_reducible first | refine' SW.of ?_ | refine' PutAt.of ?_ ?_) | with_reducible exact SetR.z | (with_reducible first | refine' SetR.s3 ?_ | refine' SetR.s ?_) | (with_reducible refine (?_ : SetR _ (0 + 1) _ _)); refine SetR.s ?_ | ((with_reducible refine (?_ : RW _ _ _ _)); with_reducible refine' RW.retF (E := eVar _) (by with_unfolding_all exact rfl) ?_) | (with_reducible first | refine' RW.asg ?_ | refine' RW.ret ?_) | (fail_if_success (have : StopIf := by with_reducible assumption)); (with_reducible refine' RW.if ?_) | (with_reducible first | refine' RW.for ?_ | refine' RW.while ?_ | refine' RW.new ?_) | ((with_reducible refine (?_ : RW _ _ _ _)); with_reducible refine' RW.app (by with_unfolding_all exact rfl) (by first | with_reducible assumption | with_unfolding_all exact Nat.le_of_ble_eq_true rfl) ?_) | ((with_reducible refine (?_ : RW _ _ _ _)); with_reducible refine' RW.aug (by with_unfolding_all exact rfl) ?_) | (with_reducible first | refine' IfK.t ?_ | refine' IfK.f ?_) | (with_reducible refine' IfK.gd ?_; with_reducible refine' IfK.decT (by first | with_reducible assumption | with_unfolding_all omega) ?_) | (with_reducible refine' IfK.gd ?_; with_reducible refine' IfK.decF (by first | with_reducible assumption | with_unfolding_all omega) ?_) | (with_reducible first | refine' NotK.t ?_ | refine' NotK.f ?_ | refine' TruthK.bool ?_) | ((with_reducible refine (?_ : EW (eVar _) _ _)); with_reducible refine' EW.var (by with_unfolding_all exact rfl) ?_) | (with_reducible first | refine' EW.cst ?_ | refine' EW.e1 ?_ | refine' EW.e2 ?_ | refine' EW.call ?_ | refine' EW.tup ?_ | refine' EW.lst ?_ | refine' EW.comp ?_ | refine' EsW.nil ?_ | refine' EsW.cons ?_ | refine' TW.c ?_) | ((with_reducible refine (?_ : TpK _ _)); with_reducible refine' TpK.mk (by with_unfolding_all exact Nat.le_of_ble_eq_true rfl) ?_) | ((with_reducible refine (?_ : LsK _ _)); with_reducible refine' LsK.mk (by with_unfolding_all exact Nat.le_of_ble_eq_true rfl) ?_) | (with_reducible first | refine' TW.tOf ?_ | refine' TW.not ?_ | refine' TW.and ?_) | ((with_reducible refine (?_ : CW _ _ _)); with_reducible refine' CW.of (by with_reducible assumption) ?_) | ((with_reducible refine (?_ : OW _ _ _ _)); with_reducible refine' OW.of (by with_reducible assumption) ?_) | (with_reducible first | refine' OW.add ?_ | refine' OW.addI ?_ | refine' OW.sub ?_ | refine' OW.ord ?_ | refine' OW.eq ?_ | refine' OW.ne ?_) | ((with_reducible refine (?_ : OW fMul _ _ _)); with_reducible refine' OW.mul (by first | with_reducible assumption | with_unfolding_all exact mulOk_sm (by omega) (by omega)) ?_) | ((with_reducible refine (?_ : OW fDiv _ _ _)); with_reducible refine' OW.div (by with_reducible assumption) ?_) | ((with_reducible refine (?_ : OW fMod _ _ _)); with_reducible refine' OW.mod (by first | with_reducible assumption | with_unfolding_all omega) ?_) | ((with_reducible refine (?_ : OW fPow _ _ _)); with_reducible refine' OW.pow (by with_reducible assumption) ?_) | (with_reducible first | refine' UW.neg ?_) | (with_reducible first | refine' CW.abs ?_ | refine' CW.range1 ?_ | refine' CW.range2 ?_) | ((with_reducible refine (?_ : CW _ _ _)); with_reducible refine' CW.fn (by with_unfolding_all (repeat (first | exact StartsAt.nil | apply StartsAt.cons | apply StartsAt.unb))) (by with_unfolding_all exact rfl) ?_))
        exact ⟨r, n + m, z * x, _, rfl, rfl, by rw [← hz, prodI_cons, Int.mul_assoc], hn.mul (hr x (.head _)), fun y hy => hr y (.tail _ hy), by omega⟩
    · rintro σ ⟨r, n, z, sl, e, rfl, hz, hn, hr, hb⟩
      cases r with
      | cons x r => cases e
      | nil =>
        repeat' ((fail_if_success (with_reducible refine (?_ : @Eq _ _ _))); first | ((with_reducible refine (?_ : EW (eCst (D.str _)) _ _)); with_reducible refine' EW.cstS (by with_reducible assumption) ?_) | ((with_reducible refine (?_ : OW fAdd (D.str _) (D.str _) _)); with_reducible refine' OW.addS (by with_unfolding_all (simp only [List.length_append, List.length_cons, List.length_nil]; omega)) ?_) | ((with_reducible refine (?_ : CW fStr _ _)); with_reducible refine' CW.str (by with_reducible assumption) ?_) | ((with_reducible refine (?_ : EW (eGen _ _) _ _)); with_reducible refine' EW.gen ?_) | ((with_reducible refine (?_ : GK _ _ _)); with_reducible refine' GK.of (by with_reducible assumption) ?_) | ((with_reducible refine (?_ : OW fNe (D.lst _) (D.lst _) _)); with_reducible refine' OW.neSelf ?_) | ((with_reducible refine (?_ : OW fEq (D.lst (intsD [_, _, _, _])) (D.lst _) _)); with_reducible refine' OW.eqSelf4 ?_) | ((with_reducible refine (?_ : EW (eComp _ _ (eVar _)) _ _)); with_reducible refine' EW.dgsVar (by with_unfolding_all exact rfl) (by first | with_reducible assumption | with_unfolding_all exact Nat.le_of_ble_eq_true rfl) ?_) | ((with_reducible refine (?_ : EW (eComp _ _ (Mine.e2 fSloS _ _)) _ _)); with_reducible refine' EW.dgsTail (by with_unfolding_all exact rfl) (by with_reducible assumption) ?_) | ((with_reducible refine (?_ : OW fEq (D.lst (List.map chD _)) (D.lst []) _)); with_reducible refine' OW.eqNil (by first | with_reducible assumption | decide) ?_) | ((with_reducible refine (?_ : IfK (List.all _ _) _ _)); with_reducible first | refine' IfK.hT (by first | with_reducible assumption | decide) ?_ | refine' IfK.hF (by first | with_reducible assumption | decide) ?_) | ((with_reducible refine (?_ : CW fInt [D.str _] _)); with_reducible refine' CW.intT (by with_reducible assumption) ?_) | ((with_reducible refine (?_ : CW fLen [D.str _] _)); with_reducible refine' CW.lenS (by first | with_reducible assumption | with_unfolding_all exact Nat.le_of_ble_eq_true rfl) ?_) | ((with_reducible refine (?_ : OW fEq (D.str _) (D.str _) _)); with_reducible first | refine' OW.clT (by decide +kernel) ?_ | refine' OW.clF (by decide +kernel) ?_) | ((with_reducible refine (?_ : OW (fIn false) (D.str _) (D.tup _) _)); with_reducible first | refine' OW.clT (by decide +kernel) ?_ | refine' OW.clF (by decide +kernel) ?_) | ((with_reducible refine (?_ : RW (rPop _ _) _ _ _)); with_reducible refine' RW.pop (by with_unfolding_all exact rfl) (by with_reducible assumption) ?_) | ((with_reducible refine (?_ : RW (rRetG _) _ _ _)); with_reducible refine' RW.retG ?_) | ((with_reducible refine (?_ : IfK (@decide ((1:Int) < (List.length _ : Int)) _) _ _)); with_reducible first | refine' IfK.decT (by first | with_reducible assumption | decide) ?_ | refine' IfK.decF (by first | with_reducible assumption | decide) ?_) | (with_reducible first | refine' CK.ret ?_ | refine' SK.next ?_ | refine' SK.ret ?_ | refine' LK.next ?_ | refine' RW.nil ?_ | refine' RW.seq ?_) | ((with_reducible refine (?_ : RW _ _ _ _)); with_reducible refine' RW.lenOk (by with_unfolding_all exact rfl) ?_) | (with_reducible first | refine' SW.of ?_ | refine' PutAt.of ?_ ?_) | with_reducible exact SetR.z | (with_reducible first | refine' SetR.s3 ?_ | refine' SetR.s ?_) | (with_reducible refine (?_ : SetR _ (0 + 1) _ _)); refine SetR.s ?_ | ((with_reducible refine (?_ : RW _ _ _ _)); with_reducible refine' RW.retF (E := eVar _) (by with_unfolding_all exact rfl) ?_) | (with_reducible first | refine' RW.asg ?_ | refine' RW.ret ?_) | (fail_if_success (have : StopIf := by with_reducible assumption)); (with_reducible refine' RW.if ?_) | (with_reducible first | refine' RW.for ?_ | refine' RW.while ?_ | refine' RW.new ?_) | ((with_reducible refine (?_ : RW _ _ _ _)); with_reducible refine' RW.app (by with_unfolding_all exact rfl) (by first | with_reducible assumption | with_unfolding_all exact Nat.le_of_ble_eq_true rfl) ?_) | ((with_reducible refine (?_ : RW _ _ _ _)); with_reducible refine' RW.aug (by with_unfolding_all exact rfl) ?_) | (with_reducible first | refine' IfK.t ?_ | refine' IfK.f ?_) | (with_reducible refine' IfK.gd ?_; with_reducible refine' IfK.decT (by first | with_reducible assumption | with_unfolding_all omega) ?_) | (with_reducible refine' IfK.gd ?_; with_reducible refine' IfK.decF (by first | with_reducible assumption | with_unfolding_all omega) ?_) | (with_reducible first | refine' NotK.t ?_ | refine' NotK.f ?_ | refine' TruthK.bool ?_) | ((with_reducible refine (?_ : EW (eVar _) _ _)); with_reducible refine' EW.var (by with_unfolding_all exact rfl) ?_) | (with_reducible first | refine' EW.cst ?_ | refine' EW.e1 ?_ | refine' EW.e2 ?_ | refine' EW.call ?_ | refine' EW.tup ?_ | refine' EW.lst ?_ | refine' EW.comp ?_ | refine' EsW.nil ?_ | refine' EsW.cons ?_ | refine' TW.c ?_) | ((with_reducible refine (?_ : TpK _ _)); with_reducible refine' TpK.mk (by with_unfolding_all exact Nat.le_of_ble_eq_true rfl) ?_) | ((with_reducible refine (?_ : LsK _ _)); with_reducible refine' LsK.mk (by with_unfolding_all exact Nat.le_of_ble_eq_true rfl) ?_) | (with_reducible first | refine' TW.tOf ?_ | refine' TW.not ?_ | refine' TW.and ?_) | ((with_reducible refine (?_ : CW _ _ _)); with_reducible refine' CW.of (by with_reducible assumption) ?_) | ((with_reducible refine (?_ : OW _ _ _ _)); with_reducible refine' OW.of (by with_reducible assumption) ?_) | (with_reducible first | refine' OW.add ?_ | refine' OW.addI ?_ | refine' OW.sub ?_ | refine' OW.ord ?_ | refine' OW.eq ?_ | refine' OW.ne ?_) | ((with_reducible refine (?_ : OW fMul _ _ _)); with_reducible refine' OW.mul (by first | with_reducible assumption | with_unfolding_all exact mulOk_sm (by omega) (by omega)) ?_) | ((with_reducible refine (?_ : OW fDiv _ _ _)); with_reducible refine' OW.div (by with_reducible assumption) ?_) | ((with_reducible refine (?_ : OW fMod _ _ _)); with_reducible refine' OW.mod (by first | with_reducible assumption | with_unfolding_all omega) ?_) | ((with_reducible refine (?_ : OW fPow _ _ _)); with_reducible refine' OW.pow (by with_reducible assumption) ?_) | (with_reducible first | refine' UW.neg ?_) | (with_reducible first | refine' CW.abs ?_ | refine' CW.range1 ?_ | refine' CW.range2 ?_) | ((with_reducible refine (?_ : CW _ _ _)); with_reducible refine' CW.fn (by with_unfolding_all (repeat (first | exact StartsAt.nil | apply StartsAt.cons | apply StartsAt.unb))) (by with_unfolding_all exact rfl) ?_))
        rw [← hz, prodI_nil, Int.mul_one]

theorem ok_rpn {I : GI} (hat : HatI I hd.view_39) (hrange : FunOK I 0 ("range" : Str) fRange) (hlen : FunOK I 0 ("len" : Str) fLen) (hint : FunOK I 0 ("int" : Str) fInt) {f0 f1 : List D → Option D} (h0 : FunOK I 1 ("primegen" : Str) f0) (h1 : FunOK I 1 ("iterprod" : Str) f1) (s0 : ∀ (L : Int), L ≤ 200 → f0 [.int L] = some (.lst (intsD (natI (pgR (L.toNat - 2)))))) (s1 : ∀ (d : D) (l : List Int) (m : Nat), isStr d = false → itemsOf d = some (intsD l) → (∀ x ∈ l, Bd m x) → m * l.length + 1 + m ≤ 100000000 → f1 [d] = some (.int (prodI l))) : ∃ d, (recsOf hd.view_39)[2]? = some d ∧ d.name = ("rpn" : Str) ∧ ∃ G, GenList I 3 d.name G ∧ ∀ (l : List Nat) (ts : List (List Nat)) (vals : List Int), l.length ≤ 9999 → wordsL [] l = ts → ts.length ≤ 5000 → Runs ts [] vals → G [.str (mkS l)] = some vals := by
  refine' ⟨_, rfl, rfl, _, GenList.of (k := 1) (i := 2) 1000 (ns := ["instr", "stack", "token", "b", "a", "res", "x"]) (m := 1) hat rfl rfl ⟨rfl, by decide, by decide⟩ (by decide) (fun pm cd doc => vs1 fun a => rfl) rfl rfl (fun _ => rfl) (by decide) rfl rfl rfl (fun _ _ => rfl) ?he ?hF ?h1 ?h2, ?g⟩
  case he =>
    dsimp only
    repeat' ((show (_ : Prop)); first | (with_reducible first | refine' RunG.cons ?_ ?_ | refine' RunG.ifS (TrG.cmp (EvG.listGen (by with_unfolding_all exact rfl) (by with_unfolding_all exact rfl) (by with_unfolding_all exact rfl) (by with_unfolding_all exact rfl) (by with_unfolding_all exact fun _ => rfl) (by with_unfolding_all exact fun _ => ⟨_, _, rfl⟩) (by with_unfolding_all exact fun _ => rfl) (by with_unfolding_all exact fun _ => ⟨_, _, rfl⟩) (by with_unfolding_all exact fun _ => rfl) (by assumption) (by assumption) ?_) ?_ ?_ (by with_unfolding_all exact rfl)) ?_ ?_ | refine' RunG.ret (EvG.cmp (EvG.listGen (by with_unfolding_all exact rfl) (by with_unfolding_all exact rfl) (by with_unfolding_all exact rfl) (by with_unfolding_all exact rfl) (by with_unfolding_all exact fun _ => rfl) (by with_unfolding_all exact fun _ => ⟨_, _, rfl⟩) (by with_unfolding_all exact fun _ => rfl) (by with_unfolding_all exact fun _ => ⟨_, _, rfl⟩) (by with_unfolding_all exact fun _ => rfl) (by assumption) (by assumption) ?_) ?_ ?_ (by with_unfolding_all exact rfl)) | refine' RunG.of ?_ | refine' EvOK.split (by with_unfolding_all exact fun _ => rfl) ?_ | refine' RunOK.pop (by with_unfolding_all exact rfl) (by with_unfolding_all exact rfl) (by with_unfolding_all exact rfl) (by with_unfolding_all exact fun _ => rfl) (by with_unfolding_all exact fun _ => rfl) (by with_unfolding_all exact ⟨rfl, by decide, by decide⟩) | exact (RunOK.dead : RunOK _ _ _ _ (exec (.Raise _ _ _)) _) | exact OpOK.add | exact OpOK.sub | exact OpOK.mul | exact OpOK.div | exact OpOK.mod | exact OpOK.pow | exact OpOK.lt | exact OpOK.le | exact OpOK.gt | exact OpOK.ge | exact OpOK.eq | exact OpOK.ne | exact OpOK.isIn | exact OpOK.notInS | exact IOpOK.add | exact IOpOK.mul | exact EvOK.cint | exact EvOK.cstr | exact EvOK.cbool | refine' EvOK.v (by with_unfolding_all exact rfl) (by with_unfolding_all exact rfl) (by with_unfolding_all exact rfl) (by with_unfolding_all exact rfl) | refine' EvOK.bin ?_ ?_ ?_ | refine' EvOK.neg ?_ | refine' EvOK.tup ?_ | refine' EvOK.lst ?_ | refine' EvOK.call' (by with_unfolding_all exact rfl) (by with_unfolding_all exact rfl) (by with_unfolding_all exact rfl) (by with_unfolding_all exact fun _ => rfl) (by with_unfolding_all exact rfl) (by with_unfolding_all exact fun _ => ⟨_, _, rfl⟩) (by with_unfolding_all first | assumption | exact FunOK.le (by assumption) (by decide)) ?_ | refine' EvOK.sliceLoS ?_ ?_ (by with_unfolding_all exact fun _ _ => rfl) | refine' EvOK.subs ?_ ?_ (by with_unfolding_all exact fun _ _ => rfl) | refine' EvOK.comp (by with_unfolding_all exact ⟨by decide, rfl, rfl, by decide, rfl, by decide, by decide⟩) ?_ ?_ ?_ (by with_unfolding_all exact fun _ _ => rfl) | exact EvsOK.nil | refine' EvsOK.cons ?_ ?_ (by with_unfolding_all exact fun _ => rfl) | refine' TestsOK.one ?_ | refine' TrOK.cmp ?_ ?_ ?_ (by with_unfolding_all exact rfl) | refine' TrOK.not ?_ | exact TrOK.and0 | refine' TrOK.and ?_ ?_ | refine' TrOK.plain ?_ (by with_unfolding_all exact fun _ _ => rfl) | exact RunOK.nil | refine' RunOK.cons ?_ ?_ | refine' RunOK.ret ?_ | refine' RunOK.ifS ?_ ?_ ?_ | refine' RunOK.whileS ?_ ?_ | refine' RunOK.new' (by with_unfolding_all exact rfl) (by with_unfolding_all exact fun _ => rfl) (by with_unfolding_all exact ⟨rfl, by decide, by decide⟩) ?_ | refine' RunOK.asg' (by with_unfolding_all exact rfl) (by with_unfolding_all exact fun _ => rfl) (by with_unfolding_all exact ⟨rfl, by decide, by decide⟩) ?_ | refine' RunOK.aug' (by with_unfolding_all exact rfl) (by with_unfolding_all exact ⟨rfl, by decide, by decide⟩) ?_ ?_ | refine' RunOK.for' (by with_unfolding_all exact rfl) (by with_unfolding_all exact fun _ _ => rfl) (by with_unfolding_all exact ⟨rfl, by decide, by decide⟩) ?_ ?_ | refine' RunOK.app' (by with_unfolding_all exact rfl) (by with_unfolding_all exact rfl) (by with_unfolding_all exact fun _ => rfl) (by with_unfolding_all exact fun _ => rfl) (by with_unfolding_all exact fun _ => rfl) (by with_unfolding_all exact ⟨rfl, by decide, by decide⟩) ?_))
  case hF => exact fun a => rfl
  case h1 =>
    dsimp only
    repeat' ((show (_ : Prop)); first | (with_reducible first | refine' RunG.cons ?_ ?_ | refine' RunG.ifS (TrG.cmp (EvG.listGen (by with_unfolding_all exact rfl) (by with_unfolding_all exact rfl) (by with_unfolding_all exact rfl) (by with_unfolding_all exact rfl) (by with_unfolding_all exact fun _ => rfl) (by with_unfolding_all exact fun _ => ⟨_, _, rfl⟩) (by with_unfolding_all exact fun _ => rfl) (by with_unfolding_all exact fun _ => ⟨_, _, rfl⟩) (by with_unfolding_all exact fun _ => rfl) (by assumption) (by assumption) ?_) ?_ ?_ (by with_unfolding_all exact rfl)) ?_ ?_ | refine' RunG.ret (EvG.cmp (EvG.listGen (by with_unfolding_all exact rfl) (by with_unfolding_all exact rfl) (by with_unfolding_all exact rfl) (by with_unfolding_all exact rfl) (by with_unfolding_all exact fun _ => rfl) (by with_unfolding_all exact fun _ => ⟨_, _, rfl⟩) (by with_unfolding_all exact fun _ => rfl) (by with_unfolding_all exact fun _ => ⟨_, _, rfl⟩) (by with_unfolding_all exact fun _ => rfl) (by assumption) (by assumption) ?_) ?_ ?_ (by with_unfolding_all exact rfl)) | refine' RunG.of ?_ | refine' EvOK.split (by with_unfolding_all exact fun _ => rfl) ?_ | refine' RunOK.pop (by with_unfolding_all exact rfl) (by with_unfolding_all exact rfl) (by with_unfolding_all exact rfl) (by with_unfolding_all exact fun _ => rfl) (by with_unfolding_all exact fun _ => rfl) (by with_unfolding_all exact ⟨rfl, by decide, by decide⟩) | exact (RunOK.dead : RunOK _ _ _ _ (exec (.Raise _ _ _)) _) | exact OpOK.add | exact OpOK.sub | exact OpOK.mul | exact OpOK.div | exact OpOK.mod | exact OpOK.pow | exact OpOK.lt | exact OpOK.le | exact OpOK.gt | exact OpOK.ge | exact OpOK.eq | exact OpOK.ne | exact OpOK.isIn | exact OpOK.notInS | exact IOpOK.add | exact IOpOK.mul | exact EvOK.cint | exact EvOK.cstr | exact EvOK.cbool | refine' EvOK.v (by with_unfolding_all exact rfl) (by with_unfolding_all exact rfl) (by with_unfolding_all exact rfl) (by with_unfolding_all exact rfl) | refine' EvOK.bin ?_ ?_ ?_ | refine' EvOK.neg ?_ | refine' EvOK.tup ?_ | refine' EvOK.lst ?_ | refine' EvOK.call' (by with_unfolding_all exact rfl) (by with_unfolding_all exact rfl) (by with_unfolding_all exact rfl) (by with_unfolding_all exact fun _ => rfl) (by with_unfolding_all exact rfl) (by with_unfolding_all exact fun _ => ⟨_, _, rfl⟩) (by with_unfolding_all first | assumption | exact FunOK.le (by assumption) (by decide)) ?_ | refine' EvOK.sliceLoS ?_ ?_ (by with_unfolding_all exact fun _ _ => rfl) | refine' EvOK.subs ?_ ?_ (by with_unfolding_all exact fun _ _ => rfl) | refine' EvOK.comp (by with_unfolding_all exact ⟨by decide, rfl, rfl, by decide, rfl, by decide, by decide⟩) ?_ ?_ ?_ (by with_unfolding_all exact fun _ _ => rfl) | exact EvsOK.nil | refine' EvsOK.cons ?_ ?_ (by with_unfolding_all exact fun _ => rfl) | refine' TestsOK.one ?_ | refine' TrOK.cmp ?_ ?_ ?_ (by with_unfolding_all exact rfl) | refine' TrOK.not ?_ | exact TrOK.and0 | refine' TrOK.and ?_ ?_ | refine' TrOK.plain ?_ (by with_unfolding_all exact fun _ _ => rfl) | exact RunOK.nil | refine' RunOK.cons ?_ ?_ | refine' RunOK.ret ?_ | refine' RunOK.ifS ?_ ?_ ?_ | refine' RunOK.whileS ?_ ?_ | refine' RunOK.new' (by with_unfolding_all exact rfl) (by with_unfolding_all exact fun _ => rfl) (by with_unfolding_all exact ⟨rfl, by decide, by decide⟩) ?_ | refine' RunOK.asg' (by with_unfolding_all exact rfl) (by with_unfolding_all exact fun _ => rfl) (by with_unfolding_all exact ⟨rfl, by decide, by decide⟩) ?_ | refine' RunOK.aug' (by with_unfolding_all exact rfl) (by with_unfolding_all exact ⟨rfl, by decide, by decide⟩) ?_ ?_ | refine' RunOK.for' (by with_unfolding_all exact rfl) (by with_unfolding_all exact fun _ _ => rfl) (by with_unfolding_all exact ⟨rfl, by decide, by decide⟩) ?_ ?_ | refine' RunOK.app' (by with_unfolding_all exact rfl) (by with_unfolding_all exact rfl) (by with_unfolding_all exact fun _ => rfl) (by with_unfolding_all exact fun _ => rfl) (by with_unfolding_all exact fun _ => rfl) (by with_unfolding_all exact ⟨rfl, by decide, by decide⟩) ?_))
  case h2 =>
    dsimp only
    repeat' ((show (_ : Prop)); first | (with_reducible first | refine' RunG.cons ?_ ?_ | refine' RunG.ifS (TrG.cmp (EvG.listGen (by with_unfolding_all exact rfl) (by with_unfolding_all exact rfl) (by with_unfolding_all exact rfl) (by with_unfolding_all exact rfl) (by with_unfolding_all exact fun _ => rfl) (by with_unfolding_all exact fun _ => ⟨_, _, rfl⟩) (by with_unfolding_all exact fun _ => rfl) (by with_unfolding_all exact fun _ => ⟨_, _, rfl⟩) (by with_unfolding_all exact fun _ => rfl) (by assumption) (by assumption) ?_) ?_ ?_ (by with_unfolding_all exact rfl)) ?_ ?_ | refine' RunG.ret (EvG.cmp (EvG.listGen (by with_unfolding_all exact rfl) (by with_unfolding_all exact rfl) (by with_unfolding_all exact rfl) (by with_unfolding_all exact rfl) (by with_unfolding_all exact fun _ => rfl) (by with_unfolding_all exact fun _ => ⟨_, _, rfl⟩) (by with_unfolding_all exact fun _ => rfl) (by with_unfolding_all exact fun _ => ⟨_, _, rfl⟩) (by with_unfolding_all exact fun _ => rfl) (by assumption) (by assumption) ?_) ?_ ?_ (by with_unfolding_all exact rfl)) | refine' RunG.of ?_ | refine' EvOK.split (by with_unfolding_all exact fun _ => rfl) ?_ | refine' RunOK.pop (by with_unfolding_all exact rfl) (by with_unfolding_all exact rfl) (by with_unfolding_all exact rfl) (by with_unfolding_all exact fun _ => rfl) (by with_unfolding_all exact fun _ => rfl) (by with_unfolding_all exact ⟨rfl, by decide, by decide⟩) | exact (RunOK.dead : RunOK _ _ _ _ (exec (.Raise _ _ _)) _) | exact OpOK.add | exact OpOK.sub | exact OpOK.mul | exact OpOK.div | exact OpOK.mod | exact OpOK.pow | exact OpOK.lt | exact OpOK.le | exact OpOK.gt | exact OpOK.ge | exact OpOK.eq | exact OpOK.ne | exact OpOK.isIn | exact OpOK.notInS | exact IOpOK.add | exact IOpOK.mul | exact EvOK.cint | exact EvOK.cstr | exact EvOK.cbool | refine' EvOK.v (by with_unfolding_all exact rfl) (by with_unfolding_all exact rfl) (by with_unfolding_all exact rfl) (by with_unfolding_all exact rfl) | refine' EvOK.bin ?_ ?_ ?_ | refine' EvOK.neg ?_ | refine' EvOK.tup ?_ | refine' EvOK.lst ?_ | refine' EvOK.call' (by with_unfolding_all exact rfl) (by with_unfolding_all exact rfl) (by with_unfolding_all exact rfl) (by with_unfolding_all exact fun _ => rfl) (by with_unfolding_all exact rfl) (by with_unfolding_all exact fun _ => ⟨_, _, rfl⟩) (by with_unfolding_all first | assumption | exact FunOK.le (by assumption) (by decide)) ?_ | refine' EvOK.sliceLoS ?_ ?_ (by with_unfolding_all exact fun _ _ => rfl) | refine' EvOK.subs ?_ ?_ (by with_unfolding_all exact fun _ _ => rfl) | refine' EvOK.comp (by with_unfolding_all exact ⟨by decide, rfl, rfl, by decide, rfl, by decide, by decide⟩) ?_ ?_ ?_ (by with_unfolding_all exact fun _ _ => rfl) | exact EvsOK.nil | refine' EvsOK.cons ?_ ?_ (by with_unfolding_all exact fun _ => rfl) | refine' TestsOK.one ?_ | refine' TrOK.cmp ?_ ?_ ?_ (by with_unfolding_all exact rfl) | refine' TrOK.not ?_ | exact TrOK.and0 | refine' TrOK.and ?_ ?_ | refine' TrOK.plain ?_ (by with_unfolding_all exact fun _ _ => rfl) | exact RunOK.nil | refine' RunOK.cons ?_ ?_ | refine' RunOK.ret ?_ | refine' RunOK.ifS ?_ ?_ ?_ | refine' RunOK.whileS ?_ ?_ | refine' RunOK.new' (by with_unfolding_all exact rfl) (by with_unfolding_all exact fun _ => rfl) (by with_unfolding_all exact ⟨rfl, by decide, by decide⟩) ?_ | refine' RunOK.asg' (by with_unfolding_all exact rfl) (by with_unfolding_all exact fun _ => rfl) (by with_unfolding_all exact ⟨rfl, by decide, by decide⟩) ?_ | refine' RunOK.aug' (by with_unfolding_all exact rfl) (by with_unfolding_all exact ⟨rfl, by decide, by decide⟩) ?_ ?_ | refine' RunOK.for' (by with_unfolding_all exact rfl) (by with_unfolding_all exact fun _ _ => rfl) (by with_unfolding_all exact ⟨rfl, by decide, by decide⟩) ?_ ?_ | refine' RunOK.app' (by with_unfolding_all exact rfl) (by with_unfolding_all exact rfl) (by with_unfolding_all exact fun _ => rfl) (by with_unfolding_all exact fun _ => rfl) (by with_unfolding_all exact fun _ => rfl) (by with_unfolding_all exact ⟨rfl, by decide, by decide⟩) ?_))
  case g =>
    intro l ts vals hl hw hts hrun
    refine genF_of (by with_unfolding_all (repeat (first | exact StartsAt.nil | apply StartsAt.cons | apply StartsAt.unb))) rfl ?_
    repeat' ((fail_if_success (with_reducible refine (?_ : @Eq _ _ _))); first | ((with_reducible refine (?_ : EW (eCst (D.str _)) _ _)); with_reducible refine' EW.cstS (by with_reducible assumption) ?_) | ((with_reducible refine (?_ : OW fAdd (D.str _) (D.str _) _)); with_reducible refine' OW.addS (by with_unfolding_all (simp only [List.length_append, List.length_cons, List.length_nil]; omega)) ?_) | ((with_reducible refine (?_ : CW fStr _ _)); with_reducible refine' CW.str (by with_reducible assumption) ?_) | ((with_reducible refine (?_ : EW (eGen _ _) _ _)); with_reducible refine' EW.gen ?_) | ((with_reducible refine (?_ : GK _ _ _)); with_reducible refine' GK.of (by with_reducible assumption) ?_) | ((with_reducible refine (?_ : OW fNe (D.lst _) (D.lst _) _)); with_reducible refine' OW.neSelf ?_) | ((with_reducible refine (?_ : OW fEq (D.lst (intsD [_, _, _, _])) (D.lst _) _)); with_reducible refine' OW.eqSelf4 ?_) | ((with_reducible refine (?_ : EW (eComp _ _ (eVar _)) _ _)); with_reducible refine' EW.dgsVar (by with_unfolding_all exact rfl) (by first | with_reducible assumption | with_unfolding_all exact Nat.le_of_ble_eq_true rfl) ?_) | ((with_reducible refine (?_ : EW (eComp _ _ (Mine.e2 fSloS _ _)) _ _)); with_reducible refine' EW.dgsTail (by with_unfolding_all exact rfl) (by with_reducible assumption) ?_) | ((with_reducible refine (?_ : OW fEq (D.lst (List.map chD _)) (D.lst []) _)); with_reducible refine' OW.eqNil (by first | with_reducible assumption | decide) ?_) | ((with_reducible refine (?_ : IfK (List.all _ _) _ _)); with_reducible first | refine' IfK.hT (by first | with_reducible assumption | decide) ?_ | refine' IfK.hF (by first | with_reducible assumption | decide) ?_) | ((with_reducible refine (?_ : CW fInt [D.str _] _)); with_reducible refine' CW.intT (by with_reducible assumption) ?_) | ((with_reducible refine (?_ : CW fLen [D.str _] _)); with_reducible refine' CW.lenS (by first | with_reducible assumption | with_unfolding_all exact Nat.le_of_ble_eq_true rfl) ?_) | ((with_reducible refine (?_ : OW fEq (D.str _) (D.str _) _)); with_reducible first | refine' OW.clT (by decide +kernel) ?_ | refine' OW.clF (by decide +kernel) ?_) | ((with_reducible refine (?_ : OW (fIn false) (D.str _) (D.tup _) _)); with_reducible first | refine' OW.clT (by decide +kernel) ?_ | refine' OW.clF (by decide +kernel) ?_) | ((with_reducible refine (?_ : RW (rPop _ _) _ _ _)); with_reducible refine' RW.pop (by with_unfolding_all exact rfl) (by with_reducible assumption) ?_) | ((with_reducible refine (?_ : RW (rRetG _) _ _ _)); with_reducible refine' RW.retG ?_) | ((with_reducible refine (?_ : IfK (@decide ((1:Int) < (List.length _ : Int)) _) _ _)); with_reducible first | refine' IfK.decT (by first | with_reducible assumption | decide) ?_ | refine' IfK.decF (by first | with_reducible assumption | decide) ?_) | (with_reducible first | refine' CK.ret ?_ | refine' SK.next ?_ | refine' SK.ret ?_ | refine' LK.next ?_ | refine' RW.nil ?_ | refine' RW.seq ?_) | ((with_reducible refine (?_ : RW _ _ _ _)); with_reducible refine' RW.lenOk (by with_unfolding_all exact rfl) ?_) | (with_reducible first | refine' SW.of ?_ | refine' PutAt.of ?_ ?_) | with_reducible exact SetR.z | (with_reducible first | refine' SetR.s3 ?_ | refine' SetR.s ?_) | (with_reducible refine (?_ : SetR _ (0 + 1) _ _)); refine SetR.s ?_ | ((with_reducible refine (?_ : RW _ _ _ _)); with_reducible refine' RW.retF (E := eVar _) (by with_unfolding_all exact rfl) ?_) | (with_reducible first | refine' RW.asg ?_ | refine' RW.ret ?_) | (fail_if_success (have : StopIf := by with_reducible assumption)); (with_reducible refine' RW.if ?_) | (with_reducible first | refine' RW.for ?_ | refine' RW.while ?_ | refine' RW.new ?_) | ((with_reducible refine (?_ : RW _ _ _ _)); with_reducible refine' RW.app (by with_unfolding_all exact rfl) (by first | with_reducible assumption | with_unfolding_all exact Nat.le_of_ble_eq_true rfl) ?_) | ((with_reducible refine (?_ : RW _ _ _ _)); with_reducible refine' RW.aug (by with_unfolding_all exact rfl) ?_) | (with_reducible first | refine' IfK.t ?_ | refine' IfK.f ?_) | (with_reducible refine' IfK.gd ?_; with_reducible refine' IfK.decT (by first | with_reducible assumption | with_unfolding_all omega) ?_) | (with_reducible refine' IfK.gd ?_; with_reducible refine' IfK.decF (by first | with_reducible assumption | with_unfolding_all omega) ?_) | (with_reducible first | refine' NotK.t ?_ | refine' NotK.f ?_ | refine' TruthK.bool ?_) | ((with_reducible refine (?_ : EW (eVar _) _ _)); with_reducible refine' EW.var (by with_unfolding_all exact rfl) ?_) | (with_reducible first | refine' EW.cst ?_ | refine' EW.e1 ?_ | refine' EW.e2 ?_ | refine' EW.call ?_ | refine' EW.tup ?_ | refine' EW.lst ?_ | refine' EW.comp ?_ | refine' EsW.nil ?_ | refine' EsW.cons ?_ | refine' TW.c ?_) | ((with_reducible refine (?_ : TpK _ _)); with_reducible refine' TpK.mk (by with_unfolding_all exact Nat.le_of_ble_eq_true rfl) ?_) | ((with_reducible refine (?_ : LsK _ _)); with_reducible refine' LsK.mk (by with_unfolding_all exact Nat.le_of_ble_eq_true rfl) ?_) | (with_reducible first | refine' TW.tOf ?_ | refine' TW.not ?_ | refine' TW.and ?_) | ((with_reducible refine (?_ : CW _ _ _)); with_reducible refine' CW.of (by with_reducible assumption) ?_) | ((with_reducible refine (?_ : OW _ _ _ _)); with_reducible refine' OW.of (by with_reducible assumption) ?_) | (with_reducible first | refine' OW.add ?_ | refine' OW.addI ?_ | refine' OW.sub ?_ | refine' OW.ord ?_ | refine' OW.eq ?_ | refine' OW.ne ?_) | ((with_reducible refine (?_ : OW fMul _ _ _)); with_reducible refine' OW.mul (by first | with_reducible assumption | with_unfolding_all exact mulOk_sm (by omega) (by omega)) ?_) | ((with_reducible refine (?_ : OW fDiv _ _ _)); with_reducible refine' OW.div (by with_reducible assumption) ?_) | ((with_reducible refine (?_ : OW fMod _ _ _)); with_reducible refine' OW.mod (by first | with_reducible assumption | with_unfolding_all omega) ?_) | ((with_reducible refine (?_ : OW fPow _ _ _)); with_reducible refine' OW.pow (by with_reducible assumption) ?_) | (with_reducible first | refine' UW.neg ?_) | (with_reducible first | refine' CW.abs ?_ | refine' CW.range1 ?_ | refine' CW.range2 ?_) | ((with_reducible refine (?_ : CW _ _ _)); with_reducible refine' CW.fn (by with_unfolding_all (repeat (first | exact StartsAt.nil | apply StartsAt.cons | apply StartsAt.unb))) (by with_unfolding_all exact rfl) ?_))
    refine ⟨by decide, ?_⟩
    repeat' ((fail_if_success (with_reducible refine (?_ : @Eq _ _ _))); first | ((with_reducible refine (?_ : EW (eCst (D.str _)) _ _)); with_reducible refine' EW.cstS (by with_reducible assumption) ?_) | ((with_reducible refine (?_ : OW fAdd (D.str _) (D.str _) _)); with_reducible refine' OW.addS (by with_unfolding_all (simp only [List.length_append, List.length_cons, List.length_nil]; omega)) ?_) | ((with_reducible refine (?_ : CW fStr _ _)); with_reducible refine' CW.str (by with_reducible assumption) ?_) | ((with_reducible refine (?_ : EW (eGen _ _) _ _)); with_reducible refine' EW.gen ?_) | ((with_reducible refine (?_ : GK _ _ _)); with_reducible refine' GK.of (by with_reducible assumption) ?_) | ((with_reducible refine (?_ : OW fNe (D.lst _) (D.lst _) _)); with_reducible refine' OW.neSelf ?_) | ((with_reducible refine (?_ : OW fEq (D.lst (intsD [_, _, _, _])) (D.lst _) _)); with_reducible refine' OW.eqSelf4 ?_) | ((with_reducible refine (?_ : EW (eComp _ _ (eVar _)) _ _)); with_reducible refine' EW.dgsVar (by with_unfolding_all exact rfl) (by first | with_reducible assumption | with_unfolding_all exact Nat.le_of_ble_eq_true rfl) ?_) | ((with_reducible refine (?_ : EW (eComp _ _ (Mine.e2 fSloS _ _)) _ _)); with_reducible refine' EW.dgsTail (by with_unfolding_all exact rfl) (by with_reducible assumption) ?_) | ((with_reducible refine (?_ : OW fEq (D.lst (List.map chD _)) (D.lst []) _)); with_reducible refine' OW.eqNil (by first | with_reducible assumption | decide) ?_) | ((with_reducible refine (?_ : IfK (List.all _ _) _ _)); with_reducible first | refine' IfK.hT (by first | with_reducible assumption | decide) ?_ | refine' IfK.hF (by first | with_reducible assumption | decide) ?_) | ((with_reducible refine (?_ : CW fInt [D.str _] _)); with_reducible refine' CW.intT (by with_reducible assumption) ?_) | ((with_reducible refine (?_ : CW fLen [D.str _] _)); with_reducible refine' CW.lenS (by first | with_reducible assumption | with_unfolding_all exact Nat.le_of_ble_eq_true rfl) ?_) | ((with_reducible refine (?_ : OW fEq (D.str _) (D.str _) _)); with_reducible first | refine' OW.clT (by decide +kernel) ?_ | refine' OW.clF (by decide +kernel) ?_) | ((with_reducible refine (?_ : OW (fIn false) (D.str _) (D.tup _) _)); with_reducible first | refine' OW.clT (by decide +kernel) ?_ | refine' OW.clF (by decide +kernel) ?_) | ((with_reducible refine (?_ : RW (rPop _ _) _ _ _)); with_reducible refine' RW.pop (by with_unfolding_all exact rfl) (by with_reducible assumption) ?_) | ((with_reducible refine (?_ : RW (rRetG _) _ _ _)); with_reducible refine' RW.retG ?_) | ((with_reducible refine (?_ : IfK (@decide ((1:Int) < (List.length _ : Int)) _) _ _)); with_reducible first | refine' IfK.decT (by first | with_reducible assumption | decide) ?_ | refine' IfK.decF (by first | with_reducible assumption | decide) ?_) | (with_reducible first | refine' CK.ret ?_ | refine' SK.next ?_ | refine' SK.ret ?_ | refine' LK.next ?_ | refine' RW.nil ?_ | refine' RW.seq ?_) | ((with_reducible refine (?_ : RW _ _ _ _)); with_reducible refine' RW.lenOk (by with_unfolding_all exact rfl) ?_) | (with_reducible first | refine' SW.of ?_ | refine' PutAt.of ?_ ?_) | with_reducible exact SetR.z | (with_reducible first | refine' SetR.s3 ?_ | refine' SetR.s ?_) | (with_reducible refine (?_ : SetR _ (0 + 1) _ _)); refine SetR.s ?_ | ((with_reducible refine (?_ : RW _ _ _ _)); with_reducible refine' RW.retF (E := eVar _) (by with_unfolding_all exact rfl) ?_) | (with_reducible first | refine' RW.asg ?_ | refine' RW.ret ?_) | (fail_if_success (have : StopIf := by with_reducible assumption)); (with_reducible refine' RW.if ?_) | (with_reducible first | refine' RW.for ?_ | refine' RW.while ?_ | refine' RW.new ?_) | ((with_reducible refine (?_ : RW _ _ _ _)); with_reducible refine' RW.app (by with_unfolding_all exact rfl) (by first | with_reducible assumption | with_unfolding_all exact Nat.le_of_ble_eq_true rfl) ?_) | ((with_reducible refine (?_ : RW _ _ _ _)); with_reducible refine' RW.aug (by with_unfolding_all exact rfl) ?_) | (with_reducible first | refine' IfK.t ?_ | refine' IfK.f ?_) | (with_reducible refine' IfK.gd ?_; with_reducible refine' IfK.decT (by first | with_reducible assumption | with_unfolding_all omega) ?_) | (with_reducible refine' IfK.gd ?_; with_reducible refine' IfK.decF (by first | with_reducible assumption | with_unfolding_all omega) ?_) | (with_reducible first | refine' NotK.t ?_ | refine' NotK.f ?_ | refine' TruthK.bool ?_) | ((with_reducible refine (?_ : EW (eVar _) _ _)); with_reducible refine' EW.var (by with_unfolding_all exact rfl) ?_) | (with_reducible first | refine' EW.cst ?_ | refine' EW.e1 ?_ | refine' EW.e2 ?_ | refine' EW.call ?_ | refine' EW.tup ?_ | refine' EW.lst ?_ | refine' EW.comp ?_ | refine' EsW.nil ?_ | refine' EsW.cons ?_ | refine' TW.c ?_) | ((with_reducible refine (?_ : TpK _ _)); with_reducible refine' TpK.mk (by with_unfolding_all exact Nat.le_of_ble_eq_true rfl) ?_) | ((with_reducible refine (?_ : LsK _ _)); with_reducible refine' LsK.mk (by with_unfolding_all exact Nat.le_of_ble_eq_true rfl) ?_) | (with_reducible first | refine' TW.tOf ?_ | refine' TW.not ?_ | refine' TW.and ?_) | ((with_reducible refine (?_ : CW _ _ _)); with_reducible refine' CW.of (by with_reducible assumption) ?_) | ((with_reducible refine (?_ : OW _ _ _ _)); with_reducible refine' OW.of (by with_reducible assumption) ?_) | (with_reducible first | refine' OW.add ?_ | refine' OW.addI ?_ | refine' OW.sub ?_ | refine' OW.ord ?_ | refine' OW.eq ?_ | refine' OW.ne ?_) | ((with_reducible refine (?_ : OW fMul _ _ _)); with_reducible refine' OW.mul (by first | with_reducible assumption | with_unfolding_all exact mulOk_sm (by omega) (by omega)) ?_) | ((with_reducible refine (?_ : OW fDiv _ _ _)); with_reducible refine' OW.div (by with_reducible assumption) ?_) | ((with_reducible refine (?_ : OW fMod _ _ _)); with_reducible refine' OW.mod (by first | with_reducible assumption | with_unfolding_all omega) ?_) | ((with_reducible refine (?_ : OW fPow _ _ _)); with_reducible refine' OW.pow (by with_reducible assumption) ?_) | (with_reducible first | refine' UW.neg ?_) | (with_reducible first | refine' CW.abs ?_ | refine' CW.range1 ?_ | refine' CW.range2 ?_) | ((with_reducible refine (?_ : CW _ _ _)); with_reducible refine' CW.fn (by with_unfolding_all (repeat (first | exact StartsAt.nil | apply StartsAt.cons | apply StartsAt.unb))) (by with_unfolding_all exact rfl) ?_))
    refine ⟨rfl, ?_⟩
    refine RW.for (EW.e1 (EW.var rfl (UW.split hl hw ?_)))
    refine ForK.of rfl (items_strs (by omega)) (LW.inv (fun ds σ => ∃ (us : List (List Nat)) (st : List Int) (s1 s2 s3 s4 s5 : Slot), ds = us.map strT ∧ σ = [.imm (.str (mkS l)), .mt (intsD st), s1, s2, s3, s4, s5] ∧ Runs us st vals ∧ st.length + us.length ≤ 5000) ⟨ts, [], _, _, _, _, _, rfl, rfl, hrun, by rw [List.length_nil]; omega⟩ ?_ ?_)
    · rintro d' ds σ ⟨us, st, t1, t2, t3, t4, t5, e, rfl, hr, hn⟩
      cases us with
      | nil => cases e
      | cons u us =>
        cases e
        obtain ⟨st', hs, hr'⟩ := runs_cons hr
        clear hr hrun hw
        have hn' := hs.len
        have hn2 : st'.length + us.length ≤ 5000 := by
          rw [List.length_cons] at hn; omega
        have hfin : ∀ s1 s2 s3 s4 s5, (fun ds σ => ∃ (us : List (List Nat)) (st : List Int) (s1 s2 s3 s4 s5 : Slot), ds = us.map strT ∧ σ = [.imm (.str (mkS l)), .mt (intsD st), s1, s2, s3, s4, s5] ∧ Runs us st vals ∧ st.length + us.length ≤ 5000) (us.map strT) [.imm (.str (mkS l)), .mt (intsD st'), s1, s2, s3, s4, s5] := fun s1 s2 s3 s4 s5 => ⟨us, st', s1, s2, s3, s4, s5, rfl, rfl, hr', hn2⟩
        clear hr'
        refine ⟨rfl, ?_⟩
        unfold strT
        cases hs with
        | num h =>
          rename_i n
          have k1 : u.length ≤ 10000 := Nat.le_trans h.1 (by decide)
          have k2 := numTok_128 h
          have k3 : (intsD st).length ≤ 10000 := by rw [intsD_length]; omega
          rw [intsD_snoc] at hfin
          rcases h.all with a1 | ⟨a1, ds, rfl, a2, a3⟩
          · repeat' ((fail_if_success (with_reducible refine (?_ : @Eq _ _ _))); first | ((with_reducible refine (?_ : EW (eCst (D.str _)) _ _)); with_reducible refine' EW.cstS (by with_reducible assumption) ?_) | ((with_reducible refine (?_ : OW fAdd (D.str _) (D.str _) _)); with_reducible refine' OW.addS (by with_unfolding_all (simp only [List.length_append, List.length_cons, List.length_nil]; omega)) ?_) | ((with_reducible refine (?_ : CW fStr _ _)); with_reducible refine' CW.str (by with_reducible assumption) ?_) | ((with_reducible refine (?_ : EW (eGen _ _) _ _)); with_reducible refine' EW.gen ?_) | ((with_reducible refine (?_ : GK _ _ _)); with_reducible refine' GK.of (by with_reducible assumption) ?_) | ((with_reducible refine (?_ : OW fNe (D.lst _) (D.lst _) _)); with_reducible refine' OW.neSelf ?_) | ((with_reducible refine (?_ : OW fEq (D.lst (intsD [_, _, _, _])) (D.lst _) _)); with_reducible refine' OW.eqSelf4 ?_) | ((with_reducible refine (?_ : EW (eComp _ _ (eVar _)) _ _)); with_reducible refine' EW.dgsVar (by with_unfolding_all exact rfl) (by first | with_reducible assumption | with_unfolding_all exact Nat.le_of_ble_eq_true rfl) ?_) | ((with_reducible refine (?_ : EW (eComp _ _ (Mine.e2 fSloS _ _)) _ _)); with_reducible refine' EW.dgsTail (by with_unfolding_all exact rfl) (by with_reducible assumption) ?_) | ((with_reducible refine (?_ : OW fEq (D.lst (List.map chD _)) (D.lst []) _)); with_reducible refine' OW.eqNil (by first | with_reducible assumption | decide) ?_) | ((with_reducible refine (?_ : IfK (List.all _ _) _ _)); with_reducible first | refine' IfK.hT (by first | with_reducible assumption | decide) ?_ | refine' IfK.hF (by first | with_reducible assumption | decide) ?_) | ((with_reducible refine (?_ : CW fInt [D.str _] _)); with_reducible refine' CW.intT (by with_reducible assumption) ?_) | ((with_reducible refine (?_ : CW fLen [D.str _] _)); with_reducible refine' CW.lenS (by first | with_reducible assumption | with_unfolding_all exact Nat.le_of_ble_eq_true rfl) ?_) | ((with_reducible refine (?_ : OW fEq (D.str _) (D.str _) _)); with_reducible first | refine' OW.clT (by decide +kernel) ?_ | refine' OW.clF (by decide +kernel) ?_) | ((with_reducible refine (?_ : OW (fIn false) (D.str _) (D.tup _) _)); with_reducible first | refine' OW.clT (by decide +kernel) ?_ | refine' OW.clF (by decide +kernel) ?_) | ((with_reducible refine (?_ : RW (rPop _ _) _ _ _)); with_reducible refine' RW.pop (by with_unfolding_all exact rfl) (by with_reducible assumption) ?_) | ((with_reducible refine (?_ : RW (rRetG _) _ _ _)); with_reducible refine' RW.retG ?_) | ((with_reducible refine (?_ : IfK (@decide ((1:Int) < (List.length _ : Int)) _) _ _)); with_reducible first | refine' IfK.decT (by first | with_reducible assumption | decide) ?_ | refine' IfK.decF (by first | with_reducible assumption | decide) ?_) | (with_reducible first | refine' CK.ret ?_ | refine' SK.next ?_ | refine' SK.ret ?_ | refine' LK.next ?_ | refine' RW.nil ?_ | refine' RW.seq ?_) | ((with_reducible refine (?_ : RW _ _ _ _)); with_reducible refine' RW.lenOk (by with_unfolding_all exact rfl) ?_) | (with_reducible first | refine' SW.of ?_ | refine' PutAt.of ?_ ?_) | with_reducible exact SetR.z | (with_reducible first | refine' SetR.s3 ?_ | refine' SetR.s ?_) | (with_reducible refine (?_ : SetR _ (0 + 1) _ _)); refine SetR.s ?_ | ((with_reducible refine (?_ : RW _ _ _ _)); with_reducible refine' RW.retF (E := eVar _) (by with_unfolding_all exact rfl) ?_) | (with_reducible first | refine' RW.asg ?_ | refine' RW.ret ?_) | (fail_if_success (have : StopIf := by with_reducible assumption)); (with_reducible refine' RW.if ?_) | (with_reducible first | refine' RW.for ?_ | refine' RW.while ?_ | refine' RW.new ?_) | ((with_reducible refine (?_ : RW _ _ _ _)); with_reducible refine' RW.app (by with_unfolding_all exact rfl) (by first | with_reducible assumption | with_unfolding_all exact Nat.le_of_ble_eq_true rfl) ?_) | ((with_reducible refine (?_ : RW _ _ _ _)); with_reducible refine' RW.aug (by with_unfolding_all exact rfl) ?_) | (with_reducible first | refine' IfK.t ?_ | refine' IfK.f ?_) | (with_reducible refine' IfK.gd ?_; with_reducible refine' IfK.decT (by first | with_reducible assumption | with_unfolding_all omega) ?_) | (with_reducible refine' IfK.gd ?_; with_reducible refine' IfK.decF (by first | with_reducible assumption | with_unfolding_all omega) ?_) | (with_reducible first | refine' NotK.t ?_ | refine' NotK.f ?_ | refine' TruthK.bool ?_) | ((with_reducible refine (?_ : EW (eVar _) _ _)); with_reducible refine' EW.var (by with_unfolding_all exact rfl) ?_) | (with_reducible first | refine' EW.cst ?_ | refine' EW.e1 ?_ | refine' EW.e2 ?_ | refine' EW.call ?_ | refine' EW.tup ?_ | refine' EW.lst ?_ | refine' EW.comp ?_ | refine' EsW.nil ?_ | refine' EsW.cons ?_ | refine' TW.c ?_) | ((with_reducible refine (?_ : TpK _ _)); with_reducible refine' TpK.mk (by with_unfolding_all exact Nat.le_of_ble_eq_true rfl) ?_) | ((with_reducible refine (?_ : LsK _ _)); with_reducible refine' LsK.mk (by with_unfolding_all exact Nat.le_of_ble_eq_true rfl) ?_) | (with_reducible first | refine' TW.tOf ?_ | refine' TW.not ?_ | refine' TW.and ?_) | ((with_reducible refine (?_ : CW _ _ _)); with_reducible refine' CW.of (by with_reducible assumption) ?_) | ((with_reducible refine (?_ : OW _ _ _ _)); with_reducible refine' OW.of (by with_reducible assumption) ?_) | (with_reducible first | refine' OW.add ?_ | refine' OW.addI ?_ | refine' OW.sub ?_ | refine' OW.ord ?_ | refine' OW.eq ?_ | refine' OW.ne ?_) | ((with_reducible refine (?_ : OW fMul _ _ _)); with_reducible refine' OW.mul (by first | with_reducible assumption | with_unfolding_all exact mulOk_sm (by omega) (by omega)) ?_) | ((with_reducible refine (?_ : OW fDiv _ _ _)); with_reducible refine' OW.div (by with_reducible assumption) ?_) | ((with_reducible refine (?_ : OW fMod _ _ _)); with_reducible refine' OW.mod (by first | with_reducible assumption | with_unfolding_all omega) ?_) | ((with_reducible refine (?_ : OW fPow _ _ _)); with_reducible refine' OW.pow (by with_reducible assumption) ?_) | (with_reducible first | refine' UW.neg ?_) | (with_reducible first | refine' CW.abs ?_ | refine' CW.range1 ?_ | refine' CW.range2 ?_) | ((with_reducible refine (?_ : CW _ _ _)); with_reducible refine' CW.fn (by with_unfolding_all (repeat (first | exact StartsAt.nil | apply StartsAt.cons | apply StartsAt.unb))) (by with_unfolding_all exact rfl) ?_))
            exact hfin _ _ _ _ _
          · have k4 : ds.length ≤ 9999 := by rw [List.length_cons] at k1; omega
            have k5 : ∀ c ∈ ds, c < 128 := fun c hc => k2 c (.tail _ hc)
            have k6 : (1 : Int) < ((45 :: ds).length : Int) := by
              rw [List.length_cons]
              have := List.length_pos_iff.mpr a2
              omega
            have k7 : fSubs (.str (mkS (45 :: ds))) (.int 0) = some (.str (mkS [45])) := rfl
            repeat' ((fail_if_success (with_reducible refine (?_ : @Eq _ _ _))); first | ((with_reducible refine (?_ : EW (eCst (D.str _)) _ _)); with_reducible refine' EW.cstS (by with_reducible assumption) ?_) | ((with_reducible refine (?_ : OW fAdd (D.str _) (D.str _) _)); with_reducible refine' OW.addS (by with_unfolding_all (simp only [List.length_append, List.length_cons, List.length_nil]; omega)) ?_) | ((with_reducible refine (?_ : CW fStr _ _)); with_reducible refine' CW.str (by with_reducible assumption) ?_) | ((with_reducible refine (?_ : EW (eGen _ _) _ _)); with_reducible refine' EW.gen ?_) | ((with_reducible refine (?_ : GK _ _ _)); with_reducible refine' GK.of (by with_reducible assumption) ?_) | ((with_reducible refine (?_ : OW fNe (D.lst _) (D.lst _) _)); with_reducible refine' OW.neSelf ?_) | ((with_reducible refine (?_ : OW fEq (D.lst (intsD [_, _, _, _])) (D.lst _) _)); with_reducible refine' OW.eqSelf4 ?_) | ((with_reducible refine (?_ : EW (eComp _ _ (eVar _)) _ _)); with_reducible refine' EW.dgsVar (by with_unfolding_all exact rfl) (by first | with_reducible assumption | with_unfolding_all exact Nat.le_of_ble_eq_true rfl) ?_) | ((with_reducible refine (?_ : EW (eComp _ _ (Mine.e2 fSloS _ _)) _ _)); with_reducible refine' EW.dgsTail (by with_unfolding_all exact rfl) (by with_reducible assumption) ?_) | ((with_reducible refine (?_ : OW fEq (D.lst (List.map chD _)) (D.lst []) _)); with_reducible refine' OW.eqNil (by first | with_reducible assumption | decide) ?_) | ((with_reducible refine (?_ : IfK (List.all _ _) _ _)); with_reducible first | refine' IfK.hT (by first | with_reducible assumption | decide) ?_ | refine' IfK.hF (by first | with_reducible assumption | decide) ?_) | ((with_reducible refine (?_ : CW fInt [D.str _] _)); with_reducible refine' CW.intT (by with_reducible assumption) ?_) | ((with_reducible refine (?_ : CW fLen [D.str _] _)); with_reducible refine' CW.lenS (by first | with_reducible assumption | with_unfolding_all exact Nat.le_of_ble_eq_true rfl) ?_) | ((with_reducible refine (?_ : OW fEq (D.str _) (D.str _) _)); with_reducible first | refine' OW.clT (by decide +kernel) ?_ | refine' OW.clF (by decide +kernel) ?_) | ((with_reducible refine (?_ : OW (fIn false) (D.str _) (D.tup _) _)); with_reducible first | refine' OW.clT (by decide +kernel) ?_ | refine' OW.clF (by decide +kernel) ?_) | ((with_reducible refine (?_ : RW (rPop _ _) _ _ _)); with_reducible refine' RW.pop (by with_unfolding_all exact rfl) (by with_reducible assumption) ?_) | ((with_reducible refine (?_ : RW (rRetG _) _ _ _)); with_reducible refine' RW.retG ?_) | ((with_reducible refine (?_ : IfK (@decide ((1:Int) < (List.length _ : Int)) _) _ _)); with_reducible first | refine' IfK.decT (by first | with_reducible assumption | decide) ?_ | refine' IfK.decF (by first | with_reducible assumption | decide) ?_) | (with_reducible first | refine' CK.ret ?_ | refine' SK.next ?_ | refine' SK.ret ?_ | refine' LK.next ?_ | refine' RW.nil ?_ | refine' RW.seq ?_) | ((with_reducible refine (?_ : RW _ _ _ _)); with_reducible refine' RW.lenOk (by with_unfolding_all exact rfl) ?_) | (with_reducible first | refine' SW.of ?_ | refine' PutAt.of ?_ ?_) | with_reducible exact SetR.z | (with_reducible first | refine' SetR.s3 ?_ | refine' SetR.s ?_) | (with_reducible refine (?_ : SetR _ (0 + 1) _ _)); refine SetR.s ?_ | ((with_reducible refine (?_ : RW _ _ _ _)); with_reducible refine' RW.retF (E := eVar _) (by with_unfolding_all exact rfl) ?_) | (with_reducible first | refine' RW.asg ?_ | refine' RW.ret ?_) | (fail_if_success (have : StopIf := by with_reducible assumption)); (with_reducible refine' RW.if ?_) | (with_reducible first | refine' RW.for ?_ | refine' RW.while ?_ | refine' RW.new ?_) | ((with_reducible refine (?_ : RW _ _ _ _)); with_reducible refine' RW.app (by with_unfolding_all exact rfl) (by first | with_reducible assumption | with_unfolding_all exact Nat.le_of_ble_eq_true rfl) ?_) | ((with_reducible refine (?_ : RW _ _ _ _)); with_reducible refine' RW.aug (by with_unfolding_all exact rfl) ?_) | (with_reducible first | refine' IfK.t ?_ | refine' IfK.f ?_) | (with_reducible refine' IfK.gd ?_; with_reducible refine' IfK.decT (by first | with_reducible assumption | with_unfolding_all omega) ?_) | (with_reducible refine' IfK.gd ?_; with_reducible refine' IfK.decF (by first | with_reducible assumption | with_unfolding_all omega) ?_) | (with_reducible first | refine' NotK.t ?_ | refine' NotK.f ?_ | refine' TruthK.bool ?_) | ((with_reducible refine (?_ : EW (eVar _) _ _)); with_reducible refine' EW.var (by with_unfolding_all exact rfl) ?_) | (with_reducible first | refine' EW.cst ?_ | refine' EW.e1 ?_ | refine' EW.e2 ?_ | refine' EW.call ?_ | refine' EW.tup ?_ | refine' EW.lst ?_ | refine' EW.comp ?_ | refine' EsW.nil ?_ | refine' EsW.cons ?_ | refine' TW.c ?_) | ((with_reducible refine (?_ : TpK _ _)); with_reducible refine' TpK.mk (by with_unfolding_all exact Nat.le_of_ble_eq_true rfl) ?_) | ((with_reducible refine (?_ : LsK _ _)); with_reducible refine' LsK.mk (by with_unfolding_all exact Nat.le_of_ble_eq_true rfl) ?_) | (with_reducible first | refine' TW.tOf ?_ | refine' TW.not ?_ | refine' TW.and ?_) | ((with_reducible refine (?_ : CW _ _ _)); with_reducible refine' CW.of (by with_reducible assumption) ?_) | ((with_reducible refine (?_ : OW _ _ _ _)); with_reducible refine' OW.of (by with_reducible assumption) ?_) | (with_reducible first | refine' OW.add ?_ | refine' OW.addI ?_ | refine' OW.sub ?_ | refine' OW.ord ?_ | refine' OW.eq ?_ | refine' OW.ne ?_) | ((with_reducible refine (?_ : OW fMul _ _ _)); with_reducible refine' OW.mul (by first | with_reducible assumption | with_unfolding_all exact mulOk_sm (by omega) (by omega)) ?_) | ((with_reducible refine (?_ : OW fDiv _ _ _)); with_reducible refine' OW.div (by with_reducible assumption) ?_) | ((with_reducible refine (?_ : OW fMod _ _ _)); with_reducible refine' OW.mod (by first | with_reducible assumption | with_unfolding_all omega) ?_) | ((with_reducible refine (?_ : OW fPow _ _ _)); with_reducible refine' OW.pow (by with_reducible assumption) ?_) | (with_reducible first | refine' UW.neg ?_) | (with_reducible first | refine' CW.abs ?_ | refine' CW.range1 ?_ | refine' CW.range2 ?_) | ((with_reducible refine (?_ : CW _ _ _)); with_reducible refine' CW.fn (by with_unfolding_all (repeat (first | exact StartsAt.nil | apply StartsAt.cons | apply StartsAt.unb))) (by with_unfolding_all exact rfl) ?_))
            exact hfin _ _ _ _ _
        | two h =>
          rename_i o a b c st
          have k0 : (intsD st).length ≤ 10000 := by
            rw [intsD_length]
            simp only [List.length_append, List.length_cons, List.length_nil] at hn
            omega
          have k1 : (intsD st).length ≤ 9999 := by
            rw [intsD_length]
            simp only [List.length_append, List.length_cons, List.length_nil] at hn
            omega
          have k2 : (intsD st ++ [D.int a]).length ≤ 9999 := by
            rw [List.length_append, intsD_length]
            simp only [List.length_append, List.length_cons, List.length_nil] at hn ⊢
            omega
          rw [intsD_snoc] at hfin
          rw [intsD_snoc, intsD_snoc]
          cases o with
          | add =>
            cases h
            repeat' ((fail_if_success (with_reducible refine (?_ : @Eq _ _ _))); first | ((with_reducible refine (?_ : EW (eCst (D.str _)) _ _)); with_reducible refine' EW.cstS (by with_reducible assumption) ?_) | ((with_reducible refine (?_ : OW fAdd (D.str _) (D.str _) _)); with_reducible refine' OW.addS (by with_unfolding_all (simp only [List.length_append, List.length_cons, List.length_nil]; omega)) ?_) | ((with_reducible refine (?_ : CW fStr _ _)); with_reducible refine' CW.str (by with_reducible assumption) ?_) | ((with_reducible refine (?_ : EW (eGen _ _) _ _)); with_reducible refine' EW.gen ?_) | ((with_reducible refine (?_ : GK _ _ _)); with_reducible refine' GK.of (by with_reducible assumption) ?_) | ((with_reducible refine (?_ : OW fNe (D.lst _) (D.lst _) _)); with_reducible refine' OW.neSelf ?_) | ((with_reducible refine (?_ : OW fEq (D.lst (intsD [_, _, _, _])) (D.lst _) _)); with_reducible refine' OW.eqSelf4 ?_) | ((with_reducible refine (?_ : EW (eComp _ _ (eVar _)) _ _)); with_reducible refine' EW.dgsVar (by with_unfolding_all exact rfl) (by first | with_reducible assumption | with_unfolding_all exact Nat.le_of_ble_eq_true rfl) ?_) | ((with_reducible refine (?_ : EW (eComp _ _ (Mine.e2 fSloS _ _)) _ _)); with_reducible refine' EW.dgsTail (by with_unfolding_all exact rfl) (by with_reducible assumption) ?_) | ((with_reducible refine (?_ : OW fEq (D.lst (List.map chD _)) (D.lst []) _)); with_reducible refine' OW.eqNil (by first | with_reducible assumption | decide) ?_) | ((with_reducible refine (?_ : IfK (List.all _ _) _ _)); with_reducible first | refine' IfK.hT (by first | with_reducible assumption | decide) ?_ | refine' IfK.hF (by first | with_reducible assumption | decide) ?_) | ((with_reducible refine (?_ : CW fInt [D.str _] _)); with_reducible refine' CW.intT (by with_reducible assumption) ?_) | ((with_reducible refine (?_ : CW fLen [D.str _] _)); with_reducible refine' CW.lenS (by first | with_reducible assumption | with_unfolding_all exact Nat.le_of_ble_eq_true rfl) ?_) | ((with_reducible refine (?_ : OW fEq (D.str _) (D.str _) _)); with_reducible first | refine' OW.clT (by decide +kernel) ?_ | refine' OW.clF (by decide +kernel) ?_) | ((with_reducible refine (?_ : OW (fIn false) (D.str _) (D.tup _) _)); with_reducible first | refine' OW.clT (by decide +kernel) ?_ | refine' OW.clF (by decide +kernel) ?_) | ((with_reducible refine (?_ : RW (rPop _ _) _ _ _)); with_reducible refine' RW.pop (by with_unfolding_all exact rfl) (by with_reducible assumption) ?_) | ((with_reducible refine (?_ : RW (rRetG _) _ _ _)); with_reducible refine' RW.retG ?_) | ((with_reducible refine (?_ : IfK (@decide ((1:Int) < (List.length _ : Int)) _) _ _)); with_reducible first | refine' IfK.decT (by first | with_reducible assumption | decide) ?_ | refine' IfK.decF (by first | with_reducible assumption | decide) ?_) | (with_reducible first | refine' CK.ret ?_ | refine' SK.next ?_ | refine' SK.ret ?_ | refine' LK.next ?_ | refine' RW.nil ?_ | refine' RW.seq ?_) | ((with_reducible refine (?_ : RW _ _ _ _)); with_reducible refine' RW.lenOk (by with_unfolding_all exact rfl) ?_) | (with_reducible first | refine' SW.of ?_ | refine' PutAt.of ?_ ?_) | with_reducible exact SetR.z | (with_reducible first | refine' SetR.s3 ?_ | refine' SetR.s ?_) | (with_reducible refine (?_ : SetR _ (0 + 1) _ _)); refine SetR.s ?_ | ((with_reducible refine (?_ : RW _ _ _ _)); with_reducible refine' RW.retF (E := eVar _) (by with_unfolding_all exact rfl) ?_) | (with_reducible first | refine' RW.asg ?_ | refine' RW.ret ?_) | (fail_if_success (have : StopIf := by with_reducible assumption)); (with_reducible refine' RW.if ?_) | (with_reducible first | refine' RW.for ?_ | refine' RW.while ?_ | refine' RW.new ?_) | ((with_reducible refine (?_ : RW _ _ _ _)); with_reducible refine' RW.app (by with_unfolding_all exact rfl) (by first | with_reducible assumption | with_unfolding_all exact Nat.le_of_ble_eq_true rfl) ?_) | ((with_reducible refine (?_ : RW _ _ _ _)); with_reducible refine' RW.aug (by with_unfolding_all exact rfl) ?_) | (with_reducible first | refine' IfK.t ?_ | refine' IfK.f ?_) | (with_reducible refine' IfK.gd ?_; with_reducible refine' IfK.decT (by first | with_reducible assumption | with_unfolding_all omega) ?_) | (with_reducible refine' IfK.gd ?_; with_reducible refine' IfK.decF (by first | with_reducible assumption | with_unfolding_all omega) ?_) | (with_reducible first | refine' NotK.t ?_ | refine' NotK.f ?_ | refine' TruthK.bool ?_) | ((with_reducible refine (?_ : EW (eVar _) _ _)); with_reducible refine' EW.var (by with_unfolding_all exact rfl) ?_) | (with_reducible first | refine' EW.cst ?_ | refine' EW.e1 ?_ | refine' EW.e2 ?_ | refine' EW.call ?_ | refine' EW.tup ?_ | refine' EW.lst ?_ | refine' EW.comp ?_ | refine' EsW.nil ?_ | refine' EsW.cons ?_ | refine' TW.c ?_) | ((with_reducible refine (?_ : TpK _ _)); with_reducible refine' TpK.mk (by with_unfolding_all exact Nat.le_of_ble_eq_true rfl) ?_) | ((with_reducible refine (?_ : LsK _ _)); with_reducible refine' LsK.mk (by with_unfolding_all exact Nat.le_of_ble_eq_true rfl) ?_) | (with_reducible first | refine' TW.tOf ?_ | refine' TW.not ?_ | refine' TW.and ?_) | ((with_reducible refine (?_ : CW _ _ _)); with_reducible refine' CW.of (by with_reducible assumption) ?_) | ((with_reducible refine (?_ : OW _ _ _ _)); with_reducible refine' OW.of (by with_reducible assumption) ?_) | (with_reducible first | refine' OW.add ?_ | refine' OW.addI ?_ | refine' OW.sub ?_ | refine' OW.ord ?_ | refine' OW.eq ?_ | refine' OW.ne ?_) | ((with_reducible refine (?_ : OW fMul _ _ _)); with_reducible refine' OW.mul (by first | with_reducible assumption | with_unfolding_all exact mulOk_sm (by omega) (by omega)) ?_) | ((with_reducible refine (?_ : OW fDiv _ _ _)); with_reducible refine' OW.div (by with_reducible assumption) ?_) | ((with_reducible refine (?_ : OW fMod _ _ _)); with_reducible refine' OW.mod (by first | with_reducible assumption | with_unfolding_all omega) ?_) | ((with_reducible refine (?_ : OW fPow _ _ _)); with_reducible refine' OW.pow (by with_reducible assumption) ?_) | (with_reducible first | refine' UW.neg ?_) | (with_reducible first | refine' CW.abs ?_ | refine' CW.range1 ?_ | refine' CW.range2 ?_) | ((with_reducible refine (?_ : CW _ _ _)); with_reducible refine' CW.fn (by with_unfolding_all (repeat (first | exact StartsAt.nil | apply StartsAt.cons | apply StartsAt.unb))) (by with_unfolding_all exact rfl) ?_))
            exact hfin _ _ _ _ _
          | sub =>
            cases h
            repeat' ((fail_if_success (with_reducible refine (?_ : @Eq _ _ _))); first | ((with_reducible refine (?_ : EW (eCst (D.str _)) _ _)); with_reducible refine' EW.cstS (by with_reducible assumption) ?_) | ((with_reducible refine (?_ : OW fAdd (D.str _) (D.str _) _)); with_reducible refine' OW.addS (by with_unfolding_all (simp only [List.length_append, List.length_cons, List.length_nil]; omega)) ?_) | ((with_reducible refine (?_ : CW fStr _ _)); with_reducible refine' CW.str (by with_reducible assumption) ?_) | ((with_reducible refine (?_ : EW (eGen _ _) _ _)); with_reducible refine' EW.gen ?_) | ((with_reducible refine (?_ : GK _ _ _)); with_reducible refine' GK.of (by with_reducible assumption) ?_) | ((with_reducible refine (?_ : OW fNe (D.lst _) (D.lst _) _)); with_reducible refine' OW.neSelf ?_) | ((with_reducible refine (?_ : OW fEq (D.lst (intsD [_, _, _, _])) (D.lst _) _)); with_reducible refine' OW.eqSelf4 ?_) | ((with_reducible refine (?_ : EW (eComp _ _ (eVar _)) _ _)); with_reducible refine' EW.dgsVar (by with_unfolding_all exact rfl) (by first | with_reducible assumption | with_unfolding_all exact Nat.le_of_ble_eq_true rfl) ?_) | ((with_reducible refine (?_ : EW (eComp _ _ (Mine.e2 fSloS _ _)) _ _)); with_reducible refine' EW.dgsTail (by with_unfolding_all exact rfl) (by with_reducible assumption) ?_) | ((with_reducible refine (?_ : OW fEq (D.lst (List.map chD _)) (D.lst []) _)); with_reducible refine' OW.eqNil (by first | with_reducible assumption | decide) ?_) | ((with_reducible refine (?_ : IfK (List.all _ _) _ _)); with_reducible first | refine' IfK.hT (by first | with_reducible assumption | decide) ?_ | refine' IfK.hF (by first | with_reducible assumption | decide) ?_) | ((with_reducible refine (?_ : CW fInt [D.str _] _)); with_reducible refine' CW.intT (by with_reducible assumption) ?_) | ((with_reducible refine (?_ : CW fLen [D.str _] _)); with_reducible refine' CW.lenS (by first | with_reducible assumption | with_unfolding_all exact Nat.le_of_ble_eq_true rfl) ?_) | ((with_reducible refine (?_ : OW fEq (D.str _) (D.str _) _)); with_reducible first | refine' OW.clT (by decide +kernel) ?_ | refine' OW.clF (by decide +kernel) ?_) | ((with_reducible refine (?_ : OW (fIn false) (D.str _) (D.tup _) _)); with_reducible first | refine' OW.clT (by decide +kernel) ?_ | refine' OW.clF (by decide +kernel) ?_) | ((with_reducible refine (?_ : RW (rPop _ _) _ _ _)); with_reducible refine' RW.pop (by with_unfolding_all exact rfl) (by with_reducible assumption) ?_) | ((with_reducible refine (?_ : RW (rRetG _) _ _ _)); with_reducible refine' RW.retG ?_) | ((with_reducible refine (?_ : IfK (@decide ((1:Int) < (List.length _ : Int)) _) _ _)); with_reducible first | refine' IfK.decT (by first | with_reducible assumption | decide) ?_ | refine' IfK.decF (by first | with_reducible assumption | decide) ?_) | (with_reducible first | refine' CK.ret ?_ | refine' SK.next ?_ | refine' SK.ret ?_ | refine' LK.next ?_ | refine' RW.nil ?_ | refine' RW.seq ?_) | ((with_reducible refine (?_ : RW _ _ _ _)); with_reducible refine' RW.lenOk (by with_unfolding_all exact rfl) ?_) | (with_reducible first | refine' SW.of ?_ | refine' PutAt.of ?_ ?_) | with_reducible exact SetR.z | (with_reducible first | refine' SetR.s3 ?_ | refine' SetR.s ?_) | (with_reducible refine (?_ : SetR _ (0 + 1) _ _)); refine SetR.s ?_ | ((with_reducible refine (?_ : RW _ _ _ _)); with_reducible refine' RW.retF (E := eVar _) (by with_unfolding_all exact rfl) ?_) | (with_reducible first | refine' RW.asg ?_ | refine' RW.ret ?_) | (fail_if_success (have : StopIf := by with_reducible assumption)); (with_reducible refine' RW.if ?_) | (with_reducible first | refine' RW.for ?_ | refine' RW.while ?_ | refine' RW.new ?_) | ((with_reducible refine (?_ : RW _ _ _ _)); with_reducible refine' RW.app (by with_unfolding_all exact rfl) (by first | with_reducible assumption | with_unfolding_all exact Nat.le_of_ble_eq_true rfl) ?_) | ((with_reducible refine (?_ : RW _ _ _ _)); with_reducible refine' RW.aug (by with_unfolding_all exact rfl) ?_) | (with_reducible first | refine' IfK.t ?_ | refine' IfK.f ?_) | (with_reducible refine' IfK.gd ?_; with_reducible refine' IfK.decT (by first | with_reducible assumption | with_unfolding_all omega) ?_) | (with_reducible refine' IfK.gd ?_; with_reducible refine' IfK.decF (by first | with_reducible assumption | with_unfolding_all omega) ?_) | (with_reducible first | refine' NotK.t ?_ | refine' NotK.f ?_ | refine' TruthK.bool ?_) | ((with_reducible refine (?_ : EW (eVar _) _ _)); with_reducible refine' EW.var (by with_unfolding_all exact rfl) ?_) | (with_reducible first | refine' EW.cst ?_ | refine' EW.e1 ?_ | refine' EW.e2 ?_ | refine' EW.call ?_ | refine' EW.tup ?_ | refine' EW.lst ?_ | refine' EW.comp ?_ | refine' EsW.nil ?_ | refine' EsW.cons ?_ | refine' TW.c ?_) | ((with_reducible refine (?_ : TpK _ _)); with_reducible refine' TpK.mk (by with_unfolding_all exact Nat.le_of_ble_eq_true rfl) ?_) | ((with_reducible refine (?_ : LsK _ _)); with_reducible refine' LsK.mk (by with_unfolding_all exact Nat.le_of_ble_eq_true rfl) ?_) | (with_reducible first | refine' TW.tOf ?_ | refine' TW.not ?_ | refine' TW.and ?_) | ((with_reducible refine (?_ : CW _ _ _)); with_reducible refine' CW.of (by with_reducible assumption) ?_) | ((with_reducible refine (?_ : OW _ _ _ _)); with_reducible refine' OW.of (by with_reducible assumption) ?_) | (with_reducible first | refine' OW.add ?_ | refine' OW.addI ?_ | refine' OW.sub ?_ | refine' OW.ord ?_ | refine' OW.eq ?_ | refine' OW.ne ?_) | ((with_reducible refine (?_ : OW fMul _ _ _)); with_reducible refine' OW.mul (by first | with_reducible assumption | with_unfolding_all exact mulOk_sm (by omega) (by omega)) ?_) | ((with_reducible refine (?_ : OW fDiv _ _ _)); with_reducible refine' OW.div (by with_reducible assumption) ?_) | ((with_reducible refine (?_ : OW fMod _ _ _)); with_reducible refine' OW.mod (by first | with_reducible assumption | with_unfolding_all omega) ?_) | ((with_reducible refine (?_ : OW fPow _ _ _)); with_reducible refine' OW.pow (by with_reducible assumption) ?_) | (with_reducible first | refine' UW.neg ?_) | (with_reducible first | refine' CW.abs ?_ | refine' CW.range1 ?_ | refine' CW.range2 ?_) | ((with_reducible refine (?_ : CW _ _ _)); with_reducible refine' CW.fn (by with_unfolding_all (repeat (first | exact StartsAt.nil | apply StartsAt.cons | apply StartsAt.unb))) (by with_unfolding_all exact rfl) ?_))
            exact hfin _ _ _ _ _
          | mul =>
            obtain ⟨h1, rfl⟩ := ite_some h
            repeat' ((fail_if_success (with_reducible refine (?_ : @Eq _ _ _))); first | ((with_reducible refine (?_ : EW (eCst (D.str _)) _ _)); with_reducible refine' EW.cstS (by with_reducible assumption) ?_) | ((with_reducible refine (?_ : OW fAdd (D.str _) (D.str _) _)); with_reducible refine' OW.addS (by with_unfolding_all (simp only [List.length_append, List.length_cons, List.length_nil]; omega)) ?_) | ((with_reducible refine (?_ : CW fStr _ _)); with_reducible refine' CW.str (by with_reducible assumption) ?_) | ((with_reducible refine (?_ : EW (eGen _ _) _ _)); with_reducible refine' EW.gen ?_) | ((with_reducible refine (?_ : GK _ _ _)); with_reducible refine' GK.of (by with_reducible assumption) ?_) | ((with_reducible refine (?_ : OW fNe (D.lst _) (D.lst _) _)); with_reducible refine' OW.neSelf ?_) | ((with_reducible refine (?_ : OW fEq (D.lst (intsD [_, _, _, _])) (D.lst _) _)); with_reducible refine' OW.eqSelf4 ?_) | ((with_reducible refine (?_ : EW (eComp _ _ (eVar _)) _ _)); with_reducible refine' EW.dgsVar (by with_unfolding_all exact rfl) (by first | with_reducible assumption | with_unfolding_all exact Nat.le_of_ble_eq_true rfl) ?_) | ((with_reducible refine (?_ : EW (eComp _ _ (Mine.e2 fSloS _ _)) _ _)); with_reducible refine' EW.dgsTail (by with_unfolding_all exact rfl) (by with_reducible assumption) ?_) | ((with_reducible refine (?_ : OW fEq (D.lst (List.map chD _)) (D.lst []) _)); with_reducible refine' OW.eqNil (by first | with_reducible assumption | decide) ?_) | ((with_reducible refine (?_ : IfK (List.all _ _) _ _)); with_reducible first | refine' IfK.hT (by first | with_reducible assumption | decide) ?_ | refine' IfK.hF (by first | with_reducible assumption | decide) ?_) | ((with_reducible refine (?_ : CW fInt [D.str _] _)); with_reducible refine' CW.intT (by with_reducible assumption) ?_) | ((with_reducible refine (?_ : CW fLen [D.str _] _)); with_reducible refine' CW.lenS (by first | with_reducible assumption | with_unfolding_all exact Nat.le_of_ble_eq_true rfl) ?_) | ((with_reducible refine (?_ : OW fEq (D.str _) (D.str _) _)); with_reducible first | refine' OW.clT (by decide +kernel) ?_ | refine' OW.clF (by decide +kernel) ?_) | ((with_reducible refine (?_ : OW (fIn false) (D.str _) (D.tup _) _)); with_reducible first | refine' OW.clT (by decide +kernel) ?_ | refine' OW.clF (by decide +kernel) ?_) | ((with_reducible refine (?_ : RW (rPop _ _) _ _ _)); with_reducible refine' RW.pop (by with_unfolding_all exact rfl) (by with_reducible assumption) ?_) | ((with_reducible refine (?_ : RW (rRetG _) _ _ _)); with_reducible refine' RW.retG ?_) | ((with_reducible refine (?_ : IfK (@decide ((1:Int) < (List.length _ : Int)) _) _ _)); with_reducible first | refine' IfK.decT (by first | with_reducible assumption | decide) ?_ | refine' IfK.decF (by first | with_reducible assumption | decide) ?_) | (with_reducible first | refine' CK.ret ?_ | refine' SK.next ?_ | refine' SK.ret ?_ | refine' LK.next ?_ | refine' RW.nil ?_ | refine' RW.seq ?_) | ((with_reducible refine (?_ : RW _ _ _ _)); with_reducible refine' RW.lenOk (by with_unfolding_all exact rfl) ?_) | (with_reducible first | refine' SW.of ?_ | refine' PutAt.of ?_ ?_) | with_reducible exact SetR.z | (with_reducible first | refine' SetR.s3 ?_ | refine' SetR.s ?_) | (with_reducible refine (?_ : SetR _ (0 + 1) _ _)); refine SetR.s ?_ | ((with_reducible refine (?_ : RW _ _ _ _)); with_reducible refine' RW.retF (E := eVar _) (by with_unfolding_all exact rfl) ?_) | (with_reducible first | refine' RW.asg ?_ | refine' RW.ret ?_) | (fail_if_success (have : StopIf := by with_reducible assumption)); (with_reducible refine' RW.if ?_) | (with_reducible first | refine' RW.for ?_ | refine' RW.while ?_ | refine' RW.new ?_) | ((with_reducible refine (?_ : RW _ _ _ _)); with_reducible refine' RW.app (by with_unfolding_all exact rfl) (by first | with_reducible assumption | with_unfolding_all exact Nat.le_of_ble_eq_true rfl) ?_) | ((with_reducible refine (?_ : RW _ _ _ _)); with_reducible refine' RW.aug (by with_unfolding_all exact rfl) ?_) | (with_reducible first | refine' IfK.t ?_ | refine' IfK.f ?_) | (with_reducible refine' IfK.gd ?_; with_reducible refine' IfK.decT (by first | with_reducible assumption | with_unfolding_all omega) ?_) | (with_reducible refine' IfK.gd ?_; with_reducible refine' IfK.decF (by first | with_reducible assumption | with_unfolding_all omega) ?_) | (with_reducible first | refine' NotK.t ?_ | refine' NotK.f ?_ | refine' TruthK.bool ?_) | ((with_reducible refine (?_ : EW (eVar _) _ _)); with_reducible refine' EW.var (by with_unfolding_all exact rfl) ?_) | (with_reducible first | refine' EW.cst ?_ | refine' EW.e1 ?_ | refine' EW.e2 ?_ | refine' EW.call ?_ | refine' EW.tup ?_ | refine' EW.lst ?_ | refine' EW.comp ?_ | refine' EsW.nil ?_ | refine' EsW.cons ?_ | refine' TW.c ?_) | ((with_reducible refine (?_ : TpK _ _)); with_reducible refine' TpK.mk (by with_unfolding_all exact Nat.le_of_ble_eq_true rfl) ?_) | ((with_reducible refine (?_ : LsK _ _)); with_reducible refine' LsK.mk (by with_unfolding_all exact Nat.le_of_ble_eq_true rfl) ?_) | (with_reducible first | refine' TW.tOf ?_ | refine' TW.not ?_ | refine' TW.and ?_) | ((with_reducible refine (?_ : CW _ _ _)); with_reducible refine' CW.of (by with_reducible assumption) ?_) | ((with_reducible refine (?_ : OW _ _ _ _)); with_reducible refine' OW.of (by with_reducible assumption) ?_) | (with_reducible first | refine' OW.add ?_ | refine' OW.addI ?_ | refine' OW.sub ?_ | refine' OW.ord ?_ | refine' OW.eq ?_ | refine' OW.ne ?_) | ((with_reducible refine (?_ : OW fMul _ _ _)); with_reducible refine' OW.mul (by first | with_reducible assumption | with_unfolding_all exact mulOk_sm (by omega) (by omega)) ?_) | ((with_reducible refine (?_ : OW fDiv _ _ _)); with_reducible refine' OW.div (by with_reducible assumption) ?_) | ((with_reducible refine (?_ : OW fMod _ _ _)); with_reducible refine' OW.mod (by first | with_reducible assumption | with_unfolding_all omega) ?_) | ((with_reducible refine (?_ : OW fPow _ _ _)); with_reducible refine' OW.pow (by with_reducible assumption) ?_) | (with_reducible first | refine' UW.neg ?_) | (with_reducible first | refine' CW.abs ?_ | refine' CW.range1 ?_ | refine' CW.range2 ?_) | ((with_reducible refine (?_ : CW _ _ _)); with_reducible refine' CW.fn (by with_unfolding_all (repeat (first | exact StartsAt.nil | apply StartsAt.cons | apply StartsAt.unb))) (by with_unfolding_all exact rfl) ?_))
            exact hfin _ _ _ _ _
          | mulx =>
            obtain ⟨h1, rfl⟩ := ite_some h
            repeat' ((fail_if_success (with_reducible refine (?_ : @Eq _ _ _))); first | ((with_reducible refine (?_ : EW (eCst (D.str _)) _ _)); with_reducible refine' EW.cstS (by with_reducible assumption) ?_) | ((with_reducible refine (?_ : OW fAdd (D.str _) (D.str _) _)); with_reducible refine' OW.addS (by with_unfolding_all (simp only [List.length_append, List.length_cons, List.length_nil]; omega)) ?_) | ((with_reducible refine (?_ : CW fStr _ _)); with_reducible refine' CW.str (by with_reducible assumption) ?_) | ((with_reducible refine (?_ : EW (eGen _ _) _ _)); with_reducible refine' EW.gen ?_) | ((with_reducible refine (?_ : GK _ _ _)); with_reducible refine' GK.of (by with_reducible assumption) ?_) | ((with_reducible refine (?_ : OW fNe (D.lst _) (D.lst _) _)); with_reducible refine' OW.neSelf ?_) | ((with_reducible refine (?_ : OW fEq (D.lst (intsD [_, _, _, _])) (D.lst _) _)); with_reducible refine' OW.eqSelf4 ?_) | ((with_reducible refine (?_ : EW (eComp _ _ (eVar _)) _ _)); with_reducible refine' EW.dgsVar (by with_unfolding_all exact rfl) (by first | with_reducible assumption | with_unfolding_all exact Nat.le_of_ble_eq_true rfl) ?_) | ((with_reducible refine (?_ : EW (eComp _ _ (Mine.e2 fSloS _ _)) _ _)); with_reducible refine' EW.dgsTail (by with_unfolding_all exact rfl) (by with_reducible assumption) ?_) | ((with_reducible refine (?_ : OW fEq (D.lst (List.map chD _)) (D.lst []) _)); with_reducible refine' OW.eqNil (by first | with_reducible assumption | decide) ?_) | ((with_reducible refine (?_ : IfK (List.all _ _) _ _)); with_reducible first | refine' IfK.hT (by first | with_reducible assumption | decide) ?_ | refine' IfK.hF (by first | with_reducible assumption | decide) ?_) | ((with_reducible refine (?_ : CW fInt [D.str _] _)); with_reducible refine' CW.intT (by with_reducible assumption) ?_) | ((with_reducible refine (?_ : CW fLen [D.str _] _)); with_reducible refine' CW.lenS (by first | with_reducible assumption | with_unfolding_all exact Nat.le_of_ble_eq_true rfl) ?_) | ((with_reducible refine (?_ : OW fEq (D.str _) (D.str _) _)); with_reducible first | refine' OW.clT (by decide +kernel) ?_ | refine' OW.clF (by decide +kernel) ?_) | ((with_reducible refine (?_ : OW (fIn false) (D.str _) (D.tup _) _)); with_reducible first | refine' OW.clT (by decide +kernel) ?_ | refine' OW.clF (by decide +kernel) ?_) | ((with_reducible refine (?_ : RW (rPop _ _) _ _ _)); with_reducible refine' RW.pop (by with_unfolding_all exact rfl) (by with_reducible assumption) ?_) | ((with_reducible refine (?_ : RW (rRetG _) _ _ _)); with_reducible refine' RW.retG ?_) | ((with_reducible refine (?_ : IfK (@decide ((1:Int) < (List.length _ : Int)) _) _ _)); with_reducible first | refine' IfK.decT (by first | with_reducible assumption | decide) ?_ | refine' IfK.decF (by first | with_reducible assumption | decide) ?_) | (with_reducible first | refine' CK.ret ?_ | refine' SK.next ?_ | refine' SK.ret ?_ | refine' LK.next ?_ | refine' RW.nil ?_ | refine' RW.seq ?_) | ((with_reducible refine (?_ : RW _ _ _ _)); with_reducible refine' RW.lenOk (by with_unfolding_all exact rfl) ?_) | (with_reducible first | refine' SW.of ?_ | refine' PutAt.of ?_ ?_) | with_reducible exact SetR.z | (with_reducible first | refine' SetR.s3 ?_ | refine' SetR.s ?_) | (with_reducible refine (?_ : SetR _ (0 + 1) _ _)); refine SetR.s ?_ | ((with_reducible refine (?_ : RW _ _ _ _)); with_reducible refine' RW.retF (E := eVar _) (by with_unfolding_all exact rfl) ?_) | (with_reducible first | refine' RW.asg ?_ | refine' RW.ret ?_) | (fail_if_success (have : StopIf := by with_reducible assumption)); (with_reducible refine' RW.if ?_) | (with_reducible first | refine' RW.for ?_ | refine' RW.while ?_ | refine' RW.new ?_) | ((with_reducible refine (?_ : RW _ _ _ _)); with_reducible refine' RW.app (by with_unfolding_all exact rfl) (by first | with_reducible assumption | with_unfolding_all exact Nat.le_of_ble_eq_true rfl) ?_) | ((with_reducible refine (?_ : RW _ _ _ _)); with_reducible refine' RW.aug (by with_unfolding_all exact rfl) ?_) | (with_reducible first | refine' IfK.t ?_ | refine' IfK.f ?_) | (with_reducible refine' IfK.gd ?_; with_reducible refine' IfK.decT (by first | with_reducible assumption | with_unfolding_all omega) ?_) | (with_reducible refine' IfK.gd ?_; with_reducible refine' IfK.decF (by first | with_reducible assumption | with_unfolding_all omega) ?_) | (with_reducible first | refine' NotK.t ?_ | refine' NotK.f ?_ | refine' TruthK.bool ?_) | ((with_reducible refine (?_ : EW (eVar _) _ _)); with_reducible refine' EW.var (by with_unfolding_all exact rfl) ?_) | (with_reducible first | refine' EW.cst ?_ | refine' EW.e1 ?_ | refine' EW.e2 ?_ | refine' EW.call ?_ | refine' EW.tup ?_ | refine' EW.lst ?_ | refine' EW.comp ?_ | refine' EsW.nil ?_ | refine' EsW.cons ?_ | refine' TW.c ?_) | ((with_reducible refine (?_ : TpK _ _)); with_reducible refine' TpK.mk (by with_unfolding_all exact Nat.le_of_ble_eq_true rfl) ?_) | ((with_reducible refine (?_ : LsK _ _)); with_reducible refine' LsK.mk (by with_unfolding_all exact Nat.le_of_ble_eq_true rfl) ?_) | (with_reducible first | refine' TW.tOf ?_ | refine' TW.not ?_ | refine' TW.and ?_) | ((with_reducible refine (?_ : CW _ _ _)); with_reducible refine' CW.of (by with_reducible assumption) ?_) | ((with_reducible refine (?_ : OW _ _ _ _)); with_reducible refine' OW.of (by with_reducible assumption) ?_) | (with_reducible first | refine' OW.add ?_ | refine' OW.addI ?_ | refine' OW.sub ?_ | refine' OW.ord ?_ | refine' OW.eq ?_ | refine' OW.ne ?_) | ((with_reducible refine (?_ : OW fMul _ _ _)); with_reducible refine' OW.mul (by first | with_reducible assumption | with_unfolding_all exact mulOk_sm (by omega) (by omega)) ?_) | ((with_reducible refine (?_ : OW fDiv _ _ _)); with_reducible refine' OW.div (by with_reducible assumption) ?_) | ((with_reducible refine (?_ : OW fMod _ _ _)); with_reducible refine' OW.mod (by first | with_reducible assumption | with_unfolding_all omega) ?_) | ((with_reducible refine (?_ : OW fPow _ _ _)); with_reducible refine' OW.pow (by with_reducible assumption) ?_) | (with_reducible first | refine' UW.neg ?_) | (with_reducible first | refine' CW.abs ?_ | refine' CW.range1 ?_ | refine' CW.range2 ?_) | ((with_reducible refine (?_ : CW _ _ _)); with_reducible refine' CW.fn (by with_unfolding_all (repeat (first | exact StartsAt.nil | apply StartsAt.cons | apply StartsAt.unb))) (by with_unfolding_all exact rfl) ?_))
            exact hfin _ _ _ _ _
          | div =>
            obtain ⟨h1, rfl⟩ := ite_some h
            repeat' ((fail_if_success (with_reducible refine (?_ : @Eq _ _ _))); first | ((with_reducible refine (?_ : EW (eCst (D.str _)) _ _)); with_reducible refine' EW.cstS (by with_reducible assumption) ?_) | ((with_reducible refine (?_ : OW fAdd (D.str _) (D.str _) _)); with_reducible refine' OW.addS (by with_unfolding_all (simp only [List.length_append, List.length_cons, List.length_nil]; omega)) ?_) | ((with_reducible refine (?_ : CW fStr _ _)); with_reducible refine' CW.str (by with_reducible assumption) ?_) | ((with_reducible refine (?_ : EW (eGen _ _) _ _)); with_reducible refine' EW.gen ?_) | ((with_reducible refine (?_ : GK _ _ _)); with_reducible refine' GK.of (by with_reducible assumption) ?_) | ((with_reducible refine (?_ : OW fNe (D.lst _) (D.lst _) _)); with_reducible refine' OW.neSelf ?_) | ((with_reducible refine (?_ : OW fEq (D.lst (intsD [_, _, _, _])) (D.lst _) _)); with_reducible refine' OW.eqSelf4 ?_) | ((with_reducible refine (?_ : EW (eComp _ _ (eVar _)) _ _)); with_reducible refine' EW.dgsVar (by with_unfolding_all exact rfl) (by first | with_reducible assumption | with_unfolding_all exact Nat.le_of_ble_eq_true rfl) ?_) | ((with_reducible refine (?_ : EW (eComp _ _ (Mine.e2 fSloS _ _)) _ _)); with_reducible refine' EW.dgsTail (by with_unfolding_all exact rfl) (by with_reducible assumption) ?_) | ((with_reducible refine (?_ : OW fEq (D.lst (List.map chD _)) (D.lst []) _)); with_reducible refine' OW.eqNil (by first | with_reducible assumption | decide) ?_) | ((with_reducible refine (?_ : IfK (List.all _ _) _ _)); with_reducible first | refine' IfK.hT (by first | with_reducible assumption | decide) ?_ | refine' IfK.hF (by first | with_reducible assumption | decide) ?_) | ((with_reducible refine (?_ : CW fInt [D.str _] _)); with_reducible refine' CW.intT (by with_reducible assumption) ?_) | ((with_reducible refine (?_ : CW fLen [D.str _] _)); with_reducible refine' CW.lenS (by first | with_reducible assumption | with_unfolding_all exact Nat.le_of_ble_eq_true rfl) ?_) | ((with_reducible refine (?_ : OW fEq (D.str _) (D.str _) _)); with_reducible first | refine' OW.clT (by decide +kernel) ?_ | refine' OW.clF (by decide +kernel) ?_) | ((with_reducible refine (?_ : OW (fIn false) (D.str _) (D.tup _) _)); with_reducible first | refine' OW.clT (by decide +kernel) ?_ | refine' OW.clF (by decide +kernel) ?_) | ((with_reducible refine (?_ : RW (rPop _ _) _ _ _)); with_reducible refine' RW.pop (by with_unfolding_all exact rfl) (by with_reducible assumption) ?_) | ((with_reducible refine (?_ : RW (rRetG _) _ _ _)); with_reducible refine' RW.retG ?_) | ((with_reducible refine (?_ : IfK (@decide ((1:Int) < (List.length _ : Int)) _) _ _)); with_reducible first | refine' IfK.decT (by first | with_reducible assumption | decide) ?_ | refine' IfK.decF (by first | with_reducible assumption | decide) ?_) | (with_reducible first | refine' CK.ret ?_ | refine' SK.next ?_ | refine' SK.ret ?_ | refine' LK.next ?_ | refine' RW.nil ?_ | refine' RW.seq ?_) | ((with_reducible refine (?_ : RW _ _ _ _)); with_reducible refine' RW.lenOk (by with_unfolding_all exact rfl) ?_) | (with_reducible first | refine' SW.of ?_ | refine' PutAt.of ?_ ?_) | with_reducible exact SetR.z | (with_reducible first | refine' SetR.s3 ?_ | refine' SetR.s ?_) | (with_reducible refine (?_ : SetR _ (0 + 1) _ _)); refine SetR.s ?_ | ((with_reducible refine (?_ : RW _ _ _ _)); with_reducible refine' RW.retF (E := eVar _) (by with_unfolding_all exact rfl) ?_) | (with_reducible first | refine' RW.asg ?_ | refine' RW.ret ?_) | (fail_if_success (have : StopIf := by with_reducible assumption)); (with_reducible refine' RW.if ?_) | (with_reducible first | refine' RW.for ?_ | refine' RW.while ?_ | refine' RW.new ?_) | ((with_reducible refine (?_ : RW _ _ _ _)); with_reducible refine' RW.app (by with_unfolding_all exact rfl) (by first | with_reducible assumption | with_unfolding_all exact Nat.le_of_ble_eq_true rfl) ?_) | ((with_reducible refine (?_ : RW _ _ _ _)); with_reducible refine' RW.aug (by with_unfolding_all exact rfl) ?_) | (with_reducible first | refine' IfK.t ?_ | refine' IfK.f ?_) | (with_reducible refine' IfK.gd ?_; with_reducible refine' IfK.decT (by first | with_reducible assumption | with_unfolding_all omega) ?_) | (with_reducible refine' IfK.gd ?_; with_reducible refine' IfK.decF (by first | with_reducible assumption | with_unfolding_all omega) ?_) | (with_reducible first | refine' NotK.t ?_ | refine' NotK.f ?_ | refine' TruthK.bool ?_) | ((with_reducible refine (?_ : EW (eVar _) _ _)); with_reducible refine' EW.var (by with_unfolding_all exact rfl) ?_) | (with_reducible first | refine' EW.cst ?_ | refine' EW.e1 ?_ | refine' EW.e2 ?_ | refine' EW.call ?_ | refine' EW.tup ?_ | refine' EW.lst ?_ | refine' EW.comp ?_ | refine' EsW.nil ?_ | refine' EsW.cons ?_ | refine' TW.c ?_) | ((with_reducible refine (?_ : TpK _ _)); with_reducible refine' TpK.mk (by with_unfolding_all exact Nat.le_of_ble_eq_true rfl) ?_) | ((with_reducible refine (?_ : LsK _ _)); with_reducible refine' LsK.mk (by with_unfolding_all exact Nat.le_of_ble_eq_true rfl) ?_) | (with_reducible first | refine' TW.tOf ?_ | refine' TW.not ?_ | refine' TW.and ?_) | ((with_reducible refine (?_ : CW _ _ _)); with_reducible refine' CW.of (by with_reducible assumption) ?_) | ((with_reducible refine (?_ : OW _ _ _ _)); with_reducible refine' OW.of (by with_reducible assumption) ?_) | (with_reducible first | refine' OW.add ?_ | refine' OW.addI ?_ | refine' OW.sub ?_ | refine' OW.ord ?_ | refine' OW.eq ?_ | refine' OW.ne ?_) | ((with_reducible refine (?_ : OW fMul _ _ _)); with_reducible refine' OW.mul (by first | with_reducible assumption | with_unfolding_all exact mulOk_sm (by omega) (by omega)) ?_) | ((with_reducible refine (?_ : OW fDiv _ _ _)); with_reducible refine' OW.div (by with_reducible assumption) ?_) | ((with_reducible refine (?_ : OW fMod _ _ _)); with_reducible refine' OW.mod (by first | with_reducible assumption | with_unfolding_all omega) ?_) | ((with_reducible refine (?_ : OW fPow _ _ _)); with_reducible refine' OW.pow (by with_reducible assumption) ?_) | (with_reducible first | refine' UW.neg ?_) | (with_reducible first | refine' CW.abs ?_ | refine' CW.range1 ?_ | refine' CW.range2 ?_) | ((with_reducible refine (?_ : CW _ _ _)); with_reducible refine' CW.fn (by with_unfolding_all (repeat (first | exact StartsAt.nil | apply StartsAt.cons | apply StartsAt.unb))) (by with_unfolding_all exact rfl) ?_))
            exact hfin _ _ _ _ _
          | divv =>
            obtain ⟨h1, rfl⟩ := ite_some h
            have k7 : fSubs (.str (mkS (op2S Op2.divv))) (.int 0) = some (.str (mkS [47])) := rfl
            repeat' ((fail_if_success (with_reducible refine (?_ : @Eq _ _ _))); first | ((with_reducible refine (?_ : EW (eCst (D.str _)) _ _)); with_reducible refine' EW.cstS (by with_reducible assumption) ?_) | ((with_reducible refine (?_ : OW fAdd (D.str _) (D.str _) _)); with_reducible refine' OW.addS (by with_unfolding_all (simp only [List.length_append, List.length_cons, List.length_nil]; omega)) ?_) | ((with_reducible refine (?_ : CW fStr _ _)); with_reducible refine' CW.str (by with_reducible assumption) ?_) | ((with_reducible refine (?_ : EW (eGen _ _) _ _)); with_reducible refine' EW.gen ?_) | ((with_reducible refine (?_ : GK _ _ _)); with_reducible refine' GK.of (by with_reducible assumption) ?_) | ((with_reducible refine (?_ : OW fNe (D.lst _) (D.lst _) _)); with_reducible refine' OW.neSelf ?_) | ((with_reducible refine (?_ : OW fEq (D.lst (intsD [_, _, _, _])) (D.lst _) _)); with_reducible refine' OW.eqSelf4 ?_) | ((with_reducible refine (?_ : EW (eComp _ _ (eVar _)) _ _)); with_reducible refine' EW.dgsVar (by with_unfolding_all exact rfl) (by first | with_reducible assumption | with_unfolding_all exact Nat.le_of_ble_eq_true rfl) ?_) | ((with_reducible refine (?_ : EW (eComp _ _ (Mine.e2 fSloS _ _)) _ _)); with_reducible refine' EW.dgsTail (by with_unfolding_all exact rfl) (by with_reducible assumption) ?_) | ((with_reducible refine (?_ : OW fEq (D.lst (List.map chD _)) (D.lst []) _)); with_reducible refine' OW.eqNil (by first | with_reducible assumption | decide) ?_) | ((with_reducible refine (?_ : IfK (List.all _ _) _ _)); with_reducible first | refine' IfK.hT (by first | with_reducible assumption | decide) ?_ | refine' IfK.hF (by first | with_reducible assumption | decide) ?_) | ((with_reducible refine (?_ : CW fInt [D.str _] _)); with_reducible refine' CW.intT (by with_reducible assumption) ?_) | ((with_reducible refine (?_ : CW fLen [D.str _] _)); with_reducible refine' CW.lenS (by first | with_reducible assumption | with_unfolding_all exact Nat.le_of_ble_eq_true rfl) ?_) | ((with_reducible refine (?_ : OW fEq (D.str _) (D.str _) _)); with_reducible first | refine' OW.clT (by decide +kernel) ?_ | refine' OW.clF (by decide +kernel) ?_) | ((with_reducible refine (?_ : OW (fIn false) (D.str _) (D.tup _) _)); with_reducible first | refine' OW.clT (by decide +kernel) ?_ | refine' OW.clF (by decide +kernel) ?_) | ((with_reducible refine (?_ : RW (rPop _ _) _ _ _)); with_reducible refine' RW.pop (by with_unfolding_all exact rfl) (by with_reducible assumption) ?_) | ((with_reducible refine (?_ : RW (rRetG _) _ _ _)); with_reducible refine' RW.retG ?_) | ((with_reducible refine (?_ : IfK (@decide ((1:Int) < (List.length _ : Int)) _) _ _)); with_reducible first | refine' IfK.decT (by first | with_reducible assumption | decide) ?_ | refine' IfK.decF (by first | with_reducible assumption | decide) ?_) | (with_reducible first | refine' CK.ret ?_ | refine' SK.next ?_ | refine' SK.ret ?_ | refine' LK.next ?_ | refine' RW.nil ?_ | refine' RW.seq ?_) | ((with_reducible refine (?_ : RW _ _ _ _)); with_reducible refine' RW.lenOk (by with_unfolding_all exact rfl) ?_) | (with_reducible first | refine' SW.of ?_ | refine' PutAt.of ?_ ?_) | with_reducible exact SetR.z | (with_reducible first | refine' SetR.s3 ?_ | refine' SetR.s ?_) | (with_reducible refine (?_ : SetR _ (0 + 1) _ _)); refine SetR.s ?_ | ((with_reducible refine (?_ : RW _ _ _ _)); with_reducible refine' RW.retF (E := eVar _) (by with_unfolding_all exact rfl) ?_) | (with_reducible first | refine' RW.asg ?_ | refine' RW.ret ?_) | (fail_if_success (have : StopIf := by with_reducible assumption)); (with_reducible refine' RW.if ?_) | (with_reducible first | refine' RW.for ?_ | refine' RW.while ?_ | refine' RW.new ?_) | ((with_reducible refine (?_ : RW _ _ _ _)); with_reducible refine' RW.app (by with_unfolding_all exact rfl) (by first | with_reducible assumption | with_unfolding_all exact Nat.le_of_ble_eq_true rfl) ?_) | ((with_reducible refine (?_ : RW _ _ _ _)); with_reducible refine' RW.aug (by with_unfolding_all exact rfl) ?_) | (with_reducible first | refine' IfK.t ?_ | refine' IfK.f ?_) | (with_reducible refine' IfK.gd ?_; with_reducible refine' IfK.decT (by first | with_reducible assumption | with_unfolding_all omega) ?_) | (with_reducible refine' IfK.gd ?_; with_reducible refine' IfK.decF (by first | with_reducible assumption | with_unfolding_all omega) ?_) | (with_reducible first | refine' NotK.t ?_ | refine' NotK.f ?_ | refine' TruthK.bool ?_) | ((with_reducible refine (?_ : EW (eVar _) _ _)); with_reducible refine' EW.var (by with_unfolding_all exact rfl) ?_) | (with_reducible first | refine' EW.cst ?_ | refine' EW.e1 ?_ | refine' EW.e2 ?_ | refine' EW.call ?_ | refine' EW.tup ?_ | refine' EW.lst ?_ | refine' EW.comp ?_ | refine' EsW.nil ?_ | refine' EsW.cons ?_ | refine' TW.c ?_) | ((with_reducible refine (?_ : TpK _ _)); with_reducible refine' TpK.mk (by with_unfolding_all exact Nat.le_of_ble_eq_true rfl) ?_) | ((with_reducible refine (?_ : LsK _ _)); with_reducible refine' LsK.mk (by with_unfolding_all exact Nat.le_of_ble_eq_true rfl) ?_) | (with_reducible first | refine' TW.tOf ?_ | refine' TW.not ?_ | refine' TW.and ?_) | ((with_reducible refine (?_ : CW _ _ _)); with_reducible refine' CW.of (by with_reducible assumption) ?_) | ((with_reducible refine (?_ : OW _ _ _ _)); with_reducible refine' OW.of (by with_reducible assumption) ?_) | (with_reducible first | refine' OW.add ?_ | refine' OW.addI ?_ | refine' OW.sub ?_ | refine' OW.ord ?_ | refine' OW.eq ?_ | refine' OW.ne ?_) | ((with_reducible refine (?_ : OW fMul _ _ _)); with_reducible refine' OW.mul (by first | with_reducible assumption | with_unfolding_all exact mulOk_sm (by omega) (by omega)) ?_) | ((with_reducible refine (?_ : OW fDiv _ _ _)); with_reducible refine' OW.div (by with_reducible assumption) ?_) | ((with_reducible refine (?_ : OW fMod _ _ _)); with_reducible refine' OW.mod (by first | with_reducible assumption | with_unfolding_all omega) ?_) | ((with_reducible refine (?_ : OW fPow _ _ _)); with_reducible refine' OW.pow (by with_reducible assumption) ?_) | (with_reducible first | refine' UW.neg ?_) | (with_reducible first | refine' CW.abs ?_ | refine' CW.range1 ?_ | refine' CW.range2 ?_) | ((with_reducible refine (?_ : CW _ _ _)); with_reducible refine' CW.fn (by with_unfolding_all (repeat (first | exact StartsAt.nil | apply StartsAt.cons | apply StartsAt.unb))) (by with_unfolding_all exact rfl) ?_))
            exact hfin _ _ _ _ _
          | mod =>
            obtain ⟨h1, rfl⟩ := ite_some h
            repeat' ((fail_if_success (with_reducible refine (?_ : @Eq _ _ _))); first | ((with_reducible refine (?_ : EW (eCst (D.str _)) _ _)); with_reducible refine' EW.cstS (by with_reducible assumption) ?_) | ((with_reducible refine (?_ : OW fAdd (D.str _) (D.str _) _)); with_reducible refine' OW.addS (by with_unfolding_all (simp only [List.length_append, List.length_cons, List.length_nil]; omega)) ?_) | ((with_reducible refine (?_ : CW fStr _ _)); with_reducible refine' CW.str (by with_reducible assumption) ?_) | ((with_reducible refine (?_ : EW (eGen _ _) _ _)); with_reducible refine' EW.gen ?_) | ((with_reducible refine (?_ : GK _ _ _)); with_reducible refine' GK.of (by with_reducible assumption) ?_) | ((with_reducible refine (?_ : OW fNe (D.lst _) (D.lst _) _)); with_reducible refine' OW.neSelf ?_) | ((with_reducible refine (?_ : OW fEq (D.lst (intsD [_, _, _, _])) (D.lst _) _)); with_reducible refine' OW.eqSelf4 ?_) | ((with_reducible refine (?_ : EW (eComp _ _ (eVar _)) _ _)); with_reducible refine' EW.dgsVar (by with_unfolding_all exact rfl) (by first | with_reducible assumption | with_unfolding_all exact Nat.le_of_ble_eq_true rfl) ?_) | ((with_reducible refine (?_ : EW (eComp _ _ (Mine.e2 fSloS _ _)) _ _)); with_reducible refine' EW.dgsTail (by with_unfolding_all exact rfl) (by with_reducible assumption) ?_) | ((with_reducible refine (?_ : OW fEq (D.lst (List.map chD _)) (D.lst []) _)); with_reducible refine' OW.eqNil (by first | with_reducible assumption | decide) ?_) | ((with_reducible refine (?_ : IfK (List.all _ _) _ _)); with_reducible first | refine' IfK.hT (by first | with_reducible assumption | decide) ?_ | refine' IfK.hF (by first | with_reducible assumption | decide) ?_) | ((with_reducible refine (?_ : CW fInt [D.str _] _)); with_reducible refine' CW.intT (by with_reducible assumption) ?_) | ((with_reducible refine (?_ : CW fLen [D.str _] _)); with_reducible refine' CW.lenS (by first | with_reducible assumption | with_unfolding_all exact Nat.le_of_ble_eq_true rfl) ?_) | ((with_reducible refine (?_ : OW fEq (D.str _) (D.str _) _)); with_reducible first | refine' OW.clT (by decide +kernel) ?_ | refine' OW.clF (by decide +kernel) ?_) | ((with_reducible refine (?_ : OW (fIn false) (D.str _) (D.tup _) _)); with_reducible first | refine' OW.clT (by decide +kernel) ?_ | refine' OW.clF (by decide +kernel) ?_) | ((with_reducible refine (?_ : RW (rPop _ _) _ _ _)); with_reducible refine' RW.pop (by with_unfolding_all exact rfl) (by with_reducible assumption) ?_) | ((with_reducible refine (?_ : RW (rRetG _) _ _ _)); with_reducible refine' RW.retG ?_) | ((with_reducible refine (?_ : IfK (@decide ((1:Int) < (List.length _ : Int)) _) _ _)); with_reducible first | refine' IfK.decT (by first | with_reducible assumption | decide) ?_ | refine' IfK.decF (by first | with_reducible assumption | decide) ?_) | (with_reducible first | refine' CK.ret ?_ | refine' SK.next ?_ | refine' SK.ret ?_ | refine' LK.next ?_ | refine' RW.nil ?_ | refine' RW.seq ?_) | ((with_reducible refine (?_ : RW _ _ _ _)); with_reducible refine' RW.lenOk (by with_unfolding_all exact rfl) ?_) | (with_reducible first | refine' SW.of ?_ | refine' PutAt.of ?_ ?_) | with_reducible exact SetR.z | (with_reducible first | refine' SetR.s3 ?_ | refine' SetR.s ?_) | (with_reducible refine (?_ : SetR _ (0 + 1) _ _)); refine SetR.s ?_ | ((with_reducible refine (?_ : RW _ _ _ _)); with_reducible refine' RW.retF (E := eVar _) (by with_unfolding_all exact rfl) ?_) | (with_reducible first | refine' RW.asg ?_ | refine' RW.ret ?_) | (fail_if_success (have : StopIf := by with_reducible assumption)); (with_reducible refine' RW.if ?_) | (with_reducible first | refine' RW.for ?_ | refine' RW.while ?_ | refine' RW.new ?_) | ((with_reducible refine (?_ : RW _ _ _ _)); with_reducible refine' RW.app (by with_unfolding_all exact rfl) (by first | with_reducible assumption | with_unfolding_all exact Nat.le_of_ble_eq_true rfl) ?_) | ((with_reducible refine (?_ : RW _ _ _ _)); with_reducible refine' RW.aug (by with_unfolding_all exact rfl) ?_) | (with_reducible first | refine' IfK.t ?_ | refine' IfK.f ?_) | (with_reducible refine' IfK.gd ?_; with_reducible refine' IfK.decT (by first | with_reducible assumption | with_unfolding_all omega) ?_) | (with_reducible refine' IfK.gd ?_; with_reducible refine' IfK.decF (by first | with_reducible assumption | with_unfolding_all omega) ?_) | (with_reducible first | refine' NotK.t ?_ | refine' NotK.f ?_ | refine' TruthK.bool ?_) | ((with_reducible refine (?_ : EW (eVar _) _ _)); with_reducible refine' EW.var (by with_unfolding_all exact rfl) ?_) | (with_reducible first | refine' EW.cst ?_ | refine' EW.e1 ?_ | refine' EW.e2 ?_ | refine' EW.call ?_ | refine' EW.tup ?_ | refine' EW.lst ?_ | refine' EW.comp ?_ | refine' EsW.nil ?_ | refine' EsW.cons ?_ | refine' TW.c ?_) | ((with_reducible refine (?_ : TpK _ _)); with_reducible refine' TpK.mk (by with_unfolding_all exact Nat.le_of_ble_eq_true rfl) ?_) | ((with_reducible refine (?_ : LsK _ _)); with_reducible refine' LsK.mk (by with_unfolding_all exact Nat.le_of_ble_eq_true rfl) ?_) | (with_reducible first | refine' TW.tOf ?_ | refine' TW.not ?_ | refine' TW.and ?_) | ((with_reducible refine (?_ : CW _ _ _)); with_reducible refine' CW.of (by with_reducible assumption) ?_) | ((with_reducible refine (?_ : OW _ _ _ _)); with_reducible refine' OW.of (by with_reducible assumption) ?_) | (with_reducible first | refine' OW.add ?_ | refine' OW.addI ?_ | refine' OW.sub ?_ | refine' OW.ord ?_ | refine' OW.eq ?_ | refine' OW.ne ?_) | ((with_reducible refine (?_ : OW fMul _ _ _)); with_reducible refine' OW.mul (by first | with_reducible assumption | with_unfolding_all exact mulOk_sm (by omega) (by omega)) ?_) | ((with_reducible refine (?_ : OW fDiv _ _ _)); with_reducible refine' OW.div (by with_reducible assumption) ?_) | ((with_reducible refine (?_ : OW fMod _ _ _)); with_reducible refine' OW.mod (by first | with_reducible assumption | with_unfolding_all omega) ?_) | ((with_reducible refine (?_ : OW fPow _ _ _)); with_reducible refine' OW.pow (by with_reducible assumption) ?_) | (with_reducible first | refine' UW.neg ?_) | (with_reducible first | refine' CW.abs ?_ | refine' CW.range1 ?_ | refine' CW.range2 ?_) | ((with_reducible refine (?_ : CW _ _ _)); with_reducible refine' CW.fn (by with_unfolding_all (repeat (first | exact StartsAt.nil | apply StartsAt.cons | apply StartsAt.unb))) (by with_unfolding_all exact rfl) ?_))
            exact hfin _ _ _ _ _
          | pow =>
            obtain ⟨h1, rfl⟩ := ite_some h
            have k7 : fSubs (.str (mkS (op2S Op2.pow))) (.int 0) = some (.str (mkS [42])) := rfl
            repeat' ((fail_if_success (with_reducible refine (?_ : @Eq _ _ _))); first | ((with_reducible refine (?_ : EW (eCst (D.str _)) _ _)); with_reducible refine' EW.cstS (by with_reducible assumption) ?_) | ((with_reducible refine (?_ : OW fAdd (D.str _) (D.str _) _)); with_reducible refine' OW.addS (by with_unfolding_all (simp only [List.length_append, List.length_cons, List.length_nil]; omega)) ?_) | ((with_reducible refine (?_ : CW fStr _ _)); with_reducible refine' CW.str (by with_reducible assumption) ?_) | ((with_reducible refine (?_ : EW (eGen _ _) _ _)); with_reducible refine' EW.gen ?_) | ((with_reducible refine (?_ : GK _ _ _)); with_reducible refine' GK.of (by with_reducible assumption) ?_) | ((with_reducible refine (?_ : OW fNe (D.lst _) (D.lst _) _)); with_reducible refine' OW.neSelf ?_) | ((with_reducible refine (?_ : OW fEq (D.lst (intsD [_, _, _, _])) (D.lst _) _)); with_reducible refine' OW.eqSelf4 ?_) | ((with_reducible refine (?_ : EW (eComp _ _ (eVar _)) _ _)); with_reducible refine' EW.dgsVar (by with_unfolding_all exact rfl) (by first | with_reducible assumption | with_unfolding_all exact Nat.le_of_ble_eq_true rfl) ?_) | ((with_reducible refine (?_ : EW (eComp _ _ (Mine.e2 fSloS _ _)) _ _)); with_reducible refine' EW.dgsTail (by with_unfolding_all exact rfl) (by with_reducible assumption) ?_) | ((with_reducible refine (?_ : OW fEq (D.lst (List.map chD _)) (D.lst []) _)); with_reducible refine' OW.eqNil (by first | with_reducible assumption | decide) ?_) | ((with_reducible refine (?_ : IfK (List.all _ _) _ _)); with_reducible first | refine' IfK.hT (by first | with_reducible assumption | decide) ?_ | refine' IfK.hF (by first | with_reducible assumption | decide) ?_) | ((with_reducible refine (?_ : CW fInt [D.str _] _)); with_reducible refine' CW.intT (by with_reducible assumption) ?_) | ((with_reducible refine (?_ : CW fLen [D.str _] _)); with_reducible refine' CW.lenS (by first | with_reducible assumption | with_unfolding_all exact Nat.le_of_ble_eq_true rfl) ?_) | ((with_reducible refine (?_ : OW fEq (D.str _) (D.str _) _)); with_reducible first | refine' OW.clT (by decide +kernel) ?_ | refine' OW.clF (by decide +kernel) ?_) | ((with_reducible refine (?_ : OW (fIn false) (D.str _) (D.tup _) _)); with_reducible first | refine' OW.clT (by decide +kernel) ?_ | refine' OW.clF (by decide +kernel) ?_) | ((with_reducible refine (?_ : RW (rPop _ _) _ _ _)); with_reducible refine' RW.pop (by with_unfolding_all exact rfl) (by with_reducible assumption) ?_) | ((with_reducible refine (?_ : RW (rRetG _) _ _ _)); with_reducible refine' RW.retG ?_) | ((with_reducible refine (?_ : IfK (@decide ((1:Int) < (List.length _ : Int)) _) _ _)); with_reducible first | refine' IfK.decT (by first | with_reducible assumption | decide) ?_ | refine' IfK.decF (by first | with_reducible assumption | decide) ?_) | (with_reducible first | refine' CK.ret ?_ | refine' SK.next ?_ | refine' SK.ret ?_ | refine' LK.next ?_ | refine' RW.nil ?_ | refine' RW.seq ?_) | ((with_reducible refine (?_ : RW _ _ _ _)); with_reducible refine' RW.lenOk (by with_unfolding_all exact rfl) ?_) | (with_reducible first | refine' SW.of ?_ | refine' PutAt.of ?_ ?_) | with_reducible exact SetR.z | (with_reducible first | refine' SetR.s3 ?_ | refine' SetR.s ?_) | (with_reducible refine (?_ : SetR _ (0 + 1) _ _)); refine SetR.s ?_ | ((with_reducible refine (?_ : RW _ _ _ _)); with_reducible refine' RW.retF (E := eVar _) (by with_unfolding_all exact rfl) ?_) | (with_reducible first | refine' RW.asg ?_ | refine' RW.ret ?_) | (fail_if_success (have : StopIf := by with_reducible assumption)); (with_reducible refine' RW.if ?_) | (with_reducible first | refine' RW.for ?_ | refine' RW.while ?_ | refine' RW.new ?_) | ((with_reducible refine (?_ : RW _ _ _ _)); with_reducible refine' RW.app (by with_unfolding_all exact rfl) (by first | with_reducible assumption | with_unfolding_all exact Nat.le_of_ble_eq_true rfl) ?_) | ((with_reducible refine (?_ : RW _ _ _ _)); with_reducible refine' RW.aug (by with_unfolding_all exact rfl) ?_) | (with_reducible first | refine' IfK.t ?_ | refine' IfK.f ?_) | (with_reducible refine' IfK.gd ?_; with_reducible refine' IfK.decT (by first | with_reducible assumption | with_unfolding_all omega) ?_) | (with_reducible refine' IfK.gd ?_; with_reducible refine' IfK.decF (by first | with_reducible assumption | with_unfolding_all omega) ?_) | (with_reducible first | refine' NotK.t ?_ | refine' NotK.f ?_ | refine' TruthK.bool ?_) | ((with_reducible refine (?_ : EW (eVar _) _ _)); with_reducible refine' EW.var (by with_unfolding_all exact rfl) ?_) | (with_reducible first | refine' EW.cst ?_ | refine' EW.e1 ?_ | refine' EW.e2 ?_ | refine' EW.call ?_ | refine' EW.tup ?_ | refine' EW.lst ?_ | refine' EW.comp ?_ | refine' EsW.nil ?_ | refine' EsW.cons ?_ | refine' TW.c ?_) | ((with_reducible refine (?_ : TpK _ _)); with_reducible refine' TpK.mk (by with_unfolding_all exact Nat.le_of_ble_eq_true rfl) ?_) | ((with_reducible refine (?_ : LsK _ _)); with_reducible refine' LsK.mk (by with_unfolding_all exact Nat.le_of_ble_eq_true rfl) ?_) | (with_reducible first | refine' TW.tOf ?_ | refine' TW.not ?_ | refine' TW.and ?_) | ((with_reducible refine (?_ : CW _ _ _)); with_reducible refine' CW.of (by with_reducible assumption) ?_) | ((with_reducible refine (?_ : OW _ _ _ _)); with_reducible refine' OW.of (by with_reducible assumption) ?_) | (with_reducible first | refine' OW.add ?_ | refine' OW.addI ?_ | refine' OW.sub ?_ | refine' OW.ord ?_ | refine' OW.eq ?_ | refine' OW.ne ?_) | ((with_reducible refine (?_ : OW fMul _ _ _)); with_reducible refine' OW.mul (by first | with_reducible assumption | with_unfolding_all exact mulOk_sm (by omega) (by omega)) ?_) | ((with_reducible refine (?_ : OW fDiv _ _ _)); with_reducible refine' OW.div (by with_reducible assumption) ?_) | ((with_reducible refine (?_ : OW fMod _ _ _)); with_reducible refine' OW.mod (by first | with_reducible assumption | with_unfolding_all omega) ?_) | ((with_reducible refine (?_ : OW fPow _ _ _)); with_reducible refine' OW.pow (by with_reducible assumption) ?_) | (with_reducible first | refine' UW.neg ?_) | (with_reducible first | refine' CW.abs ?_ | refine' CW.range1 ?_ | refine' CW.range2 ?_) | ((with_reducible refine (?_ : CW _ _ _)); with_reducible refine' CW.fn (by with_unfolding_all (repeat (first | exact StartsAt.nil | apply StartsAt.cons | apply StartsAt.unb))) (by with_unfolding_all exact rfl) ?_))
            exact hfin _ _ _ _ _
          | powx =>
            obtain ⟨h1, rfl⟩ := ite_some h
            have k7 : fSubs (.str (mkS (op2S Op2.powx))) (.int 0) = some (.str (mkS [120])) := rfl
            repeat' ((fail_if_success (with_reducible refine (?_ : @Eq _ _ _))); first | ((with_reducible refine (?_ : EW (eCst (D.str _)) _ _)); with_reducible refine' EW.cstS (by with_reducible assumption) ?_) | ((with_reducible refine (?_ : OW fAdd (D.str _) (D.str _) _)); with_reducible refine' OW.addS (by with_unfolding_all (simp only [List.length_append, List.length_cons, List.length_nil]; omega)) ?_) | ((with_reducible refine (?_ : CW fStr _ _)); with_reducible refine' CW.str (by with_reducible assumption) ?_) | ((with_reducible refine (?_ : EW (eGen _ _) _ _)); with_reducible refine' EW.gen ?_) | ((with_reducible refine (?_ : GK _ _ _)); with_reducible refine' GK.of (by with_reducible assumption) ?_) | ((with_reducible refine (?_ : OW fNe (D.lst _) (D.lst _) _)); with_reducible refine' OW.neSelf ?_) | ((with_reducible refine (?_ : OW fEq (D.lst (intsD [_, _, _, _])) (D.lst _) _)); with_reducible refine' OW.eqSelf4 ?_) | ((with_reducible refine (?_ : EW (eComp _ _ (eVar _)) _ _)); with_reducible refine' EW.dgsVar (by with_unfolding_all exact rfl) (by first | with_reducible assumption | with_unfolding_all exact Nat.le_of_ble_eq_true rfl) ?_) | ((with_reducible refine (?_ : EW (eComp _ _ (Mine.e2 fSloS _ _)) _ _)); with_reducible refine' EW.dgsTail (by with_unfolding_all exact rfl) (by with_reducible assumption) ?_) | ((with_reducible refine (?_ : OW fEq (D.lst (List.map chD _)) (D.lst []) _)); with_reducible refine' OW.eqNil (by first | with_reducible assumption | decide) ?_) | ((with_reducible refine (?_ : IfK (List.all _ _) _ _)); with_reducible first | refine' IfK.hT (by first | with_reducible assumption | decide) ?_ | refine' IfK.hF (by first | with_reducible assumption | decide) ?_) | ((with_reducible refine (?_ : CW fInt [D.str _] _)); with_reducible refine' CW.intT (by with_reducible assumption) ?_) | ((with_reducible refine (?_ : CW fLen [D.str _] _)); with_reducible refine' CW.lenS (by first | with_reducible assumption | with_unfolding_all exact Nat.le_of_ble_eq_true rfl) ?_) | ((with_reducible refine (?_ : OW fEq (D.str _) (D.str _) _)); with_reducible first | refine' OW.clT (by decide +kernel) ?_ | refine' OW.clF (by decide +kernel) ?_) | ((with_reducible refine (?_ : OW (fIn false) (D.str _) (D.tup _) _)); with_reducible first | refine' OW.clT (by decide +kernel) ?_ | refine' OW.clF (by decide +kernel) ?_) | ((with_reducible refine (?_ : RW (rPop _ _) _ _ _)); with_reducible refine' RW.pop (by with_unfolding_all exact rfl) (by with_reducible assumption) ?_) | ((with_reducible refine (?_ : RW (rRetG _) _ _ _)); with_reducible refine' RW.retG ?_) | ((with_reducible refine (?_ : IfK (@decide ((1:Int) < (List.length _ : Int)) _) _ _)); with_reducible first | refine' IfK.decT (by first | with_reducible assumption | decide) ?_ | refine' IfK.decF (by first | with_reducible assumption | decide) ?_) | (with_reducible first | refine' CK.ret ?_ | refine' SK.next ?_ | refine' SK.ret ?_ | refine' LK.next ?_ | refine' RW.nil ?_ | refine' RW.seq ?_) | ((with_reducible refine (?_ : RW _ _ _ _)); with_reducible refine' RW.lenOk (by with_unfolding_all exact rfl) ?_) | (with_reducible first | refine' SW.of ?_ | refine' PutAt.of ?_ ?_) | with_reducible exact SetR.z | (with_reducible first | refine' SetR.s3 ?_ | refine' SetR.s ?_) | (with_reducible refine (?_ : SetR _ (0 + 1) _ _)); refine SetR.s ?_ | ((with_reducible refine (?_ : RW _ _ _ _)); with_reducible refine' RW.retF (E := eVar _) (by with_unfolding_all exact rfl) ?_) | (with_reducible first | refine' RW.asg ?_ | refine' RW.ret ?_) | (fail_if_success (have : StopIf := by with_reducible assumption)); (with_reducible refine' RW.if ?_) | (with_reducible first | refine' RW.for ?_ | refine' RW.while ?_ | refine' RW.new ?_) | ((with_reducible refine (?_ : RW _ _ _ _)); with_reducible refine' RW.app (by with_unfolding_all exact rfl) (by first | with_reducible assumption | with_unfolding_all exact Nat.le_of_ble_eq_true rfl) ?_) | ((with_reducible refine (?_ : RW _ _ _ _)); with_reducible refine' RW.aug (by with_unfolding_all exact rfl) ?_) | (with_reducible first | refine' IfK.t ?_ | refine' IfK.f ?_) | (with_reducible refine' IfK.gd ?_; with_reducible refine' IfK.decT (by first | with_reducible assumption | with_unfolding_all omega) ?_) | (with_reducible refine' IfK.gd ?_; with_reducible refine' IfK.decF (by first | with_reducible assumption | with_unfolding_all omega) ?_) | (with_reducible first | refine' NotK.t ?_ | refine' NotK.f ?_ | refine' TruthK.bool ?_) | ((with_reducible refine (?_ : EW (eVar _) _ _)); with_reducible refine' EW.var (by with_unfolding_all exact rfl) ?_) | (with_reducible first | refine' EW.cst ?_ | refine' EW.e1 ?_ | refine' EW.e2 ?_ | refine' EW.call ?_ | refine' EW.tup ?_ | refine' EW.lst ?_ | refine' EW.comp ?_ | refine' EsW.nil ?_ | refine' EsW.cons ?_ | refine' TW.c ?_) | ((with_reducible refine (?_ : TpK _ _)); with_reducible refine' TpK.mk (by with_unfolding_all exact Nat.le_of_ble_eq_true rfl) ?_) | ((with_reducible refine (?_ : LsK _ _)); with_reducible refine' LsK.mk (by with_unfolding_all exact Nat.le_of_ble_eq_true rfl) ?_) | (with_reducible first | refine' TW.tOf ?_ | refine' TW.not ?_ | refine' TW.and ?_) | ((with_reducible refine (?_ : CW _ _ _)); with_reducible refine' CW.of (by with_reducible assumption) ?_) | ((with_reducible refine (?_ : OW _ _ _ _)); with_reducible refine' OW.of (by with_reducible assumption) ?_) | (with_reducible first | refine' OW.add ?_ | refine' OW.addI ?_ | refine' OW.sub ?_ | refine' OW.ord ?_ | refine' OW.eq ?_ | refine' OW.ne ?_) | ((with_reducible refine (?_ : OW fMul _ _ _)); with_reducible refine' OW.mul (by first | with_reducible assumption | with_unfolding_all exact mulOk_sm (by omega) (by omega)) ?_) | ((with_reducible refine (?_ : OW fDiv _ _ _)); with_reducible refine' OW.div (by with_reducible assumption) ?_) | ((with_reducible refine (?_ : OW fMod _ _ _)); with_reducible refine' OW.mod (by first | with_reducible assumption | with_unfolding_all omega) ?_) | ((with_reducible refine (?_ : OW fPow _ _ _)); with_reducible refine' OW.pow (by with_reducible assumption) ?_) | (with_reducible first | refine' UW.neg ?_) | (with_reducible first | refine' CW.abs ?_ | refine' CW.range1 ?_ | refine' CW.range2 ?_) | ((with_reducible refine (?_ : CW _ _ _)); with_reducible refine' CW.fn (by with_unfolding_all (repeat (first | exact StartsAt.nil | apply StartsAt.cons | apply StartsAt.unb))) (by with_unfolding_all exact rfl) ?_))
            exact hfin _ _ _ _ _
        | one h =>
          rename_i o a c st
          have k0 : (intsD st).length ≤ 10000 := by
            rw [intsD_length]
            simp only [List.length_append, List.length_cons, List.length_nil] at hn
            omega
          have k1 : (intsD st).length ≤ 9999 := by
            rw [intsD_length]
            simp only [List.length_append, List.length_cons, List.length_nil] at hn
            omega
          rw [intsD_snoc] at hfin
          rw [intsD_snoc]
          have hab : -1000 ≤ a ∧ a ≤ 100 := by
            cases o <;> exact (ite_some h).1
          have w1 : f1 [.rng 1 (a + 1) 1] = some (.int (facI a)) := by
            refine s1 _ (upI 1 (a + 1 - 1).toNat) 10 rfl (items_rng (by decide) (by decide) (by omega) (by omega) (by omega)) (fun x hx => Bd.sm (by have := mem_upI.mp hx; omega) (by have := mem_upI.mp hx; omega)) (by rw [upI_length]; omega)
              |>.trans ?_
            unfold facI
            rw [show a + 1 - 1 = a by omega]
          have w0 := s0 (a + 1) (by omega)
          have e0 : (a + 1).toNat - 2 = a.toNat - 1 := by omega
          rw [e0] at w0
          have pl := pgR_length (a.toNat - 1)
          have w2 : f1 [.lst (intsD (natI (pgR (a.toNat - 1))))] = some (.int (prmI a)) :=
            s1 _ _ 10 rfl (items_lst (by rw [intsD_length, natI_length]; omega)) (fun x hx => by
              obtain ⟨n, hn, rfl⟩ := mem_natI.mp hx
              have := pgR_mem hn
              exact Bd.sm (by omega) (by omega)) (by rw [natI_length]; omega)
          cases o with
          | fac =>
            obtain ⟨_, rfl⟩ := ite_some h
            repeat' ((fail_if_success (with_reducible refine (?_ : @Eq _ _ _))); first | ((with_reducible refine (?_ : EW (eCst (D.str _)) _ _)); with_reducible refine' EW.cstS (by with_reducible assumption) ?_) | ((with_reducible refine (?_ : OW fAdd (D.str _) (D.str _) _)); with_reducible refine' OW.addS (by with_unfolding_all (simp only [List.length_append, List.length_cons, List.length_nil]; omega)) ?_) | ((with_reducible refine (?_ : CW fStr _ _)); with_reducible refine' CW.str (by with_reducible assumption) ?_) | ((with_reducible refine (?_ : EW (eGen _ _) _ _)); with_reducible refine' EW.gen ?_) | ((with_reducible refine (?_ : GK _ _ _)); with_reducible refine' GK.of (by with_reducible assumption) ?_) | ((with_reducible refine (?_ : OW fNe (D.lst _) (D.lst _) _)); with_reducible refine' OW.neSelf ?_) | ((with_reducible refine (?_ : OW fEq (D.lst (intsD [_, _, _, _])) (D.lst _) _)); with_reducible refine' OW.eqSelf4 ?_) | ((with_reducible refine (?_ : EW (eComp _ _ (eVar _)) _ _)); with_reducible refine' EW.dgsVar (by with_unfolding_all exact rfl) (by first | with_reducible assumption | with_unfolding_all exact Nat.le_of_ble_eq_true rfl) ?_) | ((with_reducible refine (?_ : EW (eComp _ _ (Mine.e2 fSloS _ _)) _ _)); with_reducible refine' EW.dgsTail (by with_unfolding_all exact rfl) (by with_reducible assumption) ?_) | ((with_reducible refine (?_ : OW fEq (D.lst (List.map chD _)) (D.lst []) _)); with_reducible refine' OW.eqNil (by first | with_reducible assumption | decide) ?_) | ((with_reducible refine (?_ : IfK (List.all _ _) _ _)); with_reducible first | refine' IfK.hT (by first | with_reducible assumption | decide) ?_ | refine' IfK.hF (by first | with_reducible assumption | decide) ?_) | ((with_reducible refine (?_ : CW fInt [D.str _] _)); with_reducible refine' CW.intT (by with_reducible assumption) ?_) | ((with_reducible refine (?_ : CW fLen [D.str _] _)); with_reducible refine' CW.lenS (by first | with_reducible assumption | with_unfolding_all exact Nat.le_of_ble_eq_true rfl) ?_) | ((with_reducible refine (?_ : OW fEq (D.str _) (D.str _) _)); with_reducible first | refine' OW.clT (by decide +kernel) ?_ | refine' OW.clF (by decide +kernel) ?_) | ((with_reducible refine (?_ : OW (fIn false) (D.str _) (D.tup _) _)); with_reducible first | refine' OW.clT (by decide +kernel) ?_ | refine' OW.clF (by decide +kernel) ?_) | ((with_reducible refine (?_ : RW (rPop _ _) _ _ _)); with_reducible refine' RW.pop (by with_unfolding_all exact rfl) (by with_reducible assumption) ?_) | ((with_reducible refine (?_ : RW (rRetG _) _ _ _)); with_reducible refine' RW.retG ?_) | ((with_reducible refine (?_ : IfK (@decide ((1:Int) < (List.length _ : Int)) _) _ _)); with_reducible first | refine' IfK.decT (by first | with_reducible assumption | decide) ?_ | refine' IfK.decF (by first | with_reducible assumption | decide) ?_) | (with_reducible first | refine' CK.ret ?_ | refine' SK.next ?_ | refine' SK.ret ?_ | refine' LK.next ?_ | refine' RW.nil ?_ | refine' RW.seq ?_) | ((with_reducible refine (?_ : RW _ _ _ _)); with_reducible refine' RW.lenOk (by with_unfolding_all exact rfl) ?_) | (with_reducible first | refine' SW.of ?_ | refine' PutAt.of ?_ ?_) | with_reducible exact SetR.z | (with_reducible first | refine' SetR.s3 ?_ | refine' SetR.s ?_) | (with_reducible refine (?_ : SetR _ (0 + 1) _ _)); refine SetR.s ?_ | ((with_reducible refine (?_ : RW _ _ _ _)); with_reducible refine' RW.retF (E := eVar _) (by with_unfolding_all exact rfl) ?_) | (with_reducible first | refine' RW.asg ?_ | refine' RW.ret ?_) | (fail_if_success (have : StopIf := by with_reducible assumption)); (with_reducible refine' RW.if ?_) | (with_reducible first | refine' RW.for ?_ | refine' RW.while ?_ | refine' RW.new ?_) | ((with_reducible refine (?_ : RW _ _ _ _)); with_reducible refine' RW.app (by with_unfolding_all exact rfl) (by first | with_reducible assumption | with_unfolding_all exact Nat.le_of_ble_eq_true rfl) ?_) | ((with_reducible refine (?_ : RW _ _ _ _)); with_reducible refine' RW.aug (by with_unfolding_all exact rfl) ?_) | (with_reducible first | refine' IfK.t ?_ | refine' IfK.f ?_) | (with_reducible refine' IfK.gd ?_; with_reducible refine' IfK.decT (by first | with_reducible assumption | with_unfolding_all omega) ?_) | (with_reducible refine' IfK.gd ?_; with_reducible refine' IfK.decF (by first | with_reducible assumption | with_unfolding_all omega) ?_) | (with_reducible first | refine' NotK.t ?_ | refine' NotK.f ?_ | refine' TruthK.bool ?_) | ((with_reducible refine (?_ : EW (eVar _) _ _)); with_reducible refine' EW.var (by with_unfolding_all exact rfl) ?_) | (with_reducible first | refine' EW.cst ?_ | refine' EW.e1 ?_ | refine' EW.e2 ?_ | refine' EW.call ?_ | refine' EW.tup ?_ | refine' EW.lst ?_ | refine' EW.comp ?_ | refine' EsW.nil ?_ | refine' EsW.cons ?_ | refine' TW.c ?_) | ((with_reducible refine (?_ : TpK _ _)); with_reducible refine' TpK.mk (by with_unfolding_all exact Nat.le_of_ble_eq_true rfl) ?_) | ((with_reducible refine (?_ : LsK _ _)); with_reducible refine' LsK.mk (by with_unfolding_all exact Nat.le_of_ble_eq_true rfl) ?_) | (with_reducible first | refine' TW.tOf ?_ | refine' TW.not ?_ | refine' TW.and ?_) | ((with_reducible refine (?_ : CW _ _ _)); with_reducible refine' CW.of (by with_reducible assumption) ?_) | ((with_reducible refine (?_ : OW _ _ _ _)); with_reducible refine' OW.of (by with_reducible assumption) ?_) | (with_reducible first | refine' OW.add ?_ | refine' OW.addI ?_ | refine' OW.sub ?_ | refine' OW.ord ?_ | refine' OW.eq ?_ | refine' OW.ne ?_) | ((with_reducible refine (?_ : OW fMul _ _ _)); with_reducible refine' OW.mul (by first | with_reducible assumption | with_unfolding_all exact mulOk_sm (by omega) (by omega)) ?_) | ((with_reducible refine (?_ : OW fDiv _ _ _)); with_reducible refine' OW.div (by with_reducible assumption) ?_) | ((with_reducible refine (?_ : OW fMod _ _ _)); with_reducible refine' OW.mod (by first | with_reducible assumption | with_unfolding_all omega) ?_) | ((with_reducible refine (?_ : OW fPow _ _ _)); with_reducible refine' OW.pow (by with_reducible assumption) ?_) | (with_reducible first | refine' UW.neg ?_) | (with_reducible first | refine' CW.abs ?_ | refine' CW.range1 ?_ | refine' CW.range2 ?_) | ((with_reducible refine (?_ : CW _ _ _)); with_reducible refine' CW.fn (by with_unfolding_all (repeat (first | exact StartsAt.nil | apply StartsAt.cons | apply StartsAt.unb))) (by with_unfolding_all exact rfl) ?_))
            exact hfin _ _ _ _ _
          | fct =>
            obtain ⟨_, rfl⟩ := ite_some h
            repeat' ((fail_if_success (with_reducible refine (?_ : @Eq _ _ _))); first | ((with_reducible refine (?_ : EW (eCst (D.str _)) _ _)); with_reducible refine' EW.cstS (by with_reducible assumption) ?_) | ((with_reducible refine (?_ : OW fAdd (D.str _) (D.str _) _)); with_reducible refine' OW.addS (by with_unfolding_all (simp only [List.length_append, List.length_cons, List.length_nil]; omega)) ?_) | ((with_reducible refine (?_ : CW fStr _ _)); with_reducible refine' CW.str (by with_reducible assumption) ?_) | ((with_reducible refine (?_ : EW (eGen _ _) _ _)); with_reducible refine' EW.gen ?_) | ((with_reducible refine (?_ : GK _ _ _)); with_reducible refine' GK.of (by with_reducible assumption) ?_) | ((with_reducible refine (?_ : OW fNe (D.lst _) (D.lst _) _)); with_reducible refine' OW.neSelf ?_) | ((with_reducible refine (?_ : OW fEq (D.lst (intsD [_, _, _, _])) (D.lst _) _)); with_reducible refine' OW.eqSelf4 ?_) | ((with_reducible refine (?_ : EW (eComp _ _ (eVar _)) _ _)); with_reducible refine' EW.dgsVar (by with_unfolding_all exact rfl) (by first | with_reducible assumption | with_unfolding_all exact Nat.le_of_ble_eq_true rfl) ?_) | ((with_reducible refine (?_ : EW (eComp _ _ (Mine.e2 fSloS _ _)) _ _)); with_reducible refine' EW.dgsTail (by with_unfolding_all exact rfl) (by with_reducible assumption) ?_) | ((with_reducible refine (?_ : OW fEq (D.lst (List.map chD _)) (D.lst []) _)); with_reducible refine' OW.eqNil (by first | with_reducible assumption | decide) ?_) | ((with_reducible refine (?_ : IfK (List.all _ _) _ _)); with_reducible first | refine' IfK.hT (by first | with_reducible assumption | decide) ?_ | refine' IfK.hF (by first | with_reducible assumption | decide) ?_) | ((with_reducible refine (?_ : CW fInt [D.str _] _)); with_reducible refine' CW.intT (by with_reducible assumption) ?_) | ((with_reducible refine (?_ : CW fLen [D.str _] _)); with_reducible refine' CW.lenS (by first | with_reducible assumption | with_unfolding_all exact Nat.le_of_ble_eq_true rfl) ?_) | ((with_reducible refine (?_ : OW fEq (D.str _) (D.str _) _)); with_reducible first | refine' OW.clT (by decide +kernel) ?_ | refine' OW.clF (by decide +kernel) ?_) | ((with_reducible refine (?_ : OW (fIn false) (D.str _) (D.tup _) _)); with_reducible first | refine' OW.clT (by decide +kernel) ?_ | refine' OW.clF (by decide +kernel) ?_) | ((with_reducible refine (?_ : RW (rPop _ _) _ _ _)); with_reducible refine' RW.pop (by with_unfolding_all exact rfl) (by with_reducible assumption) ?_) | ((with_reducible refine (?_ : RW (rRetG _) _ _ _)); with_reducible refine' RW.retG ?_) | ((with_reducible refine (?_ : IfK (@decide ((1:Int) < (List.length _ : Int)) _) _ _)); with_reducible first | refine' IfK.decT (by first | with_reducible assumption | decide) ?_ | refine' IfK.decF (by first | with_reducible assumption | decide) ?_) | (with_reducible first | refine' CK.ret ?_ | refine' SK.next ?_ | refine' SK.ret ?_ | refine' LK.next ?_ | refine' RW.nil ?_ | refine' RW.seq ?_) | ((with_reducible refine (?_ : RW _ _ _ _)); with_reducible refine' RW.lenOk (by with_unfolding_all exact rfl) ?_) | (with_reducible first | refine' SW.of ?_ | refine' PutAt.of ?_ ?_) | with_reducible exact SetR.z | (with_reducible first | refine' SetR.s3 ?_ | refine' SetR.s ?_) | (with_reducible refine (?_ : SetR _ (0 + 1) _ _)); refine SetR.s ?_ | ((with_reducible refine (?_ : RW _ _ _ _)); with_reducible refine' RW.retF (E := eVar _) (by with_unfolding_all exact rfl) ?_) | (with_reducible first | refine' RW.asg ?_ | refine' RW.ret ?_) | (fail_if_success (have : StopIf := by with_reducible assumption)); (with_reducible refine' RW.if ?_) | (with_reducible first | refine' RW.for ?_ | refine' RW.while ?_ | refine' RW.new ?_) | ((with_reducible refine (?_ : RW _ _ _ _)); with_reducible refine' RW.app (by with_unfolding_all exact rfl) (by first | with_reducible assumption | with_unfolding_all exact Nat.le_of_ble_eq_true rfl) ?_) | ((with_reducible refine (?_ : RW _ _ _ _)); with_reducible refine' RW.aug (by with_unfolding_all exact rfl) ?_) | (with_reducible first | refine' IfK.t ?_ | refine' IfK.f ?_) | (with_reducible refine' IfK.gd ?_; with_reducible refine' IfK.decT (by first | with_reducible assumption | with_unfolding_all omega) ?_) | (with_reducible refine' IfK.gd ?_; with_reducible refine' IfK.decF (by first | with_reducible assumption | with_unfolding_all omega) ?_) | (with_reducible first | refine' NotK.t ?_ | refine' NotK.f ?_ | refine' TruthK.bool ?_) | ((with_reducible refine (?_ : EW (eVar _) _ _)); with_reducible refine' EW.var (by with_unfolding_all exact rfl) ?_) | (with_reducible first | refine' EW.cst ?_ | refine' EW.e1 ?_ | refine' EW.e2 ?_ | refine' EW.call ?_ | refine' EW.tup ?_ | refine' EW.lst ?_ | refine' EW.comp ?_ | refine' EsW.nil ?_ | refine' EsW.cons ?_ | refine' TW.c ?_) | ((with_reducible refine (?_ : TpK _ _)); with_reducible refine' TpK.mk (by with_unfolding_all exact Nat.le_of_ble_eq_true rfl) ?_) | ((with_reducible refine (?_ : LsK _ _)); with_reducible refine' LsK.mk (by with_unfolding_all exact Nat.le_of_ble_eq_true rfl) ?_) | (with_reducible first | refine' TW.tOf ?_ | refine' TW.not ?_ | refine' TW.and ?_) | ((with_reducible refine (?_ : CW _ _ _)); with_reducible refine' CW.of (by with_reducible assumption) ?_) | ((with_reducible refine (?_ : OW _ _ _ _)); with_reducible refine' OW.of (by with_reducible assumption) ?_) | (with_reducible first | refine' OW.add ?_ | refine' OW.addI ?_ | refine' OW.sub ?_ | refine' OW.ord ?_ | refine' OW.eq ?_ | refine' OW.ne ?_) | ((with_reducible refine (?_ : OW fMul _ _ _)); with_reducible refine' OW.mul (by first | with_reducible assumption | with_unfolding_all exact mulOk_sm (by omega) (by omega)) ?_) | ((with_reducible refine (?_ : OW fDiv _ _ _)); with_reducible refine' OW.div (by with_reducible assumption) ?_) | ((with_reducible refine (?_ : OW fMod _ _ _)); with_reducible refine' OW.mod (by first | with_reducible assumption | with_unfolding_all omega) ?_) | ((with_reducible refine (?_ : OW fPow _ _ _)); with_reducible refine' OW.pow (by with_reducible assumption) ?_) | (with_reducible first | refine' UW.neg ?_) | (with_reducible first | refine' CW.abs ?_ | refine' CW.range1 ?_ | refine' CW.range2 ?_) | ((with_reducible refine (?_ : CW _ _ _)); with_reducible refine' CW.fn (by with_unfolding_all (repeat (first | exact StartsAt.nil | apply StartsAt.cons | apply StartsAt.unb))) (by with_unfolding_all exact rfl) ?_))
            exact hfin _ _ _ _ _
          | prm =>
            obtain ⟨_, rfl⟩ := ite_some h
            repeat' ((fail_if_success (with_reducible refine (?_ : @Eq _ _ _))); first | ((with_reducible refine (?_ : EW (eCst (D.str _)) _ _)); with_reducible refine' EW.cstS (by with_reducible assumption) ?_) | ((with_reducible refine (?_ : OW fAdd (D.str _) (D.str _) _)); with_reducible refine' OW.addS (by with_unfolding_all (simp only [List.length_append, List.length_cons, List.length_nil]; omega)) ?_) | ((with_reducible refine (?_ : CW fStr _ _)); with_reducible refine' CW.str (by with_reducible assumption) ?_) | ((with_reducible refine (?_ : EW (eGen _ _) _ _)); with_reducible refine' EW.gen ?_) | ((with_reducible refine (?_ : GK _ _ _)); with_reducible refine' GK.of (by with_reducible assumption) ?_) | ((with_reducible refine (?_ : OW fNe (D.lst _) (D.lst _) _)); with_reducible refine' OW.neSelf ?_) | ((with_reducible refine (?_ : OW fEq (D.lst (intsD [_, _, _, _])) (D.lst _) _)); with_reducible refine' OW.eqSelf4 ?_) | ((with_reducible refine (?_ : EW (eComp _ _ (eVar _)) _ _)); with_reducible refine' EW.dgsVar (by with_unfolding_all exact rfl) (by first | with_reducible assumption | with_unfolding_all exact Nat.le_of_ble_eq_true rfl) ?_) | ((with_reducible refine (?_ : EW (eComp _ _ (Mine.e2 fSloS _ _)) _ _)); with_reducible refine' EW.dgsTail (by with_unfolding_all exact rfl) (by with_reducible assumption) ?_) | ((with_reducible refine (?_ : OW fEq (D.lst (List.map chD _)) (D.lst []) _)); with_reducible refine' OW.eqNil (by first | with_reducible assumption | decide) ?_) | ((with_reducible refine (?_ : IfK (List.all _ _) _ _)); with_reducible first | refine' IfK.hT (by first | with_reducible assumption | decide) ?_ | refine' IfK.hF (by first | with_reducible assumption | decide) ?_) | ((with_reducible refine (?_ : CW fInt [D.str _] _)); with_reducible refine' CW.intT (by with_reducible assumption) ?_) | ((with_reducible refine (?_ : CW fLen [D.str _] _)); with_reducible refine' CW.lenS (by first | with_reducible assumption | with_unfolding_all exact Nat.le_of_ble_eq_true rfl) ?_) | ((with_reducible refine (?_ : OW fEq (D.str _) (D.str _) _)); with_reducible first | refine' OW.clT (by decide +kernel) ?_ | refine' OW.clF (by decide +kernel) ?_) | ((with_reducible refine (?_ : OW (fIn false) (D.str _) (D.tup _) _)); with_reducible first | refine' OW.clT (by decide +kernel) ?_ | refine' OW.clF (by decide +kernel) ?_) | ((with_reducible refine (?_ : RW (rPop _ _) _ _ _)); with_reducible refine' RW.pop (by with_unfolding_all exact rfl) (by with_reducible assumption) ?_) | ((with_reducible refine (?_ : RW (rRetG _) _ _ _)); with_reducible refine' RW.retG ?_) | ((with_reducible refine (?_ : IfK (@decide ((1:Int) < (List.length _ : Int)) _) _ _)); with_reducible first | refine' IfK.decT (by first | with_reducible assumption | decide) ?_ | refine' IfK.decF (by first | with_reducible assumption | decide) ?_) | (with_reducible first | refine' CK.ret ?_ | refine' SK.next ?_ | refine' SK.ret ?_ | refine' LK.next ?_ | refine' RW.nil ?_ | refine' RW.seq ?_) | ((with_reducible refine (?_ : RW _ _ _ _)); with_reducible refine' RW.lenOk (by with_unfolding_all exact rfl) ?_) | (with_reducible first | refine' SW.of ?_ | refine' PutAt.of ?_ ?_) | with_reducible exact SetR.z | (with_reducible first | refine' SetR.s3 ?_ | refine' SetR.s ?_) | (with_reducible refine (?_ : SetR _ (0 + 1) _ _)); refine SetR.s ?_ | ((with_reducible refine (?_ : RW _ _ _ _)); with_reducible refine' RW.retF (E := eVar _) (by with_unfolding_all exact rfl) ?_) | (with_reducible first | refine' RW.asg ?_ | refine' RW.ret ?_) | (fail_if_success (have : StopIf := by with_reducible assumption)); (with_reducible refine' RW.if ?_) | (with_reducible first | refine' RW.for ?_ | refine' RW.while ?_ | refine' RW.new ?_) | ((with_reducible refine (?_ : RW _ _ _ _)); with_reducible refine' RW.app (by with_unfolding_all exact rfl) (by first | with_reducible assumption | with_unfolding_all exact Nat.le_of_ble_eq_true rfl) ?_) | ((with_reducible refine (?_ : RW _ _ _ _)); with_reducible refine' RW.aug (by with_unfolding_all exact rfl) ?_) | (with_reducible first | refine' IfK.t ?_ | refine' IfK.f ?_) | (with_reducible refine' IfK.gd ?_; with_reducible refine' IfK.decT (by first | with_reducible assumption | with_unfolding_all omega) ?_) | (with_reducible refine' IfK.gd ?_; with_reducible refine' IfK.decF (by first | with_reducible assumption | with_unfolding_all omega) ?_) | (with_reducible first | refine' NotK.t ?_ | refine' NotK.f ?_ | refine' TruthK.bool ?_) | ((with_reducible refine (?_ : EW (eVar _) _ _)); with_reducible refine' EW.var (by with_unfolding_all exact rfl) ?_) | (with_reducible first | refine' EW.cst ?_ | refine' EW.e1 ?_ | refine' EW.e2 ?_ | refine' EW.call ?_ | refine' EW.tup ?_ | refine' EW.lst ?_ | refine' EW.comp ?_ | refine' EsW.nil ?_ | refine' EsW.cons ?_ | refine' TW.c ?_) | ((with_reducible refine (?_ : TpK _ _)); with_reducible refine' TpK.mk (by with_unfolding_all exact Nat.le_of_ble_eq_true rfl) ?_) | ((with_reducible refine (?_ : LsK _ _)); with_reducible refine' LsK.mk (by with_unfolding_all exact Nat.le_of_ble_eq_true rfl) ?_) | (with_reducible first | refine' TW.tOf ?_ | refine' TW.not ?_ | refine' TW.and ?_) | ((with_reducible refine (?_ : CW _ _ _)); with_reducible refine' CW.of (by with_reducible assumption) ?_) | ((with_reducible refine (?_ : OW _ _ _ _)); with_reducible refine' OW.of (by with_reducible assumption) ?_) | (with_reducible first | refine' OW.add ?_ | refine' OW.addI ?_ | refine' OW.sub ?_ | refine' OW.ord ?_ | refine' OW.eq ?_ | refine' OW.ne ?_) | ((with_reducible refine (?_ : OW fMul _ _ _)); with_reducible refine' OW.mul (by first | with_reducible assumption | with_unfolding_all exact mulOk_sm (by omega) (by omega)) ?_) | ((with_reducible refine (?_ : OW fDiv _ _ _)); with_reducible refine' OW.div (by with_reducible assumption) ?_) | ((with_reducible refine (?_ : OW fMod _ _ _)); with_reducible refine' OW.mod (by first | with_reducible assumption | with_unfolding_all omega) ?_) | ((with_reducible refine (?_ : OW fPow _ _ _)); with_reducible refine' OW.pow (by with_reducible assumption) ?_) | (with_reducible first | refine' UW.neg ?_) | (with_reducible first | refine' CW.abs ?_ | refine' CW.range1 ?_ | refine' CW.range2 ?_) | ((with_reducible refine (?_ : CW _ _ _)); with_reducible refine' CW.fn (by with_unfolding_all (repeat (first | exact StartsAt.nil | apply StartsAt.cons | apply StartsAt.unb))) (by with_unfolding_all exact rfl) ?_))
            exact hfin _ _ _ _ _
          | prp =>
            obtain ⟨_, rfl⟩ := ite_some h
            repeat' ((fail_if_success (with_reducible refine (?_ : @Eq _ _ _))); first | ((with_reducible refine (?_ : EW (eCst (D.str _)) _ _)); with_reducible refine' EW.cstS (by with_reducible assumption) ?_) | ((with_reducible refine (?_ : OW fAdd (D.str _) (D.str _) _)); with_reducible refine' OW.addS (by with_unfolding_all (simp only [List.length_append, List.length_cons, List.length_nil]; omega)) ?_) | ((with_reducible refine (?_ : CW fStr _ _)); with_reducible refine' CW.str (by with_reducible assumption) ?_) | ((with_reducible refine (?_ : EW (eGen _ _) _ _)); with_reducible refine' EW.gen ?_) | ((with_reducible refine (?_ : GK _ _ _)); with_reducible refine' GK.of (by with_reducible assumption) ?_) | ((with_reducible refine (?_ : OW fNe (D.lst _) (D.lst _) _)); with_reducible refine' OW.neSelf ?_) | ((with_reducible refine (?_ : OW fEq (D.lst (intsD [_, _, _, _])) (D.lst _) _)); with_reducible refine' OW.eqSelf4 ?_) | ((with_reducible refine (?_ : EW (eComp _ _ (eVar _)) _ _)); with_reducible refine' EW.dgsVar (by with_unfolding_all exact rfl) (by first | with_reducible assumption | with_unfolding_all exact Nat.le_of_ble_eq_true rfl) ?_) | ((with_reducible refine (?_ : EW (eComp _ _ (Mine.e2 fSloS _ _)) _ _)); with_reducible refine' EW.dgsTail (by with_unfolding_all exact rfl) (by with_reducible assumption) ?_) | ((with_reducible refine (?_ : OW fEq (D.lst (List.map chD _)) (D.lst []) _)); with_reducible refine' OW.eqNil (by first | with_reducible assumption | decide) ?_) | ((with_reducible refine (?_ : IfK (List.all _ _) _ _)); with_reducible first | refine' IfK.hT (by first | with_reducible assumption | decide) ?_ | refine' IfK.hF (by first | with_reducible assumption | decide) ?_) | ((with_reducible refine (?_ : CW fInt [D.str _] _)); with_reducible refine' CW.intT (by with_reducible assumption) ?_) | ((with_reducible refine (?_ : CW fLen [D.str _] _)); with_reducible refine' CW.lenS (by first | with_reducible assumption | with_unfolding_all exact Nat.le_of_ble_eq_true rfl) ?_) | ((with_reducible refine (?_ : OW fEq (D.str _) (D.str _) _)); with_reducible first | refine' OW.clT (by decide +kernel) ?_ | refine' OW.clF (by decide +kernel) ?_) | ((with_reducible refine (?_ : OW (fIn false) (D.str _) (D.tup _) _)); with_reducible first | refine' OW.clT (by decide +kernel) ?_ | refine' OW.clF (by decide +kernel) ?_) | ((with_reducible refine (?_ : RW (rPop _ _) _ _ _)); with_reducible refine' RW.pop (by with_unfolding_all exact rfl) (by with_reducible assumption) ?_) | ((with_reducible refine (?_ : RW (rRetG _) _ _ _)); with_reducible refine' RW.retG ?_) | ((with_reducible refine (?_ : IfK (@decide ((1:Int) < (List.length _ : Int)) _) _ _)); with_reducible first | refine' IfK.decT (by first | with_reducible assumption | decide) ?_ | refine' IfK.decF (by first | with_reducible assumption | decide) ?_) | (with_reducible first | refine' CK.ret ?_ | refine' SK.next ?_ | refine' SK.ret ?_ | refine' LK.next ?_ | refine' RW.nil ?_ | refine' RW.seq ?_) | ((with_reducible refine (?_ : RW _ _ _ _)); with_reducible refine' RW.lenOk (by with_unfolding_all exact rfl) ?_) | (with_reducible first | refine' SW.of ?_ | refine' PutAt.of ?_ ?_) | with_reducible exact SetR.z | (with_reducible first | refine' SetR.s3 ?_ | refine' SetR.s ?_) | (with_reducible refine (?_ : SetR _ (0 + 1) _ _)); refine SetR.s ?_ | ((with_reducible refine (?_ : RW _ _ _ _)); with_reducible refine' RW.retF (E := eVar _) (by with_unfolding_all exact rfl) ?_) | (with_reducible first | refine' RW.asg ?_ | refine' RW.ret ?_) | (fail_if_success (have : StopIf := by with_reducible assumption)); (with_reducible refine' RW.if ?_) | (with_reducible first | refine' RW.for ?_ | refine' RW.while ?_ | refine' RW.new ?_) | ((with_reducible refine (?_ : RW _ _ _ _)); with_reducible refine' RW.app (by with_unfolding_all exact rfl) (by first | with_reducible assumption | with_unfolding_all exact Nat.le_of_ble_eq_true rfl) ?_) | ((with_reducible refine (?_ : RW _ _ _ _)); with_reducible refine' RW.aug (by with_unfolding_all exact rfl) ?_) | (with_reducible first | refine' IfK.t ?_ | refine' IfK.f ?_) | (with_reducible refine' IfK.gd ?_; with_reducible refine' IfK.decT (by first | with_reducible assumption | with_unfolding_all omega) ?_) | (with_reducible refine' IfK.gd ?_; with_reducible refine' IfK.decF (by first | with_reducible assumption | with_unfolding_all omega) ?_) | (with_reducible first | refine' NotK.t ?_ | refine' NotK.f ?_ | refine' TruthK.bool ?_) | ((with_reducible refine (?_ : EW (eVar _) _ _)); with_reducible refine' EW.var (by with_unfolding_all exact rfl) ?_) | (with_reducible first | refine' EW.cst ?_ | refine' EW.e1 ?_ | refine' EW.e2 ?_ | refine' EW.call ?_ | refine' EW.tup ?_ | refine' EW.lst ?_ | refine' EW.comp ?_ | refine' EsW.nil ?_ | refine' EsW.cons ?_ | refine' TW.c ?_) | ((with_reducible refine (?_ : TpK _ _)); with_reducible refine' TpK.mk (by with_unfolding_all exact Nat.le_of_ble_eq_true rfl) ?_) | ((with_reducible refine (?_ : LsK _ _)); with_reducible refine' LsK.mk (by with_unfolding_all exact Nat.le_of_ble_eq_true rfl) ?_) | (with_reducible first | refine' TW.tOf ?_ | refine' TW.not ?_ | refine' TW.and ?_) | ((with_reducible refine (?_ : CW _ _ _)); with_reducible refine' CW.of (by with_reducible assumption) ?_) | ((with_reducible refine (?_ : OW _ _ _ _)); with_reducible refine' OW.of (by with_reducible assumption) ?_) | (with_reducible first | refine' OW.add ?_ | refine' OW.addI ?_ | refine' OW.sub ?_ | refine' OW.ord ?_ | refine' OW.eq ?_ | refine' OW.ne ?_) | ((with_reducible refine (?_ : OW fMul _ _ _)); with_reducible refine' OW.mul (by first | with_reducible assumption | with_unfolding_all exact mulOk_sm (by omega) (by omega)) ?_) | ((with_reducible refine (?_ : OW fDiv _ _ _)); with_reducible refine' OW.div (by with_reducible assumption) ?_) | ((with_reducible refine (?_ : OW fMod _ _ _)); with_reducible refine' OW.mod (by first | with_reducible assumption | with_unfolding_all omega) ?_) | ((with_reducible refine (?_ : OW fPow _ _ _)); with_reducible refine' OW.pow (by with_reducible assumption) ?_) | (with_reducible first | refine' UW.neg ?_) | (with_reducible first | refine' CW.abs ?_ | refine' CW.range1 ?_ | refine' CW.range2 ?_) | ((with_reducible refine (?_ : CW _ _ _)); with_reducible refine' CW.fn (by with_unfolding_all (repeat (first | exact StartsAt.nil | apply StartsAt.cons | apply StartsAt.unb))) (by with_unfolding_all exact rfl) ?_))
            exact hfin _ _ _ _ _
    rintro σ ⟨us, st, t1, t2, t3, t4, t5, e, rfl, hr, hn⟩
    cases us with
    | cons u us => cases e
    | nil =>
      have := runs_nil hr
      subst this
      rw [List.length_nil] at hn
      exact ⟨rfl, rfl, by omega⟩

theorem ok__law_at {I : GI} (hat : HatI I hd.view_39) (hlen : FunOK I 0 ("len" : Str) fLen) : ∃ d, (recsOf hd.view_39)[3]? = some d ∧ d.name = ("_law_at" : Str) ∧ ∃ G, FunOK I 1 d.name G ∧
    ∀ (ns : List Int) (p : Nat), ns.length ≤ 63 → p ≤ 100 → G [.lst (intsD ns), .int (p : Nat)] = some (.int (atI [2026, 0, 1, 8] ns p)) := by
  refine' ⟨_, rfl, rfl, _, FunOK.of 1000 (i := 3) (ns := ["script", "place", "row"]) (m := 2) hat rfl ⟨rfl, by decide, by decide⟩ (by decide) (fun pm cd doc => vs2 fun a b => rfl) rfl rfl ?h, ?g⟩
  case h =>
    dsimp only
    repeat' ((show (_ : Prop)); first | (with_reducible first | refine' RunG.cons ?_ ?_ | refine' RunG.ifS (TrG.cmp (EvG.listGen (by with_unfolding_all exact rfl) (by with_unfolding_all exact rfl) (by with_unfolding_all exact rfl) (by with_unfolding_all exact rfl) (by with_unfolding_all exact fun _ => rfl) (by with_unfolding_all exact fun _ => ⟨_, _, rfl⟩) (by with_unfolding_all exact fun _ => rfl) (by with_unfolding_all exact fun _ => ⟨_, _, rfl⟩) (by with_unfolding_all exact fun _ => rfl) (by assumption) (by assumption) ?_) ?_ ?_ (by with_unfolding_all exact rfl)) ?_ ?_ | refine' RunG.ret (EvG.cmp (EvG.listGen (by with_unfolding_all exact rfl) (by with_unfolding_all exact rfl) (by with_unfolding_all exact rfl) (by with_unfolding_all exact rfl) (by with_unfolding_all exact fun _ => rfl) (by with_unfolding_all exact fun _ => ⟨_, _, rfl⟩) (by with_unfolding_all exact fun _ => rfl) (by with_unfolding_all exact fun _ => ⟨_, _, rfl⟩) (by with_unfolding_all exact fun _ => rfl) (by assumption) (by assumption) ?_) ?_ ?_ (by with_unfolding_all exact rfl)) | refine' RunG.of ?_ | refine' EvOK.split (by with_unfolding_all exact fun _ => rfl) ?_ | refine' RunOK.pop (by with_unfolding_all exact rfl) (by with_unfolding_all exact rfl) (by with_unfolding_all exact rfl) (by with_unfolding_all exact fun _ => rfl) (by with_unfolding_all exact fun _ => rfl) (by with_unfolding_all exact ⟨rfl, by decide, by decide⟩) | exact (RunOK.dead : RunOK _ _ _ _ (exec (.Raise _ _ _)) _) | exact OpOK.add | exact OpOK.sub | exact OpOK.mul | exact OpOK.div | exact OpOK.mod | exact OpOK.pow | exact OpOK.lt | exact OpOK.le | exact OpOK.gt | exact OpOK.ge | exact OpOK.eq | exact OpOK.ne | exact OpOK.isIn | exact OpOK.notInS | exact IOpOK.add | exact IOpOK.mul | exact EvOK.cint | exact EvOK.cstr | exact EvOK.cbool | refine' EvOK.v (by with_unfolding_all exact rfl) (by with_unfolding_all exact rfl) (by with_unfolding_all exact rfl) (by with_unfolding_all exact rfl) | refine' EvOK.bin ?_ ?_ ?_ | refine' EvOK.neg ?_ | refine' EvOK.tup ?_ | refine' EvOK.lst ?_ | refine' EvOK.call' (by with_unfolding_all exact rfl) (by with_unfolding_all exact rfl) (by with_unfolding_all exact rfl) (by with_unfolding_all exact fun _ => rfl) (by with_unfolding_all exact rfl) (by with_unfolding_all exact fun _ => ⟨_, _, rfl⟩) (by with_unfolding_all first | assumption | exact FunOK.le (by assumption) (by decide)) ?_ | refine' EvOK.sliceLoS ?_ ?_ (by with_unfolding_all exact fun _ _ => rfl) | refine' EvOK.subs ?_ ?_ (by with_unfolding_all exact fun _ _ => rfl) | refine' EvOK.comp (by with_unfolding_all exact ⟨by decide, rfl, rfl, by decide, rfl, by decide, by decide⟩) ?_ ?_ ?_ (by with_unfolding_all exact fun _ _ => rfl) | exact EvsOK.nil | refine' EvsOK.cons ?_ ?_ (by with_unfolding_all exact fun _ => rfl) | refine' TestsOK.one ?_ | refine' TrOK.cmp ?_ ?_ ?_ (by with_unfolding_all exact rfl) | refine' TrOK.not ?_ | exact TrOK.and0 | refine' TrOK.and ?_ ?_ | refine' TrOK.plain ?_ (by with_unfolding_all exact fun _ _ => rfl) | exact RunOK.nil | refine' RunOK.cons ?_ ?_ | refine' RunOK.ret ?_ | refine' RunOK.ifS ?_ ?_ ?_ | refine' RunOK.whileS ?_ ?_ | refine' RunOK.new' (by with_unfolding_all exact rfl) (by with_unfolding_all exact fun _ => rfl) (by with_unfolding_all exact ⟨rfl, by decide, by decide⟩) ?_ | refine' RunOK.asg' (by with_unfolding_all exact rfl) (by with_unfolding_all exact fun _ => rfl) (by with_unfolding_all exact ⟨rfl, by decide, by decide⟩) ?_ | refine' RunOK.aug' (by with_unfolding_all exact rfl) (by with_unfolding_all exact ⟨rfl, by decide, by decide⟩) ?_ ?_ | refine' RunOK.for' (by with_unfolding_all exact rfl) (by with_unfolding_all exact fun _ _ => rfl) (by with_unfolding_all exact ⟨rfl, by decide, by decide⟩) ?_ ?_ | refine' RunOK.app' (by with_unfolding_all exact rfl) (by with_unfolding_all exact rfl) (by with_unfolding_all exact fun _ => rfl) (by with_unfolding_all exact fun _ => rfl) (by with_unfolding_all exact fun _ => rfl) (by with_unfolding_all exact ⟨rfl, by decide, by decide⟩) ?_))
  case g =>
    intro ns p h1 h2
    have w1 := fLen_ints (l := ns) (by omega)
    refine CW.eq ?_
    cases q : ns[p]? with
    | some x =>
      have lt : (p : Int) < (ns.length : Int) := by have := (List.getElem?_eq_some_iff.mp q).1; omega
      have w2 := fSubs_ints q (by omega)
      have e : atI [2026, 0, 1, 8] ns p = x := by unfold atI; rw [q]
      repeat' ((fail_if_success (with_reducible refine (?_ : @Eq _ _ _))); first | ((with_reducible refine (?_ : EW (eCst (D.str _)) _ _)); with_reducible refine' EW.cstS (by with_reducible assumption) ?_) | ((with_reducible refine (?_ : OW fAdd (D.str _) (D.str _) _)); with_reducible refine' OW.addS (by with_unfolding_all (simp only [List.length_append, List.length_cons, List.length_nil]; omega)) ?_) | ((with_reducible refine (?_ : CW fStr _ _)); with_reducible refine' CW.str (by with_reducible assumption) ?_) | ((with_reducible refine (?_ : EW (eGen _ _) _ _)); with_reducible refine' EW.gen ?_) | ((with_reducible refine (?_ : GK _ _ _)); with_reducible refine' GK.of (by with_reducible assumption) ?_) | ((with_reducible refine (?_ : OW fNe (D.lst _) (D.lst _) _)); with_reducible refine' OW.neSelf ?_) | ((with_reducible refine (?_ : OW fEq (D.lst (intsD [_, _, _, _])) (D.lst _) _)); with_reducible refine' OW.eqSelf4 ?_) | ((with_reducible refine (?_ : EW (eComp _ _ (eVar _)) _ _)); with_reducible refine' EW.dgsVar (by with_unfolding_all exact rfl) (by first | with_reducible assumption | with_unfolding_all exact Nat.le_of_ble_eq_true rfl) ?_) | ((with_reducible refine (?_ : EW (eComp _ _ (Mine.e2 fSloS _ _)) _ _)); with_reducible refine' EW.dgsTail (by with_unfolding_all exact rfl) (by with_reducible assumption) ?_) | ((with_reducible refine (?_ : OW fEq (D.lst (List.map chD _)) (D.lst []) _)); with_reducible refine' OW.eqNil (by first | with_reducible assumption | decide) ?_) | ((with_reducible refine (?_ : IfK (List.all _ _) _ _)); with_reducible first | refine' IfK.hT (by first | with_reducible assumption | decide) ?_ | refine' IfK.hF (by first | with_reducible assumption | decide) ?_) | ((with_reducible refine (?_ : CW fInt [D.str _] _)); with_reducible refine' CW.intT (by with_reducible assumption) ?_) | ((with_reducible refine (?_ : CW fLen [D.str _] _)); with_reducible refine' CW.lenS (by first | with_reducible assumption | with_unfolding_all exact Nat.le_of_ble_eq_true rfl) ?_) | ((with_reducible refine (?_ : OW fEq (D.str _) (D.str _) _)); with_reducible first | refine' OW.clT (by decide +kernel) ?_ | refine' OW.clF (by decide +kernel) ?_) | ((with_reducible refine (?_ : OW (fIn false) (D.str _) (D.tup _) _)); with_reducible first | refine' OW.clT (by decide +kernel) ?_ | refine' OW.clF (by decide +kernel) ?_) | ((with_reducible refine (?_ : RW (rPop _ _) _ _ _)); with_reducible refine' RW.pop (by with_unfolding_all exact rfl) (by with_reducible assumption) ?_) | ((with_reducible refine (?_ : RW (rRetG _) _ _ _)); with_reducible refine' RW.retG ?_) | ((with_reducible refine (?_ : IfK (@decide ((1:Int) < (List.length _ : Int)) _) _ _)); with_reducible first | refine' IfK.decT (by first | with_reducible assumption | decide) ?_ | refine' IfK.decF (by first | with_reducible assumption | decide) ?_) | (with_reducible first | refine' CK.ret ?_ | refine' SK.next ?_ | refine' SK.ret ?_ | refine' LK.next ?_ | refine' RW.nil ?_ | refine' RW.seq ?_) | ((with_reducible refine (?_ : RW _ _ _ _)); with_reducible refine' RW.lenOk (by with_unfolding_all exact rfl) ?_) | (with_reducible first | refine' SW.of ?_ | refine' PutAt.of ?_ ?_) | with_reducible exact SetR.z | (with_reducible first | refine' SetR.s3 ?_ | refine' SetR.s ?_) | (with_reducible refine (?_ : SetR _ (0 + 1) _ _)); refine SetR.s ?_ | ((with_reducible refine (?_ : RW _ _ _ _)); with_reducible refine' RW.retF (E := eVar _) (by with_unfolding_all exact rfl) ?_) | (with_reducible first | refine' RW.asg ?_ | refine' RW.ret ?_) | (fail_if_success (have : StopIf := by with_reducible assumption)); (with_reducible refine' RW.if ?_) | (with_reducible first | refine' RW.for ?_ | refine' RW.while ?_ | refine' RW.new ?_) | ((with_reducible refine (?_ : RW _ _ _ _)); with_reducible refine' RW.app (by with_unfolding_all exact rfl) (by first | with_reducible assumption | with_unfolding_all exact Nat.le_of_ble_eq_true rfl) ?_) | ((with_reducible refine (?_ : RW _ _ _ _)); with_reducible refine' RW.aug (by with_unfolding_all exact rfl) ?_) | (with_reducible first | refine' IfK.t ?_ | refine' IfK.f ?_) | (with_reducible refine' IfK.gd ?_; with_reducible refine' IfK.decT (by first | with_reducible assumption | with_unfolding_all omega) ?_) | (with_reducible refine' IfK.gd ?_; with_reducible refine' IfK.decF (by first | with_reducible assumption | with_unfolding_all omega) ?_) | (with_reducible first | refine' NotK.t ?_ | refine' NotK.f ?_ | refine' TruthK.bool ?_) | ((with_reducible refine (?_ : EW (eVar _) _ _)); with_reducible refine' EW.var (by with_unfolding_all exact rfl) ?_) | (with_reducible first | refine' EW.cst ?_ | refine' EW.e1 ?_ | refine' EW.e2 ?_ | refine' EW.call ?_ | refine' EW.tup ?_ | refine' EW.lst ?_ | refine' EW.comp ?_ | refine' EsW.nil ?_ | refine' EsW.cons ?_ | refine' TW.c ?_) | ((with_reducible refine (?_ : TpK _ _)); with_reducible refine' TpK.mk (by with_unfolding_all exact Nat.le_of_ble_eq_true rfl) ?_) | ((with_reducible refine (?_ : LsK _ _)); with_reducible refine' LsK.mk (by with_unfolding_all exact Nat.le_of_ble_eq_true rfl) ?_) | (with_reducible first | refine' TW.tOf ?_ | refine' TW.not ?_ | refine' TW.and ?_) | ((with_reducible refine (?_ : CW _ _ _)); with_reducible refine' CW.of (by with_reducible assumption) ?_) | ((with_reducible refine (?_ : OW _ _ _ _)); with_reducible refine' OW.of (by with_reducible assumption) ?_) | (with_reducible first | refine' OW.add ?_ | refine' OW.addI ?_ | refine' OW.sub ?_ | refine' OW.ord ?_ | refine' OW.eq ?_ | refine' OW.ne ?_) | ((with_reducible refine (?_ : OW fMul _ _ _)); with_reducible refine' OW.mul (by first | with_reducible assumption | with_unfolding_all exact mulOk_sm (by omega) (by omega)) ?_) | ((with_reducible refine (?_ : OW fDiv _ _ _)); with_reducible refine' OW.div (by with_reducible assumption) ?_) | ((with_reducible refine (?_ : OW fMod _ _ _)); with_reducible refine' OW.mod (by first | with_reducible assumption | with_unfolding_all omega) ?_) | ((with_reducible refine (?_ : OW fPow _ _ _)); with_reducible refine' OW.pow (by with_reducible assumption) ?_) | (with_reducible first | refine' UW.neg ?_) | (with_reducible first | refine' CW.abs ?_ | refine' CW.range1 ?_ | refine' CW.range2 ?_) | ((with_reducible refine (?_ : CW _ _ _)); with_reducible refine' CW.fn (by with_unfolding_all (repeat (first | exact StartsAt.nil | apply StartsAt.cons | apply StartsAt.unb))) (by with_unfolding_all exact rfl) ?_))
      rw [e]
    | none =>
      have lt : ¬ (p : Int) < (ns.length : Int) := by have := List.getElem?_eq_none_iff.mp q; omega
      have e : atI [2026, 0, 1, 8] ns p = ([2026, 0, 1, 8] : List Int).getD (p % 4) 0 := by unfold atI; rw [q]; rfl
      have w2 : fLen [.tup [D.int 2026, D.int 0, D.int 1, D.int 8]] = some (.int 4) := rfl
      have w3 : fSubs (.tup [D.int 2026, D.int 0, D.int 1, D.int 8]) (.int ((p : Int).fmod 4)) = some (.int (([2026, 0, 1, 8] : List Int).getD (p % 4) 0)) := by
        rw [show (p : Int).fmod 4 = ((p % 4 : Nat) : Int) from fmod_nat p 4]
        have hlt : p % 4 < 4 := Nat.mod_lt _ (by decide)
        generalize p % 4 = j at hlt
        refine asInt_eq ?_
        revert j
        decide
      repeat' ((fail_if_success (with_reducible refine (?_ : @Eq _ _ _))); first | ((with_reducible refine (?_ : EW (eCst (D.str _)) _ _)); with_reducible refine' EW.cstS (by with_reducible assumption) ?_) | ((with_reducible refine (?_ : OW fAdd (D.str _) (D.str _) _)); with_reducible refine' OW.addS (by with_unfolding_all (simp only [List.length_append, List.length_cons, List.length_nil]; omega)) ?_) | ((with_reducible refine (?_ : CW fStr _ _)); with_reducible refine' CW.str (by with_reducible assumption) ?_) | ((with_reducible refine (?_ : EW (eGen _ _) _ _)); with_reducible refine' EW.gen ?_) | ((with_reducible refine (?_ : GK _ _ _)); with_reducible refine' GK.of (by with_reducible assumption) ?_) | ((with_reducible refine (?_ : OW fNe (D.lst _) (D.lst _) _)); with_reducible refine' OW.neSelf ?_) | ((with_reducible refine (?_ : OW fEq (D.lst (intsD [_, _, _, _])) (D.lst _) _)); with_reducible refine' OW.eqSelf4 ?_) | ((with_reducible refine (?_ : EW (eComp _ _ (eVar _)) _ _)); with_reducible refine' EW.dgsVar (by with_unfolding_all exact rfl) (by first | with_reducible assumption | with_unfolding_all exact Nat.le_of_ble_eq_true rfl) ?_) | ((with_reducible refine (?_ : EW (eComp _ _ (Mine.e2 fSloS _ _)) _ _)); with_reducible refine' EW.dgsTail (by with_unfolding_all exact rfl) (by with_reducible assumption) ?_) | ((with_reducible refine (?_ : OW fEq (D.lst (List.map chD _)) (D.lst []) _)); with_reducible refine' OW.eqNil (by first | with_reducible assumption | decide) ?_) | ((with_reducible refine (?_ : IfK (List.all _ _) _ _)); with_reducible first | refine' IfK.hT (by first | with_reducible assumption | decide) ?_ | refine' IfK.hF (by first | with_reducible assumption | decide) ?_) | ((with_reducible refine (?_ : CW fInt [D.str _] _)); with_reducible refine' CW.intT (by with_reducible assumption) ?_) | ((with_reducible refine (?_ : CW fLen [D.str _] _)); with_reducible refine' CW.lenS (by first | with_reducible assumption | with_unfolding_all exact Nat.le_of_ble_eq_true rfl) ?_) | ((with_reducible refine (?_ : OW fEq (D.str _) (D.str _) _)); with_reducible first | refine' OW.clT (by decide +kernel) ?_ | refine' OW.clF (by decide +kernel) ?_) | ((with_reducible refine (?_ : OW (fIn false) (D.str _) (D.tup _) _)); with_reducible first | refine' OW.clT (by decide +kernel) ?_ | refine' OW.clF (by decide +kernel) ?_) | ((with_reducible refine (?_ : RW (rPop _ _) _ _ _)); with_reducible refine' RW.pop (by with_unfolding_all exact rfl) (by with_reducible assumption) ?_) | ((with_reducible refine (?_ : RW (rRetG _) _ _ _)); with_reducible refine' RW.retG ?_) | ((with_reducible refine (?_ : IfK (@decide ((1:Int) < (List.length _ : Int)) _) _ _)); with_reducible first | refine' IfK.decT (by first | with_reducible assumption | decide) ?_ | refine' IfK.decF (by first | with_reducible assumption | decide) ?_) | (with_reducible first | refine' CK.ret ?_ | refine' SK.next ?_ | refine' SK.ret ?_ | refine' LK.next ?_ | refine' RW.nil ?_ | refine' RW.seq ?_) | ((with_reducible refine (?_ : RW _ _ _ _)); with_reducible refine' RW.lenOk (by with_unfolding_all exact rfl) ?_) | (with_reducible first | refine' SW.of ?_ | refine' PutAt.of ?_ ?_) | with_reducible exact SetR.z | (with_reducible first | refine' SetR.s3 ?_ | refine' SetR.s ?_) | (with_reducible refine (?_ : SetR _ (0 + 1) _ _)); refine SetR.s ?_ | ((with_reducible refine (?_ : RW _ _ _ _)); with_reducible refine' RW.retF (E := eVar _) (by with_unfolding_all exact rfl) ?_) | (with_reducible first | refine' RW.asg ?_ | refine' RW.ret ?_) | (fail_if_success (have : StopIf := by with_reducible assumption)); (with_reducible refine' RW.if ?_) | (with_reducible first | refine' RW.for ?_ | refine' RW.while ?_ | refine' RW.new ?_) | ((with_reducible refine (?_ : RW _ _ _ _)); with_reducible refine' RW.app (by with_unfolding_all exact rfl) (by first | with_reducible assumption | with_unfolding_all exact Nat.le_of_ble_eq_true rfl) ?_) | ((with_reducible refine (?_ : RW _ _ _ _)); with_reducible refine' RW.aug (by with_unfolding_all exact rfl) ?_) | (with_reducible first | refine' IfK.t ?_ | refine' IfK.f ?_) | (with_reducible refine' IfK.gd ?_; with_reducible refine' IfK.decT (by first | with_reducible assumption | with_unfolding_all omega) ?_) | (with_reducible refine' IfK.gd ?_; with_reducible refine' IfK.decF (by first | with_reducible assumption | with_unfolding_all omega) ?_) | (with_reducible first | refine' NotK.t ?_ | refine' NotK.f ?_ | refine' TruthK.bool ?_) | ((with_reducible refine (?_ : EW (eVar _) _ _)); with_reducible refine' EW.var (by with_unfolding_all exact rfl) ?_) | (with_reducible first | refine' EW.cst ?_ | refine' EW.e1 ?_ | refine' EW.e2 ?_ | refine' EW.call ?_ | refine' EW.tup ?_ | refine' EW.lst ?_ | refine' EW.comp ?_ | refine' EsW.nil ?_ | refine' EsW.cons ?_ | refine' TW.c ?_) | ((with_reducible refine (?_ : TpK _ _)); with_reducible refine' TpK.mk (by with_unfolding_all exact Nat.le_of_ble_eq_true rfl) ?_) | ((with_reducible refine (?_ : LsK _ _)); with_reducible refine' LsK.mk (by with_unfolding_all exact Nat.le_of_ble_eq_true rfl) ?_) | (with_reducible first | refine' TW.tOf ?_ | refine' TW.not ?_ | refine' TW.and ?_) | ((with_reducible refine (?_ : CW _ _ _)); with_reducible refine' CW.of (by with_reducible assumption) ?_) | ((with_reducible refine (?_ : OW _ _ _ _)); with_reducible refine' OW.of (by with_reducible assumption) ?_) | (with_reducible first | refine' OW.add ?_ | refine' OW.addI ?_ | refine' OW.sub ?_ | refine' OW.ord ?_ | refine' OW.eq ?_ | refine' OW.ne ?_) | ((with_reducible refine (?_ : OW fMul _ _ _)); with_reducible refine' OW.mul (by first | with_reducible assumption | with_unfolding_all exact mulOk_sm (by omega) (by omega)) ?_) | ((with_reducible refine (?_ : OW fDiv _ _ _)); with_reducible refine' OW.div (by with_reducible assumption) ?_) | ((with_reducible refine (?_ : OW fMod _ _ _)); with_reducible refine' OW.mod (by first | with_reducible assumption | with_unfolding_all omega) ?_) | ((with_reducible refine (?_ : OW fPow _ _ _)); with_reducible refine' OW.pow (by with_reducible assumption) ?_) | (with_reducible first | refine' UW.neg ?_) | (with_reducible first | refine' CW.abs ?_ | refine' CW.range1 ?_ | refine' CW.range2 ?_) | ((with_reducible refine (?_ : CW _ _ _)); with_reducible refine' CW.fn (by with_unfolding_all (repeat (first | exact StartsAt.nil | apply StartsAt.cons | apply StartsAt.unb))) (by with_unfolding_all exact rfl) ?_))
      rw [e]

theorem ok__law_cut {I : GI} (hat : HatI I hd.view_39)  : ∃ d, (recsOf hd.view_39)[4]? = some d ∧ d.name = ("_law_cut" : Str) ∧ ∃ G, FunOK I 1 d.name G ∧
    ∀ (v t : Int), t ≠ 0 → G [.int v, .int t] = some (.int (cutI v t)) := by
  refine' ⟨_, rfl, rfl, _, FunOK.of 1000 (i := 4) (ns := ["value", "top"]) (m := 2) hat rfl ⟨rfl, by decide, by decide⟩ (by decide) (fun pm cd doc => vs2 fun a b => rfl) rfl rfl ?h, ?g⟩
  case h =>
    dsimp only
    repeat' ((show (_ : Prop)); first | (with_reducible first | refine' RunG.cons ?_ ?_ | refine' RunG.ifS (TrG.cmp (EvG.listGen (by with_unfolding_all exact rfl) (by with_unfolding_all exact rfl) (by with_unfolding_all exact rfl) (by with_unfolding_all exact rfl) (by with_unfolding_all exact fun _ => rfl) (by with_unfolding_all exact fun _ => ⟨_, _, rfl⟩) (by with_unfolding_all exact fun _ => rfl) (by with_unfolding_all exact fun _ => ⟨_, _, rfl⟩) (by with_unfolding_all exact fun _ => rfl) (by assumption) (by assumption) ?_) ?_ ?_ (by with_unfolding_all exact rfl)) ?_ ?_ | refine' RunG.ret (EvG.cmp (EvG.listGen (by with_unfolding_all exact rfl) (by with_unfolding_all exact rfl) (by with_unfolding_all exact rfl) (by with_unfolding_all exact rfl) (by with_unfolding_all exact fun _ => rfl) (by with_unfolding_all exact fun _ => ⟨_, _, rfl⟩) (by with_unfolding_all exact fun _ => rfl) (by with_unfolding_all exact fun _ => ⟨_, _, rfl⟩) (by with_unfolding_all exact fun _ => rfl) (by assumption) (by assumption) ?_) ?_ ?_ (by with_unfolding_all exact rfl)) | refine' RunG.of ?_ | refine' EvOK.split (by with_unfolding_all exact fun _ => rfl) ?_ | refine' RunOK.pop (by with_unfolding_all exact rfl) (by with_unfolding_all exact rfl) (by with_unfolding_all exact rfl) (by with_unfolding_all exact fun _ => rfl) (by with_unfolding_all exact fun _ => rfl) (by with_unfolding_all exact ⟨rfl, by decide, by decide⟩) | exact (RunOK.dead : RunOK _ _ _ _ (exec (.Raise _ _ _)) _) | exact OpOK.add | exact OpOK.sub | exact OpOK.mul | exact OpOK.div | exact OpOK.mod | exact OpOK.pow | exact OpOK.lt | exact OpOK.le | exact OpOK.gt | exact OpOK.ge | exact OpOK.eq | exact OpOK.ne | exact OpOK.isIn | exact OpOK.notInS | exact IOpOK.add | exact IOpOK.mul | exact EvOK.cint | exact EvOK.cstr | exact EvOK.cbool | refine' EvOK.v (by with_unfolding_all exact rfl) (by with_unfolding_all exact rfl) (by with_unfolding_all exact rfl) (by with_unfolding_all exact rfl) | refine' EvOK.bin ?_ ?_ ?_ | refine' EvOK.neg ?_ | refine' EvOK.tup ?_ | refine' EvOK.lst ?_ | refine' EvOK.call' (by with_unfolding_all exact rfl) (by with_unfolding_all exact rfl) (by with_unfolding_all exact rfl) (by with_unfolding_all exact fun _ => rfl) (by with_unfolding_all exact rfl) (by with_unfolding_all exact fun _ => ⟨_, _, rfl⟩) (by with_unfolding_all first | assumption | exact FunOK.le (by assumption) (by decide)) ?_ | refine' EvOK.sliceLoS ?_ ?_ (by with_unfolding_all exact fun _ _ => rfl) | refine' EvOK.subs ?_ ?_ (by with_unfolding_all exact fun _ _ => rfl) | refine' EvOK.comp (by with_unfolding_all exact ⟨by decide, rfl, rfl, by decide, rfl, by decide, by decide⟩) ?_ ?_ ?_ (by with_unfolding_all exact fun _ _ => rfl) | exact EvsOK.nil | refine' EvsOK.cons ?_ ?_ (by with_unfolding_all exact fun _ => rfl) | refine' TestsOK.one ?_ | refine' TrOK.cmp ?_ ?_ ?_ (by with_unfolding_all exact rfl) | refine' TrOK.not ?_ | exact TrOK.and0 | refine' TrOK.and ?_ ?_ | refine' TrOK.plain ?_ (by with_unfolding_all exact fun _ _ => rfl) | exact RunOK.nil | refine' RunOK.cons ?_ ?_ | refine' RunOK.ret ?_ | refine' RunOK.ifS ?_ ?_ ?_ | refine' RunOK.whileS ?_ ?_ | refine' RunOK.new' (by with_unfolding_all exact rfl) (by with_unfolding_all exact fun _ => rfl) (by with_unfolding_all exact ⟨rfl, by decide, by decide⟩) ?_ | refine' RunOK.asg' (by with_unfolding_all exact rfl) (by with_unfolding_all exact fun _ => rfl) (by with_unfolding_all exact ⟨rfl, by decide, by decide⟩) ?_ | refine' RunOK.aug' (by with_unfolding_all exact rfl) (by with_unfolding_all exact ⟨rfl, by decide, by decide⟩) ?_ ?_ | refine' RunOK.for' (by with_unfolding_all exact rfl) (by with_unfolding_all exact fun _ _ => rfl) (by with_unfolding_all exact ⟨rfl, by decide, by decide⟩) ?_ ?_ | refine' RunOK.app' (by with_unfolding_all exact rfl) (by with_unfolding_all exact rfl) (by with_unfolding_all exact fun _ => rfl) (by with_unfolding_all exact fun _ => rfl) (by with_unfolding_all exact fun _ => rfl) (by with_unfolding_all exact ⟨rfl, by decide, by decide⟩) ?_))
  case g =>
    intro v t ht
    refine CW.eq ?_
    unfold cutI
    by_cases q : v < 0
    all_goals
      repeat' ((fail_if_success (with_reducible refine (?_ : @Eq _ _ _))); first | ((with_reducible refine (?_ : EW (eCst (D.str _)) _ _)); with_reducible refine' EW.cstS (by with_reducible assumption) ?_) | ((with_reducible refine (?_ : OW fAdd (D.str _) (D.str _) _)); with_reducible refine' OW.addS (by with_unfolding_all (simp only [List.length_append, List.length_cons, List.length_nil]; omega)) ?_) | ((with_reducible refine (?_ : CW fStr _ _)); with_reducible refine' CW.str (by with_reducible assumption) ?_) | ((with_reducible refine (?_ : EW (eGen _ _) _ _)); with_reducible refine' EW.gen ?_) | ((with_reducible refine (?_ : GK _ _ _)); with_reducible refine' GK.of (by with_reducible assumption) ?_) | ((with_reducible refine (?_ : OW fNe (D.lst _) (D.lst _) _)); with_reducible refine' OW.neSelf ?_) | ((with_reducible refine (?_ : OW fEq (D.lst (intsD [_, _, _, _])) (D.lst _) _)); with_reducible refine' OW.eqSelf4 ?_) | ((with_reducible refine (?_ : EW (eComp _ _ (eVar _)) _ _)); with_reducible refine' EW.dgsVar (by with_unfolding_all exact rfl) (by first | with_reducible assumption | with_unfolding_all exact Nat.le_of_ble_eq_true rfl) ?_) | ((with_reducible refine (?_ : EW (eComp _ _ (Mine.e2 fSloS _ _)) _ _)); with_reducible refine' EW.dgsTail (by with_unfolding_all exact rfl) (by with_reducible assumption) ?_) | ((with_reducible refine (?_ : OW fEq (D.lst (List.map chD _)) (D.lst []) _)); with_reducible refine' OW.eqNil (by first | with_reducible assumption | decide) ?_) | ((with_reducible refine (?_ : IfK (List.all _ _) _ _)); with_reducible first | refine' IfK.hT (by first | with_reducible assumption | decide) ?_ | refine' IfK.hF (by first | with_reducible assumption | decide) ?_) | ((with_reducible refine (?_ : CW fInt [D.str _] _)); with_reducible refine' CW.intT (by with_reducible assumption) ?_) | ((with_reducible refine (?_ : CW fLen [D.str _] _)); with_reducible refine' CW.lenS (by first | with_reducible assumption | with_unfolding_all exact Nat.le_of_ble_eq_true rfl) ?_) | ((with_reducible refine (?_ : OW fEq (D.str _) (D.str _) _)); with_reducible first | refine' OW.clT (by decide +kernel) ?_ | refine' OW.clF (by decide +kernel) ?_) | ((with_reducible refine (?_ : OW (fIn false) (D.str _) (D.tup _) _)); with_reducible first | refine' OW.clT (by decide +kernel) ?_ | refine' OW.clF (by decide +kernel) ?_) | ((with_reducible refine (?_ : RW (rPop _ _) _ _ _)); with_reducible refine' RW.pop (by with_unfolding_all exact rfl) (by with_reducible assumption) ?_) | ((with_reducible refine (?_ : RW (rRetG _) _ _ _)); with_reducible refine' RW.retG ?_) | ((with_reducible refine (?_ : IfK (@decide ((1:Int) < (List.length _ : Int)) _) _ _)); with_reducible first | refine' IfK.decT (by first | with_reducible assumption | decide) ?_ | refine' IfK.decF (by first | with_reducible assumption | decide) ?_) | (with_reducible first | refine' CK.ret ?_ | refine' SK.next ?_ | refine' SK.ret ?_ | refine' LK.next ?_ | refine' RW.nil ?_ | refine' RW.seq ?_) | ((with_reducible refine (?_ : RW _ _ _ _)); with_reducible refine' RW.lenOk (by with_unfolding_all exact rfl) ?_) | (with_reducible first | refine' SW.of ?_ | refine' PutAt.of ?_ ?_) | with_reducible exact SetR.z | (with_reducible first | refine' SetR.s3 ?_ | refine' SetR.s ?_) | (with_reducible refine (?_ : SetR _ (0 + 1) _ _)); refine SetR.s ?_ | ((with_reducible refine (?_ : RW _ _ _ _)); with_reducible refine' RW.retF (E := eVar _) (by with_unfolding_all exact rfl) ?_) | (with_reducible first | refine' RW.asg ?_ | refine' RW.ret ?_) | (fail_if_success (have : StopIf := by with_reducible assumption)); (with_reducible refine' RW.if ?_) | (with_reducible first | refine' RW.for ?_ | refine' RW.while ?_ | refine' RW.new ?_) | ((with_reducible refine (?_ : RW _ _ _ _)); with_reducible refine' RW.app (by with_unfolding_all exact rfl) (by first | with_reducible assumption | with_unfolding_all exact Nat.le_of_ble_eq_true rfl) ?_) | ((with_reducible refine (?_ : RW _ _ _ _)); with_reducible refine' RW.aug (by with_unfolding_all exact rfl) ?_) | (with_reducible first | refine' IfK.t ?_ | refine' IfK.f ?_) | (with_reducible refine' IfK.gd ?_; with_reducible refine' IfK.decT (by first | with_reducible assumption | with_unfolding_all omega) ?_) | (with_reducible refine' IfK.gd ?_; with_reducible refine' IfK.decF (by first | with_reducible assumption | with_unfolding_all omega) ?_) | (with_reducible first | refine' NotK.t ?_ | refine' NotK.f ?_ | refine' TruthK.bool ?_) | ((with_reducible refine (?_ : EW (eVar _) _ _)); with_reducible refine' EW.var (by with_unfolding_all exact rfl) ?_) | (with_reducible first | refine' EW.cst ?_ | refine' EW.e1 ?_ | refine' EW.e2 ?_ | refine' EW.call ?_ | refine' EW.tup ?_ | refine' EW.lst ?_ | refine' EW.comp ?_ | refine' EsW.nil ?_ | refine' EsW.cons ?_ | refine' TW.c ?_) | ((with_reducible refine (?_ : TpK _ _)); with_reducible refine' TpK.mk (by with_unfolding_all exact Nat.le_of_ble_eq_true rfl) ?_) | ((with_reducible refine (?_ : LsK _ _)); with_reducible refine' LsK.mk (by with_unfolding_all exact Nat.le_of_ble_eq_true rfl) ?_) | (with_reducible first | refine' TW.tOf ?_ | refine' TW.not ?_ | refine' TW.and ?_) | ((with_reducible refine (?_ : CW _ _ _)); with_reducible refine' CW.of (by with_reducible assumption) ?_) | ((with_reducible refine (?_ : OW _ _ _ _)); with_reducible refine' OW.of (by with_reducible assumption) ?_) | (with_reducible first | refine' OW.add ?_ | refine' OW.addI ?_ | refine' OW.sub ?_ | refine' OW.ord ?_ | refine' OW.eq ?_ | refine' OW.ne ?_) | ((with_reducible refine (?_ : OW fMul _ _ _)); with_reducible refine' OW.mul (by first | with_reducible assumption | with_unfolding_all exact mulOk_sm (by omega) (by omega)) ?_) | ((with_reducible refine (?_ : OW fDiv _ _ _)); with_reducible refine' OW.div (by with_reducible assumption) ?_) | ((with_reducible refine (?_ : OW fMod _ _ _)); with_reducible refine' OW.mod (by first | with_reducible assumption | with_unfolding_all omega) ?_) | ((with_reducible refine (?_ : OW fPow _ _ _)); with_reducible refine' OW.pow (by with_reducible assumption) ?_) | (with_reducible first | refine' UW.neg ?_) | (with_reducible first | refine' CW.abs ?_ | refine' CW.range1 ?_ | refine' CW.range2 ?_) | ((with_reducible refine (?_ : CW _ _ _)); with_reducible refine' CW.fn (by with_unfolding_all (repeat (first | exact StartsAt.nil | apply StartsAt.cons | apply StartsAt.unb))) (by with_unfolding_all exact rfl) ?_))
      simp only [q, if_true, if_false]

theorem ok__law_figures {I : GI} (hat : HatI I hd.view_39)  : ∃ d, (recsOf hd.view_39)[5]? = some d ∧ d.name = ("_law_figures" : Str) ∧ ∃ G, FunOK I 1 d.name G ∧
    ∀ (N b : Nat), 10 ≤ b → b < 10 ^ 10 → N < 10 ^ 61 → ∃ F : List Nat, G [.int (N : Nat), .int (b : Nat)] = some (.lst (intsD (natI F))) ∧ F ≠ [] ∧ (∀ d ∈ F, d < b) ∧ hv b F = N ∧ F.length ≤ 62 := by
  refine' ⟨_, rfl, rfl, _, FunOK.of 1000 (i := 5) (ns := ["size", "base", "figures"]) (m := 2) hat rfl ⟨rfl, by decide, by decide⟩ (by decide) (fun pm cd doc => vs2 fun a b => rfl) rfl rfl ?h, ?g⟩
  case h =>
    dsimp only
    repeat' ((show (_ : Prop)); first | (with_reducible first | refine' EvOK.split (by with_unfolding_all exact fun _ => rfl) ?_ | refine' RunOK.pop (by with_unfolding_all exact rfl) (by with_unfolding_all exact rfl) (by with_unfolding_all exact rfl) (by with_unfolding_all exact fun _ => rfl) (by with_unfolding_all exact fun _ => rfl) (by with_unfolding_all exact ⟨rfl, by decide, by decide⟩) | exact (RunOK.dead : RunOK _ _ _ _ (exec (.Raise _ _ _)) _) | exact OpOK.add | exact OpOK.sub | exact OpOK.mul | exact OpOK.div | exact OpOK.mod | exact OpOK.pow | exact OpOK.lt | exact OpOK.le | exact OpOK.gt | exact OpOK.ge | exact OpOK.eq | exact OpOK.ne | exact OpOK.isIn | exact OpOK.notInS | exact IOpOK.add | exact IOpOK.mul | exact EvOK.cint | exact EvOK.cstr | exact EvOK.cbool | refine' EvOK.v (by with_unfolding_all exact rfl) (by with_unfolding_all exact rfl) (by with_unfolding_all exact rfl) (by with_unfolding_all exact rfl) | refine' EvOK.bin ?_ ?_ ?_ | refine' EvOK.neg ?_ | refine' EvOK.tup ?_ | refine' EvOK.lst ?_ | refine' EvOK.call' (by with_unfolding_all exact rfl) (by with_unfolding_all exact rfl) (by with_unfolding_all exact rfl) (by with_unfolding_all exact fun _ => rfl) (by with_unfolding_all exact rfl) (by with_unfolding_all exact fun _ => ⟨_, _, rfl⟩) (by with_unfolding_all first | assumption | exact FunOK.le (by assumption) (by decide)) ?_ | refine' EvOK.sliceLoS ?_ ?_ (by with_unfolding_all exact fun _ _ => rfl) | refine' EvOK.subs ?_ ?_ (by with_unfolding_all exact fun _ _ => rfl) | refine' EvOK.comp (by with_unfolding_all exact ⟨by decide, rfl, rfl, by decide, rfl, by decide, by decide⟩) ?_ ?_ ?_ (by with_unfolding_all exact fun _ _ => rfl) | exact EvsOK.nil | refine' EvsOK.cons ?_ ?_ (by with_unfolding_all exact fun _ => rfl) | refine' TestsOK.one ?_ | refine' TrOK.cmp ?_ ?_ ?_ (by with_unfolding_all exact rfl) | refine' TrOK.not ?_ | exact TrOK.and0 | refine' TrOK.and ?_ ?_ | refine' TrOK.plain ?_ (by with_unfolding_all exact fun _ _ => rfl) | exact RunOK.nil | refine' RunOK.cons ?_ ?_ | refine' RunOK.ret ?_ | refine' RunOK.ifS ?_ ?_ ?_ | refine' RunOK.whileS ?_ ?_ | refine' RunOK.asg' (by with_unfolding_all exact rfl) (by with_unfolding_all exact fun _ => rfl) (by with_unfolding_all exact ⟨rfl, by decide, by decide⟩) ?_ | refine' RunOK.aug' (by with_unfolding_all exact rfl) (by with_unfolding_all exact ⟨rfl, by decide, by decide⟩) ?_ ?_ | refine' RunOK.for' (by with_unfolding_all exact rfl) (by with_unfolding_all exact fun _ _ => rfl) (by with_unfolding_all exact ⟨rfl, by decide, by decide⟩) ?_ ?_ | refine' RunOK.app' (by with_unfolding_all exact rfl) (by with_unfolding_all exact rfl) (by with_unfolding_all exact fun _ => rfl) (by with_unfolding_all exact fun _ => rfl) (by with_unfolding_all exact fun _ => rfl) (by with_unfolding_all exact ⟨rfl, by decide, by decide⟩) ?_))
  case g =>
    intro N b hb hb2 hN
    have b0 : (b : Int) ≠ 0 := by omega
    have t40 : (2:Int) ^ 40 = 1099511627776 := by decide
    have t10 : (10:Nat) ^ 10 = 10000000000 := by decide
    have bb : Bd 40 (b : Int) := Bd.ofNat (by omega) (by omega)
    clear t40 t10
    have dv : ∀ s : Int, divOk s (b : Int) = true := fun s => divOk_bd b0 bb (by decide)
    suffices h : CW _ [.int (N : Nat), .int (b : Nat)] (fun d => ∃ F : List Nat, d = .lst (intsD (natI F)) ∧ F ≠ [] ∧ (∀ d ∈ F, d < b) ∧ hv b F = N ∧ F.length ≤ 62) by
      obtain ⟨d, e, F, rfl, h⟩ := h
      exact ⟨F, e, h⟩
    repeat' ((fail_if_success (with_reducible refine (?_ : @Eq _ _ _))); first | ((with_reducible refine (?_ : EW (eCst (D.str _)) _ _)); with_reducible refine' EW.cstS (by with_reducible assumption) ?_) | ((with_reducible refine (?_ : OW fAdd (D.str _) (D.str _) _)); with_reducible refine' OW.addS (by with_unfolding_all (simp only [List.length_append, List.length_cons, List.length_nil]; omega)) ?_) | ((with_reducible refine (?_ : CW fStr _ _)); with_reducible refine' CW.str (by with_reducible assumption) ?_) | ((with_reducible refine (?_ : EW (eGen _ _) _ _)); with_reducible refine' EW.gen ?_) | ((with_reducible refine (?_ : GK _ _ _)); with_reducible refine' GK.of (by with_reducible assumption) ?_) | ((with_reducible refine (?_ : OW fNe (D.lst _) (D.lst _) _)); with_reducible refine' OW.neSelf ?_) | ((with_reducible refine (?_ : OW fEq (D.lst (intsD [_, _, _, _])) (D.lst _) _)); with_reducible refine' OW.eqSelf4 ?_) | ((with_reducible refine (?_ : EW (eComp _ _ (eVar _)) _ _)); with_reducible refine' EW.dgsVar (by with_unfolding_all exact rfl) (by first | with_reducible assumption | with_unfolding_all exact Nat.le_of_ble_eq_true rfl) ?_) | ((with_reducible refine (?_ : EW (eComp _ _ (Mine.e2 fSloS _ _)) _ _)); with_reducible refine' EW.dgsTail (by with_unfolding_all exact rfl) (by with_reducible assumption) ?_) | ((with_reducible refine (?_ : OW fEq (D.lst (List.map chD _)) (D.lst []) _)); with_reducible refine' OW.eqNil (by first | with_reducible assumption | decide) ?_) | ((with_reducible refine (?_ : IfK (List.all _ _) _ _)); with_reducible first | refine' IfK.hT (by first | with_reducible assumption | decide) ?_ | refine' IfK.hF (by first | with_reducible assumption | decide) ?_) | ((with_reducible refine (?_ : CW fInt [D.str _] _)); with_reducible refine' CW.intT (by with_reducible assumption) ?_) | ((with_reducible refine (?_ : CW fLen [D.str _] _)); with_reducible refine' CW.lenS (by first | with_reducible assumption | with_unfolding_all exact Nat.le_of_ble_eq_true rfl) ?_) | ((with_reducible refine (?_ : OW fEq (D.str _) (D.str _) _)); with_reducible first | refine' OW.clT (by decide +kernel) ?_ | refine' OW.clF (by decide +kernel) ?_) | ((with_reducible refine (?_ : OW (fIn false) (D.str _) (D.tup _) _)); with_reducible first | refine' OW.clT (by decide +kernel) ?_ | refine' OW.clF (by decide +kernel) ?_) | ((with_reducible refine (?_ : RW (rPop _ _) _ _ _)); with_reducible refine' RW.pop (by with_unfolding_all exact rfl) (by with_reducible assumption) ?_) | ((with_reducible refine (?_ : RW (rRetG _) _ _ _)); with_reducible refine' RW.retG ?_) | ((with_reducible refine (?_ : IfK (@decide ((1:Int) < (List.length _ : Int)) _) _ _)); with_reducible first | refine' IfK.decT (by first | with_reducible assumption | decide) ?_ | refine' IfK.decF (by first | with_reducible assumption | decide) ?_) | (with_reducible first | refine' CK.ret ?_ | refine' SK.next ?_ | refine' SK.ret ?_ | refine' LK.next ?_ | refine' RW.nil ?_ | refine' RW.seq ?_) | ((with_reducible refine (?_ : RW _ _ _ _)); with_reducible refine' RW.lenOk (by with_unfolding_all exact rfl) ?_) | (with_reducible first | refine' SW.of ?_ | refine' PutAt.of ?_ ?_) | with_reducible exact SetR.z | (with_reducible first | refine' SetR.s3 ?_ | refine' SetR.s ?_) | (with_reducible refine (?_ : SetR _ (0 + 1) _ _)); refine SetR.s ?_ | ((with_reducible refine (?_ : RW _ _ _ _)); with_reducible refine' RW.retF (E := eVar _) (by with_unfolding_all exact rfl) ?_) | (with_reducible first | refine' RW.asg ?_ | refine' RW.ret ?_) | (fail_if_success (have : StopIf := by with_reducible assumption)); (with_reducible refine' RW.if ?_) | (with_reducible first | refine' RW.for ?_ | refine' RW.while ?_ | refine' RW.new ?_) | ((with_reducible refine (?_ : RW _ _ _ _)); with_reducible refine' RW.app (by with_unfolding_all exact rfl) (by first | with_reducible assumption | with_unfolding_all exact Nat.le_of_ble_eq_true rfl) ?_) | ((with_reducible refine (?_ : RW _ _ _ _)); with_reducible refine' RW.aug (by with_unfolding_all exact rfl) ?_) | (with_reducible first | refine' IfK.t ?_ | refine' IfK.f ?_) | (with_reducible refine' IfK.gd ?_; with_reducible refine' IfK.decT (by first | with_reducible assumption | with_unfolding_all omega) ?_) | (with_reducible refine' IfK.gd ?_; with_reducible refine' IfK.decF (by first | with_reducible assumption | with_unfolding_all omega) ?_) | (with_reducible first | refine' NotK.t ?_ | refine' NotK.f ?_ | refine' TruthK.bool ?_) | ((with_reducible refine (?_ : EW (eVar _) _ _)); with_reducible refine' EW.var (by with_unfolding_all exact rfl) ?_) | (with_reducible first | refine' EW.cst ?_ | refine' EW.e1 ?_ | refine' EW.e2 ?_ | refine' EW.call ?_ | refine' EW.tup ?_ | refine' EW.lst ?_ | refine' EW.comp ?_ | refine' EsW.nil ?_ | refine' EsW.cons ?_ | refine' TW.c ?_) | ((with_reducible refine (?_ : TpK _ _)); with_reducible refine' TpK.mk (by with_unfolding_all exact Nat.le_of_ble_eq_true rfl) ?_) | ((with_reducible refine (?_ : LsK _ _)); with_reducible refine' LsK.mk (by with_unfolding_all exact Nat.le_of_ble_eq_true rfl) ?_) | (with_reducible first | refine' TW.tOf ?_ | refine' TW.not ?_ | refine' TW.and ?_) | ((with_reducible refine (?_ : CW _ _ _)); with_reducible refine' CW.of (by with_reducible assumption) ?_) | ((with_reducible refine (?_ : OW _ _ _ _)); with_reducible refine' OW.of (by with_reducible assumption) ?_) | (with_reducible first | refine' OW.add ?_ | refine' OW.addI ?_ | refine' OW.sub ?_ | refine' OW.ord ?_ | refine' OW.eq ?_ | refine' OW.ne ?_) | ((with_reducible refine (?_ : OW fMul _ _ _)); with_reducible refine' OW.mul (by first | with_reducible assumption | with_unfolding_all exact mulOk_sm (by omega) (by omega)) ?_) | ((with_reducible refine (?_ : OW fDiv _ _ _)); with_reducible refine' OW.div (by with_reducible assumption) ?_) | ((with_reducible refine (?_ : OW fMod _ _ _)); with_reducible refine' OW.mod (by first | with_reducible assumption | with_unfolding_all omega) ?_) | ((with_reducible refine (?_ : OW fPow _ _ _)); with_reducible refine' OW.pow (by with_reducible assumption) ?_) | (with_reducible first | refine' UW.neg ?_) | (with_reducible first | refine' CW.abs ?_ | refine' CW.range1 ?_ | refine' CW.range2 ?_) | ((with_reducible refine (?_ : CW _ _ _)); with_reducible refine' CW.fn (by with_unfolding_all (repeat (first | exact StartsAt.nil | apply StartsAt.cons | apply StartsAt.unb))) (by with_unfolding_all exact rfl) ?_))
    refine WW.inv (fun k σ => ∃ (s : Nat) (fs : List Nat), s < 10 ^ k ∧ σ = [.imm (.int (s : Nat)), .imm (.int (b : Nat)), .imm (.lst (intsD (natI (s % b :: fs))))] ∧ s * b ^ fs.length + hv b fs = N ∧ (∀ d ∈ fs, d < b) ∧ (fs = [] ∨ 1 ≤ s)) (k := 61) ⟨N, [], hN, by rw [show (N : Int).fmod (b : Int) = ((N % b : Nat) : Int) from fmod_nat N b]; rfl, by simp [hv], by simp, .inl rfl⟩ (by decide) ?_
    rintro k σ ⟨s, fs, hk, rfl, hval, hd, h1⟩
    have hlen : fs.length ≤ 60 := by
      rcases h1 with rfl | h1
      · simp
      · have g1 : b ^ fs.length ≤ N := by
          have : 1 * b ^ fs.length ≤ s * b ^ fs.length := Nat.mul_le_mul_right _ h1
          omega
        have g2 : 10 ^ fs.length ≤ b ^ fs.length := Nat.pow_le_pow_left hb _
        have g3 : 10 ^ fs.length < 10 ^ 61 := Nat.lt_of_le_of_lt (Nat.le_trans g2 g1) hN
        have := (Nat.pow_lt_pow_iff_right (by decide : 1 < 10)).mp g3
        omega
    clear hN
    by_cases c : s < b
    · have c' : ¬ (b : Int) ≤ (s : Int) := by omega
      repeat' ((fail_if_success (with_reducible refine (?_ : @Eq _ _ _))); first | ((with_reducible refine (?_ : EW (eCst (D.str _)) _ _)); with_reducible refine' EW.cstS (by with_reducible assumption) ?_) | ((with_reducible refine (?_ : OW fAdd (D.str _) (D.str _) _)); with_reducible refine' OW.addS (by with_unfolding_all (simp only [List.length_append, List.length_cons, List.length_nil]; omega)) ?_) | ((with_reducible refine (?_ : CW fStr _ _)); with_reducible refine' CW.str (by with_reducible assumption) ?_) | ((with_reducible refine (?_ : EW (eGen _ _) _ _)); with_reducible refine' EW.gen ?_) | ((with_reducible refine (?_ : GK _ _ _)); with_reducible refine' GK.of (by with_reducible assumption) ?_) | ((with_reducible refine (?_ : OW fNe (D.lst _) (D.lst _) _)); with_reducible refine' OW.neSelf ?_) | ((with_reducible refine (?_ : OW fEq (D.lst (intsD [_, _, _, _])) (D.lst _) _)); with_reducible refine' OW.eqSelf4 ?_) | ((with_reducible refine (?_ : EW (eComp _ _ (eVar _)) _ _)); with_reducible refine' EW.dgsVar (by with_unfolding_all exact rfl) (by first | with_reducible assumption | with_unfolding_all exact Nat.le_of_ble_eq_true rfl) ?_) | ((with_reducible refine (?_ : EW (eComp _ _ (Mine.e2 fSloS _ _)) _ _)); with_reducible refine' EW.dgsTail (by with_unfolding_all exact rfl) (by with_reducible assumption) ?_) | ((with_reducible refine (?_ : OW fEq (D.lst (List.map chD _)) (D.lst []) _)); with_reducible refine' OW.eqNil (by first | with_reducible assumption | decide) ?_) | ((with_reducible refine (?_ : IfK (List.all _ _) _ _)); with_reducible first | refine' IfK.hT (by first | with_reducible assumption | decide) ?_ | refine' IfK.hF (by first | with_reducible assumption | decide) ?_) | ((with_reducible refine (?_ : CW fInt [D.str _] _)); with_reducible refine' CW.intT (by with_reducible assumption) ?_) | ((with_reducible refine (?_ : CW fLen [D.str _] _)); with_reducible refine' CW.lenS (by first | with_reducible assumption | with_unfolding_all exact Nat.le_of_ble_eq_true rfl) ?_) | ((with_reducible refine (?_ : OW fEq (D.str _) (D.str _) _)); with_reducible first | refine' OW.clT (by decide +kernel) ?_ | refine' OW.clF (by decide +kernel) ?_) | ((with_reducible refine (?_ : OW (fIn false) (D.str _) (D.tup _) _)); with_reducible first | refine' OW.clT (by decide +kernel) ?_ | refine' OW.clF (by decide +kernel) ?_) | ((with_reducible refine (?_ : RW (rPop _ _) _ _ _)); with_reducible refine' RW.pop (by with_unfolding_all exact rfl) (by with_reducible assumption) ?_) | ((with_reducible refine (?_ : RW (rRetG _) _ _ _)); with_reducible refine' RW.retG ?_) | ((with_reducible refine (?_ : IfK (@decide ((1:Int) < (List.length _ : Int)) _) _ _)); with_reducible first | refine' IfK.decT (by first | with_reducible assumption | decide) ?_ | refine' IfK.decF (by first | with_reducible assumption | decide) ?_) | (with_reducible first | refine' CK.ret ?_ | refine' SK.next ?_ | refine' SK.ret ?_ | refine' LK.next ?_ | refine' RW.nil ?_ | refine' RW.seq ?_) | ((with_reducible refine (?_ : RW _ _ _ _)); with_reducible refine' RW.lenOk (by with_unfolding_all exact rfl) ?_) | (with_reducible first | refine' SW.of ?_ | refine' PutAt.of ?_ ?_) | with_reducible exact SetR.z | (with_reducible first | refine' SetR.s3 ?_ | refine' SetR.s ?_) | (with_reducible refine (?_ : SetR _ (0 + 1) _ _)); refine SetR.s ?_ | ((with_reducible refine (?_ : RW _ _ _ _)); with_reducible refine' RW.retF (E := eVar _) (by with_unfolding_all exact rfl) ?_) | (with_reducible first | refine' RW.asg ?_ | refine' RW.ret ?_) | (fail_if_success (have : StopIf := by with_reducible assumption)); (with_reducible refine' RW.if ?_) | (with_reducible first | refine' RW.for ?_ | refine' RW.while ?_ | refine' RW.new ?_) | ((with_reducible refine (?_ : RW _ _ _ _)); with_reducible refine' RW.app (by with_unfolding_all exact rfl) (by first | with_reducible assumption | with_unfolding_all exact Nat.le_of_ble_eq_true rfl) ?_) | ((with_reducible refine (?_ : RW _ _ _ _)); with_reducible refine' RW.aug (by with_unfolding_all exact rfl) ?_) | (with_reducible first | refine' IfK.t ?_ | refine' IfK.f ?_) | (with_reducible refine' IfK.gd ?_; with_reducible refine' IfK.decT (by first | with_reducible assumption | with_unfolding_all omega) ?_) | (with_reducible refine' IfK.gd ?_; with_reducible refine' IfK.decF (by first | with_reducible assumption | with_unfolding_all omega) ?_) | (with_reducible first | refine' NotK.t ?_ | refine' NotK.f ?_ | refine' TruthK.bool ?_) | ((with_reducible refine (?_ : EW (eVar _) _ _)); with_reducible refine' EW.var (by with_unfolding_all exact rfl) ?_) | (with_reducible first | refine' EW.cst ?_ | refine' EW.e1 ?_ | refine' EW.e2 ?_ | refine' EW.call ?_ | refine' EW.tup ?_ | refine' EW.lst ?_ | refine' EW.comp ?_ | refine' EsW.nil ?_ | refine' EsW.cons ?_ | refine' TW.c ?_) | ((with_reducible refine (?_ : TpK _ _)); with_reducible refine' TpK.mk (by with_unfolding_all exact Nat.le_of_ble_eq_true rfl) ?_) | ((with_reducible refine (?_ : LsK _ _)); with_reducible refine' LsK.mk (by with_unfolding_all exact Nat.le_of_ble_eq_true rfl) ?_) | (with_reducible first | refine' TW.tOf ?_ | refine' TW.not ?_ | refine' TW.and ?_) | ((with_reducible refine (?_ : CW _ _ _)); with_reducible refine' CW.of (by with_reducible assumption) ?_) | ((with_reducible refine (?_ : OW _ _ _ _)); with_reducible refine' OW.of (by with_reducible assumption) ?_) | (with_reducible first | refine' OW.add ?_ | refine' OW.addI ?_ | refine' OW.sub ?_ | refine' OW.ord ?_ | refine' OW.eq ?_ | refine' OW.ne ?_) | ((with_reducible refine (?_ : OW fMul _ _ _)); with_reducible refine' OW.mul (by first | with_reducible assumption | with_unfolding_all exact mulOk_sm (by omega) (by omega)) ?_) | ((with_reducible refine (?_ : OW fDiv _ _ _)); with_reducible refine' OW.div (by with_reducible assumption) ?_) | ((with_reducible refine (?_ : OW fMod _ _ _)); with_reducible refine' OW.mod (by first | with_reducible assumption | with_unfolding_all omega) ?_) | ((with_reducible refine (?_ : OW fPow _ _ _)); with_reducible refine' OW.pow (by with_reducible assumption) ?_) | (with_reducible first | refine' UW.neg ?_) | (with_reducible first | refine' CW.abs ?_ | refine' CW.range1 ?_ | refine' CW.range2 ?_) | ((with_reducible refine (?_ : CW _ _ _)); with_reducible refine' CW.fn (by with_unfolding_all (repeat (first | exact StartsAt.nil | apply StartsAt.cons | apply StartsAt.unb))) (by with_unfolding_all exact rfl) ?_))
      rw [Nat.mod_eq_of_lt c]
      refine ⟨s :: fs, rfl, by simp, ?_, ?_, by rw [List.length_cons]; omega⟩
      · intro d hd'
        rcases List.mem_cons.mp hd' with rfl | hd'
        · exact c
        · exact hd d hd'
      · rw [hv_cons]; exact hval
    · have c' : (b : Int) ≤ (s : Int) := by omega
      have w1 := dv (s : Int)
      have w2 : (s : Int).fdiv (b : Int) = ((s / b : Nat) : Int) := fdiv_nat s b
      have w3 : ((s / b : Nat) : Int).fmod (b : Int) = ((s / b % b : Nat) : Int) := fmod_nat (s / b) b
      have w4 : fAdd (.lst [.int ((s / b % b : Nat) : Int)]) (.lst (intsD (natI (s % b :: fs)))) = some (.lst (intsD (natI (s / b % b :: s % b :: fs)))) := by
        show (if _ + (intsD (natI (s % b :: fs))).length ≤ sizeLine then some (D.lst _) else none) = _
        have := sizeLine_ge
        rw [intsD_length, natI_length, if_pos (by simp only [List.length_cons, List.length_nil]; omega)]; rfl
      repeat' ((fail_if_success (with_reducible refine (?_ : @Eq _ _ _))); first | ((with_reducible refine (?_ : EW (eCst (D.str _)) _ _)); with_reducible refine' EW.cstS (by with_reducible assumption) ?_) | ((with_reducible refine (?_ : OW fAdd (D.str _) (D.str _) _)); with_reducible refine' OW.addS (by with_unfolding_all (simp only [List.length_append, List.length_cons, List.length_nil]; omega)) ?_) | ((with_reducible refine (?_ : CW fStr _ _)); with_reducible refine' CW.str (by with_reducible assumption) ?_) | ((with_reducible refine (?_ : EW (eGen _ _) _ _)); with_reducible refine' EW.gen ?_) | ((with_reducible refine (?_ : GK _ _ _)); with_reducible refine' GK.of (by with_reducible assumption) ?_) | ((with_reducible refine (?_ : OW fNe (D.lst _) (D.lst _) _)); with_reducible refine' OW.neSelf ?_) | ((with_reducible refine (?_ : OW fEq (D.lst (intsD [_, _, _, _])) (D.lst _) _)); with_reducible refine' OW.eqSelf4 ?_) | ((with_reducible refine (?_ : EW (eComp _ _ (eVar _)) _ _)); with_reducible refine' EW.dgsVar (by with_unfolding_all exact rfl) (by first | with_reducible assumption | with_unfolding_all exact Nat.le_of_ble_eq_true rfl) ?_) | ((with_reducible refine (?_ : EW (eComp _ _ (Mine.e2 fSloS _ _)) _ _)); with_reducible refine' EW.dgsTail (by with_unfolding_all exact rfl) (by with_reducible assumption) ?_) | ((with_reducible refine (?_ : OW fEq (D.lst (List.map chD _)) (D.lst []) _)); with_reducible refine' OW.eqNil (by first | with_reducible assumption | decide) ?_) | ((with_reducible refine (?_ : IfK (List.all _ _) _ _)); with_reducible first | refine' IfK.hT (by first | with_reducible assumption | decide) ?_ | refine' IfK.hF (by first | with_reducible assumption | decide) ?_) | ((with_reducible refine (?_ : CW fInt [D.str _] _)); with_reducible refine' CW.intT (by with_reducible assumption) ?_) | ((with_reducible refine (?_ : CW fLen [D.str _] _)); with_reducible refine' CW.lenS (by first | with_reducible assumption | with_unfolding_all exact Nat.le_of_ble_eq_true rfl) ?_) | ((with_reducible refine (?_ : OW fEq (D.str _) (D.str _) _)); with_reducible first | refine' OW.clT (by decide +kernel) ?_ | refine' OW.clF (by decide +kernel) ?_) | ((with_reducible refine (?_ : OW (fIn false) (D.str _) (D.tup _) _)); with_reducible first | refine' OW.clT (by decide +kernel) ?_ | refine' OW.clF (by decide +kernel) ?_) | ((with_reducible refine (?_ : RW (rPop _ _) _ _ _)); with_reducible refine' RW.pop (by with_unfolding_all exact rfl) (by with_reducible assumption) ?_) | ((with_reducible refine (?_ : RW (rRetG _) _ _ _)); with_reducible refine' RW.retG ?_) | ((with_reducible refine (?_ : IfK (@decide ((1:Int) < (List.length _ : Int)) _) _ _)); with_reducible first | refine' IfK.decT (by first | with_reducible assumption | decide) ?_ | refine' IfK.decF (by first | with_reducible assumption | decide) ?_) | (with_reducible first | refine' CK.ret ?_ | refine' SK.next ?_ | refine' SK.ret ?_ | refine' LK.next ?_ | refine' RW.nil ?_ | refine' RW.seq ?_) | ((with_reducible refine (?_ : RW _ _ _ _)); with_reducible refine' RW.lenOk (by with_unfolding_all exact rfl) ?_) | (with_reducible first | refine' SW.of ?_ | refine' PutAt.of ?_ ?_) | with_reducible exact SetR.z | (with_reducible first | refine' SetR.s3 ?_ | refine' SetR.s ?_) | (with_reducible refine (?_ : SetR _ (0 + 1) _ _)); refine SetR.s ?_ | ((with_reducible refine (?_ : RW _ _ _ _)); with_reducible refine' RW.retF (E := eVar _) (by with_unfolding_all exact rfl) ?_) | (with_reducible first | refine' RW.asg ?_ | refine' RW.ret ?_) | (fail_if_success (have : StopIf := by with_reducible assumption)); (with_reducible refine' RW.if ?_) | (with_reducible first | refine' RW.for ?_ | refine' RW.while ?_ | refine' RW.new ?_) | ((with_reducible refine (?_ : RW _ _ _ _)); with_reducible refine' RW.app (by with_unfolding_all exact rfl) (by first | with_reducible assumption | with_unfolding_all exact Nat.le_of_ble_eq_true rfl) ?_) | ((with_reducible refine (?_ : RW _ _ _ _)); with_reducible refine' RW.aug (by with_unfolding_all exact rfl) ?_) | (with_reducible first | refine' IfK.t ?_ | refine' IfK.f ?_) | (with_reducible refine' IfK.gd ?_; with_reducible refine' IfK.decT (by first | with_reducible assumption | with_unfolding_all omega) ?_) | (with_reducible refine' IfK.gd ?_; with_reducible refine' IfK.decF (by first | with_reducible assumption | with_unfolding_all omega) ?_) | (with_reducible first | refine' NotK.t ?_ | refine' NotK.f ?_ | refine' TruthK.bool ?_) | ((with_reducible refine (?_ : EW (eVar _) _ _)); with_reducible refine' EW.var (by with_unfolding_all exact rfl) ?_) | (with_reducible first | refine' EW.cst ?_ | refine' EW.e1 ?_ | refine' EW.e2 ?_ | refine' EW.call ?_ | refine' EW.tup ?_ | refine' EW.lst ?_ | refine' EW.comp ?_ | refine' EsW.nil ?_ | refine' EsW.cons ?_ | refine' TW.c ?_) | ((with_reducible refine (?_ : TpK _ _)); with_reducible refine' TpK.mk (by with_unfolding_all exact Nat.le_of_ble_eq_true rfl) ?_) | ((with_reducible refine (?_ : LsK _ _)); with_reducible refine' LsK.mk (by with_unfolding_all exact Nat.le_of_ble_eq_true rfl) ?_) | (with_reducible first | refine' TW.tOf ?_ | refine' TW.not ?_ | refine' TW.and ?_) | ((with_reducible refine (?_ : CW _ _ _)); with_reducible refine' CW.of (by with_reducible assumption) ?_) | ((with_reducible refine (?_ : OW _ _ _ _)); with_reducible refine' OW.of (by with_reducible assumption) ?_) | (with_reducible first | refine' OW.add ?_ | refine' OW.addI ?_ | refine' OW.sub ?_ | refine' OW.ord ?_ | refine' OW.eq ?_ | refine' OW.ne ?_) | ((with_reducible refine (?_ : OW fMul _ _ _)); with_reducible refine' OW.mul (by first | with_reducible assumption | with_unfolding_all exact mulOk_sm (by omega) (by omega)) ?_) | ((with_reducible refine (?_ : OW fDiv _ _ _)); with_reducible refine' OW.div (by with_reducible assumption) ?_) | ((with_reducible refine (?_ : OW fMod _ _ _)); with_reducible refine' OW.mod (by first | with_reducible assumption | with_unfolding_all omega) ?_) | ((with_reducible refine (?_ : OW fPow _ _ _)); with_reducible refine' OW.pow (by with_reducible assumption) ?_) | (with_reducible first | refine' UW.neg ?_) | (with_reducible first | refine' CW.abs ?_ | refine' CW.range1 ?_ | refine' CW.range2 ?_) | ((with_reducible refine (?_ : CW _ _ _)); with_reducible refine' CW.fn (by with_unfolding_all (repeat (first | exact StartsAt.nil | apply StartsAt.cons | apply StartsAt.unb))) (by with_unfolding_all exact rfl) ?_))
      rw [w2]
      repeat' ((fail_if_success (with_reducible refine (?_ : @Eq _ _ _))); first | ((with_reducible refine (?_ : EW (eCst (D.str _)) _ _)); with_reducible refine' EW.cstS (by with_reducible assumption) ?_) | ((with_reducible refine (?_ : OW fAdd (D.str _) (D.str _) _)); with_reducible refine' OW.addS (by with_unfolding_all (simp only [List.length_append, List.length_cons, List.length_nil]; omega)) ?_) | ((with_reducible refine (?_ : CW fStr _ _)); with_reducible refine' CW.str (by with_reducible assumption) ?_) | ((with_reducible refine (?_ : EW (eGen _ _) _ _)); with_reducible refine' EW.gen ?_) | ((with_reducible refine (?_ : GK _ _ _)); with_reducible refine' GK.of (by with_reducible assumption) ?_) | ((with_reducible refine (?_ : OW fNe (D.lst _) (D.lst _) _)); with_reducible refine' OW.neSelf ?_) | ((with_reducible refine (?_ : OW fEq (D.lst (intsD [_, _, _, _])) (D.lst _) _)); with_reducible refine' OW.eqSelf4 ?_) | ((with_reducible refine (?_ : EW (eComp _ _ (eVar _)) _ _)); with_reducible refine' EW.dgsVar (by with_unfolding_all exact rfl) (by first | with_reducible assumption | with_unfolding_all exact Nat.le_of_ble_eq_true rfl) ?_) | ((with_reducible refine (?_ : EW (eComp _ _ (Mine.e2 fSloS _ _)) _ _)); with_reducible refine' EW.dgsTail (by with_unfolding_all exact rfl) (by with_reducible assumption) ?_) | ((with_reducible refine (?_ : OW fEq (D.lst (List.map chD _)) (D.lst []) _)); with_reducible refine' OW.eqNil (by first | with_reducible assumption | decide) ?_) | ((with_reducible refine (?_ : IfK (List.all _ _) _ _)); with_reducible first | refine' IfK.hT (by first | with_reducible assumption | decide) ?_ | refine' IfK.hF (by first | with_reducible assumption | decide) ?_) | ((with_reducible refine (?_ : CW fInt [D.str _] _)); with_reducible refine' CW.intT (by with_reducible assumption) ?_) | ((with_reducible refine (?_ : CW fLen [D.str _] _)); with_reducible refine' CW.lenS (by first | with_reducible assumption | with_unfolding_all exact Nat.le_of_ble_eq_true rfl) ?_) | ((with_reducible refine (?_ : OW fEq (D.str _) (D.str _) _)); with_reducible first | refine' OW.clT (by decide +kernel) ?_ | refine' OW.clF (by decide +kernel) ?_) | ((with_reducible refine (?_ : OW (fIn false) (D.str _) (D.tup _) _)); with_reducible first | refine' OW.clT (by decide +kernel) ?_ | refine' OW.clF (by decide +kernel) ?_) | ((with_reducible refine (?_ : RW (rPop _ _) _ _ _)); with_reducible refine' RW.pop (by with_unfolding_all exact rfl) (by with_reducible assumption) ?_) | ((with_reducible refine (?_ : RW (rRetG _) _ _ _)); with_reducible refine' RW.retG ?_) | ((with_reducible refine (?_ : IfK (@decide ((1:Int) < (List.length _ : Int)) _) _ _)); with_reducible first | refine' IfK.decT (by first | with_reducible assumption | decide) ?_ | refine' IfK.decF (by first | with_reducible assumption | decide) ?_) | (with_reducible first | refine' CK.ret ?_ | refine' SK.next ?_ | refine' SK.ret ?_ | refine' LK.next ?_ | refine' RW.nil ?_ | refine' RW.seq ?_) | ((with_reducible refine (?_ : RW _ _ _ _)); with_reducible refine' RW.lenOk (by with_unfolding_all exact rfl) ?_) | (with_reducible first | refine' SW.of ?_ | refine' PutAt.of ?_ ?_) | with_reducible exact SetR.z | (with_reducible first | refine' SetR.s3 ?_ | refine' SetR.s ?_) | (with_reducible refine (?_ : SetR _ (0 + 1) _ _)); refine SetR.s ?_ | ((with_reducible refine (?_ : RW _ _ _ _)); with_reducible refine' RW.retF (E := eVar _) (by with_unfolding_all exact rfl) ?_) | (with_reducible first | refine' RW.asg ?_ | refine' RW.ret ?_) | (fail_if_success (have : StopIf := by with_reducible assumption)); (with_reducible refine' RW.if ?_) | (with_reducible first | refine' RW.for ?_ | refine' RW.while ?_ | refine' RW.new ?_) | ((with_reducible refine (?_ : RW _ _ _ _)); with_reducible refine' RW.app (by with_unfolding_all exact rfl) (by first | with_reducible assumption | with_unfolding_all exact Nat.le_of_ble_eq_true rfl) ?_) | ((with_reducible refine (?_ : RW _ _ _ _)); with_reducible refine' RW.aug (by with_unfolding_all exact rfl) ?_) | (with_reducible first | refine' IfK.t ?_ | refine' IfK.f ?_) | (with_reducible refine' IfK.gd ?_; with_reducible refine' IfK.decT (by first | with_reducible assumption | with_unfolding_all omega) ?_) | (with_reducible refine' IfK.gd ?_; with_reducible refine' IfK.decF (by first | with_reducible assumption | with_unfolding_all omega) ?_) | (with_reducible first | refine' NotK.t ?_ | refine' NotK.f ?_ | refine' TruthK.bool ?_) | ((with_reducible refine (?_ : EW (eVar _) _ _)); with_reducible refine' EW.var (by with_unfolding_all exact rfl) ?_) | (with_reducible first | refine' EW.cst ?_ | refine' EW.e1 ?_ | refine' EW.e2 ?_ | refine' EW.call ?_ | refine' EW.tup ?_ | refine' EW.lst ?_ | refine' EW.comp ?_ | refine' EsW.nil ?_ | refine' EsW.cons ?_ | refine' TW.c ?_) | ((with_reducible refine (?_ : TpK _ _)); with_reducible refine' TpK.mk (by with_unfolding_all exact Nat.le_of_ble_eq_true rfl) ?_) | ((with_reducible refine (?_ : LsK _ _)); with_reducible refine' LsK.mk (by with_unfolding_all exact Nat.le_of_ble_eq_true rfl) ?_) | (with_reducible first | refine' TW.tOf ?_ | refine' TW.not ?_ | refine' TW.and ?_) | ((with_reducible refine (?_ : CW _ _ _)); with_reducible refine' CW.of (by with_reducible assumption) ?_) | ((with_reducible refine (?_ : OW _ _ _ _)); with_reducible refine' OW.of (by with_reducible assumption) ?_) | (with_reducible first | refine' OW.add ?_ | refine' OW.addI ?_ | refine' OW.sub ?_ | refine' OW.ord ?_ | refine' OW.eq ?_ | refine' OW.ne ?_) | ((with_reducible refine (?_ : OW fMul _ _ _)); with_reducible refine' OW.mul (by first | with_reducible assumption | with_unfolding_all exact mulOk_sm (by omega) (by omega)) ?_) | ((with_reducible refine (?_ : OW fDiv _ _ _)); with_reducible refine' OW.div (by with_reducible assumption) ?_) | ((with_reducible refine (?_ : OW fMod _ _ _)); with_reducible refine' OW.mod (by first | with_reducible assumption | with_unfolding_all omega) ?_) | ((with_reducible refine (?_ : OW fPow _ _ _)); with_reducible refine' OW.pow (by with_reducible assumption) ?_) | (with_reducible first | refine' UW.neg ?_) | (with_reducible first | refine' CW.abs ?_ | refine' CW.range1 ?_ | refine' CW.range2 ?_) | ((with_reducible refine (?_ : CW _ _ _)); with_reducible refine' CW.fn (by with_unfolding_all (repeat (first | exact StartsAt.nil | apply StartsAt.cons | apply StartsAt.unb))) (by with_unfolding_all exact rfl) ?_))
      rw [w3]
      repeat' ((fail_if_success (with_reducible refine (?_ : @Eq _ _ _))); first | ((with_reducible refine (?_ : EW (eCst (D.str _)) _ _)); with_reducible refine' EW.cstS (by with_reducible assumption) ?_) | ((with_reducible refine (?_ : OW fAdd (D.str _) (D.str _) _)); with_reducible refine' OW.addS (by with_unfolding_all (simp only [List.length_append, List.length_cons, List.length_nil]; omega)) ?_) | ((with_reducible refine (?_ : CW fStr _ _)); with_reducible refine' CW.str (by with_reducible assumption) ?_) | ((with_reducible refine (?_ : EW (eGen _ _) _ _)); with_reducible refine' EW.gen ?_) | ((with_reducible refine (?_ : GK _ _ _)); with_reducible refine' GK.of (by with_reducible assumption) ?_) | ((with_reducible refine (?_ : OW fNe (D.lst _) (D.lst _) _)); with_reducible refine' OW.neSelf ?_) | ((with_reducible refine (?_ : OW fEq (D.lst (intsD [_, _, _, _])) (D.lst _) _)); with_reducible refine' OW.eqSelf4 ?_) | ((with_reducible refine (?_ : EW (eComp _ _ (eVar _)) _ _)); with_reducible refine' EW.dgsVar (by with_unfolding_all exact rfl) (by first | with_reducible assumption | with_unfolding_all exact Nat.le_of_ble_eq_true rfl) ?_) | ((with_reducible refine (?_ : EW (eComp _ _ (Mine.e2 fSloS _ _)) _ _)); with_reducible refine' EW.dgsTail (by with_unfolding_all exact rfl) (by with_reducible assumption) ?_) | ((with_reducible refine (?_ : OW fEq (D.lst (List.map chD _)) (D.lst []) _)); with_reducible refine' OW.eqNil (by first | with_reducible assumption | decide) ?_) | ((with_reducible refine (?_ : IfK (List.all _ _) _ _)); with_reducible first | refine' IfK.hT (by first | with_reducible assumption | decide) ?_ | refine' IfK.hF (by first | with_reducible assumption | decide) ?_) | ((with_reducible refine (?_ : CW fInt [D.str _] _)); with_reducible refine' CW.intT (by with_reducible assumption) ?_) | ((with_reducible refine (?_ : CW fLen [D.str _] _)); with_reducible refine' CW.lenS (by first | with_reducible assumption | with_unfolding_all exact Nat.le_of_ble_eq_true rfl) ?_) | ((with_reducible refine (?_ : OW fEq (D.str _) (D.str _) _)); with_reducible first | refine' OW.clT (by decide +kernel) ?_ | refine' OW.clF (by decide +kernel) ?_) | ((with_reducible refine (?_ : OW (fIn false) (D.str _) (D.tup _) _)); with_reducible first | refine' OW.clT (by decide +kernel) ?_ | refine' OW.clF (by decide +kernel) ?_) | ((with_reducible refine (?_ : RW (rPop _ _) _ _ _)); with_reducible refine' RW.pop (by with_unfolding_all exact rfl) (by with_reducible assumption) ?_) | ((with_reducible refine (?_ : RW (rRetG _) _ _ _)); with_reducible refine' RW.retG ?_) | ((with_reducible refine (?_ : IfK (@decide ((1:Int) < (List.length _ : Int)) _) _ _)); with_reducible first | refine' IfK.decT (by first | with_reducible assumption | decide) ?_ | refine' IfK.decF (by first | with_reducible assumption | decide) ?_) | (with_reducible first | refine' CK.ret ?_ | refine' SK.next ?_ | refine' SK.ret ?_ | refine' LK.next ?_ | refine' RW.nil ?_ | refine' RW.seq ?_) | ((with_reducible refine (?_ : RW _ _ _ _)); with_reducible refine' RW.lenOk (by with_unfolding_all exact rfl) ?_) | (with_reducible first | refine' SW.of ?_ | refine' PutAt.of ?_ ?_) | with_reducible exact SetR.z | (with_reducible first | refine' SetR.s3 ?_ | refine' SetR.s ?_) | (with_reducible refine (?_ : SetR _ (0 + 1) _ _)); refine SetR.s ?_ | ((with_reducible refine (?_ : RW _ _ _ _)); with_reducible refine' RW.retF (E := eVar _) (by with_unfolding_all exact rfl) ?_) | (with_reducible first | refine' RW.asg ?_ | refine' RW.ret ?_) | (fail_if_success (have : StopIf := by with_reducible assumption)); (with_reducible refine' RW.if ?_) | (with_reducible first | refine' RW.for ?_ | refine' RW.while ?_ | refine' RW.new ?_) | ((with_reducible refine (?_ : RW _ _ _ _)); with_reducible refine' RW.app (by with_unfolding_all exact rfl) (by first | with_reducible assumption | with_unfolding_all exact Nat.le_of_ble_eq_true rfl) ?_) | ((with_reducible refine (?_ : RW _ _ _ _)); with_reducible refine' RW.aug (by with_unfolding_all exact rfl) ?_) | (with_reducible first | refine' IfK.t ?_ | refine' IfK.f ?_) | (with_reducible refine' IfK.gd ?_; with_reducible refine' IfK.decT (by first | with_reducible assumption | with_unfolding_all omega) ?_) | (with_reducible refine' IfK.gd ?_; with_reducible refine' IfK.decF (by first | with_reducible assumption | with_unfolding_all omega) ?_) | (with_reducible first | refine' NotK.t ?_ | refine' NotK.f ?_ | refine' TruthK.bool ?_) | ((with_reducible refine (?_ : EW (eVar _) _ _)); with_reducible refine' EW.var (by with_unfolding_all exact rfl) ?_) | (with_reducible first | refine' EW.cst ?_ | refine' EW.e1 ?_ | refine' EW.e2 ?_ | refine' EW.call ?_ | refine' EW.tup ?_ | refine' EW.lst ?_ | refine' EW.comp ?_ | refine' EsW.nil ?_ | refine' EsW.cons ?_ | refine' TW.c ?_) | ((with_reducible refine (?_ : TpK _ _)); with_reducible refine' TpK.mk (by with_unfolding_all exact Nat.le_of_ble_eq_true rfl) ?_) | ((with_reducible refine (?_ : LsK _ _)); with_reducible refine' LsK.mk (by with_unfolding_all exact Nat.le_of_ble_eq_true rfl) ?_) | (with_reducible first | refine' TW.tOf ?_ | refine' TW.not ?_ | refine' TW.and ?_) | ((with_reducible refine (?_ : CW _ _ _)); with_reducible refine' CW.of (by with_reducible assumption) ?_) | ((with_reducible refine (?_ : OW _ _ _ _)); with_reducible refine' OW.of (by with_reducible assumption) ?_) | (with_reducible first | refine' OW.add ?_ | refine' OW.addI ?_ | refine' OW.sub ?_ | refine' OW.ord ?_ | refine' OW.eq ?_ | refine' OW.ne ?_) | ((with_reducible refine (?_ : OW fMul _ _ _)); with_reducible refine' OW.mul (by first | with_reducible assumption | with_unfolding_all exact mulOk_sm (by omega) (by omega)) ?_) | ((with_reducible refine (?_ : OW fDiv _ _ _)); with_reducible refine' OW.div (by with_reducible assumption) ?_) | ((with_reducible refine (?_ : OW fMod _ _ _)); with_reducible refine' OW.mod (by first | with_reducible assumption | with_unfolding_all omega) ?_) | ((with_reducible refine (?_ : OW fPow _ _ _)); with_reducible refine' OW.pow (by with_reducible assumption) ?_) | (with_reducible first | refine' UW.neg ?_) | (with_reducible first | refine' CW.abs ?_ | refine' CW.range1 ?_ | refine' CW.range2 ?_) | ((with_reducible refine (?_ : CW _ _ _)); with_reducible refine' CW.fn (by with_unfolding_all (repeat (first | exact StartsAt.nil | apply StartsAt.cons | apply StartsAt.unb))) (by with_unfolding_all exact rfl) ?_))
      have k2 : 1 ≤ k := by
        cases k with
        | zero => have : (10:Nat) ^ 0 = 1 := rfl
                  omega
        | succ k => omega
      obtain ⟨j, rfl⟩ : ∃ j, k = j + 1 := ⟨k - 1, by omega⟩
      refine ⟨j, by omega, s / b, s % b :: fs, ?_, rfl, ?_, ?_, .inr (Nat.div_pos (by omega) (by omega))⟩
      · have : s / b ≤ s / 10 := Nat.div_le_div_left hb (by decide)
        rw [Nat.pow_succ] at hk
        omega
      · rw [hv_cons, List.length_cons, Nat.pow_succ, ← hval]
        have := Nat.div_add_mod s b
        generalize b ^ fs.length = z
        have e : s / b * (z * b) + (s % b * z + hv b fs) = (b * (s / b) + s % b) * z + hv b fs := by
          rw [Nat.add_mul, ← Nat.add_assoc]
          congr 2
          rw [Nat.mul_comm z b, ← Nat.mul_assoc, Nat.mul_comm (s / b) b]
        rw [e, this]
      · intro d hd'
        rcases List.mem_cons.mp hd' with rfl | hd'
        · exact Nat.mod_lt _ (by omega)
        · exact hd d hd'

theorem ok__law_primes {I : GI} (hat : HatI I hd.view_39) (hrange : FunOK I 0 ("range" : Str) fRange) : ∃ d, (recsOf hd.view_39)[6]? = some d ∧ d.name = ("_law_primes" : Str) ∧ ∃ G, FunOK I 1 d.name G ∧
    ∀ (m : Int), -10 ≤ m → m ≤ 30 → G [.int m] = some (.lst (intsD (natI (lpr (m.toNat - 1))))) := by
  refine' ⟨_, rfl, rfl, _, FunOK.of 1000 (i := 6) (ns := ["m", "found", "n", "least"]) (m := 1) hat rfl ⟨rfl, by decide, by decide⟩ (by decide) (fun pm cd doc => vs1 fun a => rfl) rfl rfl ?h, ?g⟩
  case h =>
    dsimp only
    repeat' ((show (_ : Prop)); first | (with_reducible first | refine' RunG.cons ?_ ?_ | refine' RunG.ifS (TrG.cmp (EvG.listGen (by with_unfolding_all exact rfl) (by with_unfolding_all exact rfl) (by with_unfolding_all exact rfl) (by with_unfolding_all exact rfl) (by with_unfolding_all exact fun _ => rfl) (by with_unfolding_all exact fun _ => ⟨_, _, rfl⟩) (by with_unfolding_all exact fun _ => rfl) (by with_unfolding_all exact fun _ => ⟨_, _, rfl⟩) (by with_unfolding_all exact fun _ => rfl) (by assumption) (by assumption) ?_) ?_ ?_ (by with_unfolding_all exact rfl)) ?_ ?_ | refine' RunG.ret (EvG.cmp (EvG.listGen (by with_unfolding_all exact rfl) (by with_unfolding_all exact rfl) (by with_unfolding_all exact rfl) (by with_unfolding_all exact rfl) (by with_unfolding_all exact fun _ => rfl) (by with_unfolding_all exact fun _ => ⟨_, _, rfl⟩) (by with_unfolding_all exact fun _ => rfl) (by with_unfolding_all exact fun _ => ⟨_, _, rfl⟩) (by with_unfolding_all exact fun _ => rfl) (by assumption) (by assumption) ?_) ?_ ?_ (by with_unfolding_all exact rfl)) | refine' RunG.of ?_ | refine' EvOK.split (by with_unfolding_all exact fun _ => rfl) ?_ | refine' RunOK.pop (by with_unfolding_all exact rfl) (by with_unfolding_all exact rfl) (by with_unfolding_all exact rfl) (by with_unfolding_all exact fun _ => rfl) (by with_unfolding_all exact fun _ => rfl) (by with_unfolding_all exact ⟨rfl, by decide, by decide⟩) | exact (RunOK.dead : RunOK _ _ _ _ (exec (.Raise _ _ _)) _) | exact OpOK.add | exact OpOK.sub | exact OpOK.mul | exact OpOK.div | exact OpOK.mod | exact OpOK.pow | exact OpOK.lt | exact OpOK.le | exact OpOK.gt | exact OpOK.ge | exact OpOK.eq | exact OpOK.ne | exact OpOK.isIn | exact OpOK.notInS | exact IOpOK.add | exact IOpOK.mul | exact EvOK.cint | exact EvOK.cstr | exact EvOK.cbool | refine' EvOK.v (by with_unfolding_all exact rfl) (by with_unfolding_all exact rfl) (by with_unfolding_all exact rfl) (by with_unfolding_all exact rfl) | refine' EvOK.bin ?_ ?_ ?_ | refine' EvOK.neg ?_ | refine' EvOK.tup ?_ | refine' EvOK.lst ?_ | refine' EvOK.call' (by with_unfolding_all exact rfl) (by with_unfolding_all exact rfl) (by with_unfolding_all exact rfl) (by with_unfolding_all exact fun _ => rfl) (by with_unfolding_all exact rfl) (by with_unfolding_all exact fun _ => ⟨_, _, rfl⟩) (by with_unfolding_all first | assumption | exact FunOK.le (by assumption) (by decide)) ?_ | refine' EvOK.sliceLoS ?_ ?_ (by with_unfolding_all exact fun _ _ => rfl) | refine' EvOK.subs ?_ ?_ (by with_unfolding_all exact fun _ _ => rfl) | refine' EvOK.comp (by with_unfolding_all exact ⟨by decide, rfl, rfl, by decide, rfl, by decide, by decide⟩) ?_ ?_ ?_ (by with_unfolding_all exact fun _ _ => rfl) | exact EvsOK.nil | refine' EvsOK.cons ?_ ?_ (by with_unfolding_all exact fun _ => rfl) | refine' TestsOK.one ?_ | refine' TrOK.cmp ?_ ?_ ?_ (by with_unfolding_all exact rfl) | refine' TrOK.not ?_ | exact TrOK.and0 | refine' TrOK.and ?_ ?_ | refine' TrOK.plain ?_ (by with_unfolding_all exact fun _ _ => rfl) | exact RunOK.nil | refine' RunOK.cons ?_ ?_ | refine' RunOK.ret ?_ | refine' RunOK.ifS ?_ ?_ ?_ | refine' RunOK.whileS ?_ ?_ | refine' RunOK.new' (by with_unfolding_all exact rfl) (by with_unfolding_all exact fun _ => rfl) (by with_unfolding_all exact ⟨rfl, by decide, by decide⟩) ?_ | refine' RunOK.asg' (by with_unfolding_all exact rfl) (by with_unfolding_all exact fun _ => rfl) (by with_unfolding_all exact ⟨rfl, by decide, by decide⟩) ?_ | refine' RunOK.aug' (by with_unfolding_all exact rfl) (by with_unfolding_all exact ⟨rfl, by decide, by decide⟩) ?_ ?_ | refine' RunOK.for' (by with_unfolding_all exact rfl) (by with_unfolding_all exact fun _ _ => rfl) (by with_unfolding_all exact ⟨rfl, by decide, by decide⟩) ?_ ?_ | refine' RunOK.app' (by with_unfolding_all exact rfl) (by with_unfolding_all exact rfl) (by with_unfolding_all exact fun _ => rfl) (by with_unfolding_all exact fun _ => rfl) (by with_unfolding_all exact fun _ => rfl) (by with_unfolding_all exact ⟨rfl, by decide, by decide⟩) ?_))
  case g =>
    intro m l1 l2
    refine CW.eq ?_
    obtain ⟨U, hU⟩ : ∃ U, m.toNat - 1 = U := ⟨_, rfl⟩
    have hU1 : (m + 1 - 2).toNat = U := by omega
    have hU2 : U ≤ 29 := by omega
    rw [hU]
    repeat' ((fail_if_success (with_reducible refine (?_ : @Eq _ _ _))); first | ((with_reducible refine (?_ : EW (eCst (D.str _)) _ _)); with_reducible refine' EW.cstS (by with_reducible assumption) ?_) | ((with_reducible refine (?_ : OW fAdd (D.str _) (D.str _) _)); with_reducible refine' OW.addS (by with_unfolding_all (simp only [List.length_append, List.length_cons, List.length_nil]; omega)) ?_) | ((with_reducible refine (?_ : CW fStr _ _)); with_reducible refine' CW.str (by with_reducible assumption) ?_) | ((with_reducible refine (?_ : EW (eGen _ _) _ _)); with_reducible refine' EW.gen ?_) | ((with_reducible refine (?_ : GK _ _ _)); with_reducible refine' GK.of (by with_reducible assumption) ?_) | ((with_reducible refine (?_ : OW fNe (D.lst _) (D.lst _) _)); with_reducible refine' OW.neSelf ?_) | ((with_reducible refine (?_ : OW fEq (D.lst (intsD [_, _, _, _])) (D.lst _) _)); with_reducible refine' OW.eqSelf4 ?_) | ((with_reducible refine (?_ : EW (eComp _ _ (eVar _)) _ _)); with_reducible refine' EW.dgsVar (by with_unfolding_all exact rfl) (by first | with_reducible assumption | with_unfolding_all exact Nat.le_of_ble_eq_true rfl) ?_) | ((with_reducible refine (?_ : EW (eComp _ _ (Mine.e2 fSloS _ _)) _ _)); with_reducible refine' EW.dgsTail (by with_unfolding_all exact rfl) (by with_reducible assumption) ?_) | ((with_reducible refine (?_ : OW fEq (D.lst (List.map chD _)) (D.lst []) _)); with_reducible refine' OW.eqNil (by first | with_reducible assumption | decide) ?_) | ((with_reducible refine (?_ : IfK (List.all _ _) _ _)); with_reducible first | refine' IfK.hT (by first | with_reducible assumption | decide) ?_ | refine' IfK.hF (by first | with_reducible assumption | decide) ?_) | ((with_reducible refine (?_ : CW fInt [D.str _] _)); with_reducible refine' CW.intT (by with_reducible assumption) ?_) | ((with_reducible refine (?_ : CW fLen [D.str _] _)); with_reducible refine' CW.lenS (by first | with_reducible assumption | with_unfolding_all exact Nat.le_of_ble_eq_true rfl) ?_) | ((with_reducible refine (?_ : OW fEq (D.str _) (D.str _) _)); with_reducible first | refine' OW.clT (by decide +kernel) ?_ | refine' OW.clF (by decide +kernel) ?_) | ((with_reducible refine (?_ : OW (fIn false) (D.str _) (D.tup _) _)); with_reducible first | refine' OW.clT (by decide +kernel) ?_ | refine' OW.clF (by decide +kernel) ?_) | ((with_reducible refine (?_ : RW (rPop _ _) _ _ _)); with_reducible refine' RW.pop (by with_unfolding_all exact rfl) (by with_reducible assumption) ?_) | ((with_reducible refine (?_ : RW (rRetG _) _ _ _)); with_reducible refine' RW.retG ?_) | ((with_reducible refine (?_ : IfK (@decide ((1:Int) < (List.length _ : Int)) _) _ _)); with_reducible first | refine' IfK.decT (by first | with_reducible assumption | decide) ?_ | refine' IfK.decF (by first | with_reducible assumption | decide) ?_) | (with_reducible first | refine' CK.ret ?_ | refine' SK.next ?_ | refine' SK.ret ?_ | refine' LK.next ?_ | refine' RW.nil ?_ | refine' RW.seq ?_) | ((with_reducible refine (?_ : RW _ _ _ _)); with_reducible refine' RW.lenOk (by with_unfolding_all exact rfl) ?_) | (with_reducible first | refine' SW.of ?_ | refine' PutAt.of ?_ ?_) | with_reducible exact SetR.z | (with_reducible first | refine' SetR.s3 ?_ | refine' SetR.s ?_) | (with_reducible refine (?_ : SetR _ (0 + 1) _ _)); refine SetR.s ?_ | ((with_reducible refine (?_ : RW _ _ _ _)); with_reducible refine' RW.retF (E := eVar _) (by with_unfolding_all exact rfl) ?_) | (with_reducible first | refine' RW.asg ?_ | refine' RW.ret ?_) | (fail_if_success (have : StopIf := by with_reducible assumption)); (with_reducible refine' RW.if ?_) | (with_reducible first | refine' RW.for ?_ | refine' RW.while ?_ | refine' RW.new ?_) | ((with_reducible refine (?_ : RW _ _ _ _)); with_reducible refine' RW.app (by with_unfolding_all exact rfl) (by first | with_reducible assumption | with_unfolding_all exact Nat.le_of_ble_eq_true rfl) ?_) | ((with_reducible refine (?_ : RW _ _ _ _)); with_reducible refine' RW.aug (by with_unfolding_all exact rfl) ?_) | (with_reducible first | refine' IfK.t ?_ | refine' IfK.f ?_) | (with_reducible refine' IfK.gd ?_; with_reducible refine' IfK.decT (by first | with_reducible assumption | with_unfolding_all omega) ?_) | (with_reducible refine' IfK.gd ?_; with_reducible refine' IfK.decF (by first | with_reducible assumption | with_unfolding_all omega) ?_) | (with_reducible first | refine' NotK.t ?_ | refine' NotK.f ?_ | refine' TruthK.bool ?_) | ((with_reducible refine (?_ : EW (eVar _) _ _)); with_reducible refine' EW.var (by with_unfolding_all exact rfl) ?_) | (with_reducible first | refine' EW.cst ?_ | refine' EW.e1 ?_ | refine' EW.e2 ?_ | refine' EW.call ?_ | refine' EW.tup ?_ | refine' EW.lst ?_ | refine' EW.comp ?_ | refine' EsW.nil ?_ | refine' EsW.cons ?_ | refine' TW.c ?_) | ((with_reducible refine (?_ : TpK _ _)); with_reducible refine' TpK.mk (by with_unfolding_all exact Nat.le_of_ble_eq_true rfl) ?_) | ((with_reducible refine (?_ : LsK _ _)); with_reducible refine' LsK.mk (by with_unfolding_all exact Nat.le_of_ble_eq_true rfl) ?_) | (with_reducible first | refine' TW.tOf ?_ | refine' TW.not ?_ | refine' TW.and ?_) | ((with_reducible refine (?_ : CW _ _ _)); with_reducible refine' CW.of (by with_reducible assumption) ?_) | ((with_reducible refine (?_ : OW _ _ _ _)); with_reducible refine' OW.of (by with_reducible assumption) ?_) | (with_reducible first | refine' OW.add ?_ | refine' OW.addI ?_ | refine' OW.sub ?_ | refine' OW.ord ?_ | refine' OW.eq ?_ | refine' OW.ne ?_) | ((with_reducible refine (?_ : OW fMul _ _ _)); with_reducible refine' OW.mul (by first | with_reducible assumption | with_unfolding_all exact mulOk_sm (by omega) (by omega)) ?_) | ((with_reducible refine (?_ : OW fDiv _ _ _)); with_reducible refine' OW.div (by with_reducible assumption) ?_) | ((with_reducible refine (?_ : OW fMod _ _ _)); with_reducible refine' OW.mod (by first | with_reducible assumption | with_unfolding_all omega) ?_) | ((with_reducible refine (?_ : OW fPow _ _ _)); with_reducible refine' OW.pow (by with_reducible assumption) ?_) | (with_reducible first | refine' UW.neg ?_) | (with_reducible first | refine' CW.abs ?_ | refine' CW.range1 ?_ | refine' CW.range2 ?_) | ((with_reducible refine (?_ : CW _ _ _)); with_reducible refine' CW.fn (by with_unfolding_all (repeat (first | exact StartsAt.nil | apply StartsAt.cons | apply StartsAt.unb))) (by with_unfolding_all exact rfl) ?_))
    refine ⟨by decide, ?_⟩
    repeat' ((fail_if_success (with_reducible refine (?_ : @Eq _ _ _))); first | ((with_reducible refine (?_ : EW (eCst (D.str _)) _ _)); with_reducible refine' EW.cstS (by with_reducible assumption) ?_) | ((with_reducible refine (?_ : OW fAdd (D.str _) (D.str _) _)); with_reducible refine' OW.addS (by with_unfolding_all (simp only [List.length_append, List.length_cons, List.length_nil]; omega)) ?_) | ((with_reducible refine (?_ : CW fStr _ _)); with_reducible refine' CW.str (by with_reducible assumption) ?_) | ((with_reducible refine (?_ : EW (eGen _ _) _ _)); with_reducible refine' EW.gen ?_) | ((with_reducible refine (?_ : GK _ _ _)); with_reducible refine' GK.of (by with_reducible assumption) ?_) | ((with_reducible refine (?_ : OW fNe (D.lst _) (D.lst _) _)); with_reducible refine' OW.neSelf ?_) | ((with_reducible refine (?_ : OW fEq (D.lst (intsD [_, _, _, _])) (D.lst _) _)); with_reducible refine' OW.eqSelf4 ?_) | ((with_reducible refine (?_ : EW (eComp _ _ (eVar _)) _ _)); with_reducible refine' EW.dgsVar (by with_unfolding_all exact rfl) (by first | with_reducible assumption | with_unfolding_all exact Nat.le_of_ble_eq_true rfl) ?_) | ((with_reducible refine (?_ : EW (eComp _ _ (Mine.e2 fSloS _ _)) _ _)); with_reducible refine' EW.dgsTail (by with_unfolding_all exact rfl) (by with_reducible assumption) ?_) | ((with_reducible refine (?_ : OW fEq (D.lst (List.map chD _)) (D.lst []) _)); with_reducible refine' OW.eqNil (by first | with_reducible assumption | decide) ?_) | ((with_reducible refine (?_ : IfK (List.all _ _) _ _)); with_reducible first | refine' IfK.hT (by first | with_reducible assumption | decide) ?_ | refine' IfK.hF (by first | with_reducible assumption | decide) ?_) | ((with_reducible refine (?_ : CW fInt [D.str _] _)); with_reducible refine' CW.intT (by with_reducible assumption) ?_) | ((with_reducible refine (?_ : CW fLen [D.str _] _)); with_reducible refine' CW.lenS (by first | with_reducible assumption | with_unfolding_all exact Nat.le_of_ble_eq_true rfl) ?_) | ((with_reducible refine (?_ : OW fEq (D.str _) (D.str _) _)); with_reducible first | refine' OW.clT (by decide +kernel) ?_ | refine' OW.clF (by decide +kernel) ?_) | ((with_reducible refine (?_ : OW (fIn false) (D.str _) (D.tup _) _)); with_reducible first | refine' OW.clT (by decide +kernel) ?_ | refine' OW.clF (by decide +kernel) ?_) | ((with_reducible refine (?_ : RW (rPop _ _) _ _ _)); with_reducible refine' RW.pop (by with_unfolding_all exact rfl) (by with_reducible assumption) ?_) | ((with_reducible refine (?_ : RW (rRetG _) _ _ _)); with_reducible refine' RW.retG ?_) | ((with_reducible refine (?_ : IfK (@decide ((1:Int) < (List.length _ : Int)) _) _ _)); with_reducible first | refine' IfK.decT (by first | with_reducible assumption | decide) ?_ | refine' IfK.decF (by first | with_reducible assumption | decide) ?_) | (with_reducible first | refine' CK.ret ?_ | refine' SK.next ?_ | refine' SK.ret ?_ | refine' LK.next ?_ | refine' RW.nil ?_ | refine' RW.seq ?_) | ((with_reducible refine (?_ : RW _ _ _ _)); with_reducible refine' RW.lenOk (by with_unfolding_all exact rfl) ?_) | (with_reducible first | refine' SW.of ?_ | refine' PutAt.of ?_ ?_) | with_reducible exact SetR.z | (with_reducible first | refine' SetR.s3 ?_ | refine' SetR.s ?_) | (with_reducible refine (?_ : SetR _ (0 + 1) _ _)); refine SetR.s ?_ | ((with_reducible refine (?_ : RW _ _ _ _)); with_reducible refine' RW.retF (E := eVar _) (by with_unfolding_all exact rfl) ?_) | (with_reducible first | refine' RW.asg ?_ | refine' RW.ret ?_) | (fail_if_success (have : StopIf := by with_reducible assumption)); (with_reducible refine' RW.if ?_) | (with_reducible first | refine' RW.for ?_ | refine' RW.while ?_ | refine' RW.new ?_) | ((with_reducible refine (?_ : RW _ _ _ _)); with_reducible refine' RW.app (by with_unfolding_all exact rfl) (by first | with_reducible assumption | with_unfolding_all exact Nat.le_of_ble_eq_true rfl) ?_) | ((with_reducible refine (?_ : RW _ _ _ _)); with_reducible refine' RW.aug (by with_unfolding_all exact rfl) ?_) | (with_reducible first | refine' IfK.t ?_ | refine' IfK.f ?_) | (with_reducible refine' IfK.gd ?_; with_reducible refine' IfK.decT (by first | with_reducible assumption | with_unfolding_all omega) ?_) | (with_reducible refine' IfK.gd ?_; with_reducible refine' IfK.decF (by first | with_reducible assumption | with_unfolding_all omega) ?_) | (with_reducible first | refine' NotK.t ?_ | refine' NotK.f ?_ | refine' TruthK.bool ?_) | ((with_reducible refine (?_ : EW (eVar _) _ _)); with_reducible refine' EW.var (by with_unfolding_all exact rfl) ?_) | (with_reducible first | refine' EW.cst ?_ | refine' EW.e1 ?_ | refine' EW.e2 ?_ | refine' EW.call ?_ | refine' EW.tup ?_ | refine' EW.lst ?_ | refine' EW.comp ?_ | refine' EsW.nil ?_ | refine' EsW.cons ?_ | refine' TW.c ?_) | ((with_reducible refine (?_ : TpK _ _)); with_reducible refine' TpK.mk (by with_unfolding_all exact Nat.le_of_ble_eq_true rfl) ?_) | ((with_reducible refine (?_ : LsK _ _)); with_reducible refine' LsK.mk (by with_unfolding_all exact Nat.le_of_ble_eq_true rfl) ?_) | (with_reducible first | refine' TW.tOf ?_ | refine' TW.not ?_ | refine' TW.and ?_) | ((with_reducible refine (?_ : CW _ _ _)); with_reducible refine' CW.of (by with_reducible assumption) ?_) | ((with_reducible refine (?_ : OW _ _ _ _)); with_reducible refine' OW.of (by with_reducible assumption) ?_) | (with_reducible first | refine' OW.add ?_ | refine' OW.addI ?_ | refine' OW.sub ?_ | refine' OW.ord ?_ | refine' OW.eq ?_ | refine' OW.ne ?_) | ((with_reducible refine (?_ : OW fMul _ _ _)); with_reducible refine' OW.mul (by first | with_reducible assumption | with_unfolding_all exact mulOk_sm (by omega) (by omega)) ?_) | ((with_reducible refine (?_ : OW fDiv _ _ _)); with_reducible refine' OW.div (by with_reducible assumption) ?_) | ((with_reducible refine (?_ : OW fMod _ _ _)); with_reducible refine' OW.mod (by first | with_reducible assumption | with_unfolding_all omega) ?_) | ((with_reducible refine (?_ : OW fPow _ _ _)); with_reducible refine' OW.pow (by with_reducible assumption) ?_) | (with_reducible first | refine' UW.neg ?_) | (with_reducible first | refine' CW.abs ?_ | refine' CW.range1 ?_ | refine' CW.range2 ?_) | ((with_reducible refine (?_ : CW _ _ _)); with_reducible refine' CW.fn (by with_unfolding_all (repeat (first | exact StartsAt.nil | apply StartsAt.cons | apply StartsAt.unb))) (by with_unfolding_all exact rfl) ?_))
    refine ForK.of rfl (items_rng (a := 2) (b := m + 1) (by decide) (by decide) (by omega) (by omega) (by omega)) (LW.inv (fun ds σ => ∃ (T : Nat) (s1 s2 : Slot), T ≤ U ∧ ds = intsD (upI ((T : Int) + 2) (U - T)) ∧ σ = [.imm (.int m), .mt (intsD (natI (lpr T))), s1, s2]) ⟨0, _, _, Nat.zero_le _, by rw [hU1]; rfl, rfl⟩ ?_ ?_)
    · rintro d' ds σ ⟨T, s1, s2, hT, e, rfl⟩
      clear hU hU1
      rcases Nat.lt_or_ge T U with ht | ht
      · obtain ⟨u, hu, hu2⟩ := sub_next ht
        rw [hu, upI_succ, intsD_cons] at e
        cases e
        clear hu
        have nx : (T : Int) + 2 + 1 = ((T + 1 : Nat) : Int) + 2 := by omega
        have fl : (intsD (natI (lpr T))).length ≤ 10000 := by
          rw [intsD_length, natI_length]
          exact Nat.le_trans (lpr_length T) (by omega)
        have nT : (T : Int) + 2 = ((T + 2 : Nat) : Int) := by omega
        refine ⟨rfl, ?_⟩
        repeat' ((fail_if_success (with_reducible refine (?_ : @Eq _ _ _))); first | ((with_reducible refine (?_ : EW (eCst (D.str _)) _ _)); with_reducible refine' EW.cstS (by with_reducible assumption) ?_) | ((with_reducible refine (?_ : OW fAdd (D.str _) (D.str _) _)); with_reducible refine' OW.addS (by with_unfolding_all (simp only [List.length_append, List.length_cons, List.length_nil]; omega)) ?_) | ((with_reducible refine (?_ : CW fStr _ _)); with_reducible refine' CW.str (by with_reducible assumption) ?_) | ((with_reducible refine (?_ : EW (eGen _ _) _ _)); with_reducible refine' EW.gen ?_) | ((with_reducible refine (?_ : GK _ _ _)); with_reducible refine' GK.of (by with_reducible assumption) ?_) | ((with_reducible refine (?_ : OW fNe (D.lst _) (D.lst _) _)); with_reducible refine' OW.neSelf ?_) | ((with_reducible refine (?_ : OW fEq (D.lst (intsD [_, _, _, _])) (D.lst _) _)); with_reducible refine' OW.eqSelf4 ?_) | ((with_reducible refine (?_ : EW (eComp _ _ (eVar _)) _ _)); with_reducible refine' EW.dgsVar (by with_unfolding_all exact rfl) (by first | with_reducible assumption | with_unfolding_all exact Nat.le_of_ble_eq_true rfl) ?_) | ((with_reducible refine (?_ : EW (eComp _ _ (Mine.e2 fSloS _ _)) _ _)); with_reducible refine' EW.dgsTail (by with_unfolding_all exact rfl) (by with_reducible assumption) ?_) | ((with_reducible refine (?_ : OW fEq (D.lst (List.map chD _)) (D.lst []) _)); with_reducible refine' OW.eqNil (by first | with_reducible assumption | decide) ?_) | ((with_reducible refine (?_ : IfK (List.all _ _) _ _)); with_reducible first | refine' IfK.hT (by first | with_reducible assumption | decide) ?_ | refine' IfK.hF (by first | with_reducible assumption | decide) ?_) | ((with_reducible refine (?_ : CW fInt [D.str _] _)); with_reducible refine' CW.intT (by with_reducible assumption) ?_) | ((with_reducible refine (?_ : CW fLen [D.str _] _)); with_reducible refine' CW.lenS (by first | with_reducible assumption | with_unfolding_all exact Nat.le_of_ble_eq_true rfl) ?_) | ((with_reducible refine (?_ : OW fEq (D.str _) (D.str _) _)); with_reducible first | refine' OW.clT (by decide +kernel) ?_ | refine' OW.clF (by decide +kernel) ?_) | ((with_reducible refine (?_ : OW (fIn false) (D.str _) (D.tup _) _)); with_reducible first | refine' OW.clT (by decide +kernel) ?_ | refine' OW.clF (by decide +kernel) ?_) | ((with_reducible refine (?_ : RW (rPop _ _) _ _ _)); with_reducible refine' RW.pop (by with_unfolding_all exact rfl) (by with_reducible assumption) ?_) | ((with_reducible refine (?_ : RW (rRetG _) _ _ _)); with_reducible refine' RW.retG ?_) | ((with_reducible refine (?_ : IfK (@decide ((1:Int) < (List.length _ : Int)) _) _ _)); with_reducible first | refine' IfK.decT (by first | with_reducible assumption | decide) ?_ | refine' IfK.decF (by first | with_reducible assumption | decide) ?_) | (with_reducible first | refine' CK.ret ?_ | refine' SK.next ?_ | refine' SK.ret ?_ | refine' LK.next ?_ | refine' RW.nil ?_ | refine' RW.seq ?_) | ((with_reducible refine (?_ : RW _ _ _ _)); with_reducible refine' RW.lenOk (by with_unfolding_all exact rfl) ?_) | (with_reducible first | refine' SW.of ?_ | refine' PutAt.of ?_ ?_) | with_reducible exact SetR.z | (with_reducible first | refine' SetR.s3 ?_ | refine' SetR.s ?_) | (with_reducible refine (?_ : SetR _ (0 + 1) _ _)); refine SetR.s ?_ | ((with_reducible refine (?_ : RW _ _ _ _)); with_reducible refine' RW.retF (E := eVar _) (by with_unfolding_all exact rfl) ?_) | (with_reducible first | refine' RW.asg ?_ | refine' RW.ret ?_) | (fail_if_success (have : StopIf := by with_reducible assumption)); (with_reducible refine' RW.if ?_) | (with_reducible first | refine' RW.for ?_ | refine' RW.while ?_ | refine' RW.new ?_) | ((with_reducible refine (?_ : RW _ _ _ _)); with_reducible refine' RW.app (by with_unfolding_all exact rfl) (by first | with_reducible assumption | with_unfolding_all exact Nat.le_of_ble_eq_true rfl) ?_) | ((with_reducible refine (?_ : RW _ _ _ _)); with_reducible refine' RW.aug (by with_unfolding_all exact rfl) ?_) | (with_reducible first | refine' IfK.t ?_ | refine' IfK.f ?_) | (with_reducible refine' IfK.gd ?_; with_reducible refine' IfK.decT (by first | with_reducible assumption | with_unfolding_all omega) ?_) | (with_reducible refine' IfK.gd ?_; with_reducible refine' IfK.decF (by first | with_reducible assumption | with_unfolding_all omega) ?_) | (with_reducible first | refine' NotK.t ?_ | refine' NotK.f ?_ | refine' TruthK.bool ?_) | ((with_reducible refine (?_ : EW (eVar _) _ _)); with_reducible refine' EW.var (by with_unfolding_all exact rfl) ?_) | (with_reducible first | refine' EW.cst ?_ | refine' EW.e1 ?_ | refine' EW.e2 ?_ | refine' EW.call ?_ | refine' EW.tup ?_ | refine' EW.lst ?_ | refine' EW.comp ?_ | refine' EsW.nil ?_ | refine' EsW.cons ?_ | refine' TW.c ?_) | ((with_reducible refine (?_ : TpK _ _)); with_reducible refine' TpK.mk (by with_unfolding_all exact Nat.le_of_ble_eq_true rfl) ?_) | ((with_reducible refine (?_ : LsK _ _)); with_reducible refine' LsK.mk (by with_unfolding_all exact Nat.le_of_ble_eq_true rfl) ?_) | (with_reducible first | refine' TW.tOf ?_ | refine' TW.not ?_ | refine' TW.and ?_) | ((with_reducible refine (?_ : CW _ _ _)); with_reducible refine' CW.of (by with_reducible assumption) ?_) | ((with_reducible refine (?_ : OW _ _ _ _)); with_reducible refine' OW.of (by with_reducible assumption) ?_) | (with_reducible first | refine' OW.add ?_ | refine' OW.addI ?_ | refine' OW.sub ?_ | refine' OW.ord ?_ | refine' OW.eq ?_ | refine' OW.ne ?_) | ((with_reducible refine (?_ : OW fMul _ _ _)); with_reducible refine' OW.mul (by first | with_reducible assumption | with_unfolding_all exact mulOk_sm (by omega) (by omega)) ?_) | ((with_reducible refine (?_ : OW fDiv _ _ _)); with_reducible refine' OW.div (by with_reducible assumption) ?_) | ((with_reducible refine (?_ : OW fMod _ _ _)); with_reducible refine' OW.mod (by first | with_reducible assumption | with_unfolding_all omega) ?_) | ((with_reducible refine (?_ : OW fPow _ _ _)); with_reducible refine' OW.pow (by with_reducible assumption) ?_) | (with_reducible first | refine' UW.neg ?_) | (with_reducible first | refine' CW.abs ?_ | refine' CW.range1 ?_ | refine' CW.range2 ?_) | ((with_reducible refine (?_ : CW _ _ _)); with_reducible refine' CW.fn (by with_unfolding_all (repeat (first | exact StartsAt.nil | apply StartsAt.cons | apply StartsAt.unb))) (by with_unfolding_all exact rfl) ?_))
        refine WW.inv (fun k σ => ∃ j : Nat, 2 ≤ j ∧ j ≤ T + 2 ∧ k + j = T + 2 ∧ (∀ d, 2 ≤ d → d < j → (T + 2) % d ≠ 0) ∧ σ = [.imm (.int m), .mt (intsD (natI (lpr T))), .imm (.int ((T : Int) + 2)), .imm (.int (j : Nat))]) (k := T) ⟨2, by decide, by omega, by omega, fun d a b => absurd a (by omega), rfl⟩ (by omega) ?_
        rintro k σ ⟨j, j1, j2, jk, hj, rfl⟩
        have j0 : (j : Int) ≠ 0 := by omega
        have em : ((T : Int) + 2).fmod (j : Int) = (((T + 2) % j : Nat) : Int) := by rw [nT, fmod_nat]
        by_cases c : (T + 2) % j = 0
        · have c' : ¬ ((T : Int) + 2).fmod (j : Int) ≠ 0 := by rw [em, c]; simp
          repeat' ((fail_if_success (with_reducible refine (?_ : @Eq _ _ _))); first | ((with_reducible refine (?_ : EW (eCst (D.str _)) _ _)); with_reducible refine' EW.cstS (by with_reducible assumption) ?_) | ((with_reducible refine (?_ : OW fAdd (D.str _) (D.str _) _)); with_reducible refine' OW.addS (by with_unfolding_all (simp only [List.length_append, List.length_cons, List.length_nil]; omega)) ?_) | ((with_reducible refine (?_ : CW fStr _ _)); with_reducible refine' CW.str (by with_reducible assumption) ?_) | ((with_reducible refine (?_ : EW (eGen _ _) _ _)); with_reducible refine' EW.gen ?_) | ((with_reducible refine (?_ : GK _ _ _)); with_reducible refine' GK.of (by with_reducible assumption) ?_) | ((with_reducible refine (?_ : OW fNe (D.lst _) (D.lst _) _)); with_reducible refine' OW.neSelf ?_) | ((with_reducible refine (?_ : OW fEq (D.lst (intsD [_, _, _, _])) (D.lst _) _)); with_reducible refine' OW.eqSelf4 ?_) | ((with_reducible refine (?_ : EW (eComp _ _ (eVar _)) _ _)); with_reducible refine' EW.dgsVar (by with_unfolding_all exact rfl) (by first | with_reducible assumption | with_unfolding_all exact Nat.le_of_ble_eq_true rfl) ?_) | ((with_reducible refine (?_ : EW (eComp _ _ (Mine.e2 fSloS _ _)) _ _)); with_reducible refine' EW.dgsTail (by with_unfolding_all exact rfl) (by with_reducible assumption) ?_) | ((with_reducible refine (?_ : OW fEq (D.lst (List.map chD _)) (D.lst []) _)); with_reducible refine' OW.eqNil (by first | with_reducible assumption | decide) ?_) | ((with_reducible refine (?_ : IfK (List.all _ _) _ _)); with_reducible first | refine' IfK.hT (by first | with_reducible assumption | decide) ?_ | refine' IfK.hF (by first | with_reducible assumption | decide) ?_) | ((with_reducible refine (?_ : CW fInt [D.str _] _)); with_reducible refine' CW.intT (by with_reducible assumption) ?_) | ((with_reducible refine (?_ : CW fLen [D.str _] _)); with_reducible refine' CW.lenS (by first | with_reducible assumption | with_unfolding_all exact Nat.le_of_ble_eq_true rfl) ?_) | ((with_reducible refine (?_ : OW fEq (D.str _) (D.str _) _)); with_reducible first | refine' OW.clT (by decide +kernel) ?_ | refine' OW.clF (by decide +kernel) ?_) | ((with_reducible refine (?_ : OW (fIn false) (D.str _) (D.tup _) _)); with_reducible first | refine' OW.clT (by decide +kernel) ?_ | refine' OW.clF (by decide +kernel) ?_) | ((with_reducible refine (?_ : RW (rPop _ _) _ _ _)); with_reducible refine' RW.pop (by with_unfolding_all exact rfl) (by with_reducible assumption) ?_) | ((with_reducible refine (?_ : RW (rRetG _) _ _ _)); with_reducible refine' RW.retG ?_) | ((with_reducible refine (?_ : IfK (@decide ((1:Int) < (List.length _ : Int)) _) _ _)); with_reducible first | refine' IfK.decT (by first | with_reducible assumption | decide) ?_ | refine' IfK.decF (by first | with_reducible assumption | decide) ?_) | (with_reducible first | refine' CK.ret ?_ | refine' SK.next ?_ | refine' SK.ret ?_ | refine' LK.next ?_ | refine' RW.nil ?_ | refine' RW.seq ?_) | ((with_reducible refine (?_ : RW _ _ _ _)); with_reducible refine' RW.lenOk (by with_unfolding_all exact rfl) ?_) | (with_reducible first | refine' SW.of ?_ | refine' PutAt.of ?_ ?_) | with_reducible exact SetR.z | (with_reducible first | refine' SetR.s3 ?_ | refine' SetR.s ?_) | (with_reducible refine (?_ : SetR _ (0 + 1) _ _)); refine SetR.s ?_ | ((with_reducible refine (?_ : RW _ _ _ _)); with_reducible refine' RW.retF (E := eVar _) (by with_unfolding_all exact rfl) ?_) | (with_reducible first | refine' RW.asg ?_ | refine' RW.ret ?_) | (fail_if_success (have : StopIf := by with_reducible assumption)); (with_reducible refine' RW.if ?_) | (with_reducible first | refine' RW.for ?_ | refine' RW.while ?_ | refine' RW.new ?_) | ((with_reducible refine (?_ : RW _ _ _ _)); with_reducible refine' RW.app (by with_unfolding_all exact rfl) (by first | with_reducible assumption | with_unfolding_all exact Nat.le_of_ble_eq_true rfl) ?_) | ((with_reducible refine (?_ : RW _ _ _ _)); with_reducible refine' RW.aug (by with_unfolding_all exact rfl) ?_) | (with_reducible first | refine' IfK.t ?_ | refine' IfK.f ?_) | (with_reducible refine' IfK.gd ?_; with_reducible refine' IfK.decT (by first | with_reducible assumption | with_unfolding_all omega) ?_) | (with_reducible refine' IfK.gd ?_; with_reducible refine' IfK.decF (by first | with_reducible assumption | with_unfolding_all omega) ?_) | (with_reducible first | refine' NotK.t ?_ | refine' NotK.f ?_ | refine' TruthK.bool ?_) | ((with_reducible refine (?_ : EW (eVar _) _ _)); with_reducible refine' EW.var (by with_unfolding_all exact rfl) ?_) | (with_reducible first | refine' EW.cst ?_ | refine' EW.e1 ?_ | refine' EW.e2 ?_ | refine' EW.call ?_ | refine' EW.tup ?_ | refine' EW.lst ?_ | refine' EW.comp ?_ | refine' EsW.nil ?_ | refine' EsW.cons ?_ | refine' TW.c ?_) | ((with_reducible refine (?_ : TpK _ _)); with_reducible refine' TpK.mk (by with_unfolding_all exact Nat.le_of_ble_eq_true rfl) ?_) | ((with_reducible refine (?_ : LsK _ _)); with_reducible refine' LsK.mk (by with_unfolding_all exact Nat.le_of_ble_eq_true rfl) ?_) | (with_reducible first | refine' TW.tOf ?_ | refine' TW.not ?_ | refine' TW.and ?_) | ((with_reducible refine (?_ : CW _ _ _)); with_reducible refine' CW.of (by with_reducible assumption) ?_) | ((with_reducible refine (?_ : OW _ _ _ _)); with_reducible refine' OW.of (by with_reducible assumption) ?_) | (with_reducible first | refine' OW.add ?_ | refine' OW.addI ?_ | refine' OW.sub ?_ | refine' OW.ord ?_ | refine' OW.eq ?_ | refine' OW.ne ?_) | ((with_reducible refine (?_ : OW fMul _ _ _)); with_reducible refine' OW.mul (by first | with_reducible assumption | with_unfolding_all exact mulOk_sm (by omega) (by omega)) ?_) | ((with_reducible refine (?_ : OW fDiv _ _ _)); with_reducible refine' OW.div (by with_reducible assumption) ?_) | ((with_reducible refine (?_ : OW fMod _ _ _)); with_reducible refine' OW.mod (by first | with_reducible assumption | with_unfolding_all omega) ?_) | ((with_reducible refine (?_ : OW fPow _ _ _)); with_reducible refine' OW.pow (by with_reducible assumption) ?_) | (with_reducible first | refine' UW.neg ?_) | (with_reducible first | refine' CW.abs ?_ | refine' CW.range1 ?_ | refine' CW.range2 ?_) | ((with_reducible refine (?_ : CW _ _ _)); with_reducible refine' CW.fn (by with_unfolding_all (repeat (first | exact StartsAt.nil | apply StartsAt.cons | apply StartsAt.unb))) (by with_unfolding_all exact rfl) ?_))
          by_cases cj : (j : Int) = (T : Int) + 2
          · have hp : isPr (T + 2) = true := by
              unfold isPr
              rw [List.all_eq_true]
              intro d hd
              have hd' := List.mem_range.mp hd
              by_cases d2 : d < 2
              · simp [d2]
              · have := hj d (by omega) (by omega)
                simp [this]
            have el : lpr (T + 1) = lpr T ++ [T + 2] := by rw [lpr, lprS, if_pos hp]
            repeat' ((fail_if_success (with_reducible refine (?_ : @Eq _ _ _))); first | ((with_reducible refine (?_ : EW (eCst (D.str _)) _ _)); with_reducible refine' EW.cstS (by with_reducible assumption) ?_) | ((with_reducible refine (?_ : OW fAdd (D.str _) (D.str _) _)); with_reducible refine' OW.addS (by with_unfolding_all (simp only [List.length_append, List.length_cons, List.length_nil]; omega)) ?_) | ((with_reducible refine (?_ : CW fStr _ _)); with_reducible refine' CW.str (by with_reducible assumption) ?_) | ((with_reducible refine (?_ : EW (eGen _ _) _ _)); with_reducible refine' EW.gen ?_) | ((with_reducible refine (?_ : GK _ _ _)); with_reducible refine' GK.of (by with_reducible assumption) ?_) | ((with_reducible refine (?_ : OW fNe (D.lst _) (D.lst _) _)); with_reducible refine' OW.neSelf ?_) | ((with_reducible refine (?_ : OW fEq (D.lst (intsD [_, _, _, _])) (D.lst _) _)); with_reducible refine' OW.eqSelf4 ?_) | ((with_reducible refine (?_ : EW (eComp _ _ (eVar _)) _ _)); with_reducible refine' EW.dgsVar (by with_unfolding_all exact rfl) (by first | with_reducible assumption | with_unfolding_all exact Nat.le_of_ble_eq_true rfl) ?_) | ((with_reducible refine (?_ : EW (eComp _ _ (Mine.e2 fSloS _ _)) _ _)); with_reducible refine' EW.dgsTail (by with_unfolding_all exact rfl) (by with_reducible assumption) ?_) | ((with_reducible refine (?_ : OW fEq (D.lst (List.map chD _)) (D.lst []) _)); with_reducible refine' OW.eqNil (by first | with_reducible assumption | decide) ?_) | ((with_reducible refine (?_ : IfK (List.all _ _) _ _)); with_reducible first | refine' IfK.hT (by first | with_reducible assumption | decide) ?_ | refine' IfK.hF (by first | with_reducible assumption | decide) ?_) | ((with_reducible refine (?_ : CW fInt [D.str _] _)); with_reducible refine' CW.intT (by with_reducible assumption) ?_) | ((with_reducible refine (?_ : CW fLen [D.str _] _)); with_reducible refine' CW.lenS (by first | with_reducible assumption | with_unfolding_all exact Nat.le_of_ble_eq_true rfl) ?_) | ((with_reducible refine (?_ : OW fEq (D.str _) (D.str _) _)); with_reducible first | refine' OW.clT (by decide +kernel) ?_ | refine' OW.clF (by decide +kernel) ?_) | ((with_reducible refine (?_ : OW (fIn false) (D.str _) (D.tup _) _)); with_reducible first | refine' OW.clT (by decide +kernel) ?_ | refine' OW.clF (by decide +kernel) ?_) | ((with_reducible refine (?_ : RW (rPop _ _) _ _ _)); with_reducible refine' RW.pop (by with_unfolding_all exact rfl) (by with_reducible assumption) ?_) | ((with_reducible refine (?_ : RW (rRetG _) _ _ _)); with_reducible refine' RW.retG ?_) | ((with_reducible refine (?_ : IfK (@decide ((1:Int) < (List.length _ : Int)) _) _ _)); with_reducible first | refine' IfK.decT (by first | with_reducible assumption | decide) ?_ | refine' IfK.decF (by first | with_reducible assumption | decide) ?_) | (with_reducible first | refine' CK.ret ?_ | refine' SK.next ?_ | refine' SK.ret ?_ | refine' LK.next ?_ | refine' RW.nil ?_ | refine' RW.seq ?_) | ((with_reducible refine (?_ : RW _ _ _ _)); with_reducible refine' RW.lenOk (by with_unfolding_all exact rfl) ?_) | (with_reducible first | refine' SW.of ?_ | refine' PutAt.of ?_ ?_) | with_reducible exact SetR.z | (with_reducible first | refine' SetR.s3 ?_ | refine' SetR.s ?_) | (with_reducible refine (?_ : SetR _ (0 + 1) _ _)); refine SetR.s ?_ | ((with_reducible refine (?_ : RW _ _ _ _)); with_reducible refine' RW.retF (E := eVar _) (by with_unfolding_all exact rfl) ?_) | (with_reducible first | refine' RW.asg ?_ | refine' RW.ret ?_) | (fail_if_success (have : StopIf := by with_reducible assumption)); (with_reducible refine' RW.if ?_) | (with_reducible first | refine' RW.for ?_ | refine' RW.while ?_ | refine' RW.new ?_) | ((with_reducible refine (?_ : RW _ _ _ _)); with_reducible refine' RW.app (by with_unfolding_all exact rfl) (by first | with_reducible assumption | with_unfolding_all exact Nat.le_of_ble_eq_true rfl) ?_) | ((with_reducible refine (?_ : RW _ _ _ _)); with_reducible refine' RW.aug (by with_unfolding_all exact rfl) ?_) | (with_reducible first | refine' IfK.t ?_ | refine' IfK.f ?_) | (with_reducible refine' IfK.gd ?_; with_reducible refine' IfK.decT (by first | with_reducible assumption | with_unfolding_all omega) ?_) | (with_reducible refine' IfK.gd ?_; with_reducible refine' IfK.decF (by first | with_reducible assumption | with_unfolding_all omega) ?_) | (with_reducible first | refine' NotK.t ?_ | refine' NotK.f ?_ | refine' TruthK.bool ?_) | ((with_reducible refine (?_ : EW (eVar _) _ _)); with_reducible refine' EW.var (by with_unfolding_all exact rfl) ?_) | (with_reducible first | refine' EW.cst ?_ | refine' EW.e1 ?_ | refine' EW.e2 ?_ | refine' EW.call ?_ | refine' EW.tup ?_ | refine' EW.lst ?_ | refine' EW.comp ?_ | refine' EsW.nil ?_ | refine' EsW.cons ?_ | refine' TW.c ?_) | ((with_reducible refine (?_ : TpK _ _)); with_reducible refine' TpK.mk (by with_unfolding_all exact Nat.le_of_ble_eq_true rfl) ?_) | ((with_reducible refine (?_ : LsK _ _)); with_reducible refine' LsK.mk (by with_unfolding_all exact Nat.le_of_ble_eq_true rfl) ?_) | (with_reducible first | refine' TW.tOf ?_ | refine' TW.not ?_ | refine' TW.and ?_) | ((with_reducible refine (?_ : CW _ _ _)); with_reducible refine' CW.of (by with_reducible assumption) ?_) | ((with_reducible refine (?_ : OW _ _ _ _)); with_reducible refine' OW.of (by with_reducible assumption) ?_) | (with_reducible first | refine' OW.add ?_ | refine' OW.addI ?_ | refine' OW.sub ?_ | refine' OW.ord ?_ | refine' OW.eq ?_ | refine' OW.ne ?_) | ((with_reducible refine (?_ : OW fMul _ _ _)); with_reducible refine' OW.mul (by first | with_reducible assumption | with_unfolding_all exact mulOk_sm (by omega) (by omega)) ?_) | ((with_reducible refine (?_ : OW fDiv _ _ _)); with_reducible refine' OW.div (by with_reducible assumption) ?_) | ((with_reducible refine (?_ : OW fMod _ _ _)); with_reducible refine' OW.mod (by first | with_reducible assumption | with_unfolding_all omega) ?_) | ((with_reducible refine (?_ : OW fPow _ _ _)); with_reducible refine' OW.pow (by with_reducible assumption) ?_) | (with_reducible first | refine' UW.neg ?_) | (with_reducible first | refine' CW.abs ?_ | refine' CW.range1 ?_ | refine' CW.range2 ?_) | ((with_reducible refine (?_ : CW _ _ _)); with_reducible refine' CW.fn (by with_unfolding_all (repeat (first | exact StartsAt.nil | apply StartsAt.cons | apply StartsAt.unb))) (by with_unfolding_all exact rfl) ?_))
            refine ⟨T + 1, .imm (.int ((T : Int) + 2)), .imm (.int (j : Nat)), ht, by rw [nx, hu2], ?_⟩
            rw [el]
            simp [natI, intsD]
          · have hp : ¬ isPr (T + 2) = true := by
              intro hp
              unfold isPr at hp
              rw [List.all_eq_true] at hp
              have := hp j (List.mem_range.mpr (by omega))
              have d2 : ¬ j < 2 := by omega
              simp [d2, c] at this
            have el : lpr (T + 1) = lpr T := by rw [lpr, lprS, if_neg hp]
            repeat' ((fail_if_success (with_reducible refine (?_ : @Eq _ _ _))); first | ((with_reducible refine (?_ : EW (eCst (D.str _)) _ _)); with_reducible refine' EW.cstS (by with_reducible assumption) ?_) | ((with_reducible refine (?_ : OW fAdd (D.str _) (D.str _) _)); with_reducible refine' OW.addS (by with_unfolding_all (simp only [List.length_append, List.length_cons, List.length_nil]; omega)) ?_) | ((with_reducible refine (?_ : CW fStr _ _)); with_reducible refine' CW.str (by with_reducible assumption) ?_) | ((with_reducible refine (?_ : EW (eGen _ _) _ _)); with_reducible refine' EW.gen ?_) | ((with_reducible refine (?_ : GK _ _ _)); with_reducible refine' GK.of (by with_reducible assumption) ?_) | ((with_reducible refine (?_ : OW fNe (D.lst _) (D.lst _) _)); with_reducible refine' OW.neSelf ?_) | ((with_reducible refine (?_ : OW fEq (D.lst (intsD [_, _, _, _])) (D.lst _) _)); with_reducible refine' OW.eqSelf4 ?_) | ((with_reducible refine (?_ : EW (eComp _ _ (eVar _)) _ _)); with_reducible refine' EW.dgsVar (by with_unfolding_all exact rfl) (by first | with_reducible assumption | with_unfolding_all exact Nat.le_of_ble_eq_true rfl) ?_) | ((with_reducible refine (?_ : EW (eComp _ _ (Mine.e2 fSloS _ _)) _ _)); with_reducible refine' EW.dgsTail (by with_unfolding_all exact rfl) (by with_reducible assumption) ?_) | ((with_reducible refine (?_ : OW fEq (D.lst (List.map chD _)) (D.lst []) _)); with_reducible refine' OW.eqNil (by first | with_reducible assumption | decide) ?_) | ((with_reducible refine (?_ : IfK (List.all _ _) _ _)); with_reducible first | refine' IfK.hT (by first | with_reducible assumption | decide) ?_ | refine' IfK.hF (by first | with_reducible assumption | decide) ?_) | ((with_reducible refine (?_ : CW fInt [D.str _] _)); with_reducible refine' CW.intT (by with_reducible assumption) ?_) | ((with_reducible refine (?_ : CW fLen [D.str _] _)); with_reducible refine' CW.lenS (by first | with_reducible assumption | with_unfolding_all exact Nat.le_of_ble_eq_true rfl) ?_) | ((with_reducible refine (?_ : OW fEq (D.str _) (D.str _) _)); with_reducible first | refine' OW.clT (by decide +kernel) ?_ | refine' OW.clF (by decide +kernel) ?_) | ((with_reducible refine (?_ : OW (fIn false) (D.str _) (D.tup _) _)); with_reducible first | refine' OW.clT (by decide +kernel) ?_ | refine' OW.clF (by decide +kernel) ?_) | ((with_reducible refine (?_ : RW (rPop _ _) _ _ _)); with_reducible refine' RW.pop (by with_unfolding_all exact rfl) (by with_reducible assumption) ?_) | ((with_reducible refine (?_ : RW (rRetG _) _ _ _)); with_reducible refine' RW.retG ?_) | ((with_reducible refine (?_ : IfK (@decide ((1:Int) < (List.length _ : Int)) _) _ _)); with_reducible first | refine' IfK.decT (by first | with_reducible assumption | decide) ?_ | refine' IfK.decF (by first | with_reducible assumption | decide) ?_) | (with_reducible first | refine' CK.ret ?_ | refine' SK.next ?_ | refine' SK.ret ?_ | refine' LK.next ?_ | refine' RW.nil ?_ | refine' RW.seq ?_) | ((with_reducible refine (?_ : RW _ _ _ _)); with_reducible refine' RW.lenOk (by with_unfolding_all exact rfl) ?_) | (with_reducible first | refine' SW.of ?_ | refine' PutAt.of ?_ ?_) | with_reducible exact SetR.z | (with_reducible first | refine' SetR.s3 ?_ | refine' SetR.s ?_) | (with_reducible refine (?_ : SetR _ (0 + 1) _ _)); refine SetR.s ?_ | ((with_reducible refine (?_ : RW _ _ _ _)); with_reducible refine' RW.retF (E := eVar _) (by with_unfolding_all exact rfl) ?_) | (with_reducible first | refine' RW.asg ?_ | refine' RW.ret ?_) | (fail_if_success (have : StopIf := by with_reducible assumption)); (with_reducible refine' RW.if ?_) | (with_reducible first | refine' RW.for ?_ | refine' RW.while ?_ | refine' RW.new ?_) | ((with_reducible refine (?_ : RW _ _ _ _)); with_reducible refine' RW.app (by with_unfolding_all exact rfl) (by first | with_reducible assumption | with_unfolding_all exact Nat.le_of_ble_eq_true rfl) ?_) | ((with_reducible refine (?_ : RW _ _ _ _)); with_reducible refine' RW.aug (by with_unfolding_all exact rfl) ?_) | (with_reducible first | refine' IfK.t ?_ | refine' IfK.f ?_) | (with_reducible refine' IfK.gd ?_; with_reducible refine' IfK.decT (by first | with_reducible assumption | with_unfolding_all omega) ?_) | (with_reducible refine' IfK.gd ?_; with_reducible refine' IfK.decF (by first | with_reducible assumption | with_unfolding_all omega) ?_) | (with_reducible first | refine' NotK.t ?_ | refine' NotK.f ?_ | refine' TruthK.bool ?_) | ((with_reducible refine (?_ : EW (eVar _) _ _)); with_reducible refine' EW.var (by with_unfolding_all exact rfl) ?_) | (with_reducible first | refine' EW.cst ?_ | refine' EW.e1 ?_ | refine' EW.e2 ?_ | refine' EW.call ?_ | refine' EW.tup ?_ | refine' EW.lst ?_ | refine' EW.comp ?_ | refine' EsW.nil ?_ | refine' EsW.cons ?_ | refine' TW.c ?_) | ((with_reducible refine (?_ : TpK _ _)); with_reducible refine' TpK.mk (by with_unfolding_all exact Nat.le_of_ble_eq_true rfl) ?_) | ((with_reducible refine (?_ : LsK _ _)); with_reducible refine' LsK.mk (by with_unfolding_all exact Nat.le_of_ble_eq_true rfl) ?_) | (with_reducible first | refine' TW.tOf ?_ | refine' TW.not ?_ | refine' TW.and ?_) | ((with_reducible refine (?_ : CW _ _ _)); with_reducible refine' CW.of (by with_reducible assumption) ?_) | ((with_reducible refine (?_ : OW _ _ _ _)); with_reducible refine' OW.of (by with_reducible assumption) ?_) | (with_reducible first | refine' OW.add ?_ | refine' OW.addI ?_ | refine' OW.sub ?_ | refine' OW.ord ?_ | refine' OW.eq ?_ | refine' OW.ne ?_) | ((with_reducible refine (?_ : OW fMul _ _ _)); with_reducible refine' OW.mul (by first | with_reducible assumption | with_unfolding_all exact mulOk_sm (by omega) (by omega)) ?_) | ((with_reducible refine (?_ : OW fDiv _ _ _)); with_reducible refine' OW.div (by with_reducible assumption) ?_) | ((with_reducible refine (?_ : OW fMod _ _ _)); with_reducible refine' OW.mod (by first | with_reducible assumption | with_unfolding_all omega) ?_) | ((with_reducible refine (?_ : OW fPow _ _ _)); with_reducible refine' OW.pow (by with_reducible assumption) ?_) | (with_reducible first | refine' UW.neg ?_) | (with_reducible first | refine' CW.abs ?_ | refine' CW.range1 ?_ | refine' CW.range2 ?_) | ((with_reducible refine (?_ : CW _ _ _)); with_reducible refine' CW.fn (by with_unfolding_all (repeat (first | exact StartsAt.nil | apply StartsAt.cons | apply StartsAt.unb))) (by with_unfolding_all exact rfl) ?_))
            exact ⟨T + 1, .imm (.int ((T : Int) + 2)), .imm (.int (j : Nat)), ht, by rw [nx, hu2], by rw [el]⟩
        · have c' : ((T : Int) + 2).fmod (j : Int) ≠ 0 := by rw [em]; omega
          have jn : j ≠ T + 2 := fun q => c (by rw [q]; exact Nat.mod_self _)
          repeat' ((fail_if_success (with_reducible refine (?_ : @Eq _ _ _))); first | ((with_reducible refine (?_ : EW (eCst (D.str _)) _ _)); with_reducible refine' EW.cstS (by with_reducible assumption) ?_) | ((with_reducible refine (?_ : OW fAdd (D.str _) (D.str _) _)); with_reducible refine' OW.addS (by with_unfolding_all (simp only [List.length_append, List.length_cons, List.length_nil]; omega)) ?_) | ((with_reducible refine (?_ : CW fStr _ _)); with_reducible refine' CW.str (by with_reducible assumption) ?_) | ((with_reducible refine (?_ : EW (eGen _ _) _ _)); with_reducible refine' EW.gen ?_) | ((with_reducible refine (?_ : GK _ _ _)); with_reducible refine' GK.of (by with_reducible assumption) ?_) | ((with_reducible refine (?_ : OW fNe (D.lst _) (D.lst _) _)); with_reducible refine' OW.neSelf ?_) | ((with_reducible refine (?_ : OW fEq (D.lst (intsD [_, _, _, _])) (D.lst _) _)); with_reducible refine' OW.eqSelf4 ?_) | ((with_reducible refine (?_ : EW (eComp _ _ (eVar _)) _ _)); with_reducible refine' EW.dgsVar (by with_unfolding_all exact rfl) (by first | with_reducible assumption | with_unfolding_all exact Nat.le_of_ble_eq_true rfl) ?_) | ((with_reducible refine (?_ : EW (eComp _ _ (Mine.e2 fSloS _ _)) _ _)); with_reducible refine' EW.dgsTail (by with_unfolding_all exact rfl) (by with_reducible assumption) ?_) | ((with_reducible refine (?_ : OW fEq (D.lst (List.map chD _)) (D.lst []) _)); with_reducible refine' OW.eqNil (by first | with_reducible assumption | decide) ?_) | ((with_reducible refine (?_ : IfK (List.all _ _) _ _)); with_reducible first | refine' IfK.hT (by first | with_reducible assumption | decide) ?_ | refine' IfK.hF (by first | with_reducible assumption | decide) ?_) | ((with_reducible refine (?_ : CW fInt [D.str _] _)); with_reducible refine' CW.intT (by with_reducible assumption) ?_) | ((with_reducible refine (?_ : CW fLen [D.str _] _)); with_reducible refine' CW.lenS (by first | with_reducible assumption | with_unfolding_all exact Nat.le_of_ble_eq_true rfl) ?_) | ((with_reducible refine (?_ : OW fEq (D.str _) (D.str _) _)); with_reducible first | refine' OW.clT (by decide +kernel) ?_ | refine' OW.clF (by decide +kernel) ?_) | ((with_reducible refine (?_ : OW (fIn false) (D.str _) (D.tup _) _)); with_reducible first | refine' OW.clT (by decide +kernel) ?_ | refine' OW.clF (by decide +kernel) ?_) | ((with_reducible refine (?_ : RW (rPop _ _) _ _ _)); with_reducible refine' RW.pop (by with_unfolding_all exact rfl) (by with_reducible assumption) ?_) | ((with_reducible refine (?_ : RW (rRetG _) _ _ _)); with_reducible refine' RW.retG ?_) | ((with_reducible refine (?_ : IfK (@decide ((1:Int) < (List.length _ : Int)) _) _ _)); with_reducible first | refine' IfK.decT (by first | with_reducible assumption | decide) ?_ | refine' IfK.decF (by first | with_reducible assumption | decide) ?_) | (with_reducible first | refine' CK.ret ?_ | refine' SK.next ?_ | refine' SK.ret ?_ | refine' LK.next ?_ | refine' RW.nil ?_ | refine' RW.seq ?_) | ((with_reducible refine (?_ : RW _ _ _ _)); with_reducible refine' RW.lenOk (by with_unfolding_all exact rfl) ?_) | (with_reducible first | refine' SW.of ?_ | refine' PutAt.of ?_ ?_) | with_reducible exact SetR.z | (with_reducible first | refine' SetR.s3 ?_ | refine' SetR.s ?_) | (with_reducible refine (?_ : SetR _ (0 + 1) _ _)); refine SetR.s ?_ | ((with_reducible refine (?_ : RW _ _ _ _)); with_reducible refine' RW.retF (E := eVar _) (by with_unfolding_all exact rfl) ?_) | (with_reducible first | refine' RW.asg ?_ | refine' RW.ret ?_) | (fail_if_success (have : StopIf := by with_reducible assumption)); (with_reducible refine' RW.if ?_) | (with_reducible first | refine' RW.for ?_ | refine' RW.while ?_ | refine' RW.new ?_) | ((with_reducible refine (?_ : RW _ _ _ _)); with_reducible refine' RW.app (by with_unfolding_all exact rfl) (by first | with_reducible assumption | with_unfolding_all exact Nat.le_of_ble_eq_true rfl) ?_) | ((with_reducible refine (?_ : RW _ _ _ _)); with_reducible refine' RW.aug (by with_unfolding_all exact rfl) ?_) | (with_reducible first | refine' IfK.t ?_ | refine' IfK.f ?_) | (with_reducible refine' IfK.gd ?_; with_reducible refine' IfK.decT (by first | with_reducible assumption | with_unfolding_all omega) ?_) | (with_reducible refine' IfK.gd ?_; with_reducible refine' IfK.decF (by first | with_reducible assumption | with_unfolding_all omega) ?_) | (with_reducible first | refine' NotK.t ?_ | refine' NotK.f ?_ | refine' TruthK.bool ?_) | ((with_reducible refine (?_ : EW (eVar _) _ _)); with_reducible refine' EW.var (by with_unfolding_all exact rfl) ?_) | (with_reducible first | refine' EW.cst ?_ | refine' EW.e1 ?_ | refine' EW.e2 ?_ | refine' EW.call ?_ | refine' EW.tup ?_ | refine' EW.lst ?_ | refine' EW.comp ?_ | refine' EsW.nil ?_ | refine' EsW.cons ?_ | refine' TW.c ?_) | ((with_reducible refine (?_ : TpK _ _)); with_reducible refine' TpK.mk (by with_unfolding_all exact Nat.le_of_ble_eq_true rfl) ?_) | ((with_reducible refine (?_ : LsK _ _)); with_reducible refine' LsK.mk (by with_unfolding_all exact Nat.le_of_ble_eq_true rfl) ?_) | (with_reducible first | refine' TW.tOf ?_ | refine' TW.not ?_ | refine' TW.and ?_) | ((with_reducible refine (?_ : CW _ _ _)); with_reducible refine' CW.of (by with_reducible assumption) ?_) | ((with_reducible refine (?_ : OW _ _ _ _)); with_reducible refine' OW.of (by with_reducible assumption) ?_) | (with_reducible first | refine' OW.add ?_ | refine' OW.addI ?_ | refine' OW.sub ?_ | refine' OW.ord ?_ | refine' OW.eq ?_ | refine' OW.ne ?_) | ((with_reducible refine (?_ : OW fMul _ _ _)); with_reducible refine' OW.mul (by first | with_reducible assumption | with_unfolding_all exact mulOk_sm (by omega) (by omega)) ?_) | ((with_reducible refine (?_ : OW fDiv _ _ _)); with_reducible refine' OW.div (by with_reducible assumption) ?_) | ((with_reducible refine (?_ : OW fMod _ _ _)); with_reducible refine' OW.mod (by first | with_reducible assumption | with_unfolding_all omega) ?_) | ((with_reducible refine (?_ : OW fPow _ _ _)); with_reducible refine' OW.pow (by with_reducible assumption) ?_) | (with_reducible first | refine' UW.neg ?_) | (with_reducible first | refine' CW.abs ?_ | refine' CW.range1 ?_ | refine' CW.range2 ?_) | ((with_reducible refine (?_ : CW _ _ _)); with_reducible refine' CW.fn (by with_unfolding_all (repeat (first | exact StartsAt.nil | apply StartsAt.cons | apply StartsAt.unb))) (by with_unfolding_all exact rfl) ?_))
          refine ⟨k - 1, by omega, j + 1, by omega, by omega, by omega, ?_, rfl⟩
          intro d a b q
          by_cases dj : d = j
          · exact c (dj ▸ q)
          · exact hj d a (by omega) q
      · rw [Nat.sub_eq_zero_of_le ht] at e
        cases e
    rintro σ ⟨T, s1, s2, hT, e, rfl⟩
    rcases Nat.lt_or_ge T U with ht | ht
    · obtain ⟨u, hu, _⟩ := sub_next ht
      rw [hu, upI_succ, intsD_cons] at e
      cases e
    · have eT : T = U := Nat.le_antisymm hT ht
      rw [eT]
      repeat' ((fail_if_success (with_reducible refine (?_ : @Eq _ _ _))); first | ((with_reducible refine (?_ : EW (eCst (D.str _)) _ _)); with_reducible refine' EW.cstS (by with_reducible assumption) ?_) | ((with_reducible refine (?_ : OW fAdd (D.str _) (D.str _) _)); with_reducible refine' OW.addS (by with_unfolding_all (simp only [List.length_append, List.length_cons, List.length_nil]; omega)) ?_) | ((with_reducible refine (?_ : CW fStr _ _)); with_reducible refine' CW.str (by with_reducible assumption) ?_) | ((with_reducible refine (?_ : EW (eGen _ _) _ _)); with_reducible refine' EW.gen ?_) | ((with_reducible refine (?_ : GK _ _ _)); with_reducible refine' GK.of (by with_reducible assumption) ?_) | ((with_reducible refine (?_ : OW fNe (D.lst _) (D.lst _) _)); with_reducible refine' OW.neSelf ?_) | ((with_reducible refine (?_ : OW fEq (D.lst (intsD [_, _, _, _])) (D.lst _) _)); with_reducible refine' OW.eqSelf4 ?_) | ((with_reducible refine (?_ : EW (eComp _ _ (eVar _)) _ _)); with_reducible refine' EW.dgsVar (by with_unfolding_all exact rfl) (by first | with_reducible assumption | with_unfolding_all exact Nat.le_of_ble_eq_true rfl) ?_) | ((with_reducible refine (?_ : EW (eComp _ _ (Mine.e2 fSloS _ _)) _ _)); with_reducible refine' EW.dgsTail (by with_unfolding_all exact rfl) (by with_reducible assumption) ?_) | ((with_reducible refine (?_ : OW fEq (D.lst (List.map chD _)) (D.lst []) _)); with_reducible refine' OW.eqNil (by first | with_reducible assumption | decide) ?_) | ((with_reducible refine (?_ : IfK (List.all _ _) _ _)); with_reducible first | refine' IfK.hT (by first | with_reducible assumption | decide) ?_ | refine' IfK.hF (by first | with_reducible assumption | decide) ?_) | ((with_reducible refine (?_ : CW fInt [D.str _] _)); with_reducible refine' CW.intT (by with_reducible assumption) ?_) | ((with_reducible refine (?_ : CW fLen [D.str _] _)); with_reducible refine' CW.lenS (by first | with_reducible assumption | with_unfolding_all exact Nat.le_of_ble_eq_true rfl) ?_) | ((with_reducible refine (?_ : OW fEq (D.str _) (D.str _) _)); with_reducible first | refine' OW.clT (by decide +kernel) ?_ | refine' OW.clF (by decide +kernel) ?_) | ((with_reducible refine (?_ : OW (fIn false) (D.str _) (D.tup _) _)); with_reducible first | refine' OW.clT (by decide +kernel) ?_ | refine' OW.clF (by decide +kernel) ?_) | ((with_reducible refine (?_ : RW (rPop _ _) _ _ _)); with_reducible refine' RW.pop (by with_unfolding_all exact rfl) (by with_reducible assumption) ?_) | ((with_reducible refine (?_ : RW (rRetG _) _ _ _)); with_reducible refine' RW.retG ?_) | ((with_reducible refine (?_ : IfK (@decide ((1:Int) < (List.length _ : Int)) _) _ _)); with_reducible first | refine' IfK.decT (by first | with_reducible assumption | decide) ?_ | refine' IfK.decF (by first | with_reducible assumption | decide) ?_) | (with_reducible first | refine' CK.ret ?_ | refine' SK.next ?_ | refine' SK.ret ?_ | refine' LK.next ?_ | refine' RW.nil ?_ | refine' RW.seq ?_) | ((with_reducible refine (?_ : RW _ _ _ _)); with_reducible refine' RW.lenOk (by with_unfolding_all exact rfl) ?_) | (with_reducible first | refine' SW.of ?_ | refine' PutAt.of ?_ ?_) | with_reducible exact SetR.z | (with_reducible first | refine' SetR.s3 ?_ | refine' SetR.s ?_) | (with_reducible refine (?_ : SetR _ (0 + 1) _ _)); refine SetR.s ?_ | ((with_reducible refine (?_ : RW _ _ _ _)); with_reducible refine' RW.retF (E := eVar _) (by with_unfolding_all exact rfl) ?_) | (with_reducible first | refine' RW.asg ?_ | refine' RW.ret ?_) | (fail_if_success (have : StopIf := by with_reducible assumption)); (with_reducible refine' RW.if ?_) | (with_reducible first | refine' RW.for ?_ | refine' RW.while ?_ | refine' RW.new ?_) | ((with_reducible refine (?_ : RW _ _ _ _)); with_reducible refine' RW.app (by with_unfolding_all exact rfl) (by first | with_reducible assumption | with_unfolding_all exact Nat.le_of_ble_eq_true rfl) ?_) | ((with_reducible refine (?_ : RW _ _ _ _)); with_reducible refine' RW.aug (by with_unfolding_all exact rfl) ?_) | (with_reducible first | refine' IfK.t ?_ | refine' IfK.f ?_) | (with_reducible refine' IfK.gd ?_; with_reducible refine' IfK.decT (by first | with_reducible assumption | with_unfolding_all omega) ?_) | (with_reducible refine' IfK.gd ?_; with_reducible refine' IfK.decF (by first | with_reducible assumption | with_unfolding_all omega) ?_) | (with_reducible first | refine' NotK.t ?_ | refine' NotK.f ?_ | refine' TruthK.bool ?_) | ((with_reducible refine (?_ : EW (eVar _) _ _)); with_reducible refine' EW.var (by with_unfolding_all exact rfl) ?_) | (with_reducible first | refine' EW.cst ?_ | refine' EW.e1 ?_ | refine' EW.e2 ?_ | refine' EW.call ?_ | refine' EW.tup ?_ | refine' EW.lst ?_ | refine' EW.comp ?_ | refine' EsW.nil ?_ | refine' EsW.cons ?_ | refine' TW.c ?_) | ((with_reducible refine (?_ : TpK _ _)); with_reducible refine' TpK.mk (by with_unfolding_all exact Nat.le_of_ble_eq_true rfl) ?_) | ((with_reducible refine (?_ : LsK _ _)); with_reducible refine' LsK.mk (by with_unfolding_all exact Nat.le_of_ble_eq_true rfl) ?_) | (with_reducible first | refine' TW.tOf ?_ | refine' TW.not ?_ | refine' TW.and ?_) | ((with_reducible refine (?_ : CW _ _ _)); with_reducible refine' CW.of (by with_reducible assumption) ?_) | ((with_reducible refine (?_ : OW _ _ _ _)); with_reducible refine' OW.of (by with_reducible assumption) ?_) | (with_reducible first | refine' OW.add ?_ | refine' OW.addI ?_ | refine' OW.sub ?_ | refine' OW.ord ?_ | refine' OW.eq ?_ | refine' OW.ne ?_) | ((with_reducible refine (?_ : OW fMul _ _ _)); with_reducible refine' OW.mul (by first | with_reducible assumption | with_unfolding_all exact mulOk_sm (by omega) (by omega)) ?_) | ((with_reducible refine (?_ : OW fDiv _ _ _)); with_reducible refine' OW.div (by with_reducible assumption) ?_) | ((with_reducible refine (?_ : OW fMod _ _ _)); with_reducible refine' OW.mod (by first | with_reducible assumption | with_unfolding_all omega) ?_) | ((with_reducible refine (?_ : OW fPow _ _ _)); with_reducible refine' OW.pow (by with_reducible assumption) ?_) | (with_reducible first | refine' UW.neg ?_) | (with_reducible first | refine' CW.abs ?_ | refine' CW.range1 ?_ | refine' CW.range2 ?_) | ((with_reducible refine (?_ : CW _ _ _)); with_reducible refine' CW.fn (by with_unfolding_all (repeat (first | exact StartsAt.nil | apply StartsAt.cons | apply StartsAt.unb))) (by with_unfolding_all exact rfl) ?_))
      rfl

theorem ok_law {I : GI} (hat : HatI I hd.view_39) (hlist : I.mg ("list" : Str) = none) (hstr : FunOK I 0 ("str" : Str) fStr) (habs : FunOK I 0 ("abs" : Str) fAbs) (hlen : FunOK I 0 ("len" : Str) fLen) (hrange : FunOK I 0 ("range" : Str) fRange) {fG : List D → Option (List Int)} (hG : GenList I 3 ("rpn" : Str) fG) (sG : ∀ (l : List Nat) (ts : List (List Nat)) (vals : List Int), l.length ≤ 9999 → wordsL [] l = ts → ts.length ≤ 5000 → Runs ts [] vals → fG [.str (mkS l)] = some vals) {f3 f4 f5 f6 : List D → Option D} (h3 : FunOK I 1 ("_law_at" : Str) f3) (h4 : FunOK I 1 ("_law_cut" : Str) f4) (h5 : FunOK I 1 ("_law_figures" : Str) f5) (h6 : FunOK I 1 ("_law_primes" : Str) f6) (s3 : ∀ (ns : List Int) (p : Nat), ns.length ≤ 63 → p ≤ 100 → f3 [.lst (intsD ns), .int (p : Nat)] = some (.int (atI [2026, 0, 1, 8] ns p))) (s4 : ∀ (v t : Int), t ≠ 0 → f4 [.int v, .int t] = some (.int (cutI v t))) (s5 : ∀ (N b : Nat), 10 ≤ b → b < 10 ^ 10 → N < 10 ^ 61 → ∃ F : List Nat, f5 [.int (N : Nat), .int (b : Nat)] = some (.lst (intsD (natI F))) ∧ F ≠ [] ∧ (∀ d ∈ F, d < b) ∧ hv b F = N ∧ F.length ≤ 62) (s6 : ∀ (m : Int), -10 ≤ m → m ≤ 30 → f6 [.int m] = some (.lst (intsD (natI (lpr (m.toNat - 1)))))) : ∃ d, (recsOf hd.view_39)[7]? = some d ∧ d.name = ("law" : Str) ∧ ∃ G, FunG I 4 d.name G ∧
    ∀ (ns : List Int), ns.length ≤ 63 → G [.lst (intsD ns)] = some (.bool true) := by
  refine' ⟨_, rfl, rfl, _, FunG.of 1000 (i := 7) (ns := ["script", "n", "base", "figures", "text", "place", "turn", "figure", "m", "down", "primes", "p", "part", "word"]) (m := 1) hat rfl ⟨rfl, by decide, by decide⟩ (by decide) (fun pm cd doc => vs1 fun a => rfl) rfl rfl ?h, ?g⟩
  case h =>
    dsimp only
    repeat' ((show (_ : Prop)); first | (with_reducible first | refine' RunG.cons ?_ ?_ | refine' RunG.ifS (TrG.cmp (EvG.listGen (by with_unfolding_all exact rfl) (by with_unfolding_all exact rfl) (by with_unfolding_all exact rfl) (by with_unfolding_all exact rfl) (by with_unfolding_all exact fun _ => rfl) (by with_unfolding_all exact fun _ => ⟨_, _, rfl⟩) (by with_unfolding_all exact fun _ => rfl) (by with_unfolding_all exact fun _ => ⟨_, _, rfl⟩) (by with_unfolding_all exact fun _ => rfl) (by assumption) (by assumption) ?_) ?_ ?_ (by with_unfolding_all exact rfl)) ?_ ?_ | refine' RunG.ret (EvG.cmp (EvG.listGen (by with_unfolding_all exact rfl) (by with_unfolding_all exact rfl) (by with_unfolding_all exact rfl) (by with_unfolding_all exact rfl) (by with_unfolding_all exact fun _ => rfl) (by with_unfolding_all exact fun _ => ⟨_, _, rfl⟩) (by with_unfolding_all exact fun _ => rfl) (by with_unfolding_all exact fun _ => ⟨_, _, rfl⟩) (by with_unfolding_all exact fun _ => rfl) (by assumption) (by assumption) ?_) ?_ ?_ (by with_unfolding_all exact rfl)) | refine' RunG.of ?_ | refine' EvOK.split (by with_unfolding_all exact fun _ => rfl) ?_ | refine' RunOK.pop (by with_unfolding_all exact rfl) (by with_unfolding_all exact rfl) (by with_unfolding_all exact rfl) (by with_unfolding_all exact fun _ => rfl) (by with_unfolding_all exact fun _ => rfl) (by with_unfolding_all exact ⟨rfl, by decide, by decide⟩) | exact (RunOK.dead : RunOK _ _ _ _ (exec (.Raise _ _ _)) _) | exact OpOK.add | exact OpOK.sub | exact OpOK.mul | exact OpOK.div | exact OpOK.mod | exact OpOK.pow | exact OpOK.lt | exact OpOK.le | exact OpOK.gt | exact OpOK.ge | exact OpOK.eq | exact OpOK.ne | exact OpOK.isIn | exact OpOK.notInS | exact IOpOK.add | exact IOpOK.mul | exact EvOK.cint | exact EvOK.cstr | exact EvOK.cbool | refine' EvOK.v (by with_unfolding_all exact rfl) (by with_unfolding_all exact rfl) (by with_unfolding_all exact rfl) (by with_unfolding_all exact rfl) | refine' EvOK.bin ?_ ?_ ?_ | refine' EvOK.neg ?_ | refine' EvOK.tup ?_ | refine' EvOK.lst ?_ | refine' EvOK.call' (by with_unfolding_all exact rfl) (by with_unfolding_all exact rfl) (by with_unfolding_all exact rfl) (by with_unfolding_all exact fun _ => rfl) (by with_unfolding_all exact rfl) (by with_unfolding_all exact fun _ => ⟨_, _, rfl⟩) (by with_unfolding_all first | assumption | exact FunOK.le (by assumption) (by decide)) ?_ | refine' EvOK.sliceLoS ?_ ?_ (by with_unfolding_all exact fun _ _ => rfl) | refine' EvOK.subs ?_ ?_ (by with_unfolding_all exact fun _ _ => rfl) | refine' EvOK.comp (by with_unfolding_all exact ⟨by decide, rfl, rfl, by decide, rfl, by decide, by decide⟩) ?_ ?_ ?_ (by with_unfolding_all exact fun _ _ => rfl) | exact EvsOK.nil | refine' EvsOK.cons ?_ ?_ (by with_unfolding_all exact fun _ => rfl) | refine' TestsOK.one ?_ | refine' TrOK.cmp ?_ ?_ ?_ (by with_unfolding_all exact rfl) | refine' TrOK.not ?_ | exact TrOK.and0 | refine' TrOK.and ?_ ?_ | refine' TrOK.plain ?_ (by with_unfolding_all exact fun _ _ => rfl) | exact RunOK.nil | refine' RunOK.cons ?_ ?_ | refine' RunOK.ret ?_ | refine' RunOK.ifS ?_ ?_ ?_ | refine' RunOK.whileS ?_ ?_ | refine' RunOK.new' (by with_unfolding_all exact rfl) (by with_unfolding_all exact fun _ => rfl) (by with_unfolding_all exact ⟨rfl, by decide, by decide⟩) ?_ | refine' RunOK.asg' (by with_unfolding_all exact rfl) (by with_unfolding_all exact fun _ => rfl) (by with_unfolding_all exact ⟨rfl, by decide, by decide⟩) ?_ | refine' RunOK.aug' (by with_unfolding_all exact rfl) (by with_unfolding_all exact ⟨rfl, by decide, by decide⟩) ?_ ?_ | refine' RunOK.for' (by with_unfolding_all exact rfl) (by with_unfolding_all exact fun _ _ => rfl) (by with_unfolding_all exact ⟨rfl, by decide, by decide⟩) ?_ ?_ | refine' RunOK.app' (by with_unfolding_all exact rfl) (by with_unfolding_all exact rfl) (by with_unfolding_all exact fun _ => rfl) (by with_unfolding_all exact fun _ => rfl) (by with_unfolding_all exact fun _ => rfl) (by with_unfolding_all exact ⟨rfl, by decide, by decide⟩) ?_))
  case g =>
    intro ns hns
    have c1 : Str.ofString " " = mkS [32] := by decide +kernel
    have c2 : Str.ofString " * " = mkS [32, 42, 32] := by decide +kernel
    have c3 : Str.ofString " x " = mkS [32, 120, 32] := by decide +kernel
    have c4 : Str.ofString " +" = mkS [32, 43] := by decide +kernel
    have c5 : Str.ofString "0 " = mkS [48, 32] := by decide +kernel
    have c6 : Str.ofString " -" = mkS [32, 45] := by decide +kernel
    have c7 : Str.ofString " /" = mkS [32, 47] := by decide +kernel
    have c8 : Str.ofString " //" = mkS [32, 47, 47] := by decide +kernel
    have c9 : Str.ofString " %" = mkS [32, 37] := by decide +kernel
    have c10 : Str.ofString " ! " = mkS [32, 33, 32] := by decide +kernel
    have c11 : Str.ofString " # " = mkS [32, 35, 32] := by decide +kernel
    have c12 : Str.ofString " f " = mkS [32, 102, 32] := by decide +kernel
    have c13 : Str.ofString " p" = mkS [32, 112] := by decide +kernel
    have p60 : powOk 10 60 = true := by decide
    have p9 : powOk 10 9 = true := by decide
    have m9 : (10 : Int) ^ (9 : Int).toNat + 7 ≠ 0 := by decide
    have x0 : f3 [.lst (intsD ns), .int 0] = some (.int (atI [2026, 0, 1, 8] ns 0)) := s3 ns 0 hns (by decide)
    have x1 : f3 [.lst (intsD ns), .int 1] = some (.int (atI [2026, 0, 1, 8] ns 1)) := s3 ns 1 hns (by decide)
    have x2 : f3 [.lst (intsD ns), .int 2] = some (.int (atI [2026, 0, 1, 8] ns 2)) := s3 ns 2 hns (by decide)
    have x3 : f3 [.lst (intsD ns), .int 3] = some (.int (atI [2026, 0, 1, 8] ns 3)) := s3 ns 3 hns (by decide)
    generalize atI [2026, 0, 1, 8] ns 0 = v0 at *
    generalize atI [2026, 0, 1, 8] ns 1 = v1 at *
    generalize atI [2026, 0, 1, 8] ns 2 = v2 at *
    generalize atI [2026, 0, 1, 8] ns 3 = v3 at *
    have y0 := s4 v0 (10 ^ (60 : Int).toNat + 7) (by decide)
    have nb : (cutI v0 (10 ^ (60 : Int).toNat + 7)).natAbs < 10 ^ 61 := Nat.lt_trans (cutI_lt (by decide)) (by decide)
    generalize cutI v0 (10 ^ (60 : Int).toNat + 7) = n at *
    obtain ⟨b, hb, hb1, hb2⟩ := base_nat v1
    have hN : (if n < 0 then -n else n) = ((n.natAbs : Nat) : Int) := by split <;> omega
    refine CW.eq ?_
    repeat' ((fail_if_success (with_reducible refine (?_ : @Eq _ _ _))); first | ((with_reducible refine (?_ : EW (eCst (D.str _)) _ _)); with_reducible refine' EW.cstS (by with_reducible assumption) ?_) | ((with_reducible refine (?_ : OW fAdd (D.str _) (D.str _) _)); with_reducible refine' OW.addS (by with_unfolding_all (simp only [List.length_append, List.length_cons, List.length_nil]; omega)) ?_) | ((with_reducible refine (?_ : CW fStr _ _)); with_reducible refine' CW.str (by with_reducible assumption) ?_) | ((with_reducible refine (?_ : EW (eGen _ _) _ _)); with_reducible refine' EW.gen ?_) | ((with_reducible refine (?_ : GK _ _ _)); with_reducible refine' GK.of (by with_reducible assumption) ?_) | ((with_reducible refine (?_ : OW fNe (D.lst _) (D.lst _) _)); with_reducible refine' OW.neSelf ?_) | ((with_reducible refine (?_ : OW fEq (D.lst (intsD [_, _, _, _])) (D.lst _) _)); with_reducible refine' OW.eqSelf4 ?_) | ((with_reducible refine (?_ : EW (eComp _ _ (eVar _)) _ _)); with_reducible refine' EW.dgsVar (by with_unfolding_all exact rfl) (by first | with_reducible assumption | with_unfolding_all exact Nat.le_of_ble_eq_true rfl) ?_) | ((with_reducible refine (?_ : EW (eComp _ _ (Mine.e2 fSloS _ _)) _ _)); with_reducible refine' EW.dgsTail (by with_unfolding_all exact rfl) (by with_reducible assumption) ?_) | ((with_reducible refine (?_ : OW fEq (D.lst (List.map chD _)) (D.lst []) _)); with_reducible refine' OW.eqNil (by first | with_reducible assumption | decide) ?_) | ((with_reducible refine (?_ : IfK (List.all _ _) _ _)); with_reducible first | refine' IfK.hT (by first | with_reducible assumption | decide) ?_ | refine' IfK.hF (by first | with_reducible assumption | decide) ?_) | ((with_reducible refine (?_ : CW fInt [D.str _] _)); with_reducible refine' CW.intT (by with_reducible assumption) ?_) | ((with_reducible refine (?_ : CW fLen [D.str _] _)); with_reducible refine' CW.lenS (by first | with_reducible assumption | with_unfolding_all exact Nat.le_of_ble_eq_true rfl) ?_) | ((with_reducible refine (?_ : OW fEq (D.str _) (D.str _) _)); with_reducible first | refine' OW.clT (by decide +kernel) ?_ | refine' OW.clF (by decide +kernel) ?_) | ((with_reducible refine (?_ : OW (fIn false) (D.str _) (D.tup _) _)); with_reducible first | refine' OW.clT (by decide +kernel) ?_ | refine' OW.clF (by decide +kernel) ?_) | ((with_reducible refine (?_ : RW (rPop _ _) _ _ _)); with_reducible refine' RW.pop (by with_unfolding_all exact rfl) (by with_reducible assumption) ?_) | ((with_reducible refine (?_ : RW (rRetG _) _ _ _)); with_reducible refine' RW.retG ?_) | ((with_reducible refine (?_ : IfK (@decide ((1:Int) < (List.length _ : Int)) _) _ _)); with_reducible first | refine' IfK.decT (by first | with_reducible assumption | decide) ?_ | refine' IfK.decF (by first | with_reducible assumption | decide) ?_) | (with_reducible first | refine' CK.ret ?_ | refine' SK.next ?_ | refine' SK.ret ?_ | refine' LK.next ?_ | refine' RW.nil ?_ | refine' RW.seq ?_) | ((with_reducible refine (?_ : RW _ _ _ _)); with_reducible refine' RW.lenOk (by with_unfolding_all exact rfl) ?_) | (with_reducible first | refine' SW.of ?_ | refine' PutAt.of ?_ ?_) | with_reducible exact SetR.z | (with_reducible first | refine' SetR.s3 ?_ | refine' SetR.s ?_) | (with_reducible refine (?_ : SetR _ (0 + 1) _ _)); refine SetR.s ?_ | ((with_reducible refine (?_ : RW _ _ _ _)); with_reducible refine' RW.retF (E := eVar _) (by with_unfolding_all exact rfl) ?_) | (with_reducible first | refine' RW.asg ?_ | refine' RW.ret ?_) | (fail_if_success (have : StopIf := by with_reducible assumption)); (with_reducible refine' RW.if ?_) | (with_reducible first | refine' RW.for ?_ | refine' RW.while ?_ | refine' RW.new ?_) | ((with_reducible refine (?_ : RW _ _ _ _)); with_reducible refine' RW.app (by with_unfolding_all exact rfl) (by first | with_reducible assumption | with_unfolding_all exact Nat.le_of_ble_eq_true rfl) ?_) | ((with_reducible refine (?_ : RW _ _ _ _)); with_reducible refine' RW.aug (by with_unfolding_all exact rfl) ?_) | (with_reducible first | refine' IfK.t ?_ | refine' IfK.f ?_) | (with_reducible refine' IfK.gd ?_; with_reducible refine' IfK.decT (by first | with_reducible assumption | with_unfolding_all omega) ?_) | (with_reducible refine' IfK.gd ?_; with_reducible refine' IfK.decF (by first | with_reducible assumption | with_unfolding_all omega) ?_) | (with_reducible first | refine' NotK.t ?_ | refine' NotK.f ?_ | refine' TruthK.bool ?_) | ((with_reducible refine (?_ : EW (eVar _) _ _)); with_reducible refine' EW.var (by with_unfolding_all exact rfl) ?_) | (with_reducible first | refine' EW.cst ?_ | refine' EW.e1 ?_ | refine' EW.e2 ?_ | refine' EW.call ?_ | refine' EW.tup ?_ | refine' EW.lst ?_ | refine' EW.comp ?_ | refine' EsW.nil ?_ | refine' EsW.cons ?_ | refine' TW.c ?_) | ((with_reducible refine (?_ : TpK _ _)); with_reducible refine' TpK.mk (by with_unfolding_all exact Nat.le_of_ble_eq_true rfl) ?_) | ((with_reducible refine (?_ : LsK _ _)); with_reducible refine' LsK.mk (by with_unfolding_all exact Nat.le_of_ble_eq_true rfl) ?_) | (with_reducible first | refine' TW.tOf ?_ | refine' TW.not ?_ | refine' TW.and ?_) | ((with_reducible refine (?_ : CW _ _ _)); with_reducible refine' CW.of (by with_reducible assumption) ?_) | ((with_reducible refine (?_ : OW _ _ _ _)); with_reducible refine' OW.of (by with_reducible assumption) ?_) | (with_reducible first | refine' OW.add ?_ | refine' OW.addI ?_ | refine' OW.sub ?_ | refine' OW.ord ?_ | refine' OW.eq ?_ | refine' OW.ne ?_) | ((with_reducible refine (?_ : OW fMul _ _ _)); with_reducible refine' OW.mul (by first | with_reducible assumption | with_unfolding_all exact mulOk_sm (by omega) (by omega)) ?_) | ((with_reducible refine (?_ : OW fDiv _ _ _)); with_reducible refine' OW.div (by with_reducible assumption) ?_) | ((with_reducible refine (?_ : OW fMod _ _ _)); with_reducible refine' OW.mod (by first | with_reducible assumption | with_unfolding_all omega) ?_) | ((with_reducible refine (?_ : OW fPow _ _ _)); with_reducible refine' OW.pow (by with_reducible assumption) ?_) | (with_reducible first | refine' UW.neg ?_) | (with_reducible first | refine' CW.abs ?_ | refine' CW.range1 ?_ | refine' CW.range2 ?_) | ((with_reducible refine (?_ : CW _ _ _)); with_reducible refine' CW.fn (by with_unfolding_all (repeat (first | exact StartsAt.nil | apply StartsAt.cons | apply StartsAt.unb))) (by with_unfolding_all exact rfl) ?_))
    rw [hb, hN]
    obtain ⟨F, w5, Fne, Fd, Fv, Fl⟩ := s5 n.natAbs b hb1 hb2 nb
    have Fpos : 0 < F.length := List.length_pos_iff.mpr Fne
    have q0 : fSubs (.lst (intsD (natI F))) (.int 0) = some (.int ((F.getD 0 0 : Nat) : Int)) := getD_ints (k := 0) Fpos (by decide)
    have Fb : ∀ k, k < F.length → F.getD k 0 < b := fun k hk => by
      rw [List.getD_eq_getElem?_getD, List.getElem?_eq_getElem hk]
      exact Fd _ (List.getElem_mem hk)
    have e10 : (10:Nat) ^ 10 ≤ 10 ^ 600 := Nat.pow_le_pow_right (by decide) (by decide)
    have z0 : ((F.getD 0 0 : Nat) : Int).natAbs < 10 ^ 600 := by
      rw [Int.natAbs_natCast]; exact Nat.lt_of_lt_of_le (Nat.lt_trans (Fb 0 Fpos) hb2) e10
    have zb : ((b : Nat) : Int).natAbs < 10 ^ 600 := by
      rw [Int.natAbs_natCast]; exact Nat.lt_of_lt_of_le hb2 e10
    have zn : n.natAbs < 10 ^ 600 := Nat.lt_of_lt_of_le nb (Nat.pow_le_pow_right (by decide) (by decide))
    have fl : fLen [.lst (intsD (natI F))] = some (.int (F.length : Int)) := by
      have := fLen_ints (l := natI F) (by rw [natI_length]; omega)
      rwa [natI_length] at this
    have lb := numN_len hb2
    unfold numN at lb
    repeat' ((fail_if_success (with_reducible refine (?_ : @Eq _ _ _))); first | ((with_reducible refine (?_ : EW (eCst (D.str _)) _ _)); with_reducible refine' EW.cstS (by with_reducible assumption) ?_) | ((with_reducible refine (?_ : OW fAdd (D.str _) (D.str _) _)); with_reducible refine' OW.addS (by with_unfolding_all (simp only [List.length_append, List.length_cons, List.length_nil]; omega)) ?_) | ((with_reducible refine (?_ : CW fStr _ _)); with_reducible refine' CW.str (by with_reducible assumption) ?_) | ((with_reducible refine (?_ : EW (eGen _ _) _ _)); with_reducible refine' EW.gen ?_) | ((with_reducible refine (?_ : GK _ _ _)); with_reducible refine' GK.of (by with_reducible assumption) ?_) | ((with_reducible refine (?_ : OW fNe (D.lst _) (D.lst _) _)); with_reducible refine' OW.neSelf ?_) | ((with_reducible refine (?_ : OW fEq (D.lst (intsD [_, _, _, _])) (D.lst _) _)); with_reducible refine' OW.eqSelf4 ?_) | ((with_reducible refine (?_ : EW (eComp _ _ (eVar _)) _ _)); with_reducible refine' EW.dgsVar (by with_unfolding_all exact rfl) (by first | with_reducible assumption | with_unfolding_all exact Nat.le_of_ble_eq_true rfl) ?_) | ((with_reducible refine (?_ : EW (eComp _ _ (Mine.e2 fSloS _ _)) _ _)); with_reducible refine' EW.dgsTail (by with_unfolding_all exact rfl) (by with_reducible assumption) ?_) | ((with_reducible refine (?_ : OW fEq (D.lst (List.map chD _)) (D.lst []) _)); with_reducible refine' OW.eqNil (by first | with_reducible assumption | decide) ?_) | ((with_reducible refine (?_ : IfK (List.all _ _) _ _)); with_reducible first | refine' IfK.hT (by first | with_reducible assumption | decide) ?_ | refine' IfK.hF (by first | with_reducible assumption | decide) ?_) | ((with_reducible refine (?_ : CW fInt [D.str _] _)); with_reducible refine' CW.intT (by with_reducible assumption) ?_) | ((with_reducible refine (?_ : CW fLen [D.str _] _)); with_reducible refine' CW.lenS (by first | with_reducible assumption | with_unfolding_all exact Nat.le_of_ble_eq_true rfl) ?_) | ((with_reducible refine (?_ : OW fEq (D.str _) (D.str _) _)); with_reducible first | refine' OW.clT (by decide +kernel) ?_ | refine' OW.clF (by decide +kernel) ?_) | ((with_reducible refine (?_ : OW (fIn false) (D.str _) (D.tup _) _)); with_reducible first | refine' OW.clT (by decide +kernel) ?_ | refine' OW.clF (by decide +kernel) ?_) | ((with_reducible refine (?_ : RW (rPop _ _) _ _ _)); with_reducible refine' RW.pop (by with_unfolding_all exact rfl) (by with_reducible assumption) ?_) | ((with_reducible refine (?_ : RW (rRetG _) _ _ _)); with_reducible refine' RW.retG ?_) | ((with_reducible refine (?_ : IfK (@decide ((1:Int) < (List.length _ : Int)) _) _ _)); with_reducible first | refine' IfK.decT (by first | with_reducible assumption | decide) ?_ | refine' IfK.decF (by first | with_reducible assumption | decide) ?_) | (with_reducible first | refine' CK.ret ?_ | refine' SK.next ?_ | refine' SK.ret ?_ | refine' LK.next ?_ | refine' RW.nil ?_ | refine' RW.seq ?_) | ((with_reducible refine (?_ : RW _ _ _ _)); with_reducible refine' RW.lenOk (by with_unfolding_all exact rfl) ?_) | (with_reducible first | refine' SW.of ?_ | refine' PutAt.of ?_ ?_) | with_reducible exact SetR.z | (with_reducible first | refine' SetR.s3 ?_ | refine' SetR.s ?_) | (with_reducible refine (?_ : SetR _ (0 + 1) _ _)); refine SetR.s ?_ | ((with_reducible refine (?_ : RW _ _ _ _)); with_reducible refine' RW.retF (E := eVar _) (by with_unfolding_all exact rfl) ?_) | (with_reducible first | refine' RW.asg ?_ | refine' RW.ret ?_) | (fail_if_success (have : StopIf := by with_reducible assumption)); (with_reducible refine' RW.if ?_) | (with_reducible first | refine' RW.for ?_ | refine' RW.while ?_ | refine' RW.new ?_) | ((with_reducible refine (?_ : RW _ _ _ _)); with_reducible refine' RW.app (by with_unfolding_all exact rfl) (by first | with_reducible assumption | with_unfolding_all exact Nat.le_of_ble_eq_true rfl) ?_) | ((with_reducible refine (?_ : RW _ _ _ _)); with_reducible refine' RW.aug (by with_unfolding_all exact rfl) ?_) | (with_reducible first | refine' IfK.t ?_ | refine' IfK.f ?_) | (with_reducible refine' IfK.gd ?_; with_reducible refine' IfK.decT (by first | with_reducible assumption | with_unfolding_all omega) ?_) | (with_reducible refine' IfK.gd ?_; with_reducible refine' IfK.decF (by first | with_reducible assumption | with_unfolding_all omega) ?_) | (with_reducible first | refine' NotK.t ?_ | refine' NotK.f ?_ | refine' TruthK.bool ?_) | ((with_reducible refine (?_ : EW (eVar _) _ _)); with_reducible refine' EW.var (by with_unfolding_all exact rfl) ?_) | (with_reducible first | refine' EW.cst ?_ | refine' EW.e1 ?_ | refine' EW.e2 ?_ | refine' EW.call ?_ | refine' EW.tup ?_ | refine' EW.lst ?_ | refine' EW.comp ?_ | refine' EsW.nil ?_ | refine' EsW.cons ?_ | refine' TW.c ?_) | ((with_reducible refine (?_ : TpK _ _)); with_reducible refine' TpK.mk (by with_unfolding_all exact Nat.le_of_ble_eq_true rfl) ?_) | ((with_reducible refine (?_ : LsK _ _)); with_reducible refine' LsK.mk (by with_unfolding_all exact Nat.le_of_ble_eq_true rfl) ?_) | (with_reducible first | refine' TW.tOf ?_ | refine' TW.not ?_ | refine' TW.and ?_) | ((with_reducible refine (?_ : CW _ _ _)); with_reducible refine' CW.of (by with_reducible assumption) ?_) | ((with_reducible refine (?_ : OW _ _ _ _)); with_reducible refine' OW.of (by with_reducible assumption) ?_) | (with_reducible first | refine' OW.add ?_ | refine' OW.addI ?_ | refine' OW.sub ?_ | refine' OW.ord ?_ | refine' OW.eq ?_ | refine' OW.ne ?_) | ((with_reducible refine (?_ : OW fMul _ _ _)); with_reducible refine' OW.mul (by first | with_reducible assumption | with_unfolding_all exact mulOk_sm (by omega) (by omega)) ?_) | ((with_reducible refine (?_ : OW fDiv _ _ _)); with_reducible refine' OW.div (by with_reducible assumption) ?_) | ((with_reducible refine (?_ : OW fMod _ _ _)); with_reducible refine' OW.mod (by first | with_reducible assumption | with_unfolding_all omega) ?_) | ((with_reducible refine (?_ : OW fPow _ _ _)); with_reducible refine' OW.pow (by with_reducible assumption) ?_) | (with_reducible first | refine' UW.neg ?_) | (with_reducible first | refine' CW.abs ?_ | refine' CW.range1 ?_ | refine' CW.range2 ?_) | ((with_reducible refine (?_ : CW _ _ _)); with_reducible refine' CW.fn (by with_unfolding_all (repeat (first | exact StartsAt.nil | apply StartsAt.cons | apply StartsAt.unb))) (by with_unfolding_all exact rfl) ?_))
    refine ForK.of rfl (items_rng (a := 1) (b := (F.length : Int)) (by decide) (by decide) (by omega) (by omega) (by omega)) (LW.inv (fun ds σ => ∃ (k : Nat) (t5 : Slot), k < F.length ∧ ds = intsD (upI ((k : Int) + 1) (F.length - 1 - k)) ∧ σ = [.imm (.lst (intsD ns)), .imm (.int n), .imm (.int (b : Int)), .imm (.lst (intsD (natI F))), .imm (.str (mkS (jn (T1 b F k)))), t5, .unb, .unb, .unb, .unb, .unb, .unb, .unb, .unb]) ⟨0, _, Fpos, by rw [show ((F.length : Int) - 1).toNat = F.length - 1 - 0 by omega]; rfl, rfl⟩ ?_ ?_)
    · rintro d' ds σ ⟨k, t5, hk, e, rfl⟩
      rcases Nat.lt_or_ge (k + 1) F.length with hk1 | hk1
      · obtain ⟨u, hu, hu2⟩ : ∃ u, F.length - 1 - k = u + 1 ∧ u = F.length - 1 - (k + 1) := ⟨F.length - 1 - (k + 1), by omega, rfl⟩
        rw [hu, upI_succ, intsD_cons] at e
        cases e
        clear hu
        have w1 := pick_m k
        have q1 : fSubs (.lst (intsD (natI F))) (.int ((k : Int) + 1)) = some (.int ((F.getD (k + 1) 0 : Nat) : Int)) := getD_ints (k := k + 1) hk1 (by omega)
        have z1 : ((F.getD (k + 1) 0 : Nat) : Int).natAbs < 10 ^ 600 := by
          rw [Int.natAbs_natCast]; exact Nat.lt_of_lt_of_le (Nat.lt_trans (Fb (k + 1) hk1) hb2) e10
        have l1 := T1_size hb2 Fd k hk
        have l2 := numN_len (Nat.lt_trans (Fb (k + 1) hk1) hb2)
        unfold numN at l2
        have l3 : (op2S (opm (k + 1))).length ≤ 1 := by unfold opm; split <;> decide
        refine ⟨rfl, ?_⟩
        repeat' ((fail_if_success (with_reducible refine (?_ : @Eq _ _ _))); first | ((with_reducible refine (?_ : EW (eCst (D.str _)) _ _)); with_reducible refine' EW.cstS (by with_reducible assumption) ?_) | ((with_reducible refine (?_ : OW fAdd (D.str _) (D.str _) _)); with_reducible refine' OW.addS (by with_unfolding_all (simp only [List.length_append, List.length_cons, List.length_nil]; omega)) ?_) | ((with_reducible refine (?_ : CW fStr _ _)); with_reducible refine' CW.str (by with_reducible assumption) ?_) | ((with_reducible refine (?_ : EW (eGen _ _) _ _)); with_reducible refine' EW.gen ?_) | ((with_reducible refine (?_ : GK _ _ _)); with_reducible refine' GK.of (by with_reducible assumption) ?_) | ((with_reducible refine (?_ : OW fNe (D.lst _) (D.lst _) _)); with_reducible refine' OW.neSelf ?_) | ((with_reducible refine (?_ : OW fEq (D.lst (intsD [_, _, _, _])) (D.lst _) _)); with_reducible refine' OW.eqSelf4 ?_) | ((with_reducible refine (?_ : EW (eComp _ _ (eVar _)) _ _)); with_reducible refine' EW.dgsVar (by with_unfolding_all exact rfl) (by first | with_reducible assumption | with_unfolding_all exact Nat.le_of_ble_eq_true rfl) ?_) | ((with_reducible refine (?_ : EW (eComp _ _ (Mine.e2 fSloS _ _)) _ _)); with_reducible refine' EW.dgsTail (by with_unfolding_all exact rfl) (by with_reducible assumption) ?_) | ((with_reducible refine (?_ : OW fEq (D.lst (List.map chD _)) (D.lst []) _)); with_reducible refine' OW.eqNil (by first | with_reducible assumption | decide) ?_) | ((with_reducible refine (?_ : IfK (List.all _ _) _ _)); with_reducible first | refine' IfK.hT (by first | with_reducible assumption | decide) ?_ | refine' IfK.hF (by first | with_reducible assumption | decide) ?_) | ((with_reducible refine (?_ : CW fInt [D.str _] _)); with_reducible refine' CW.intT (by with_reducible assumption) ?_) | ((with_reducible refine (?_ : CW fLen [D.str _] _)); with_reducible refine' CW.lenS (by first | with_reducible assumption | with_unfolding_all exact Nat.le_of_ble_eq_true rfl) ?_) | ((with_reducible refine (?_ : OW fEq (D.str _) (D.str _) _)); with_reducible first | refine' OW.clT (by decide +kernel) ?_ | refine' OW.clF (by decide +kernel) ?_) | ((with_reducible refine (?_ : OW (fIn false) (D.str _) (D.tup _) _)); with_reducible first | refine' OW.clT (by decide +kernel) ?_ | refine' OW.clF (by decide +kernel) ?_) | ((with_reducible refine (?_ : RW (rPop _ _) _ _ _)); with_reducible refine' RW.pop (by with_unfolding_all exact rfl) (by with_reducible assumption) ?_) | ((with_reducible refine (?_ : RW (rRetG _) _ _ _)); with_reducible refine' RW.retG ?_) | ((with_reducible refine (?_ : IfK (@decide ((1:Int) < (List.length _ : Int)) _) _ _)); with_reducible first | refine' IfK.decT (by first | with_reducible assumption | decide) ?_ | refine' IfK.decF (by first | with_reducible assumption | decide) ?_) | (with_reducible first | refine' CK.ret ?_ | refine' SK.next ?_ | refine' SK.ret ?_ | refine' LK.next ?_ | refine' RW.nil ?_ | refine' RW.seq ?_) | ((with_reducible refine (?_ : RW _ _ _ _)); with_reducible refine' RW.lenOk (by with_unfolding_all exact rfl) ?_) | (with_reducible first | refine' SW.of ?_ | refine' PutAt.of ?_ ?_) | with_reducible exact SetR.z | (with_reducible first | refine' SetR.s3 ?_ | refine' SetR.s ?_) | (with_reducible refine (?_ : SetR _ (0 + 1) _ _)); refine SetR.s ?_ | ((with_reducible refine (?_ : RW _ _ _ _)); with_reducible refine' RW.retF (E := eVar _) (by with_unfolding_all exact rfl) ?_) | (with_reducible first | refine' RW.asg ?_ | refine' RW.ret ?_) | (fail_if_success (have : StopIf := by with_reducible assumption)); (with_reducible refine' RW.if ?_) | (with_reducible first | refine' RW.for ?_ | refine' RW.while ?_ | refine' RW.new ?_) | ((with_reducible refine (?_ : RW _ _ _ _)); with_reducible refine' RW.app (by with_unfolding_all exact rfl) (by first | with_reducible assumption | with_unfolding_all exact Nat.le_of_ble_eq_true rfl) ?_) | ((with_reducible refine (?_ : RW _ _ _ _)); with_reducible refine' RW.aug (by with_unfolding_all exact rfl) ?_) | (with_reducible first | refine' IfK.t ?_ | refine' IfK.f ?_) | (with_reducible refine' IfK.gd ?_; with_reducible refine' IfK.decT (by first | with_reducible assumption | with_unfolding_all omega) ?_) | (with_reducible refine' IfK.gd ?_; with_reducible refine' IfK.decF (by first | with_reducible assumption | with_unfolding_all omega) ?_) | (with_reducible first | refine' NotK.t ?_ | refine' NotK.f ?_ | refine' TruthK.bool ?_) | ((with_reducible refine (?_ : EW (eVar _) _ _)); with_reducible refine' EW.var (by with_unfolding_all exact rfl) ?_) | (with_reducible first | refine' EW.cst ?_ | refine' EW.e1 ?_ | refine' EW.e2 ?_ | refine' EW.call ?_ | refine' EW.tup ?_ | refine' EW.lst ?_ | refine' EW.comp ?_ | refine' EsW.nil ?_ | refine' EsW.cons ?_ | refine' TW.c ?_) | ((with_reducible refine (?_ : TpK _ _)); with_reducible refine' TpK.mk (by with_unfolding_all exact Nat.le_of_ble_eq_true rfl) ?_) | ((with_reducible refine (?_ : LsK _ _)); with_reducible refine' LsK.mk (by with_unfolding_all exact Nat.le_of_ble_eq_true rfl) ?_) | (with_reducible first | refine' TW.tOf ?_ | refine' TW.not ?_ | refine' TW.and ?_) | ((with_reducible refine (?_ : CW _ _ _)); with_reducible refine' CW.of (by with_reducible assumption) ?_) | ((with_reducible refine (?_ : OW _ _ _ _)); with_reducible refine' OW.of (by with_reducible assumption) ?_) | (with_reducible first | refine' OW.add ?_ | refine' OW.addI ?_ | refine' OW.sub ?_ | refine' OW.ord ?_ | refine' OW.eq ?_ | refine' OW.ne ?_) | ((with_reducible refine (?_ : OW fMul _ _ _)); with_reducible refine' OW.mul (by first | with_reducible assumption | with_unfolding_all exact mulOk_sm (by omega) (by omega)) ?_) | ((with_reducible refine (?_ : OW fDiv _ _ _)); with_reducible refine' OW.div (by with_reducible assumption) ?_) | ((with_reducible refine (?_ : OW fMod _ _ _)); with_reducible refine' OW.mod (by first | with_reducible assumption | with_unfolding_all omega) ?_) | ((with_reducible refine (?_ : OW fPow _ _ _)); with_reducible refine' OW.pow (by with_reducible assumption) ?_) | (with_reducible first | refine' UW.neg ?_) | (with_reducible first | refine' CW.abs ?_ | refine' CW.range1 ?_ | refine' CW.range2 ?_) | ((with_reducible refine (?_ : CW _ _ _)); with_reducible refine' CW.fn (by with_unfolding_all (repeat (first | exact StartsAt.nil | apply StartsAt.cons | apply StartsAt.unb))) (by with_unfolding_all exact rfl) ?_))
        refine ⟨k + 1, .imm (.int ((k : Int) + 1)), hk1, by rw [hu2]; rfl, ?_⟩
        rw [T1]
        unfold numN op2S
        rw [← jn_more4 (T1_ne b F k)]
      · rw [show F.length - 1 - k = 0 by omega] at e
        cases e
    rintro σ ⟨k, t5, hk, e, rfl⟩
    have ek : k = F.length - 1 := by
      rcases Nat.lt_or_ge (k + 1) F.length with hk1 | hk1
      · obtain ⟨u, hu⟩ : ∃ u, F.length - 1 - k = u + 1 := ⟨F.length - 1 - (k + 1), by omega⟩
        rw [hu, upI_succ, intsD_cons] at e
        cases e
      · omega
    clear e
    have r1 := T1_runs hb2 (by omega) Fd (by rw [Fv]; exact nb) k hk
    have t1 := T1_ok b F k
    have t2 := T1_ne b F k
    have t3 := T1_len b F k
    have t4 := T1_size hb2 Fd k hk
    rw [show k + 1 = F.length by omega, List.take_length, Fv] at r1
    have hk62 : k ≤ 61 := by omega
    generalize T1 b F k = T at *
    clear ek hk
    have stop : StopIf := trivial
    repeat' ((fail_if_success (with_reducible refine (?_ : @Eq _ _ _))); first | ((with_reducible refine (?_ : EW (eCst (D.str _)) _ _)); with_reducible refine' EW.cstS (by with_reducible assumption) ?_) | ((with_reducible refine (?_ : OW fAdd (D.str _) (D.str _) _)); with_reducible refine' OW.addS (by with_unfolding_all (simp only [List.length_append, List.length_cons, List.length_nil]; omega)) ?_) | ((with_reducible refine (?_ : CW fStr _ _)); with_reducible refine' CW.str (by with_reducible assumption) ?_) | ((with_reducible refine (?_ : EW (eGen _ _) _ _)); with_reducible refine' EW.gen ?_) | ((with_reducible refine (?_ : GK _ _ _)); with_reducible refine' GK.of (by with_reducible assumption) ?_) | ((with_reducible refine (?_ : OW fNe (D.lst _) (D.lst _) _)); with_reducible refine' OW.neSelf ?_) | ((with_reducible refine (?_ : OW fEq (D.lst (intsD [_, _, _, _])) (D.lst _) _)); with_reducible refine' OW.eqSelf4 ?_) | ((with_reducible refine (?_ : EW (eComp _ _ (eVar _)) _ _)); with_reducible refine' EW.dgsVar (by with_unfolding_all exact rfl) (by first | with_reducible assumption | with_unfolding_all exact Nat.le_of_ble_eq_true rfl) ?_) | ((with_reducible refine (?_ : EW (eComp _ _ (Mine.e2 fSloS _ _)) _ _)); with_reducible refine' EW.dgsTail (by with_unfolding_all exact rfl) (by with_reducible assumption) ?_) | ((with_reducible refine (?_ : OW fEq (D.lst (List.map chD _)) (D.lst []) _)); with_reducible refine' OW.eqNil (by first | with_reducible assumption | decide) ?_) | ((with_reducible refine (?_ : IfK (List.all _ _) _ _)); with_reducible first | refine' IfK.hT (by first | with_reducible assumption | decide) ?_ | refine' IfK.hF (by first | with_reducible assumption | decide) ?_) | ((with_reducible refine (?_ : CW fInt [D.str _] _)); with_reducible refine' CW.intT (by with_reducible assumption) ?_) | ((with_reducible refine (?_ : CW fLen [D.str _] _)); with_reducible refine' CW.lenS (by first | with_reducible assumption | with_unfolding_all exact Nat.le_of_ble_eq_true rfl) ?_) | ((with_reducible refine (?_ : OW fEq (D.str _) (D.str _) _)); with_reducible first | refine' OW.clT (by decide +kernel) ?_ | refine' OW.clF (by decide +kernel) ?_) | ((with_reducible refine (?_ : OW (fIn false) (D.str _) (D.tup _) _)); with_reducible first | refine' OW.clT (by decide +kernel) ?_ | refine' OW.clF (by decide +kernel) ?_) | ((with_reducible refine (?_ : RW (rPop _ _) _ _ _)); with_reducible refine' RW.pop (by with_unfolding_all exact rfl) (by with_reducible assumption) ?_) | ((with_reducible refine (?_ : RW (rRetG _) _ _ _)); with_reducible refine' RW.retG ?_) | ((with_reducible refine (?_ : IfK (@decide ((1:Int) < (List.length _ : Int)) _) _ _)); with_reducible first | refine' IfK.decT (by first | with_reducible assumption | decide) ?_ | refine' IfK.decF (by first | with_reducible assumption | decide) ?_) | (with_reducible first | refine' CK.ret ?_ | refine' SK.next ?_ | refine' SK.ret ?_ | refine' LK.next ?_ | refine' RW.nil ?_ | refine' RW.seq ?_) | ((with_reducible refine (?_ : RW _ _ _ _)); with_reducible refine' RW.lenOk (by with_unfolding_all exact rfl) ?_) | (with_reducible first | refine' SW.of ?_ | refine' PutAt.of ?_ ?_) | with_reducible exact SetR.z | (with_reducible first | refine' SetR.s3 ?_ | refine' SetR.s ?_) | (with_reducible refine (?_ : SetR _ (0 + 1) _ _)); refine SetR.s ?_ | ((with_reducible refine (?_ : RW _ _ _ _)); with_reducible refine' RW.retF (E := eVar _) (by with_unfolding_all exact rfl) ?_) | (with_reducible first | refine' RW.asg ?_ | refine' RW.ret ?_) | (fail_if_success (have : StopIf := by with_reducible assumption)); (with_reducible refine' RW.if ?_) | (with_reducible first | refine' RW.for ?_ | refine' RW.while ?_ | refine' RW.new ?_) | ((with_reducible refine (?_ : RW _ _ _ _)); with_reducible refine' RW.app (by with_unfolding_all exact rfl) (by first | with_reducible assumption | with_unfolding_all exact Nat.le_of_ble_eq_true rfl) ?_) | ((with_reducible refine (?_ : RW _ _ _ _)); with_reducible refine' RW.aug (by with_unfolding_all exact rfl) ?_) | (with_reducible first | refine' IfK.t ?_ | refine' IfK.f ?_) | (with_reducible refine' IfK.gd ?_; with_reducible refine' IfK.decT (by first | with_reducible assumption | with_unfolding_all omega) ?_) | (with_reducible refine' IfK.gd ?_; with_reducible refine' IfK.decF (by first | with_reducible assumption | with_unfolding_all omega) ?_) | (with_reducible first | refine' NotK.t ?_ | refine' NotK.f ?_ | refine' TruthK.bool ?_) | ((with_reducible refine (?_ : EW (eVar _) _ _)); with_reducible refine' EW.var (by with_unfolding_all exact rfl) ?_) | (with_reducible first | refine' EW.cst ?_ | refine' EW.e1 ?_ | refine' EW.e2 ?_ | refine' EW.call ?_ | refine' EW.tup ?_ | refine' EW.lst ?_ | refine' EW.comp ?_ | refine' EsW.nil ?_ | refine' EsW.cons ?_ | refine' TW.c ?_) | ((with_reducible refine (?_ : TpK _ _)); with_reducible refine' TpK.mk (by with_unfolding_all exact Nat.le_of_ble_eq_true rfl) ?_) | ((with_reducible refine (?_ : LsK _ _)); with_reducible refine' LsK.mk (by with_unfolding_all exact Nat.le_of_ble_eq_true rfl) ?_) | (with_reducible first | refine' TW.tOf ?_ | refine' TW.not ?_ | refine' TW.and ?_) | ((with_reducible refine (?_ : CW _ _ _)); with_reducible refine' CW.of (by with_reducible assumption) ?_) | ((with_reducible refine (?_ : OW _ _ _ _)); with_reducible refine' OW.of (by with_reducible assumption) ?_) | (with_reducible first | refine' OW.add ?_ | refine' OW.addI ?_ | refine' OW.sub ?_ | refine' OW.ord ?_ | refine' OW.eq ?_ | refine' OW.ne ?_) | ((with_reducible refine (?_ : OW fMul _ _ _)); with_reducible refine' OW.mul (by first | with_reducible assumption | with_unfolding_all exact mulOk_sm (by omega) (by omega)) ?_) | ((with_reducible refine (?_ : OW fDiv _ _ _)); with_reducible refine' OW.div (by with_reducible assumption) ?_) | ((with_reducible refine (?_ : OW fMod _ _ _)); with_reducible refine' OW.mod (by first | with_reducible assumption | with_unfolding_all omega) ?_) | ((with_reducible refine (?_ : OW fPow _ _ _)); with_reducible refine' OW.pow (by with_reducible assumption) ?_) | (with_reducible first | refine' UW.neg ?_) | (with_reducible first | refine' CW.abs ?_ | refine' CW.range1 ?_ | refine' CW.range2 ?_) | ((with_reducible refine (?_ : CW _ _ _)); with_reducible refine' CW.fn (by with_unfolding_all (repeat (first | exact StartsAt.nil | apply StartsAt.cons | apply StartsAt.unb))) (by with_unfolding_all exact rfl) ?_))
    clear stop
    refine RW.mid (fun σ => σ = [.imm (.lst (intsD ns)), .imm (.int n), .imm (.int (b : Int)), .imm (.lst (intsD (natI F))), .imm (.str (mkS (jn (TS (n < 0) T)))), t5, .unb, .unb, .unb, .unb, .unb, .unb, .unb, .unb]) ?_ ?_
    · by_cases hn : n < 0
      · repeat' ((fail_if_success (with_reducible refine (?_ : @Eq _ _ _))); first | ((with_reducible refine (?_ : EW (eCst (D.str _)) _ _)); with_reducible refine' EW.cstS (by with_reducible assumption) ?_) | ((with_reducible refine (?_ : OW fAdd (D.str _) (D.str _) _)); with_reducible refine' OW.addS (by with_unfolding_all (simp only [List.length_append, List.length_cons, List.length_nil]; omega)) ?_) | ((with_reducible refine (?_ : CW fStr _ _)); with_reducible refine' CW.str (by with_reducible assumption) ?_) | ((with_reducible refine (?_ : EW (eGen _ _) _ _)); with_reducible refine' EW.gen ?_) | ((with_reducible refine (?_ : GK _ _ _)); with_reducible refine' GK.of (by with_reducible assumption) ?_) | ((with_reducible refine (?_ : OW fNe (D.lst _) (D.lst _) _)); with_reducible refine' OW.neSelf ?_) | ((with_reducible refine (?_ : OW fEq (D.lst (intsD [_, _, _, _])) (D.lst _) _)); with_reducible refine' OW.eqSelf4 ?_) | ((with_reducible refine (?_ : EW (eComp _ _ (eVar _)) _ _)); with_reducible refine' EW.dgsVar (by with_unfolding_all exact rfl) (by first | with_reducible assumption | with_unfolding_all exact Nat.le_of_ble_eq_true rfl) ?_) | ((with_reducible refine (?_ : EW (eComp _ _ (Mine.e2 fSloS _ _)) _ _)); with_reducible refine' EW.dgsTail (by with_unfolding_all exact rfl) (by with_reducible assumption) ?_) | ((with_reducible refine (?_ : OW fEq (D.lst (List.map chD _)) (D.lst []) _)); with_reducible refine' OW.eqNil (by first | with_reducible assumption | decide) ?_) | ((with_reducible refine (?_ : IfK (List.all _ _) _ _)); with_reducible first | refine' IfK.hT (by first | with_reducible assumption | decide) ?_ | refine' IfK.hF (by first | with_reducible assumption | decide) ?_) | ((with_reducible refine (?_ : CW fInt [D.str _] _)); with_reducible refine' CW.intT (by with_reducible assumption) ?_) | ((with_reducible refine (?_ : CW fLen [D.str _] _)); with_reducible refine' CW.lenS (by first | with_reducible assumption | with_unfolding_all exact Nat.le_of_ble_eq_true rfl) ?_) | ((with_reducible refine (?_ : OW fEq (D.str _) (D.str _) _)); with_reducible first | refine' OW.clT (by decide +kernel) ?_ | refine' OW.clF (by decide +kernel) ?_) | ((with_reducible refine (?_ : OW (fIn false) (D.str _) (D.tup _) _)); with_reducible first | refine' OW.clT (by decide +kernel) ?_ | refine' OW.clF (by decide +kernel) ?_) | ((with_reducible refine (?_ : RW (rPop _ _) _ _ _)); with_reducible refine' RW.pop (by with_unfolding_all exact rfl) (by with_reducible assumption) ?_) | ((with_reducible refine (?_ : RW (rRetG _) _ _ _)); with_reducible refine' RW.retG ?_) | ((with_reducible refine (?_ : IfK (@decide ((1:Int) < (List.length _ : Int)) _) _ _)); with_reducible first | refine' IfK.decT (by first | with_reducible assumption | decide) ?_ | refine' IfK.decF (by first | with_reducible assumption | decide) ?_) | (with_reducible first | refine' CK.ret ?_ | refine' SK.next ?_ | refine' SK.ret ?_ | refine' LK.next ?_ | refine' RW.nil ?_ | refine' RW.seq ?_) | ((with_reducible refine (?_ : RW _ _ _ _)); with_reducible refine' RW.lenOk (by with_unfolding_all exact rfl) ?_) | (with_reducible first | refine' SW.of ?_ | refine' PutAt.of ?_ ?_) | with_reducible exact SetR.z | (with_reducible first | refine' SetR.s3 ?_ | refine' SetR.s ?_) | (with_reducible refine (?_ : SetR _ (0 + 1) _ _)); refine SetR.s ?_ | ((with_reducible refine (?_ : RW _ _ _ _)); with_reducible refine' RW.retF (E := eVar _) (by with_unfolding_all exact rfl) ?_) | (with_reducible first | refine' RW.asg ?_ | refine' RW.ret ?_) | (fail_if_success (have : StopIf := by with_reducible assumption)); (with_reducible refine' RW.if ?_) | (with_reducible first | refine' RW.for ?_ | refine' RW.while ?_ | refine' RW.new ?_) | ((with_reducible refine (?_ : RW _ _ _ _)); with_reducible refine' RW.app (by with_unfolding_all exact rfl) (by first | with_reducible assumption | with_unfolding_all exact Nat.le_of_ble_eq_true rfl) ?_) | ((with_reducible refine (?_ : RW _ _ _ _)); with_reducible refine' RW.aug (by with_unfolding_all exact rfl) ?_) | (with_reducible first | refine' IfK.t ?_ | refine' IfK.f ?_) | (with_reducible refine' IfK.gd ?_; with_reducible refine' IfK.decT (by first | with_reducible assumption | with_unfolding_all omega) ?_) | (with_reducible refine' IfK.gd ?_; with_reducible refine' IfK.decF (by first | with_reducible assumption | with_unfolding_all omega) ?_) | (with_reducible first | refine' NotK.t ?_ | refine' NotK.f ?_ | refine' TruthK.bool ?_) | ((with_reducible refine (?_ : EW (eVar _) _ _)); with_reducible refine' EW.var (by with_unfolding_all exact rfl) ?_) | (with_reducible first | refine' EW.cst ?_ | refine' EW.e1 ?_ | refine' EW.e2 ?_ | refine' EW.call ?_ | refine' EW.tup ?_ | refine' EW.lst ?_ | refine' EW.comp ?_ | refine' EsW.nil ?_ | refine' EsW.cons ?_ | refine' TW.c ?_) | ((with_reducible refine (?_ : TpK _ _)); with_reducible refine' TpK.mk (by with_unfolding_all exact Nat.le_of_ble_eq_true rfl) ?_) | ((with_reducible refine (?_ : LsK _ _)); with_reducible refine' LsK.mk (by with_unfolding_all exact Nat.le_of_ble_eq_true rfl) ?_) | (with_reducible first | refine' TW.tOf ?_ | refine' TW.not ?_ | refine' TW.and ?_) | ((with_reducible refine (?_ : CW _ _ _)); with_reducible refine' CW.of (by with_reducible assumption) ?_) | ((with_reducible refine (?_ : OW _ _ _ _)); with_reducible refine' OW.of (by with_reducible assumption) ?_) | (with_reducible first | refine' OW.add ?_ | refine' OW.addI ?_ | refine' OW.sub ?_ | refine' OW.ord ?_ | refine' OW.eq ?_ | refine' OW.ne ?_) | ((with_reducible refine (?_ : OW fMul _ _ _)); with_reducible refine' OW.mul (by first | with_reducible assumption | with_unfolding_all exact mulOk_sm (by omega) (by omega)) ?_) | ((with_reducible refine (?_ : OW fDiv _ _ _)); with_reducible refine' OW.div (by with_reducible assumption) ?_) | ((with_reducible refine (?_ : OW fMod _ _ _)); with_reducible refine' OW.mod (by first | with_reducible assumption | with_unfolding_all omega) ?_) | ((with_reducible refine (?_ : OW fPow _ _ _)); with_reducible refine' OW.pow (by with_reducible assumption) ?_) | (with_reducible first | refine' UW.neg ?_) | (with_reducible first | refine' CW.abs ?_ | refine' CW.range1 ?_ | refine' CW.range2 ?_) | ((with_reducible refine (?_ : CW _ _ _)); with_reducible refine' CW.fn (by with_unfolding_all (repeat (first | exact StartsAt.nil | apply StartsAt.cons | apply StartsAt.unb))) (by with_unfolding_all exact rfl) ?_))
        refine ⟨rfl, ?_⟩
        unfold TS
        rw [if_pos hn, ← neg_text t2]
      · repeat' ((fail_if_success (with_reducible refine (?_ : @Eq _ _ _))); first | ((with_reducible refine (?_ : EW (eCst (D.str _)) _ _)); with_reducible refine' EW.cstS (by with_reducible assumption) ?_) | ((with_reducible refine (?_ : OW fAdd (D.str _) (D.str _) _)); with_reducible refine' OW.addS (by with_unfolding_all (simp only [List.length_append, List.length_cons, List.length_nil]; omega)) ?_) | ((with_reducible refine (?_ : CW fStr _ _)); with_reducible refine' CW.str (by with_reducible assumption) ?_) | ((with_reducible refine (?_ : EW (eGen _ _) _ _)); with_reducible refine' EW.gen ?_) | ((with_reducible refine (?_ : GK _ _ _)); with_reducible refine' GK.of (by with_reducible assumption) ?_) | ((with_reducible refine (?_ : OW fNe (D.lst _) (D.lst _) _)); with_reducible refine' OW.neSelf ?_) | ((with_reducible refine (?_ : OW fEq (D.lst (intsD [_, _, _, _])) (D.lst _) _)); with_reducible refine' OW.eqSelf4 ?_) | ((with_reducible refine (?_ : EW (eComp _ _ (eVar _)) _ _)); with_reducible refine' EW.dgsVar (by with_unfolding_all exact rfl) (by first | with_reducible assumption | with_unfolding_all exact Nat.le_of_ble_eq_true rfl) ?_) | ((with_reducible refine (?_ : EW (eComp _ _ (Mine.e2 fSloS _ _)) _ _)); with_reducible refine' EW.dgsTail (by with_unfolding_all exact rfl) (by with_reducible assumption) ?_) | ((with_reducible refine (?_ : OW fEq (D.lst (List.map chD _)) (D.lst []) _)); with_reducible refine' OW.eqNil (by first | with_reducible assumption | decide) ?_) | ((with_reducible refine (?_ : IfK (List.all _ _) _ _)); with_reducible first | refine' IfK.hT (by first | with_reducible assumption | decide) ?_ | refine' IfK.hF (by first | with_reducible assumption | decide) ?_) | ((with_reducible refine (?_ : CW fInt [D.str _] _)); with_reducible refine' CW.intT (by with_reducible assumption) ?_) | ((with_reducible refine (?_ : CW fLen [D.str _] _)); with_reducible refine' CW.lenS (by first | with_reducible assumption | with_unfolding_all exact Nat.le_of_ble_eq_true rfl) ?_) | ((with_reducible refine (?_ : OW fEq (D.str _) (D.str _) _)); with_reducible first | refine' OW.clT (by decide +kernel) ?_ | refine' OW.clF (by decide +kernel) ?_) | ((with_reducible refine (?_ : OW (fIn false) (D.str _) (D.tup _) _)); with_reducible first | refine' OW.clT (by decide +kernel) ?_ | refine' OW.clF (by decide +kernel) ?_) | ((with_reducible refine (?_ : RW (rPop _ _) _ _ _)); with_reducible refine' RW.pop (by with_unfolding_all exact rfl) (by with_reducible assumption) ?_) | ((with_reducible refine (?_ : RW (rRetG _) _ _ _)); with_reducible refine' RW.retG ?_) | ((with_reducible refine (?_ : IfK (@decide ((1:Int) < (List.length _ : Int)) _) _ _)); with_reducible first | refine' IfK.decT (by first | with_reducible assumption | decide) ?_ | refine' IfK.decF (by first | with_reducible assumption | decide) ?_) | (with_reducible first | refine' CK.ret ?_ | refine' SK.next ?_ | refine' SK.ret ?_ | refine' LK.next ?_ | refine' RW.nil ?_ | refine' RW.seq ?_) | ((with_reducible refine (?_ : RW _ _ _ _)); with_reducible refine' RW.lenOk (by with_unfolding_all exact rfl) ?_) | (with_reducible first | refine' SW.of ?_ | refine' PutAt.of ?_ ?_) | with_reducible exact SetR.z | (with_reducible first | refine' SetR.s3 ?_ | refine' SetR.s ?_) | (with_reducible refine (?_ : SetR _ (0 + 1) _ _)); refine SetR.s ?_ | ((with_reducible refine (?_ : RW _ _ _ _)); with_reducible refine' RW.retF (E := eVar _) (by with_unfolding_all exact rfl) ?_) | (with_reducible first | refine' RW.asg ?_ | refine' RW.ret ?_) | (fail_if_success (have : StopIf := by with_reducible assumption)); (with_reducible refine' RW.if ?_) | (with_reducible first | refine' RW.for ?_ | refine' RW.while ?_ | refine' RW.new ?_) | ((with_reducible refine (?_ : RW _ _ _ _)); with_reducible refine' RW.app (by with_unfolding_all exact rfl) (by first | with_reducible assumption | with_unfolding_all exact Nat.le_of_ble_eq_true rfl) ?_) | ((with_reducible refine (?_ : RW _ _ _ _)); with_reducible refine' RW.aug (by with_unfolding_all exact rfl) ?_) | (with_reducible first | refine' IfK.t ?_ | refine' IfK.f ?_) | (with_reducible refine' IfK.gd ?_; with_reducible refine' IfK.decT (by first | with_reducible assumption | with_unfolding_all omega) ?_) | (with_reducible refine' IfK.gd ?_; with_reducible refine' IfK.decF (by first | with_reducible assumption | with_unfolding_all omega) ?_) | (with_reducible first | refine' NotK.t ?_ | refine' NotK.f ?_ | refine' TruthK.bool ?_) | ((with_reducible refine (?_ : EW (eVar _) _ _)); with_reducible refine' EW.var (by with_unfolding_all exact rfl) ?_) | (with_reducible first | refine' EW.cst ?_ | refine' EW.e1 ?_ | refine' EW.e2 ?_ | refine' EW.call ?_ | refine' EW.tup ?_ | refine' EW.lst ?_ | refine' EW.comp ?_ | refine' EsW.nil ?_ | refine' EsW.cons ?_ | refine' TW.c ?_) | ((with_reducible refine (?_ : TpK _ _)); with_reducible refine' TpK.mk (by with_unfolding_all exact Nat.le_of_ble_eq_true rfl) ?_) | ((with_reducible refine (?_ : LsK _ _)); with_reducible refine' LsK.mk (by with_unfolding_all exact Nat.le_of_ble_eq_true rfl) ?_) | (with_reducible first | refine' TW.tOf ?_ | refine' TW.not ?_ | refine' TW.and ?_) | ((with_reducible refine (?_ : CW _ _ _)); with_reducible refine' CW.of (by with_reducible assumption) ?_) | ((with_reducible refine (?_ : OW _ _ _ _)); with_reducible refine' OW.of (by with_reducible assumption) ?_) | (with_reducible first | refine' OW.add ?_ | refine' OW.addI ?_ | refine' OW.sub ?_ | refine' OW.ord ?_ | refine' OW.eq ?_ | refine' OW.ne ?_) | ((with_reducible refine (?_ : OW fMul _ _ _)); with_reducible refine' OW.mul (by first | with_reducible assumption | with_unfolding_all exact mulOk_sm (by omega) (by omega)) ?_) | ((with_reducible refine (?_ : OW fDiv _ _ _)); with_reducible refine' OW.div (by with_reducible assumption) ?_) | ((with_reducible refine (?_ : OW fMod _ _ _)); with_reducible refine' OW.mod (by first | with_reducible assumption | with_unfolding_all omega) ?_) | ((with_reducible refine (?_ : OW fPow _ _ _)); with_reducible refine' OW.pow (by with_reducible assumption) ?_) | (with_reducible first | refine' UW.neg ?_) | (with_reducible first | refine' CW.abs ?_ | refine' CW.range1 ?_ | refine' CW.range2 ?_) | ((with_reducible refine (?_ : CW _ _ _)); with_reducible refine' CW.fn (by with_unfolding_all (repeat (first | exact StartsAt.nil | apply StartsAt.cons | apply StartsAt.unb))) (by with_unfolding_all exact rfl) ?_))
        refine ⟨rfl, ?_⟩
        unfold TS
        rw [if_neg hn]
    rintro σ rfl
    have g1 : fG [.str (mkS (jn (TS (n < 0) T)))] = some [n] := by
      have h1 := TS_size (neg := n < 0) t2
      have h2 := TS_len (neg := n < 0) (T := T)
      exact sG _ _ _ (by omega) (TS_words t1) (by omega) (TS_runs rfl r1)
    clear r1 t1 t3 t4
    obtain ⟨P, hP, hP2⟩ := mod_nat v2 Fpos
    have fl0 : (F.length : Int) ≠ 0 := by omega
    repeat' ((fail_if_success (with_reducible refine (?_ : @Eq _ _ _))); first | ((with_reducible refine (?_ : EW (eCst (D.str _)) _ _)); with_reducible refine' EW.cstS (by with_reducible assumption) ?_) | ((with_reducible refine (?_ : OW fAdd (D.str _) (D.str _) _)); with_reducible refine' OW.addS (by with_unfolding_all (simp only [List.length_append, List.length_cons, List.length_nil]; omega)) ?_) | ((with_reducible refine (?_ : CW fStr _ _)); with_reducible refine' CW.str (by with_reducible assumption) ?_) | ((with_reducible refine (?_ : EW (eGen _ _) _ _)); with_reducible refine' EW.gen ?_) | ((with_reducible refine (?_ : GK _ _ _)); with_reducible refine' GK.of (by with_reducible assumption) ?_) | ((with_reducible refine (?_ : OW fNe (D.lst _) (D.lst _) _)); with_reducible refine' OW.neSelf ?_) | ((with_reducible refine (?_ : OW fEq (D.lst (intsD [_, _, _, _])) (D.lst _) _)); with_reducible refine' OW.eqSelf4 ?_) | ((with_reducible refine (?_ : EW (eComp _ _ (eVar _)) _ _)); with_reducible refine' EW.dgsVar (by with_unfolding_all exact rfl) (by first | with_reducible assumption | with_unfolding_all exact Nat.le_of_ble_eq_true rfl) ?_) | ((with_reducible refine (?_ : EW (eComp _ _ (Mine.e2 fSloS _ _)) _ _)); with_reducible refine' EW.dgsTail (by with_unfolding_all exact rfl) (by with_reducible assumption) ?_) | ((with_reducible refine (?_ : OW fEq (D.lst (List.map chD _)) (D.lst []) _)); with_reducible refine' OW.eqNil (by first | with_reducible assumption | decide) ?_) | ((with_reducible refine (?_ : IfK (List.all _ _) _ _)); with_reducible first | refine' IfK.hT (by first | with_reducible assumption | decide) ?_ | refine' IfK.hF (by first | with_reducible assumption | decide) ?_) | ((with_reducible refine (?_ : CW fInt [D.str _] _)); with_reducible refine' CW.intT (by with_reducible assumption) ?_) | ((with_reducible refine (?_ : CW fLen [D.str _] _)); with_reducible refine' CW.lenS (by first | with_reducible assumption | with_unfolding_all exact Nat.le_of_ble_eq_true rfl) ?_) | ((with_reducible refine (?_ : OW fEq (D.str _) (D.str _) _)); with_reducible first | refine' OW.clT (by decide +kernel) ?_ | refine' OW.clF (by decide +kernel) ?_) | ((with_reducible refine (?_ : OW (fIn false) (D.str _) (D.tup _) _)); with_reducible first | refine' OW.clT (by decide +kernel) ?_ | refine' OW.clF (by decide +kernel) ?_) | ((with_reducible refine (?_ : RW (rPop _ _) _ _ _)); with_reducible refine' RW.pop (by with_unfolding_all exact rfl) (by with_reducible assumption) ?_) | ((with_reducible refine (?_ : RW (rRetG _) _ _ _)); with_reducible refine' RW.retG ?_) | ((with_reducible refine (?_ : IfK (@decide ((1:Int) < (List.length _ : Int)) _) _ _)); with_reducible first | refine' IfK.decT (by first | with_reducible assumption | decide) ?_ | refine' IfK.decF (by first | with_reducible assumption | decide) ?_) | (with_reducible first | refine' CK.ret ?_ | refine' SK.next ?_ | refine' SK.ret ?_ | refine' LK.next ?_ | refine' RW.nil ?_ | refine' RW.seq ?_) | ((with_reducible refine (?_ : RW _ _ _ _)); with_reducible refine' RW.lenOk (by with_unfolding_all exact rfl) ?_) | (with_reducible first | refine' SW.of ?_ | refine' PutAt.of ?_ ?_) | with_reducible exact SetR.z | (with_reducible first | refine' SetR.s3 ?_ | refine' SetR.s ?_) | (with_reducible refine (?_ : SetR _ (0 + 1) _ _)); refine SetR.s ?_ | ((with_reducible refine (?_ : RW _ _ _ _)); with_reducible refine' RW.retF (E := eVar _) (by with_unfolding_all exact rfl) ?_) | (with_reducible first | refine' RW.asg ?_ | refine' RW.ret ?_) | (fail_if_success (have : StopIf := by with_reducible assumption)); (with_reducible refine' RW.if ?_) | (with_reducible first | refine' RW.for ?_ | refine' RW.while ?_ | refine' RW.new ?_) | ((with_reducible refine (?_ : RW _ _ _ _)); with_reducible refine' RW.app (by with_unfolding_all exact rfl) (by first | with_reducible assumption | with_unfolding_all exact Nat.le_of_ble_eq_true rfl) ?_) | ((with_reducible refine (?_ : RW _ _ _ _)); with_reducible refine' RW.aug (by with_unfolding_all exact rfl) ?_) | (with_reducible first | refine' IfK.t ?_ | refine' IfK.f ?_) | (with_reducible refine' IfK.gd ?_; with_reducible refine' IfK.decT (by first | with_reducible assumption | with_unfolding_all omega) ?_) | (with_reducible refine' IfK.gd ?_; with_reducible refine' IfK.decF (by first | with_reducible assumption | with_unfolding_all omega) ?_) | (with_reducible first | refine' NotK.t ?_ | refine' NotK.f ?_ | refine' TruthK.bool ?_) | ((with_reducible refine (?_ : EW (eVar _) _ _)); with_reducible refine' EW.var (by with_unfolding_all exact rfl) ?_) | (with_reducible first | refine' EW.cst ?_ | refine' EW.e1 ?_ | refine' EW.e2 ?_ | refine' EW.call ?_ | refine' EW.tup ?_ | refine' EW.lst ?_ | refine' EW.comp ?_ | refine' EsW.nil ?_ | refine' EsW.cons ?_ | refine' TW.c ?_) | ((with_reducible refine (?_ : TpK _ _)); with_reducible refine' TpK.mk (by with_unfolding_all exact Nat.le_of_ble_eq_true rfl) ?_) | ((with_reducible refine (?_ : LsK _ _)); with_reducible refine' LsK.mk (by with_unfolding_all exact Nat.le_of_ble_eq_true rfl) ?_) | (with_reducible first | refine' TW.tOf ?_ | refine' TW.not ?_ | refine' TW.and ?_) | ((with_reducible refine (?_ : CW _ _ _)); with_reducible refine' CW.of (by with_reducible assumption) ?_) | ((with_reducible refine (?_ : OW _ _ _ _)); with_reducible refine' OW.of (by with_reducible assumption) ?_) | (with_reducible first | refine' OW.add ?_ | refine' OW.addI ?_ | refine' OW.sub ?_ | refine' OW.ord ?_ | refine' OW.eq ?_ | refine' OW.ne ?_) | ((with_reducible refine (?_ : OW fMul _ _ _)); with_reducible refine' OW.mul (by first | with_reducible assumption | with_unfolding_all exact mulOk_sm (by omega) (by omega)) ?_) | ((with_reducible refine (?_ : OW fDiv _ _ _)); with_reducible refine' OW.div (by with_reducible assumption) ?_) | ((with_reducible refine (?_ : OW fMod _ _ _)); with_reducible refine' OW.mod (by first | with_reducible assumption | with_unfolding_all omega) ?_) | ((with_reducible refine (?_ : OW fPow _ _ _)); with_reducible refine' OW.pow (by with_reducible assumption) ?_) | (with_reducible first | refine' UW.neg ?_) | (with_reducible first | refine' CW.abs ?_ | refine' CW.range1 ?_ | refine' CW.range2 ?_) | ((with_reducible refine (?_ : CW _ _ _)); with_reducible refine' CW.fn (by with_unfolding_all (repeat (first | exact StartsAt.nil | apply StartsAt.cons | apply StartsAt.unb))) (by with_unfolding_all exact rfl) ?_))
    rw [hP]
    refine ForK.of rfl (items_rng (a := 0) (b := (P : Int)) (by decide) (by decide) (by omega) (by omega) (by omega)) (LW.inv (fun ds σ => ∃ (k : Nat) (t6 : Slot), k ≤ P ∧ ds = intsD (upI (k : Int) (P - k)) ∧ σ = [.imm (.lst (intsD ns)), .imm (.int n), .imm (.int (b : Int)), .imm (.lst (intsD (natI F))), .imm (.str (mkS (jn (T2 b n k)))), .imm (.int (P : Int)), t6, .unb, .unb, .unb, .unb, .unb, .unb, .unb]) ⟨0, _, Nat.zero_le _, by rw [show ((P : Int) - 0).toNat = P - 0 by omega]; rfl, rfl⟩ ?_ ?_)
    · rintro d' ds σ ⟨k, t6, hk, e, rfl⟩
      rcases Nat.lt_or_ge k P with hk1 | hk1
      · obtain ⟨u, hu, hu2⟩ := sub_next hk1
        rw [hu, upI_succ, intsD_cons] at e
        cases e
        clear hu
        have w1 := pick_d k
        have l1 := T2_size (n := n) hb2 nb k
        have l3 : (op2S (opd k)).length ≤ 2 := by unfold opd; split <;> decide
        refine ⟨rfl, ?_⟩
        repeat' ((fail_if_success (with_reducible refine (?_ : @Eq _ _ _))); first | ((with_reducible refine (?_ : EW (eCst (D.str _)) _ _)); with_reducible refine' EW.cstS (by with_reducible assumption) ?_) | ((with_reducible refine (?_ : OW fAdd (D.str _) (D.str _) _)); with_reducible refine' OW.addS (by with_unfolding_all (simp only [List.length_append, List.length_cons, List.length_nil]; omega)) ?_) | ((with_reducible refine (?_ : CW fStr _ _)); with_reducible refine' CW.str (by with_reducible assumption) ?_) | ((with_reducible refine (?_ : EW (eGen _ _) _ _)); with_reducible refine' EW.gen ?_) | ((with_reducible refine (?_ : GK _ _ _)); with_reducible refine' GK.of (by with_reducible assumption) ?_) | ((with_reducible refine (?_ : OW fNe (D.lst _) (D.lst _) _)); with_reducible refine' OW.neSelf ?_) | ((with_reducible refine (?_ : OW fEq (D.lst (intsD [_, _, _, _])) (D.lst _) _)); with_reducible refine' OW.eqSelf4 ?_) | ((with_reducible refine (?_ : EW (eComp _ _ (eVar _)) _ _)); with_reducible refine' EW.dgsVar (by with_unfolding_all exact rfl) (by first | with_reducible assumption | with_unfolding_all exact Nat.le_of_ble_eq_true rfl) ?_) | ((with_reducible refine (?_ : EW (eComp _ _ (Mine.e2 fSloS _ _)) _ _)); with_reducible refine' EW.dgsTail (by with_unfolding_all exact rfl) (by with_reducible assumption) ?_) | ((with_reducible refine (?_ : OW fEq (D.lst (List.map chD _)) (D.lst []) _)); with_reducible refine' OW.eqNil (by first | with_reducible assumption | decide) ?_) | ((with_reducible refine (?_ : IfK (List.all _ _) _ _)); with_reducible first | refine' IfK.hT (by first | with_reducible assumption | decide) ?_ | refine' IfK.hF (by first | with_reducible assumption | decide) ?_) | ((with_reducible refine (?_ : CW fInt [D.str _] _)); with_reducible refine' CW.intT (by with_reducible assumption) ?_) | ((with_reducible refine (?_ : CW fLen [D.str _] _)); with_reducible refine' CW.lenS (by first | with_reducible assumption | with_unfolding_all exact Nat.le_of_ble_eq_true rfl) ?_) | ((with_reducible refine (?_ : OW fEq (D.str _) (D.str _) _)); with_reducible first | refine' OW.clT (by decide +kernel) ?_ | refine' OW.clF (by decide +kernel) ?_) | ((with_reducible refine (?_ : OW (fIn false) (D.str _) (D.tup _) _)); with_reducible first | refine' OW.clT (by decide +kernel) ?_ | refine' OW.clF (by decide +kernel) ?_) | ((with_reducible refine (?_ : RW (rPop _ _) _ _ _)); with_reducible refine' RW.pop (by with_unfolding_all exact rfl) (by with_reducible assumption) ?_) | ((with_reducible refine (?_ : RW (rRetG _) _ _ _)); with_reducible refine' RW.retG ?_) | ((with_reducible refine (?_ : IfK (@decide ((1:Int) < (List.length _ : Int)) _) _ _)); with_reducible first | refine' IfK.decT (by first | with_reducible assumption | decide) ?_ | refine' IfK.decF (by first | with_reducible assumption | decide) ?_) | (with_reducible first | refine' CK.ret ?_ | refine' SK.next ?_ | refine' SK.ret ?_ | refine' LK.next ?_ | refine' RW.nil ?_ | refine' RW.seq ?_) | ((with_reducible refine (?_ : RW _ _ _ _)); with_reducible refine' RW.lenOk (by with_unfolding_all exact rfl) ?_) | (with_reducible first | refine' SW.of ?_ | refine' PutAt.of ?_ ?_) | with_reducible exact SetR.z | (with_reducible first | refine' SetR.s3 ?_ | refine' SetR.s ?_) | (with_reducible refine (?_ : SetR _ (0 + 1) _ _)); refine SetR.s ?_ | ((with_reducible refine (?_ : RW _ _ _ _)); with_reducible refine' RW.retF (E := eVar _) (by with_unfolding_all exact rfl) ?_) | (with_reducible first | refine' RW.asg ?_ | refine' RW.ret ?_) | (fail_if_success (have : StopIf := by with_reducible assumption)); (with_reducible refine' RW.if ?_) | (with_reducible first | refine' RW.for ?_ | refine' RW.while ?_ | refine' RW.new ?_) | ((with_reducible refine (?_ : RW _ _ _ _)); with_reducible refine' RW.app (by with_unfolding_all exact rfl) (by first | with_reducible assumption | with_unfolding_all exact Nat.le_of_ble_eq_true rfl) ?_) | ((with_reducible refine (?_ : RW _ _ _ _)); with_reducible refine' RW.aug (by with_unfolding_all exact rfl) ?_) | (with_reducible first | refine' IfK.t ?_ | refine' IfK.f ?_) | (with_reducible refine' IfK.gd ?_; with_reducible refine' IfK.decT (by first | with_reducible assumption | with_unfolding_all omega) ?_) | (with_reducible refine' IfK.gd ?_; with_reducible refine' IfK.decF (by first | with_reducible assumption | with_unfolding_all omega) ?_) | (with_reducible first | refine' NotK.t ?_ | refine' NotK.f ?_ | refine' TruthK.bool ?_) | ((with_reducible refine (?_ : EW (eVar _) _ _)); with_reducible refine' EW.var (by with_unfolding_all exact rfl) ?_) | (with_reducible first | refine' EW.cst ?_ | refine' EW.e1 ?_ | refine' EW.e2 ?_ | refine' EW.call ?_ | refine' EW.tup ?_ | refine' EW.lst ?_ | refine' EW.comp ?_ | refine' EsW.nil ?_ | refine' EsW.cons ?_ | refine' TW.c ?_) | ((with_reducible refine (?_ : TpK _ _)); with_reducible refine' TpK.mk (by with_unfolding_all exact Nat.le_of_ble_eq_true rfl) ?_) | ((with_reducible refine (?_ : LsK _ _)); with_reducible refine' LsK.mk (by with_unfolding_all exact Nat.le_of_ble_eq_true rfl) ?_) | (with_reducible first | refine' TW.tOf ?_ | refine' TW.not ?_ | refine' TW.and ?_) | ((with_reducible refine (?_ : CW _ _ _)); with_reducible refine' CW.of (by with_reducible assumption) ?_) | ((with_reducible refine (?_ : OW _ _ _ _)); with_reducible refine' OW.of (by with_reducible assumption) ?_) | (with_reducible first | refine' OW.add ?_ | refine' OW.addI ?_ | refine' OW.sub ?_ | refine' OW.ord ?_ | refine' OW.eq ?_ | refine' OW.ne ?_) | ((with_reducible refine (?_ : OW fMul _ _ _)); with_reducible refine' OW.mul (by first | with_reducible assumption | with_unfolding_all exact mulOk_sm (by omega) (by omega)) ?_) | ((with_reducible refine (?_ : OW fDiv _ _ _)); with_reducible refine' OW.div (by with_reducible assumption) ?_) | ((with_reducible refine (?_ : OW fMod _ _ _)); with_reducible refine' OW.mod (by first | with_reducible assumption | with_unfolding_all omega) ?_) | ((with_reducible refine (?_ : OW fPow _ _ _)); with_reducible refine' OW.pow (by with_reducible assumption) ?_) | (with_reducible first | refine' UW.neg ?_) | (with_reducible first | refine' CW.abs ?_ | refine' CW.range1 ?_ | refine' CW.range2 ?_) | ((with_reducible refine (?_ : CW _ _ _)); with_reducible refine' CW.fn (by with_unfolding_all (repeat (first | exact StartsAt.nil | apply StartsAt.cons | apply StartsAt.unb))) (by with_unfolding_all exact rfl) ?_))
        refine ⟨k + 1, .imm (.int (k : Int)), hk1, by rw [hu2]; rfl, ?_⟩
        rw [T2]
        unfold numN
        rw [← jn_more2 (T2_ne b n k)]
      · rw [Nat.sub_eq_zero_of_le hk1] at e
        cases e
    rintro σ ⟨k, t6, hk, e, rfl⟩
    have ek : k = P := by
      rcases Nat.lt_or_ge k P with hk1 | hk1
      · obtain ⟨u, hu, _⟩ := sub_next hk1
        rw [hu, upI_succ, intsD_cons] at e
        cases e
      · omega
    subst ek
    clear e hk
    have l1 := T2_size (n := n) hb2 nb k
    have r2 := T2_fin (n := n) (by omega : 0 < b) hb2 nb k
    rw [← figure_eq n (by omega : 0 < b) k] at r2
    have jt : jn (T2 b n k) ++ [32] ++ numL (b : Int) ++ [32, 37] = jn (T2 b n k ++ [numN b, op2S .mod]) := jn_more2 (T2_ne b n k) (numN b) [37]
    have g2 : fG [.str (mkS (jn (T2 b n k) ++ [32] ++ numL (b : Int) ++ [32, 37]))] = some [(n.fmod ((b : Int) ^ ((k : Int) + 1).toNat) - n.fmod ((b : Int) ^ (k : Int).toNat)).fdiv ((b : Int) ^ (k : Int).toNat)] := by
      rw [jt]
      refine sG _ _ _ ?_ (wordsL_jn fun t ht => ?_) ?_ r2
      · rw [← jt]
        simp only [List.length_append, List.length_cons, List.length_nil]
        omega
      · rcases List.mem_append.mp ht with ht | ht
        · exact T2_ok b n k t ht
        · simp only [List.mem_cons, List.not_mem_nil, or_false] at ht
          rcases ht with rfl | rfl
          · exact tokNum _
          · exact tokOp2 _
      · rw [List.length_append, T2_len]; simp; omega
    clear jt r2
    have b40 : Bd 40 (b : Int) := bdN (Nat.lt_of_lt_of_le hb2 (by decide))
    have bne : (b : Int) ≠ 0 := by omega
    have pw1 : powOk (b : Int) ((k : Int) + 1) = true := powOk_bd (n := 40) (k := k + 1) b40 (by omega)
    have pw2 : powOk (b : Int) (k : Int) = true := powOk_bd (n := 40) (k := k) b40 (by omega)
    have pn1 : (b : Int) ^ ((k : Int) + 1).toNat ≠ 0 := Int.pow_ne_zero bne
    have pn2 : (b : Int) ^ (k : Int).toNat ≠ 0 := Int.pow_ne_zero bne
    have dv2 : divOk (n.fmod ((b : Int) ^ ((k : Int) + 1).toNat) - n.fmod ((b : Int) ^ (k : Int).toNat)) ((b : Int) ^ (k : Int).toNat) = true := divOk_bd (n := 40 * k + 1) pn2 (Bd.pow b40 k) (by omega)
    repeat' ((fail_if_success (with_reducible refine (?_ : @Eq _ _ _))); first | ((with_reducible refine (?_ : EW (eCst (D.str _)) _ _)); with_reducible refine' EW.cstS (by with_reducible assumption) ?_) | ((with_reducible refine (?_ : OW fAdd (D.str _) (D.str _) _)); with_reducible refine' OW.addS (by with_unfolding_all (simp only [List.length_append, List.length_cons, List.length_nil]; omega)) ?_) | ((with_reducible refine (?_ : CW fStr _ _)); with_reducible refine' CW.str (by with_reducible assumption) ?_) | ((with_reducible refine (?_ : EW (eGen _ _) _ _)); with_reducible refine' EW.gen ?_) | ((with_reducible refine (?_ : GK _ _ _)); with_reducible refine' GK.of (by with_reducible assumption) ?_) | ((with_reducible refine (?_ : OW fNe (D.lst _) (D.lst _) _)); with_reducible refine' OW.neSelf ?_) | ((with_reducible refine (?_ : OW fEq (D.lst (intsD [_, _, _, _])) (D.lst _) _)); with_reducible refine' OW.eqSelf4 ?_) | ((with_reducible refine (?_ : EW (eComp _ _ (eVar _)) _ _)); with_reducible refine' EW.dgsVar (by with_unfolding_all exact rfl) (by first | with_reducible assumption | with_unfolding_all exact Nat.le_of_ble_eq_true rfl) ?_) | ((with_reducible refine (?_ : EW (eComp _ _ (Mine.e2 fSloS _ _)) _ _)); with_reducible refine' EW.dgsTail (by with_unfolding_all exact rfl) (by with_reducible assumption) ?_) | ((with_reducible refine (?_ : OW fEq (D.lst (List.map chD _)) (D.lst []) _)); with_reducible refine' OW.eqNil (by first | with_reducible assumption | decide) ?_) | ((with_reducible refine (?_ : IfK (List.all _ _) _ _)); with_reducible first | refine' IfK.hT (by first | with_reducible assumption | decide) ?_ | refine' IfK.hF (by first | with_reducible assumption | decide) ?_) | ((with_reducible refine (?_ : CW fInt [D.str _] _)); with_reducible refine' CW.intT (by with_reducible assumption) ?_) | ((with_reducible refine (?_ : CW fLen [D.str _] _)); with_reducible refine' CW.lenS (by first | with_reducible assumption | with_unfolding_all exact Nat.le_of_ble_eq_true rfl) ?_) | ((with_reducible refine (?_ : OW fEq (D.str _) (D.str _) _)); with_reducible first | refine' OW.clT (by decide +kernel) ?_ | refine' OW.clF (by decide +kernel) ?_) | ((with_reducible refine (?_ : OW (fIn false) (D.str _) (D.tup _) _)); with_reducible first | refine' OW.clT (by decide +kernel) ?_ | refine' OW.clF (by decide +kernel) ?_) | ((with_reducible refine (?_ : RW (rPop _ _) _ _ _)); with_reducible refine' RW.pop (by with_unfolding_all exact rfl) (by with_reducible assumption) ?_) | ((with_reducible refine (?_ : RW (rRetG _) _ _ _)); with_reducible refine' RW.retG ?_) | ((with_reducible refine (?_ : IfK (@decide ((1:Int) < (List.length _ : Int)) _) _ _)); with_reducible first | refine' IfK.decT (by first | with_reducible assumption | decide) ?_ | refine' IfK.decF (by first | with_reducible assumption | decide) ?_) | (with_reducible first | refine' CK.ret ?_ | refine' SK.next ?_ | refine' SK.ret ?_ | refine' LK.next ?_ | refine' RW.nil ?_ | refine' RW.seq ?_) | ((with_reducible refine (?_ : RW _ _ _ _)); with_reducible refine' RW.lenOk (by with_unfolding_all exact rfl) ?_) | (with_reducible first | refine' SW.of ?_ | refine' PutAt.of ?_ ?_) | with_reducible exact SetR.z | (with_reducible first | refine' SetR.s3 ?_ | refine' SetR.s ?_) | (with_reducible refine (?_ : SetR _ (0 + 1) _ _)); refine SetR.s ?_ | ((with_reducible refine (?_ : RW _ _ _ _)); with_reducible refine' RW.retF (E := eVar _) (by with_unfolding_all exact rfl) ?_) | (with_reducible first | refine' RW.asg ?_ | refine' RW.ret ?_) | (fail_if_success (have : StopIf := by with_reducible assumption)); (with_reducible refine' RW.if ?_) | (with_reducible first | refine' RW.for ?_ | refine' RW.while ?_ | refine' RW.new ?_) | ((with_reducible refine (?_ : RW _ _ _ _)); with_reducible refine' RW.app (by with_unfolding_all exact rfl) (by first | with_reducible assumption | with_unfolding_all exact Nat.le_of_ble_eq_true rfl) ?_) | ((with_reducible refine (?_ : RW _ _ _ _)); with_reducible refine' RW.aug (by with_unfolding_all exact rfl) ?_) | (with_reducible first | refine' IfK.t ?_ | refine' IfK.f ?_) | (with_reducible refine' IfK.gd ?_; with_reducible refine' IfK.decT (by first | with_reducible assumption | with_unfolding_all omega) ?_) | (with_reducible refine' IfK.gd ?_; with_reducible refine' IfK.decF (by first | with_reducible assumption | with_unfolding_all omega) ?_) | (with_reducible first | refine' NotK.t ?_ | refine' NotK.f ?_ | refine' TruthK.bool ?_) | ((with_reducible refine (?_ : EW (eVar _) _ _)); with_reducible refine' EW.var (by with_unfolding_all exact rfl) ?_) | (with_reducible first | refine' EW.cst ?_ | refine' EW.e1 ?_ | refine' EW.e2 ?_ | refine' EW.call ?_ | refine' EW.tup ?_ | refine' EW.lst ?_ | refine' EW.comp ?_ | refine' EsW.nil ?_ | refine' EsW.cons ?_ | refine' TW.c ?_) | ((with_reducible refine (?_ : TpK _ _)); with_reducible refine' TpK.mk (by with_unfolding_all exact Nat.le_of_ble_eq_true rfl) ?_) | ((with_reducible refine (?_ : LsK _ _)); with_reducible refine' LsK.mk (by with_unfolding_all exact Nat.le_of_ble_eq_true rfl) ?_) | (with_reducible first | refine' TW.tOf ?_ | refine' TW.not ?_ | refine' TW.and ?_) | ((with_reducible refine (?_ : CW _ _ _)); with_reducible refine' CW.of (by with_reducible assumption) ?_) | ((with_reducible refine (?_ : OW _ _ _ _)); with_reducible refine' OW.of (by with_reducible assumption) ?_) | (with_reducible first | refine' OW.add ?_ | refine' OW.addI ?_ | refine' OW.sub ?_ | refine' OW.ord ?_ | refine' OW.eq ?_ | refine' OW.ne ?_) | ((with_reducible refine (?_ : OW fMul _ _ _)); with_reducible refine' OW.mul (by first | with_reducible assumption | with_unfolding_all exact mulOk_sm (by omega) (by omega)) ?_) | ((with_reducible refine (?_ : OW fDiv _ _ _)); with_reducible refine' OW.div (by with_reducible assumption) ?_) | ((with_reducible refine (?_ : OW fMod _ _ _)); with_reducible refine' OW.mod (by first | with_reducible assumption | with_unfolding_all omega) ?_) | ((with_reducible refine (?_ : OW fPow _ _ _)); with_reducible refine' OW.pow (by with_reducible assumption) ?_) | (with_reducible first | refine' UW.neg ?_) | (with_reducible first | refine' CW.abs ?_ | refine' CW.range1 ?_ | refine' CW.range2 ?_) | ((with_reducible refine (?_ : CW _ _ _)); with_reducible refine' CW.fn (by with_unfolding_all (repeat (first | exact StartsAt.nil | apply StartsAt.cons | apply StartsAt.unb))) (by with_unfolding_all exact rfl) ?_))
    obtain ⟨M, hM, hM1, hM2⟩ : ∃ M, v3.fmod 28 - 3 = M ∧ -3 ≤ M ∧ M ≤ 24 := by
      have a1 := Int.fmod_nonneg_of_pos v3 (show (0 : Int) < 28 by decide)
      have a2 := Int.fmod_lt_of_pos v3 (show (0 : Int) < 28 by decide)
      exact ⟨_, rfl, by omega, by omega⟩
    rw [hM]
    have w6 := s6 M (by omega) (by omega)
    obtain ⟨d1, d2⟩ := dw_eq hM1 hM2
    have lm : ∀ p ∈ lpr (M.toNat - 1), 2 ≤ p ∧ p ≤ M.toNat := fun p hp => by have := lpr_mem hp; omega
    have ll := lpr_length (M.toNat - 1)
    have r3 := T3_runs hM1 hM2
    rw [← d1, ← d2] at r3
    have zm : M.natAbs < 10 ^ 600 := Nat.lt_of_lt_of_le (show M.natAbs < 10 ^ 2 by omega) (Nat.pow_le_pow_right (by decide) (by decide))
    have lM : (numL M).length ≤ 4 := numL_len (k := 2) (by omega)
    have mN : 2 ≤ M.toNat → M = ((M.toNat : Nat) : Int) := fun _ => by omega
    clear d1 d2 w5 Fv Fd
    generalize lpr (M.toNat - 1) = ps at *
    have hps : ps.length ≤ 24 := by omega
    repeat' ((fail_if_success (with_reducible refine (?_ : @Eq _ _ _))); first | ((with_reducible refine (?_ : EW (eCst (D.str _)) _ _)); with_reducible refine' EW.cstS (by with_reducible assumption) ?_) | ((with_reducible refine (?_ : OW fAdd (D.str _) (D.str _) _)); with_reducible refine' OW.addS (by with_unfolding_all (simp only [List.length_append, List.length_cons, List.length_nil]; omega)) ?_) | ((with_reducible refine (?_ : CW fStr _ _)); with_reducible refine' CW.str (by with_reducible assumption) ?_) | ((with_reducible refine (?_ : EW (eGen _ _) _ _)); with_reducible refine' EW.gen ?_) | ((with_reducible refine (?_ : GK _ _ _)); with_reducible refine' GK.of (by with_reducible assumption) ?_) | ((with_reducible refine (?_ : OW fNe (D.lst _) (D.lst _) _)); with_reducible refine' OW.neSelf ?_) | ((with_reducible refine (?_ : OW fEq (D.lst (intsD [_, _, _, _])) (D.lst _) _)); with_reducible refine' OW.eqSelf4 ?_) | ((with_reducible refine (?_ : EW (eComp _ _ (eVar _)) _ _)); with_reducible refine' EW.dgsVar (by with_unfolding_all exact rfl) (by first | with_reducible assumption | with_unfolding_all exact Nat.le_of_ble_eq_true rfl) ?_) | ((with_reducible refine (?_ : EW (eComp _ _ (Mine.e2 fSloS _ _)) _ _)); with_reducible refine' EW.dgsTail (by with_unfolding_all exact rfl) (by with_reducible assumption) ?_) | ((with_reducible refine (?_ : OW fEq (D.lst (List.map chD _)) (D.lst []) _)); with_reducible refine' OW.eqNil (by first | with_reducible assumption | decide) ?_) | ((with_reducible refine (?_ : IfK (List.all _ _) _ _)); with_reducible first | refine' IfK.hT (by first | with_reducible assumption | decide) ?_ | refine' IfK.hF (by first | with_reducible assumption | decide) ?_) | ((with_reducible refine (?_ : CW fInt [D.str _] _)); with_reducible refine' CW.intT (by with_reducible assumption) ?_) | ((with_reducible refine (?_ : CW fLen [D.str _] _)); with_reducible refine' CW.lenS (by first | with_reducible assumption | with_unfolding_all exact Nat.le_of_ble_eq_true rfl) ?_) | ((with_reducible refine (?_ : OW fEq (D.str _) (D.str _) _)); with_reducible first | refine' OW.clT (by decide +kernel) ?_ | refine' OW.clF (by decide +kernel) ?_) | ((with_reducible refine (?_ : OW (fIn false) (D.str _) (D.tup _) _)); with_reducible first | refine' OW.clT (by decide +kernel) ?_ | refine' OW.clF (by decide +kernel) ?_) | ((with_reducible refine (?_ : RW (rPop _ _) _ _ _)); with_reducible refine' RW.pop (by with_unfolding_all exact rfl) (by with_reducible assumption) ?_) | ((with_reducible refine (?_ : RW (rRetG _) _ _ _)); with_reducible refine' RW.retG ?_) | ((with_reducible refine (?_ : IfK (@decide ((1:Int) < (List.length _ : Int)) _) _ _)); with_reducible first | refine' IfK.decT (by first | with_reducible assumption | decide) ?_ | refine' IfK.decF (by first | with_reducible assumption | decide) ?_) | (with_reducible first | refine' CK.ret ?_ | refine' SK.next ?_ | refine' SK.ret ?_ | refine' LK.next ?_ | refine' RW.nil ?_ | refine' RW.seq ?_) | ((with_reducible refine (?_ : RW _ _ _ _)); with_reducible refine' RW.lenOk (by with_unfolding_all exact rfl) ?_) | (with_reducible first | refine' SW.of ?_ | refine' PutAt.of ?_ ?_) | with_reducible exact SetR.z | (with_reducible first | refine' SetR.s3 ?_ | refine' SetR.s ?_) | (with_reducible refine (?_ : SetR _ (0 + 1) _ _)); refine SetR.s ?_ | ((with_reducible refine (?_ : RW _ _ _ _)); with_reducible refine' RW.retF (E := eVar _) (by with_unfolding_all exact rfl) ?_) | (with_reducible first | refine' RW.asg ?_ | refine' RW.ret ?_) | (fail_if_success (have : StopIf := by with_reducible assumption)); (with_reducible refine' RW.if ?_) | (with_reducible first | refine' RW.for ?_ | refine' RW.while ?_ | refine' RW.new ?_) | ((with_reducible refine (?_ : RW _ _ _ _)); with_reducible refine' RW.app (by with_unfolding_all exact rfl) (by first | with_reducible assumption | with_unfolding_all exact Nat.le_of_ble_eq_true rfl) ?_) | ((with_reducible refine (?_ : RW _ _ _ _)); with_reducible refine' RW.aug (by with_unfolding_all exact rfl) ?_) | (with_reducible first | refine' IfK.t ?_ | refine' IfK.f ?_) | (with_reducible refine' IfK.gd ?_; with_reducible refine' IfK.decT (by first | with_reducible assumption | with_unfolding_all omega) ?_) | (with_reducible refine' IfK.gd ?_; with_reducible refine' IfK.decF (by first | with_reducible assumption | with_unfolding_all omega) ?_) | (with_reducible first | refine' NotK.t ?_ | refine' NotK.f ?_ | refine' TruthK.bool ?_) | ((with_reducible refine (?_ : EW (eVar _) _ _)); with_reducible refine' EW.var (by with_unfolding_all exact rfl) ?_) | (with_reducible first | refine' EW.cst ?_ | refine' EW.e1 ?_ | refine' EW.e2 ?_ | refine' EW.call ?_ | refine' EW.tup ?_ | refine' EW.lst ?_ | refine' EW.comp ?_ | refine' EsW.nil ?_ | refine' EsW.cons ?_ | refine' TW.c ?_) | ((with_reducible refine (?_ : TpK _ _)); with_reducible refine' TpK.mk (by with_unfolding_all exact Nat.le_of_ble_eq_true rfl) ?_) | ((with_reducible refine (?_ : LsK _ _)); with_reducible refine' LsK.mk (by with_unfolding_all exact Nat.le_of_ble_eq_true rfl) ?_) | (with_reducible first | refine' TW.tOf ?_ | refine' TW.not ?_ | refine' TW.and ?_) | ((with_reducible refine (?_ : CW _ _ _)); with_reducible refine' CW.of (by with_reducible assumption) ?_) | ((with_reducible refine (?_ : OW _ _ _ _)); with_reducible refine' OW.of (by with_reducible assumption) ?_) | (with_reducible first | refine' OW.add ?_ | refine' OW.addI ?_ | refine' OW.sub ?_ | refine' OW.ord ?_ | refine' OW.eq ?_ | refine' OW.ne ?_) | ((with_reducible refine (?_ : OW fMul _ _ _)); with_reducible refine' OW.mul (by first | with_reducible assumption | with_unfolding_all exact mulOk_sm (by omega) (by omega)) ?_) | ((with_reducible refine (?_ : OW fDiv _ _ _)); with_reducible refine' OW.div (by with_reducible assumption) ?_) | ((with_reducible refine (?_ : OW fMod _ _ _)); with_reducible refine' OW.mod (by first | with_reducible assumption | with_unfolding_all omega) ?_) | ((with_reducible refine (?_ : OW fPow _ _ _)); with_reducible refine' OW.pow (by with_reducible assumption) ?_) | (with_reducible first | refine' UW.neg ?_) | (with_reducible first | refine' CW.abs ?_ | refine' CW.range1 ?_ | refine' CW.range2 ?_) | ((with_reducible refine (?_ : CW _ _ _)); with_reducible refine' CW.fn (by with_unfolding_all (repeat (first | exact StartsAt.nil | apply StartsAt.cons | apply StartsAt.unb))) (by with_unfolding_all exact rfl) ?_))
    refine ForK.of rfl (items_lst (by rw [intsD_length, natI_length]; omega)) (LW.inv (fun ds σ => ∃ (r : List Nat) (d q : Int) (j c : Nat) (s11 s12 : Slot), ds = intsD (natI r) ∧ (∀ p ∈ r, p ∈ ps) ∧ dwF M.toNat r d = dwF M.toNat ps 1 ∧ q * prodI (natI r) = prodI (natI ps) ∧ Bd (130 * c + 1) d ∧ c ≤ 25 * j ∧ Bd (5 * j + 1) q ∧ j + r.length = ps.length ∧ σ = [.imm (.lst (intsD ns)), .imm (.int n), .imm (.int (b : Int)), .imm (.lst (intsD (natI F))), .imm (.str (mkS (jn (T2 b n k) ++ [32] ++ numL (b : Int) ++ [32, 37]))), .imm (.int (k : Int)), t6, .imm (.int ((n.fmod ((b : Int) ^ ((k : Int) + 1).toNat) - n.fmod ((b : Int) ^ (k : Int).toNat)).fdiv ((b : Int) ^ (k : Int).toNat))), .imm (.int M), .imm (.int d), .imm (.int q), s11, s12, .unb]) ⟨ps, 1, 1, 0, 0, _, _, rfl, fun _ h => h, rfl, Int.one_mul _, Bd.one, Nat.zero_le _, Bd.one, by omega, rfl⟩ ?_ ?_)
    · rintro d' ds σ ⟨r, d, q, j, c, s11, s12, e, hr, hd, hq, bd, hc, bq, hj, rfl⟩
      cases r with
      | nil => cases e
      | cons p r =>
        cases e
        obtain ⟨p2, p3⟩ := lm p (hr p (.head _))
        have mM := mN (by omega)
        have p5 : Bd 5 (p : Int) := bdN (by omega)
        have mo := mulOk_bd bq p5 (by rw [List.length_cons] at hj; omega)
        have dvm : divOk M (p : Int) = true := divOk_bd (n := 5) (by omega) p5 (by decide)
        have em : M.fdiv (p : Int) = ((M.toNat / p : Nat) : Int) := by
          rw [mM, Int.toNat_natCast]; exact fdiv_nat _ _
        have hMp : M.toNat / p ≤ 24 := Nat.le_trans (Nat.div_le_self _ _) (by omega)
        refine ⟨rfl, ?_⟩
        repeat' ((fail_if_success (with_reducible refine (?_ : @Eq _ _ _))); first | ((with_reducible refine (?_ : EW (eCst (D.str _)) _ _)); with_reducible refine' EW.cstS (by with_reducible assumption) ?_) | ((with_reducible refine (?_ : OW fAdd (D.str _) (D.str _) _)); with_reducible refine' OW.addS (by with_unfolding_all (simp only [List.length_append, List.length_cons, List.length_nil]; omega)) ?_) | ((with_reducible refine (?_ : CW fStr _ _)); with_reducible refine' CW.str (by with_reducible assumption) ?_) | ((with_reducible refine (?_ : EW (eGen _ _) _ _)); with_reducible refine' EW.gen ?_) | ((with_reducible refine (?_ : GK _ _ _)); with_reducible refine' GK.of (by with_reducible assumption) ?_) | ((with_reducible refine (?_ : OW fNe (D.lst _) (D.lst _) _)); with_reducible refine' OW.neSelf ?_) | ((with_reducible refine (?_ : OW fEq (D.lst (intsD [_, _, _, _])) (D.lst _) _)); with_reducible refine' OW.eqSelf4 ?_) | ((with_reducible refine (?_ : EW (eComp _ _ (eVar _)) _ _)); with_reducible refine' EW.dgsVar (by with_unfolding_all exact rfl) (by first | with_reducible assumption | with_unfolding_all exact Nat.le_of_ble_eq_true rfl) ?_) | ((with_reducible refine (?_ : EW (eComp _ _ (Mine.e2 fSloS _ _)) _ _)); with_reducible refine' EW.dgsTail (by with_unfolding_all exact rfl) (by with_reducible assumption) ?_) | ((with_reducible refine (?_ : OW fEq (D.lst (List.map chD _)) (D.lst []) _)); with_reducible refine' OW.eqNil (by first | with_reducible assumption | decide) ?_) | ((with_reducible refine (?_ : IfK (List.all _ _) _ _)); with_reducible first | refine' IfK.hT (by first | with_reducible assumption | decide) ?_ | refine' IfK.hF (by first | with_reducible assumption | decide) ?_) | ((with_reducible refine (?_ : CW fInt [D.str _] _)); with_reducible refine' CW.intT (by with_reducible assumption) ?_) | ((with_reducible refine (?_ : CW fLen [D.str _] _)); with_reducible refine' CW.lenS (by first | with_reducible assumption | with_unfolding_all exact Nat.le_of_ble_eq_true rfl) ?_) | ((with_reducible refine (?_ : OW fEq (D.str _) (D.str _) _)); with_reducible first | refine' OW.clT (by decide +kernel) ?_ | refine' OW.clF (by decide +kernel) ?_) | ((with_reducible refine (?_ : OW (fIn false) (D.str _) (D.tup _) _)); with_reducible first | refine' OW.clT (by decide +kernel) ?_ | refine' OW.clF (by decide +kernel) ?_) | ((with_reducible refine (?_ : RW (rPop _ _) _ _ _)); with_reducible refine' RW.pop (by with_unfolding_all exact rfl) (by with_reducible assumption) ?_) | ((with_reducible refine (?_ : RW (rRetG _) _ _ _)); with_reducible refine' RW.retG ?_) | ((with_reducible refine (?_ : IfK (@decide ((1:Int) < (List.length _ : Int)) _) _ _)); with_reducible first | refine' IfK.decT (by first | with_reducible assumption | decide) ?_ | refine' IfK.decF (by first | with_reducible assumption | decide) ?_) | (with_reducible first | refine' CK.ret ?_ | refine' SK.next ?_ | refine' SK.ret ?_ | refine' LK.next ?_ | refine' RW.nil ?_ | refine' RW.seq ?_) | ((with_reducible refine (?_ : RW _ _ _ _)); with_reducible refine' RW.lenOk (by with_unfolding_all exact rfl) ?_) | (with_reducible first | refine' SW.of ?_ | refine' PutAt.of ?_ ?_) | with_reducible exact SetR.z | (with_reducible first | refine' SetR.s3 ?_ | refine' SetR.s ?_) | (with_reducible refine (?_ : SetR _ (0 + 1) _ _)); refine SetR.s ?_ | ((with_reducible refine (?_ : RW _ _ _ _)); with_reducible refine' RW.retF (E := eVar _) (by with_unfolding_all exact rfl) ?_) | (with_reducible first | refine' RW.asg ?_ | refine' RW.ret ?_) | (fail_if_success (have : StopIf := by with_reducible assumption)); (with_reducible refine' RW.if ?_) | (with_reducible first | refine' RW.for ?_ | refine' RW.while ?_ | refine' RW.new ?_) | ((with_reducible refine (?_ : RW _ _ _ _)); with_reducible refine' RW.app (by with_unfolding_all exact rfl) (by first | with_reducible assumption | with_unfolding_all exact Nat.le_of_ble_eq_true rfl) ?_) | ((with_reducible refine (?_ : RW _ _ _ _)); with_reducible refine' RW.aug (by with_unfolding_all exact rfl) ?_) | (with_reducible first | refine' IfK.t ?_ | refine' IfK.f ?_) | (with_reducible refine' IfK.gd ?_; with_reducible refine' IfK.decT (by first | with_reducible assumption | with_unfolding_all omega) ?_) | (with_reducible refine' IfK.gd ?_; with_reducible refine' IfK.decF (by first | with_reducible assumption | with_unfolding_all omega) ?_) | (with_reducible first | refine' NotK.t ?_ | refine' NotK.f ?_ | refine' TruthK.bool ?_) | ((with_reducible refine (?_ : EW (eVar _) _ _)); with_reducible refine' EW.var (by with_unfolding_all exact rfl) ?_) | (with_reducible first | refine' EW.cst ?_ | refine' EW.e1 ?_ | refine' EW.e2 ?_ | refine' EW.call ?_ | refine' EW.tup ?_ | refine' EW.lst ?_ | refine' EW.comp ?_ | refine' EsW.nil ?_ | refine' EsW.cons ?_ | refine' TW.c ?_) | ((with_reducible refine (?_ : TpK _ _)); with_reducible refine' TpK.mk (by with_unfolding_all exact Nat.le_of_ble_eq_true rfl) ?_) | ((with_reducible refine (?_ : LsK _ _)); with_reducible refine' LsK.mk (by with_unfolding_all exact Nat.le_of_ble_eq_true rfl) ?_) | (with_reducible first | refine' TW.tOf ?_ | refine' TW.not ?_ | refine' TW.and ?_) | ((with_reducible refine (?_ : CW _ _ _)); with_reducible refine' CW.of (by with_reducible assumption) ?_) | ((with_reducible refine (?_ : OW _ _ _ _)); with_reducible refine' OW.of (by with_reducible assumption) ?_) | (with_reducible first | refine' OW.add ?_ | refine' OW.addI ?_ | refine' OW.sub ?_ | refine' OW.ord ?_ | refine' OW.eq ?_ | refine' OW.ne ?_) | ((with_reducible refine (?_ : OW fMul _ _ _)); with_reducible refine' OW.mul (by first | with_reducible assumption | with_unfolding_all exact mulOk_sm (by omega) (by omega)) ?_) | ((with_reducible refine (?_ : OW fDiv _ _ _)); with_reducible refine' OW.div (by with_reducible assumption) ?_) | ((with_reducible refine (?_ : OW fMod _ _ _)); with_reducible refine' OW.mod (by first | with_reducible assumption | with_unfolding_all omega) ?_) | ((with_reducible refine (?_ : OW fPow _ _ _)); with_reducible refine' OW.pow (by with_reducible assumption) ?_) | (with_reducible first | refine' UW.neg ?_) | (with_reducible first | refine' CW.abs ?_ | refine' CW.range1 ?_ | refine' CW.range2 ?_) | ((with_reducible refine (?_ : CW _ _ _)); with_reducible refine' CW.fn (by with_unfolding_all (repeat (first | exact StartsAt.nil | apply StartsAt.cons | apply StartsAt.unb))) (by with_unfolding_all exact rfl) ?_))
        rw [em]
        refine WW.inv (fun kk σ => ∃ (part f c' : Nat) (d' : Int), part = kk ∧ part ≤ f ∧ part ≤ 24 ∧ c' + part ≤ c + 24 ∧ Bd (130 * c' + 1) d' ∧ dwP p f part d' = dwP p 30 (M.toNat / p) d ∧ σ = [.imm (.lst (intsD ns)), .imm (.int n), .imm (.int (b : Int)), .imm (.lst (intsD (natI F))), .imm (.str (mkS (jn (T2 b n k) ++ [32] ++ numL (b : Int) ++ [32, 37]))), .imm (.int (k : Int)), t6, .imm (.int ((n.fmod ((b : Int) ^ ((k : Int) + 1).toNat) - n.fmod ((b : Int) ^ (k : Int).toNat)).fdiv ((b : Int) ^ (k : Int).toNat))), .imm (.int M), .imm (.int d'), .imm (.int (q * (p : Int))), .imm (.int (p : Int)), .imm (.int (part : Int)), .unb]) (k := M.toNat / p) ⟨M.toNat / p, 30, c, d, rfl, by omega, hMp, by omega, bd, rfl, rfl⟩ (by omega) ?_
        rintro kk σ ⟨part, f, c', d', rfl, hf, h24, hc', bd', hdw, rfl⟩
        by_cases hz : 0 < part
        · have hz' : (0 : Int) < (part : Int) := by omega
          obtain ⟨f', rfl, ef⟩ := dwP_step (p := p) (d := d') hz hf
          have pk : powOk (p : Int) (part : Int) = true := powOk_bd (n := 5) (k := part) p5 (by omega)
          have pb := pp_bd (p := p) (part := part) (by omega) (by omega)
          have mo2 : mulOk d' ((p : Int) ^ ((part : Int)).toNat) = true := by
            rw [Int.toNat_natCast]; exact mulOk_bd bd' pb (by omega)
          have dvp : divOk (part : Int) (p : Int) = true := divOk_bd (n := 5) (by omega) p5 (by decide)
          have ep : (part : Int).fdiv (p : Int) = ((part / p : Nat) : Int) := fdiv_nat _ _
          have hlt : part / p < part := Nat.div_lt_self hz (by omega)
          repeat' ((fail_if_success (with_reducible refine (?_ : @Eq _ _ _))); first | ((with_reducible refine (?_ : EW (eCst (D.str _)) _ _)); with_reducible refine' EW.cstS (by with_reducible assumption) ?_) | ((with_reducible refine (?_ : OW fAdd (D.str _) (D.str _) _)); with_reducible refine' OW.addS (by with_unfolding_all (simp only [List.length_append, List.length_cons, List.length_nil]; omega)) ?_) | ((with_reducible refine (?_ : CW fStr _ _)); with_reducible refine' CW.str (by with_reducible assumption) ?_) | ((with_reducible refine (?_ : EW (eGen _ _) _ _)); with_reducible refine' EW.gen ?_) | ((with_reducible refine (?_ : GK _ _ _)); with_reducible refine' GK.of (by with_reducible assumption) ?_) | ((with_reducible refine (?_ : OW fNe (D.lst _) (D.lst _) _)); with_reducible refine' OW.neSelf ?_) | ((with_reducible refine (?_ : OW fEq (D.lst (intsD [_, _, _, _])) (D.lst _) _)); with_reducible refine' OW.eqSelf4 ?_) | ((with_reducible refine (?_ : EW (eComp _ _ (eVar _)) _ _)); with_reducible refine' EW.dgsVar (by with_unfolding_all exact rfl) (by first | with_reducible assumption | with_unfolding_all exact Nat.le_of_ble_eq_true rfl) ?_) | ((with_reducible refine (?_ : EW (eComp _ _ (Mine.e2 fSloS _ _)) _ _)); with_reducible refine' EW.dgsTail (by with_unfolding_all exact rfl) (by with_reducible assumption) ?_) | ((with_reducible refine (?_ : OW fEq (D.lst (List.map chD _)) (D.lst []) _)); with_reducible refine' OW.eqNil (by first | with_reducible assumption | decide) ?_) | ((with_reducible refine (?_ : IfK (List.all _ _) _ _)); with_reducible first | refine' IfK.hT (by first | with_reducible assumption | decide) ?_ | refine' IfK.hF (by first | with_reducible assumption | decide) ?_) | ((with_reducible refine (?_ : CW fInt [D.str _] _)); with_reducible refine' CW.intT (by with_reducible assumption) ?_) | ((with_reducible refine (?_ : CW fLen [D.str _] _)); with_reducible refine' CW.lenS (by first | with_reducible assumption | with_unfolding_all exact Nat.le_of_ble_eq_true rfl) ?_) | ((with_reducible refine (?_ : OW fEq (D.str _) (D.str _) _)); with_reducible first | refine' OW.clT (by decide +kernel) ?_ | refine' OW.clF (by decide +kernel) ?_) | ((with_reducible refine (?_ : OW (fIn false) (D.str _) (D.tup _) _)); with_reducible first | refine' OW.clT (by decide +kernel) ?_ | refine' OW.clF (by decide +kernel) ?_) | ((with_reducible refine (?_ : RW (rPop _ _) _ _ _)); with_reducible refine' RW.pop (by with_unfolding_all exact rfl) (by with_reducible assumption) ?_) | ((with_reducible refine (?_ : RW (rRetG _) _ _ _)); with_reducible refine' RW.retG ?_) | ((with_reducible refine (?_ : IfK (@decide ((1:Int) < (List.length _ : Int)) _) _ _)); with_reducible first | refine' IfK.decT (by first | with_reducible assumption | decide) ?_ | refine' IfK.decF (by first | with_reducible assumption | decide) ?_) | (with_reducible first | refine' CK.ret ?_ | refine' SK.next ?_ | refine' SK.ret ?_ | refine' LK.next ?_ | refine' RW.nil ?_ | refine' RW.seq ?_) | ((with_reducible refine (?_ : RW _ _ _ _)); with_reducible refine' RW.lenOk (by with_unfolding_all exact rfl) ?_) | (with_reducible first | refine' SW.of ?_ | refine' PutAt.of ?_ ?_) | with_reducible exact SetR.z | (with_reducible first | refine' SetR.s3 ?_ | refine' SetR.s ?_) | (with_reducible refine (?_ : SetR _ (0 + 1) _ _)); refine SetR.s ?_ | ((with_reducible refine (?_ : RW _ _ _ _)); with_reducible refine' RW.retF (E := eVar _) (by with_unfolding_all exact rfl) ?_) | (with_reducible first | refine' RW.asg ?_ | refine' RW.ret ?_) | (fail_if_success (have : StopIf := by with_reducible assumption)); (with_reducible refine' RW.if ?_) | (with_reducible first | refine' RW.for ?_ | refine' RW.while ?_ | refine' RW.new ?_) | ((with_reducible refine (?_ : RW _ _ _ _)); with_reducible refine' RW.app (by with_unfolding_all exact rfl) (by first | with_reducible assumption | with_unfolding_all exact Nat.le_of_ble_eq_true rfl) ?_) | ((with_reducible refine (?_ : RW _ _ _ _)); with_reducible refine' RW.aug (by with_unfolding_all exact rfl) ?_) | (with_reducible first | refine' IfK.t ?_ | refine' IfK.f ?_) | (with_reducible refine' IfK.gd ?_; with_reducible refine' IfK.decT (by first | with_reducible assumption | with_unfolding_all omega) ?_) | (with_reducible refine' IfK.gd ?_; with_reducible refine' IfK.decF (by first | with_reducible assumption | with_unfolding_all omega) ?_) | (with_reducible first | refine' NotK.t ?_ | refine' NotK.f ?_ | refine' TruthK.bool ?_) | ((with_reducible refine (?_ : EW (eVar _) _ _)); with_reducible refine' EW.var (by with_unfolding_all exact rfl) ?_) | (with_reducible first | refine' EW.cst ?_ | refine' EW.e1 ?_ | refine' EW.e2 ?_ | refine' EW.call ?_ | refine' EW.tup ?_ | refine' EW.lst ?_ | refine' EW.comp ?_ | refine' EsW.nil ?_ | refine' EsW.cons ?_ | refine' TW.c ?_) | ((with_reducible refine (?_ : TpK _ _)); with_reducible refine' TpK.mk (by with_unfolding_all exact Nat.le_of_ble_eq_true rfl) ?_) | ((with_reducible refine (?_ : LsK _ _)); with_reducible refine' LsK.mk (by with_unfolding_all exact Nat.le_of_ble_eq_true rfl) ?_) | (with_reducible first | refine' TW.tOf ?_ | refine' TW.not ?_ | refine' TW.and ?_) | ((with_reducible refine (?_ : CW _ _ _)); with_reducible refine' CW.of (by with_reducible assumption) ?_) | ((with_reducible refine (?_ : OW _ _ _ _)); with_reducible refine' OW.of (by with_reducible assumption) ?_) | (with_reducible first | refine' OW.add ?_ | refine' OW.addI ?_ | refine' OW.sub ?_ | refine' OW.ord ?_ | refine' OW.eq ?_ | refine' OW.ne ?_) | ((with_reducible refine (?_ : OW fMul _ _ _)); with_reducible refine' OW.mul (by first | with_reducible assumption | with_unfolding_all exact mulOk_sm (by omega) (by omega)) ?_) | ((with_reducible refine (?_ : OW fDiv _ _ _)); with_reducible refine' OW.div (by with_reducible assumption) ?_) | ((with_reducible refine (?_ : OW fMod _ _ _)); with_reducible refine' OW.mod (by first | with_reducible assumption | with_unfolding_all omega) ?_) | ((with_reducible refine (?_ : OW fPow _ _ _)); with_reducible refine' OW.pow (by with_reducible assumption) ?_) | (with_reducible first | refine' UW.neg ?_) | (with_reducible first | refine' CW.abs ?_ | refine' CW.range1 ?_ | refine' CW.range2 ?_) | ((with_reducible refine (?_ : CW _ _ _)); with_reducible refine' CW.fn (by with_unfolding_all (repeat (first | exact StartsAt.nil | apply StartsAt.cons | apply StartsAt.unb))) (by with_unfolding_all exact rfl) ?_))
          rw [ep, Int.toNat_natCast]
          exact ⟨part / p, hlt, part / p, f', c' + 1, _, rfl, by omega, by omega, by omega, (bd'.mul pb).mono (by omega), ef ▸ hdw, rfl⟩
        · have hz' : ¬ (0 : Int) < (part : Int) := by omega
          have z0 : part = 0 := by omega
          subst z0
          rw [dwP_zero] at hdw
          repeat' ((fail_if_success (with_reducible refine (?_ : @Eq _ _ _))); first | ((with_reducible refine (?_ : EW (eCst (D.str _)) _ _)); with_reducible refine' EW.cstS (by with_reducible assumption) ?_) | ((with_reducible refine (?_ : OW fAdd (D.str _) (D.str _) _)); with_reducible refine' OW.addS (by with_unfolding_all (simp only [List.length_append, List.length_cons, List.length_nil]; omega)) ?_) | ((with_reducible refine (?_ : CW fStr _ _)); with_reducible refine' CW.str (by with_reducible assumption) ?_) | ((with_reducible refine (?_ : EW (eGen _ _) _ _)); with_reducible refine' EW.gen ?_) | ((with_reducible refine (?_ : GK _ _ _)); with_reducible refine' GK.of (by with_reducible assumption) ?_) | ((with_reducible refine (?_ : OW fNe (D.lst _) (D.lst _) _)); with_reducible refine' OW.neSelf ?_) | ((with_reducible refine (?_ : OW fEq (D.lst (intsD [_, _, _, _])) (D.lst _) _)); with_reducible refine' OW.eqSelf4 ?_) | ((with_reducible refine (?_ : EW (eComp _ _ (eVar _)) _ _)); with_reducible refine' EW.dgsVar (by with_unfolding_all exact rfl) (by first | with_reducible assumption | with_unfolding_all exact Nat.le_of_ble_eq_true rfl) ?_) | ((with_reducible refine (?_ : EW (eComp _ _ (Mine.e2 fSloS _ _)) _ _)); with_reducible refine' EW.dgsTail (by with_unfolding_all exact rfl) (by with_reducible assumption) ?_) | ((with_reducible refine (?_ : OW fEq (D.lst (List.map chD _)) (D.lst []) _)); with_reducible refine' OW.eqNil (by first | with_reducible assumption | decide) ?_) | ((with_reducible refine (?_ : IfK (List.all _ _) _ _)); with_reducible first | refine' IfK.hT (by first | with_reducible assumption | decide) ?_ | refine' IfK.hF (by first | with_reducible assumption | decide) ?_) | ((with_reducible refine (?_ : CW fInt [D.str _] _)); with_reducible refine' CW.intT (by with_reducible assumption) ?_) | ((with_reducible refine (?_ : CW fLen [D.str _] _)); with_reducible refine' CW.lenS (by first | with_reducible assumption | with_unfolding_all exact Nat.le_of_ble_eq_true rfl) ?_) | ((with_reducible refine (?_ : OW fEq (D.str _) (D.str _) _)); with_reducible first | refine' OW.clT (by decide +kernel) ?_ | refine' OW.clF (by decide +kernel) ?_) | ((with_reducible refine (?_ : OW (fIn false) (D.str _) (D.tup _) _)); with_reducible first | refine' OW.clT (by decide +kernel) ?_ | refine' OW.clF (by decide +kernel) ?_) | ((with_reducible refine (?_ : RW (rPop _ _) _ _ _)); with_reducible refine' RW.pop (by with_unfolding_all exact rfl) (by with_reducible assumption) ?_) | ((with_reducible refine (?_ : RW (rRetG _) _ _ _)); with_reducible refine' RW.retG ?_) | ((with_reducible refine (?_ : IfK (@decide ((1:Int) < (List.length _ : Int)) _) _ _)); with_reducible first | refine' IfK.decT (by first | with_reducible assumption | decide) ?_ | refine' IfK.decF (by first | with_reducible assumption | decide) ?_) | (with_reducible first | refine' CK.ret ?_ | refine' SK.next ?_ | refine' SK.ret ?_ | refine' LK.next ?_ | refine' RW.nil ?_ | refine' RW.seq ?_) | ((with_reducible refine (?_ : RW _ _ _ _)); with_reducible refine' RW.lenOk (by with_unfolding_all exact rfl) ?_) | (with_reducible first | refine' SW.of ?_ | refine' PutAt.of ?_ ?_) | with_reducible exact SetR.z | (with_reducible first | refine' SetR.s3 ?_ | refine' SetR.s ?_) | (with_reducible refine (?_ : SetR _ (0 + 1) _ _)); refine SetR.s ?_ | ((with_reducible refine (?_ : RW _ _ _ _)); with_reducible refine' RW.retF (E := eVar _) (by with_unfolding_all exact rfl) ?_) | (with_reducible first | refine' RW.asg ?_ | refine' RW.ret ?_) | (fail_if_success (have : StopIf := by with_reducible assumption)); (with_reducible refine' RW.if ?_) | (with_reducible first | refine' RW.for ?_ | refine' RW.while ?_ | refine' RW.new ?_) | ((with_reducible refine (?_ : RW _ _ _ _)); with_reducible refine' RW.app (by with_unfolding_all exact rfl) (by first | with_reducible assumption | with_unfolding_all exact Nat.le_of_ble_eq_true rfl) ?_) | ((with_reducible refine (?_ : RW _ _ _ _)); with_reducible refine' RW.aug (by with_unfolding_all exact rfl) ?_) | (with_reducible first | refine' IfK.t ?_ | refine' IfK.f ?_) | (with_reducible refine' IfK.gd ?_; with_reducible refine' IfK.decT (by first | with_reducible assumption | with_unfolding_all omega) ?_) | (with_reducible refine' IfK.gd ?_; with_reducible refine' IfK.decF (by first | with_reducible assumption | with_unfolding_all omega) ?_) | (with_reducible first | refine' NotK.t ?_ | refine' NotK.f ?_ | refine' TruthK.bool ?_) | ((with_reducible refine (?_ : EW (eVar _) _ _)); with_reducible refine' EW.var (by with_unfolding_all exact rfl) ?_) | (with_reducible first | refine' EW.cst ?_ | refine' EW.e1 ?_ | refine' EW.e2 ?_ | refine' EW.call ?_ | refine' EW.tup ?_ | refine' EW.lst ?_ | refine' EW.comp ?_ | refine' EsW.nil ?_ | refine' EsW.cons ?_ | refine' TW.c ?_) | ((with_reducible refine (?_ : TpK _ _)); with_reducible refine' TpK.mk (by with_unfolding_all exact Nat.le_of_ble_eq_true rfl) ?_) | ((with_reducible refine (?_ : LsK _ _)); with_reducible refine' LsK.mk (by with_unfolding_all exact Nat.le_of_ble_eq_true rfl) ?_) | (with_reducible first | refine' TW.tOf ?_ | refine' TW.not ?_ | refine' TW.and ?_) | ((with_reducible refine (?_ : CW _ _ _)); with_reducible refine' CW.of (by with_reducible assumption) ?_) | ((with_reducible refine (?_ : OW _ _ _ _)); with_reducible refine' OW.of (by with_reducible assumption) ?_) | (with_reducible first | refine' OW.add ?_ | refine' OW.addI ?_ | refine' OW.sub ?_ | refine' OW.ord ?_ | refine' OW.eq ?_ | refine' OW.ne ?_) | ((with_reducible refine (?_ : OW fMul _ _ _)); with_reducible refine' OW.mul (by first | with_reducible assumption | with_unfolding_all exact mulOk_sm (by omega) (by omega)) ?_) | ((with_reducible refine (?_ : OW fDiv _ _ _)); with_reducible refine' OW.div (by with_reducible assumption) ?_) | ((with_reducible refine (?_ : OW fMod _ _ _)); with_reducible refine' OW.mod (by first | with_reducible assumption | with_unfolding_all omega) ?_) | ((with_reducible refine (?_ : OW fPow _ _ _)); with_reducible refine' OW.pow (by with_reducible assumption) ?_) | (with_reducible first | refine' UW.neg ?_) | (with_reducible first | refine' CW.abs ?_ | refine' CW.range1 ?_ | refine' CW.range2 ?_) | ((with_reducible refine (?_ : CW _ _ _)); with_reducible refine' CW.fn (by with_unfolding_all (repeat (first | exact StartsAt.nil | apply StartsAt.cons | apply StartsAt.unb))) (by with_unfolding_all exact rfl) ?_))
          refine ⟨r, d', q * (p : Int), j + 1, c', .imm (.int (p : Int)), .imm (.int ((0 : Nat) : Int)), rfl, fun x hx => hr x (.tail _ hx), ?_, ?_, bd', by omega, (bq.mul p5).mono (by omega), by rw [List.length_cons] at hj; omega, rfl⟩
          · rw [← hd, hdw]; rfl
          · rw [← hq, natI_cons, prodI_cons, Int.mul_assoc]
    rintro σ ⟨r, d, q, j, c, s11, s12, e, hr, hd, hq, bd, hc, bq, hj, rfl⟩
    cases r with
    | cons p r => cases e
    | nil =>
      have hd' : d = dwF M.toNat ps 1 := hd
      have hq' : q = prodI (natI ps) := by rw [← hq]; exact (Int.mul_one q).symm
      rw [← hd', ← hq'] at r3
      have tj := T3_jn M
      have g3 : fG [.str (mkS (numL M ++ [32, 33, 32] ++ numL M ++ [32, 35, 32] ++ numL M ++ [32, 102, 32] ++ numL M ++ [32, 112]))] = some [d, q, d, q] := by
        have hl : (numL M ++ [32, 33, 32] ++ numL M ++ [32, 35, 32] ++ numL M ++ [32, 102, 32] ++ numL M ++ [32, 112]).length ≤ 9999 := by
          simp only [List.length_append, List.length_cons, List.length_nil]; omega
        rw [tj] at hl ⊢
        exact sG _ _ _ hl (wordsL_jn (T3_ok M)) (show 8 ≤ 5000 by decide) r3
      clear tj r3
      repeat' ((fail_if_success (with_reducible refine (?_ : @Eq _ _ _))); first | ((with_reducible refine (?_ : EW (eCst (D.str _)) _ _)); with_reducible refine' EW.cstS (by with_reducible assumption) ?_) | ((with_reducible refine (?_ : OW fAdd (D.str _) (D.str _) _)); with_reducible refine' OW.addS (by with_unfolding_all (simp only [List.length_append, List.length_cons, List.length_nil]; omega)) ?_) | ((with_reducible refine (?_ : CW fStr _ _)); with_reducible refine' CW.str (by with_reducible assumption) ?_) | ((with_reducible refine (?_ : EW (eGen _ _) _ _)); with_reducible refine' EW.gen ?_) | ((with_reducible refine (?_ : GK _ _ _)); with_reducible refine' GK.of (by with_reducible assumption) ?_) | ((with_reducible refine (?_ : OW fNe (D.lst _) (D.lst _) _)); with_reducible refine' OW.neSelf ?_) | ((with_reducible refine (?_ : OW fEq (D.lst (intsD [_, _, _, _])) (D.lst _) _)); with_reducible refine' OW.eqSelf4 ?_) | ((with_reducible refine (?_ : EW (eComp _ _ (eVar _)) _ _)); with_reducible refine' EW.dgsVar (by with_unfolding_all exact rfl) (by first | with_reducible assumption | with_unfolding_all exact Nat.le_of_ble_eq_true rfl) ?_) | ((with_reducible refine (?_ : EW (eComp _ _ (Mine.e2 fSloS _ _)) _ _)); with_reducible refine' EW.dgsTail (by with_unfolding_all exact rfl) (by with_reducible assumption) ?_) | ((with_reducible refine (?_ : OW fEq (D.lst (List.map chD _)) (D.lst []) _)); with_reducible refine' OW.eqNil (by first | with_reducible assumption | decide) ?_) | ((with_reducible refine (?_ : IfK (List.all _ _) _ _)); with_reducible first | refine' IfK.hT (by first | with_reducible assumption | decide) ?_ | refine' IfK.hF (by first | with_reducible assumption | decide) ?_) | ((with_reducible refine (?_ : CW fInt [D.str _] _)); with_reducible refine' CW.intT (by with_reducible assumption) ?_) | ((with_reducible refine (?_ : CW fLen [D.str _] _)); with_reducible refine' CW.lenS (by first | with_reducible assumption | with_unfolding_all exact Nat.le_of_ble_eq_true rfl) ?_) | ((with_reducible refine (?_ : OW fEq (D.str _) (D.str _) _)); with_reducible first | refine' OW.clT (by decide +kernel) ?_ | refine' OW.clF (by decide +kernel) ?_) | ((with_reducible refine (?_ : OW (fIn false) (D.str _) (D.tup _) _)); with_reducible first | refine' OW.clT (by decide +kernel) ?_ | refine' OW.clF (by decide +kernel) ?_) | ((with_reducible refine (?_ : RW (rPop _ _) _ _ _)); with_reducible refine' RW.pop (by with_unfolding_all exact rfl) (by with_reducible assumption) ?_) | ((with_reducible refine (?_ : RW (rRetG _) _ _ _)); with_reducible refine' RW.retG ?_) | ((with_reducible refine (?_ : IfK (@decide ((1:Int) < (List.length _ : Int)) _) _ _)); with_reducible first | refine' IfK.decT (by first | with_reducible assumption | decide) ?_ | refine' IfK.decF (by first | with_reducible assumption | decide) ?_) | (with_reducible first | refine' CK.ret ?_ | refine' SK.next ?_ | refine' SK.ret ?_ | refine' LK.next ?_ | refine' RW.nil ?_ | refine' RW.seq ?_) | ((with_reducible refine (?_ : RW _ _ _ _)); with_reducible refine' RW.lenOk (by with_unfolding_all exact rfl) ?_) | (with_reducible first | refine' SW.of ?_ | refine' PutAt.of ?_ ?_) | with_reducible exact SetR.z | (with_reducible first | refine' SetR.s3 ?_ | refine' SetR.s ?_) | (with_reducible refine (?_ : SetR _ (0 + 1) _ _)); refine SetR.s ?_ | ((with_reducible refine (?_ : RW _ _ _ _)); with_reducible refine' RW.retF (E := eVar _) (by with_unfolding_all exact rfl) ?_) | (with_reducible first | refine' RW.asg ?_ | refine' RW.ret ?_) | (fail_if_success (have : StopIf := by with_reducible assumption)); (with_reducible refine' RW.if ?_) | (with_reducible first | refine' RW.for ?_ | refine' RW.while ?_ | refine' RW.new ?_) | ((with_reducible refine (?_ : RW _ _ _ _)); with_reducible refine' RW.app (by with_unfolding_all exact rfl) (by first | with_reducible assumption | with_unfolding_all exact Nat.le_of_ble_eq_true rfl) ?_) | ((with_reducible refine (?_ : RW _ _ _ _)); with_reducible refine' RW.aug (by with_unfolding_all exact rfl) ?_) | (with_reducible first | refine' IfK.t ?_ | refine' IfK.f ?_) | (with_reducible refine' IfK.gd ?_; with_reducible refine' IfK.decT (by first | with_reducible assumption | with_unfolding_all omega) ?_) | (with_reducible refine' IfK.gd ?_; with_reducible refine' IfK.decF (by first | with_reducible assumption | with_unfolding_all omega) ?_) | (with_reducible first | refine' NotK.t ?_ | refine' NotK.f ?_ | refine' TruthK.bool ?_) | ((with_reducible refine (?_ : EW (eVar _) _ _)); with_reducible refine' EW.var (by with_unfolding_all exact rfl) ?_) | (with_reducible first | refine' EW.cst ?_ | refine' EW.e1 ?_ | refine' EW.e2 ?_ | refine' EW.call ?_ | refine' EW.tup ?_ | refine' EW.lst ?_ | refine' EW.comp ?_ | refine' EsW.nil ?_ | refine' EsW.cons ?_ | refine' TW.c ?_) | ((with_reducible refine (?_ : TpK _ _)); with_reducible refine' TpK.mk (by with_unfolding_all exact Nat.le_of_ble_eq_true rfl) ?_) | ((with_reducible refine (?_ : LsK _ _)); with_reducible refine' LsK.mk (by with_unfolding_all exact Nat.le_of_ble_eq_true rfl) ?_) | (with_reducible first | refine' TW.tOf ?_ | refine' TW.not ?_ | refine' TW.and ?_) | ((with_reducible refine (?_ : CW _ _ _)); with_reducible refine' CW.of (by with_reducible assumption) ?_) | ((with_reducible refine (?_ : OW _ _ _ _)); with_reducible refine' OW.of (by with_reducible assumption) ?_) | (with_reducible first | refine' OW.add ?_ | refine' OW.addI ?_ | refine' OW.sub ?_ | refine' OW.ord ?_ | refine' OW.eq ?_ | refine' OW.ne ?_) | ((with_reducible refine (?_ : OW fMul _ _ _)); with_reducible refine' OW.mul (by first | with_reducible assumption | with_unfolding_all exact mulOk_sm (by omega) (by omega)) ?_) | ((with_reducible refine (?_ : OW fDiv _ _ _)); with_reducible refine' OW.div (by with_reducible assumption) ?_) | ((with_reducible refine (?_ : OW fMod _ _ _)); with_reducible refine' OW.mod (by first | with_reducible assumption | with_unfolding_all omega) ?_) | ((with_reducible refine (?_ : OW fPow _ _ _)); with_reducible refine' OW.pow (by with_reducible assumption) ?_) | (with_reducible first | refine' UW.neg ?_) | (with_reducible first | refine' CW.abs ?_ | refine' CW.range1 ?_ | refine' CW.range2 ?_) | ((with_reducible refine (?_ : CW _ _ _)); with_reducible refine' CW.fn (by with_unfolding_all (repeat (first | exact StartsAt.nil | apply StartsAt.cons | apply StartsAt.unb))) (by with_unfolding_all exact rfl) ?_))
      rfl

theorem law_holds {I : GI} (hat : HatI I hd.view_39) (hdg : ∀ h, I.Gl h → h.NoDigits) (fabs : I.mg ("abs" : Str) = none) (flen : I.mg ("len" : Str) = none) (frange : I.mg ("range" : Str) = none) (fint : I.mg ("int" : Str) = none) (fstr : I.mg ("str" : Str) = none) (hlist : I.mg ("list" : Str) = none) : ∃ G, FunG I 4 ("law" : Str) G ∧ ∀ (ns : List Int), ns.length ≤ 63 → G [.lst (intsD ns)] = some (.bool true) := by
  have habs : FunOK I 0 ("abs" : Str) fAbs := FunOK.builtin fabs (by decide) rfl PrimOK.abs
  have hlen : FunOK I 0 ("len" : Str) fLen := FunOK.builtin flen (by decide) rfl PrimOK.len
  have hrange : FunOK I 0 ("range" : Str) fRange := FunOK.type frange (by decide) rfl PrimOK.range
  have hint : FunOK I 0 ("int" : Str) fInt := FunOK.type fint (by decide) rfl PrimOK.int
  have hstr : FunOK I 0 ("str" : Str) fStr := FunOK.type fstr (by decide) rfl (PrimOK.str hdg)
  obtain ⟨d0, _, n0, g0, q0, t0⟩ := ok_primegen hat
  rw [n0] at q0
  obtain ⟨d1, _, n1, g1, q1, t1⟩ := ok_iterprod hat
  rw [n1] at q1
  obtain ⟨d2, _, n2, g2, q2, t2⟩ := ok_rpn hat hrange hlen hint q0 q1 t0 t1
  rw [n2] at q2
  obtain ⟨d3, _, n3, g3, q3, t3⟩ := ok__law_at hat hlen
  rw [n3] at q3
  obtain ⟨d4, _, n4, g4, q4, t4⟩ := ok__law_cut hat
  rw [n4] at q4
  obtain ⟨d5, _, n5, g5, q5, t5⟩ := ok__law_figures hat
  rw [n5] at q5
  obtain ⟨d6, _, n6, g6, q6, t6⟩ := ok__law_primes hat hrange
  rw [n6] at q6
  obtain ⟨d7, _, n7, g7, q7, t7⟩ := ok_law hat hlist hstr habs hlen hrange q2 t2 q3 q4 q5 q6 t3 t4 t5 t6
  rw [n7] at q7
  exact ⟨_, q7, t7⟩
end Mine

theorem PySem.Challenge.cw_yt0001_04_holds : PySem.Challenge.rw_yt0001_04.Holds := by
  refine Mine.hd ?_
  k_fill
  intro w s₀ s₁ mg mb G Y fa o pm cd doc dV kV ho hd hcd hD hmg hg args vals as hpre hlay hrd hwl hlo
  have KX := kIn_of Y
  clear Y ho hd hcd hD
  refine Ground.open G ?_
  intro T B D TE TW
  wrow_args hpre hlay hrd hwl hlo
  rename_i hlen63 _
  obtain ⟨GG, hG, hT⟩ := Mine.law_holds (I := Mine.giOf PySem.Challenge.rw_yt0001_04.row.prog w mg mb Mine.hd.view_39 _ _ _ T.builtins) (fun i d e => Mine.fnAt_of (hboot := T.builtins) T e) (fun h hG => hG.1.nodigits) (Mine.free_of T KX (by rfl)) (Mine.free_of T KX (by rfl)) (Mine.free_of T KX (by rfl)) (Mine.free_of T KX (by rfl)) (Mine.free_of T KX (by rfl)) (Mine.free_of T KX (by rfl))
  refine Mine.law_endG (hboot := T.builtins) T KX hmg hG (by decide) hg (by assumption) (by assumption) (hT _ (by omega)) ?_
  intro h' tk gs hk hb
  exact ⟨.inl ⟨.bool true, .bool true, [], rfl, fun _ => rfl, ReadsW.bool true, by wrow_post, unshared_nil⟩, .of_keep hk, rfl, hb⟩
