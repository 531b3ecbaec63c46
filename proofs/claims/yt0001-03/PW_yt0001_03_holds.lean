import PyProof.Rows.All
import Wide.All
import OpenK.AllK
import Wide.FinOn
import Lean
import PySem.Challenge.RW_yt0001_03
set_option maxRecDepth 100000
open PySem PySem.W PyProof.Rows
set_option Elab.async false
set_option maxRecDepth 100000
namespace Mine

/-- pure data -/
inductive D where
  | none
  | bool (b : Bool)
  | int (i : Int)
  | str (s : Str)
  | tup (l : List D)
  | lst (l : List D)
  | rng (a b c : Int)
  | adr (a : Addr)

noncomputable abbrev G := Addr → Option Obj
noncomputable def Sub (g g' : G) : Prop := ∀ b o, g b = some o → g' b = some o
noncomputable def Grow (h h' : Heap) : Prop := ∀ b o, h.get? b = some o → h'.get? b = some o
noncomputable def ext (g : G) (h h' : Heap) : G := fun b => if (h.get? b).isSome = true then g b else h'.get? b

theorem Sub.refl (g : G) : Sub g g := fun _ _ e => e
theorem Sub.trans {a b c : G} (x : Sub a b) (y : Sub b c) : Sub a c := fun i o e => y i o (x i o e)
theorem Grow.refl (h : Heap) : Grow h h := fun _ _ e => e
theorem Grow.trans {a b c : Heap} (x : Grow a b) (y : Grow b c) : Grow a c := fun i o e => y i o (x i o e)
theorem Grow.push (h : Heap) (o : Obj) : Grow h (h.push o) := fun _ _ e => Heap.get?_push_of_some _ e

theorem ext_old {g : G} {h h' : Heap} {b : Addr} {o : Obj} (e : h.get? b = some o) : ext g h h' b = g b := by
  unfold ext; rw [e]; rfl
theorem ext_new {g : G} {h h' : Heap} {b : Addr} (e : h.get? b = none) : ext g h h' b = h'.get? b := by
  unfold ext; rw [e]; rfl
theorem ext_sub {g : G} {h h' : Heap} (s : Sub g h.get?) : Sub g (ext g h h') := fun b o e => by
  rw [ext_old (s b o e)]; exact e
theorem ext_in {g : G} {h h' : Heap} (s : Sub g h.get?) (k : Grow h h') : Sub (ext g h h') h'.get? := fun b o e => by
  cases q : h.get? b with
  | none => rw [ext_new q] at e; exact e
  | some o' => rw [ext_old q] at e; exact k b o (s b o e)
theorem ext_ext {g : G} {h h₁ h₂ : Heap} (k : Grow h h₁) (k' : Grow h₁ h₂) : ext (ext g h h₁) h₁ h₂ = ext g h h₂ := by
  funext b
  cases q : h.get? b with
  | some o => rw [ext_old (k b o q), ext_old q, ext_old q]
  | none =>
    rw [ext_new q]
    cases q' : h₁.get? b with
    | some o => rw [ext_old q', ext_new q, q', k' b o q']
    | none => rw [ext_new q']
theorem ext_self {g : G} {h : Heap} (s : Sub g h.get?) : ext g h h = g := by
  funext b
  cases q : h.get? b with
  | some o => exact ext_old q
  | none =>
    rw [ext_new q, q]
    cases e : g b with
    | none => rfl
    | some o => rw [s b o e] at q; cases q

mutual
noncomputable def Is (g : G) : D → Value → Prop
  | .none, v => v = .none
  | .bool b, v => v = .bool b
  | .int i, v => ∃ t, v = .int i t
  | .str x, v => ∃ t, v = .str x t
  | .tup l, v => ∃ a o vs n, v = .ref a ∧ g a = some o ∧ o.cls = .type "tuple" ∧ o.data = .seq vs n ∧ IsL g l vs.toList
  | .lst l, v => ∃ a o vs n, v = .ref a ∧ g a = some o ∧ o.cls = .type "list" ∧ o.data = .seq vs n ∧ IsL g l vs.toList
  | .rng a b c, v => ∃ r t u w, v = .ref r ∧ g r = some { cls := .type "range", dict := none, data := .fields #[.int a t, .int b u, .int c w], slots := #[] }
  | .adr a, v => v = .ref a
noncomputable def IsL (g : G) : List D → List Value → Prop
  | [], vs => vs = []
  | d :: ds, vs => ∃ v vs', vs = v :: vs' ∧ Is g d v ∧ IsL g ds vs'
end

mutual
theorem Is.mono {g g' : G} (s : Sub g g') : ∀ (d : D) {v : Value}, Is g d v → Is g' d v
  | .none, _ => fun h => h
  | .bool _, _ => fun h => h
  | .int _, _ => fun h => h
  | .str _, _ => fun h => h
  | .tup l, _ => fun h => h.imp fun _ h => h.imp fun _ h => h.imp fun _ h => h.imp fun _ h => ⟨h.1, s _ _ h.2.1, h.2.2.1, h.2.2.2.1, IsL.mono s l h.2.2.2.2⟩
  | .lst l, _ => fun h => h.imp fun _ h => h.imp fun _ h => h.imp fun _ h => h.imp fun _ h => ⟨h.1, s _ _ h.2.1, h.2.2.1, h.2.2.2.1, IsL.mono s l h.2.2.2.2⟩
  | .rng _ _ _, _ => fun h => h.imp fun _ h => h.imp fun _ h => h.imp fun _ h => h.imp fun _ h => ⟨h.1, s _ _ h.2⟩
  | .adr _, _ => fun h => h
theorem IsL.mono {g g' : G} (s : Sub g g') : ∀ (l : List D) {vs : List Value}, IsL g l vs → IsL g' l vs
  | [], _ => fun h => h
  | d :: ds, _ => fun h => h.imp fun _ h => h.imp fun _ h => ⟨h.1, Is.mono s d h.2.1, IsL.mono s ds h.2.2⟩
end
theorem no_some {α : Type} {d : α} {p : Prop} (h : (none : Option α) = some d) : p := nomatch h
theorem no_tf {p : Prop} (h : false = true) : p := nomatch h
theorem ite_some {α : Type} {c : Prop} [Decidable c] {a d : α} (h : (if c then some a else none) = some d) : c ∧ a = d := by
  by_cases q : c
  · rw [if_pos q] at h; exact ⟨q, Option.some.inj h⟩
  · rw [if_neg q] at h; exact no_some h

theorem IsL.length {g : G} : ∀ {l : List D} {vs : List Value}, IsL g l vs → vs.length = l.length := by
  intro l
  induction l with
  | nil => intro vs h; rw [show vs = [] from h]; rfl
  | cons x ds ih =>
    intro vs h
    obtain ⟨v, r, rfl, _, h⟩ := h
    exact congrArg Nat.succ (ih h)
theorem IsL.get {g : G} : ∀ {l : List D} {vs : List Value} {i : Nat} {d : D}, IsL g l vs → l[i]? = some d → ∃ v, vs[i]? = some v ∧ Is g d v := by
  intro l
  induction l with
  | nil => intro vs i d _ q; exact no_some q
  | cons x ds ih =>
    intro vs i d h q
    obtain ⟨v, vs', rfl, h, h'⟩ := h
    cases i with
    | zero => exact ⟨v, rfl, Option.some.inj q ▸ h⟩
    | succ i =>
      obtain ⟨w, a, b⟩ := ih (vs := vs') (i := i) h' q
      exact ⟨w, a, b⟩
theorem IsL.append {g : G} : ∀ {l l' : List D} {vs vs' : List Value}, IsL g l vs → IsL g l' vs' → IsL g (l ++ l') (vs ++ vs') := by
  intro l
  induction l with
  | nil => intro l' vs vs' h h'; rw [show vs = [] from h]; exact h'
  | cons x ds ih =>
    intro l' vs vs' h h'
    obtain ⟨v, r, rfl, h, h2⟩ := h
    exact ⟨v, _, rfl, h, ih h2 h'⟩

/-- a value that bears no reference -/
noncomputable def flat : D → Bool
  | .none | .bool _ | .int _ | .str _ => true
  | _ => false
theorem Is.flat {g g' : G} {d : D} {v : Value} (hf : Mine.flat d = true) (h : Is g d v) : Is g' d v := by
  cases d <;> first | exact h | cases hf

structure GI where
  prog : Program
  w : World
  mg : Str → Option Value
  mb : Str → Option Value
  Gl : Heap → Prop
  grow : ∀ {h h'}, Gl h → Grow h h' → Gl h'
  g : ∀ {h}, Gl h → h.Ns mainGlobals mg
  b : ∀ {h}, Gl h → h.Ns builtinsNs mb
  nolimit : ∀ {h}, Gl h → h.NoLimit
  boot : ∀ x : Str, x ≠ "__name__" → mb x = bootBuiltins x

noncomputable abbrev R := List (Option D)
noncomputable abbrev Ev := R → Option D

noncomputable def Holds (env : Env) (h : Heap) (x : Str) (v : Value) : Prop :=
  (env.kindOf x = some .local ∧ ∃ m, h.Ns env.locals m ∧ m x = some v) ∨ (env.kindOf x = some .cell ∧ ∃ c, env.cells.lookup x = some c ∧ h.IsCell c (some v))
theorem Holds.grow {env : Env} {h h' : Heap} {x : Str} {v : Value} (k : Grow h h') : Holds env h x v → Holds env h' x v
  | .inl ⟨a, m, b, c⟩ => .inl ⟨a, m, b.keeps k, c⟩
  | .inr ⟨a, c, b, d⟩ => .inr ⟨a, c, b, d.keeps k⟩

structure View (I : GI) (env : Env) (ns : List Str) (g : G) (r : R) (h : Heap) : Prop where
  sub : Sub g h.get?
  gl : I.Gl h
  var : ∀ (i : Nat) (x : Str) (d : D), ns[i]? = some x → (env.kindOf x = some .local ∨ env.kindOf x = some .cell) → r[i]? = some (some d) → ∃ v, Is g d v ∧ Holds env h x v
theorem View.grow {I : GI} {env : Env} {ns : List Str} {g : G} {r : R} {h h' : Heap} (V : View I env ns g r h) (k : Grow h h') : View I env ns (ext g h h') r h' where
  sub := ext_in V.sub k
  gl := I.grow V.gl k
  var := fun i x d e ek e' => let ⟨v, a, b⟩ := V.var i x d e ek e'; ⟨v, Is.mono (ext_sub V.sub) d a, b.grow k⟩

noncomputable def AOK (k : Nat) (A : Around) : Prop := A.handled = none ∧ A.depth + k < recursionLimit ∧ A.units + 3 * k + 200 < cLine
theorem AOK.up {k : Nat} {A A' : Around} (h : AOK (k + 1) A) (a : A'.handled = none) (d : A'.depth ≤ A.depth + 1) (u : A'.units ≤ A.units + 3) : AOK k A' := by
  refine ⟨a, Nat.lt_of_le_of_lt (Nat.add_le_add_right d k) ?_, Nat.lt_of_le_of_lt (Nat.add_le_add_right (Nat.add_le_add_right u (3 * k)) 200) ?_⟩
  · rw [Nat.add_right_comm]; exact h.2.1
  · rw [Nat.add_right_comm A.units]; exact h.2.2
theorem AOK.deeper {k : Nat} {A : Around} {env : Env} (h : AOK (k + 1) A) : AOK k (A.deeper env) := h.up h.1 (Nat.le_refl _) (Nat.le_refl _)
/-- small arithmetic, apart from great contexts -/
theorem idx_next {n j m : Nat} (h : n - j = m + 1) : n - (j + 1) = m ∧ j + 1 ≤ n ∧ j < n :=
  have hlt : j < n := Nat.lt_of_sub_ne_zero (by rw [h]; exact Nat.succ_ne_zero m)
  ⟨congrArg Nat.pred h, hlt, hlt⟩
theorem idx_eq {n j m : Nat} (h : n - j = m + 1) : n - 1 - m = j := by
  have hn : n = m + 1 + j := Nat.eq_add_of_sub_eq (Nat.le_of_lt (idx_next h).2.2) h
  rw [hn, Nat.sub_sub, Nat.add_comm 1 m, Nat.add_sub_cancel_left]
theorem idx_end {n j : Nat} (h : n - j = 0) (hj : j ≤ n) : j = n := Nat.le_antisymm hj (Nat.le_of_sub_eq_zero h)
theorem AOK.room {k : Nat} {A : Around} (h : AOK k A) : A.depth < recursionLimit := Nat.lt_of_le_of_lt (Nat.le_add_right _ _) h.2.1
theorem AOK.le {k k' : Nat} {A : Around} (h : AOK k' A) (l : k ≤ k') : AOK k A := by
  obtain ⟨a, b, c⟩ := h
  exact ⟨a, Nat.lt_of_le_of_lt (Nat.add_le_add_left l _) b, Nat.lt_of_le_of_lt (Nat.add_le_add_right (Nat.add_le_add_left (Nat.mul_le_mul_left 3 l) _) 200) c⟩

structure EnvS (sc : Scope) (env : Env) : Prop where
  scope : env.scope = sc
  globals : env.globals = mainGlobals
  builtins : env.builtins = builtinsNs
  cells : ∀ x, sc.names.lookup x = some .cell → (env.cells.lookup x).isSome = true

noncomputable def Post (g : G) (s : Shared) (d : D) (Q : Value → Shared → Prop) : Prop :=
  ∀ v h' tk, Grow s.heap h' → Is (ext g s.heap h') d v → Q v { s with heap := h', toks := tk }

theorem Post.now {g : G} {s : Shared} {d : D} {Q : Value → Shared → Prop} {v : Value} {tk : Nat} (P : Post g s d Q) (sub : Sub g s.heap.get?) (h : Is g d v) : Q v { s with toks := tk } :=
  P v s.heap tk (Grow.refl _) (by rw [ext_self sub]; exact h)

/-- an expression's meaning -/
noncomputable def EvOK (I : GI) (k : Nat) (sc : Scope) (ns : List Str) (e : Expr) (F : Ev) : Prop :=
  ∀ (env : Env) (A : Around) (g : G) (r : R) (s : Shared) (d : D) (Q : Value → Shared → Prop) (E : Value → Shared → Prop),
    EnvS sc env → AOK k A → View I env ns g r s.heap → F r = some d → Post g s d Q → wpAny (model I.prog I.w) A (eval e env) Q E s

section
variable {I : GI} {k : Nat} {sc : Scope} {ns : List Str}

/-- the step behind a first part: the rest goes on from a grown heap -/
theorem Post.step {g : G} {s : Shared} {d : D} {Q : Value → Shared → Prop} {h₁ : Heap} {tk : Nat} (P : Post g s d Q) (k₁ : Grow s.heap h₁) :
    Post (ext g s.heap h₁) { s with heap := h₁, toks := tk } d Q := fun v h' tk' k₂ h => P v h' tk' (k₁.trans k₂) (by rw [ext_ext k₁ k₂] at h; exact h)

noncomputable def eVar (i : Nat) : Ev := fun r => match r[i]? with | some (some d) => some d | _ => none
theorem EvOK.var {x : Str} {pos : Pos} {i : Nat} (hk : sc.kind = .function) (hx : ns[i]? = some x) (hd : (x == ("__debug__" : Str)) = false) (hn : sc.names.lookup x = some .local ∨ sc.names.lookup x = some .cell) : EvOK I k sc ns (.Name x pos) (eVar i) := by
  intro env A g r s d Q E hS hA V hF P
  have e : r[i]? = some (some d) := by
    unfold eVar at hF
    cases q : r[i]? with
    | none => rw [q] at hF; exact no_some hF
    | some o =>
      rw [q] at hF
      cases o with
      | none => exact no_some hF
      | some d' => cases hF; rfl
  obtain ⟨v, hi, hv⟩ := V.var i x d hx (by unfold Env.kindOf; rw [hS.scope]; exact hn) e
  refine wpAny_Name ?_ hd
  have q := P.now (tk := s.toks) V.sub hi
  rcases hv with ⟨hl, m, hn, hm⟩ | ⟨hl, c, hc, hv⟩
  · exact wpAny_loadName_local (hS.scope ▸ hk) hl hn hm q
  · exact wpAny_loadName_cell (hS.scope ▸ hk) hl hc hv q

noncomputable def eCst (d : D) : Ev := fun _ => some d
theorem EvOK.cint {i : Int} {kk pos} : EvOK I k sc ns (.Constant (.int i) kk pos) (eCst (.int i)) := by
  intro env A g r s d Q E hS hA V hF P
  cases hF
  exact wpAny_Constant_int (P.now V.sub ⟨_, rfl⟩)
theorem EvOK.cstr {x : Str} {kk pos} : EvOK I k sc ns (.Constant (.str x) kk pos) (eCst (.str x)) := by
  intro env A g r s d Q E hS hA V hF P
  cases hF
  exact wpAny_Constant_str (P.now V.sub ⟨_, rfl⟩)
theorem EvOK.cbool {b : Bool} {kk pos} : EvOK I k sc ns (.Constant (.bool b) kk pos) (eCst (.bool b)) := by
  intro env A g r s d Q E hS hA V hF P
  cases hF
  exact wpAny_Constant_bool (P.now (tk := s.toks) V.sub rfl)
/-- two operands, then an operation on values -/
noncomputable def OpOK (I : GI) (k : Nat) (op : Value → Value → Sem Value) (f : D → D → Option D) : Prop :=
  ∀ (A : Around) (g : G) (s : Shared) (x y d : D) (u v : Value) (Q : Value → Shared → Prop) (E : Value → Shared → Prop),
    AOK k A → Sub g s.heap.get? → I.Gl s.heap → Is g x u → Is g y v → f x y = some d → Post g s d Q → wpAny (model I.prog I.w) A (op u v) Q E s

noncomputable def e2 (f : D → D → Option D) (F F' : Ev) : Ev := fun r => match F r with
  | some x => match F' r with
    | some y => f x y
    | none => none
  | none => none
theorem e2_some {f : D → D → Option D} {F F' : Ev} {r : R} {d : D} (h : e2 f F F' r = some d) : ∃ x y, F r = some x ∧ F' r = some y ∧ f x y = some d := by
  unfold e2 at h
  split at h
  · rename_i x hx
    split at h
    · rename_i y hy; exact ⟨x, y, hx, hy, h⟩
    · cases h
  · cases h

theorem EvOK.two {l r : Expr} {F F' : Ev} {op : Value → Value → Sem Value} {f : D → D → Option D} {e : Expr} (hl : EvOK I k sc ns l F) (hr : EvOK I k sc ns r F') (ho : OpOK I k op f)
    (he : ∀ (env : Env) (A : Around) (s : Shared) (Q : Value → Shared → Prop) (E : Value → Shared → Prop), EnvS sc env →
      wpAny (model I.prog I.w) A (eval l env) (fun a s₁ => wpAny (model I.prog I.w) A (eval r env) (fun b s₂ => wpAny (model I.prog I.w) A (op a b) Q E s₂) E s₁) E s → wpAny (model I.prog I.w) A (eval e env) Q E s) :
    EvOK I k sc ns e (e2 f F F') := by
  intro env A g r s d Q E hS hA V hF P
  obtain ⟨x, y, hx, hy, hf⟩ := e2_some hF
  refine he _ _ _ _ _ hS (hl env A g r s x _ E hS hA V hx fun u h₁ tk₁ k₁ hu => ?_)
  refine hr env A _ r _ y _ E hS hA (V.grow k₁) hy fun v h₂ tk₂ k₂ hv => ?_
  have V₂ := (V.grow k₁).grow k₂
  refine ho A _ _ x y d u v Q E hA V₂.sub V₂.gl (Is.mono (ext_sub (V.grow k₁).sub) x hu) hv hf ?_
  exact (P.step k₁).step (s := { s with heap := h₁, toks := tk₁ }) k₂

theorem EvOK.bin {l r : Expr} {op : Operator} {pos : Pos} {F F' : Ev} {f : D → D → Option D} (hl : EvOK I k sc ns l F) (hr : EvOK I k sc ns r F') (ho : OpOK I k (binaryOp op) f) :
    EvOK I k sc ns (.BinOp l op r pos) (e2 f F F') := EvOK.two hl hr ho fun _ _ _ _ _ _ h => wpAny_BinOp h
theorem EvOK.cmp {l r : Expr} {op : CmpOp} {pos : Pos} {F F' : Ev} {f : D → D → Option D} (hl : EvOK I k sc ns l F) (hr : EvOK I k sc ns r F') (ho : OpOK I k (compareOp op) f)
    (hm : behindInMarks op r = false) : EvOK I k sc ns (.Compare l [op] [r] pos) (e2 f F F') := EvOK.two hl hr ho fun _ _ _ _ _ _ h => wpAny_Compare1 h hm

end
end Mine
open PySem PySem.W PyProof.Rows PySem.Spec
set_option linter.unusedVariables false
set_option Elab.async false
set_option maxRecDepth 100000
namespace Mine
section
variable {I : GI} {k : Nat} {sc : Scope} {ns : List Str}

noncomputable def mulOk (a b : Int) : Bool := !(decide (Builtin.Int.intBits a > shortFactorBits) && decide (Builtin.Int.intBits b > shortFactorBits) && Builtin.Int.intTooBig (Builtin.Int.intBits a + Builtin.Int.intBits b))
theorem mulOk_ok {a b : Int} (h : mulOk a b = true) : IntMulOk a b := by
  unfold IntMulOk; intro e; unfold mulOk at h; rw [e] at h; cases h
noncomputable def divOk (a b : Int) : Bool := decide (b ≠ 0) && decide (b.natAbs.log2 < 9000)
noncomputable def powOk (a n : Int) : Bool := decide (0 ≤ n) && decide ((Builtin.Int.intBits a : Int) * n ≤ 2 ^ 27)

theorem Is.isList {g : G} {h : Heap} {l : List D} {v : Value} (s : Sub g h.get?) (i : Is g (.lst l) v) : ∃ a vs, v = .ref a ∧ h.IsList a vs ∧ IsL g l vs.toList := by
  obtain ⟨a, o, vs, n, e, h1, h2, h3, h4⟩ := i
  exact ⟨a, vs, e, ⟨o, s _ _ h1, h2, n, h3⟩, h4⟩
theorem Is.isTup {g : G} {h : Heap} {l : List D} {v : Value} (s : Sub g h.get?) (i : Is g (.tup l) v) : ∃ a vs, v = .ref a ∧ IsTup h a vs ∧ IsL g l vs.toList := by
  obtain ⟨a, o, vs, n, e, h1, h2, h3, h4⟩ := i
  exact ⟨a, vs, e, ⟨o, s _ _ h1, h2, n, h3⟩, h4⟩

/-- a new object behind the heap -/
theorem Post.push {g : G} {s : Shared} {d : D} {Q : Value → Shared → Prop} {o : Obj} {tk : Nat} (P : Post g s d Q) (sub : Sub g s.heap.get?) (hf : o.isFreed = false)
    (h : ∀ g', g' s.heap.objs.size = some o → Sub g g' → Is g' d (.ref s.heap.objs.size)) : Q (.ref s.heap.objs.size) { s with heap := s.heap.push o, toks := tk } := by
  refine P _ _ tk (Grow.push _ _) (h _ ?_ (ext_sub sub))
  have hn : s.heap.get? s.heap.objs.size = none := by
    cases q : s.heap.get? s.heap.objs.size with
    | none => rfl
    | some o' => exact absurd (Heap.lt_size q) (Nat.lt_irrefl _)
  rw [ext_new hn]
  exact Heap.get?_push_size _ hf

theorem Post.newTuple {g : G} {s : Shared} {l : List D} {vs : List Value} {Q : Value → Shared → Prop} {tk : Nat} (P : Post g s (.tup l) Q) (sub : Sub g s.heap.get?) (h : IsL g l vs) :
    Q (.ref s.heap.objs.size) { s with heap := s.heap.push { cls := .type "tuple", data := .seq vs.toArray }, toks := tk } :=
  P.push sub rfl fun g' e k => ⟨_, _, _, _, rfl, e, rfl, rfl, IsL.mono k l h⟩
theorem Post.newList {g : G} {s : Shared} {l : List D} {vs : List Value} {Q : Value → Shared → Prop} {tk : Nat} (P : Post g s (.lst l) Q) (sub : Sub g s.heap.get?) (h : IsL g l vs) :
    Q (.ref s.heap.objs.size) { s with heap := s.heap.push { cls := .type "list", data := .seq vs.toArray }, toks := tk } :=
  P.push sub rfl fun g' e k => ⟨_, _, _, _, rfl, e, rfl, rfl, IsL.mono k l h⟩

noncomputable def fAdd : D → D → Option D
  | .int a, .int b => some (.int (a + b))
  | .str a, .str b => if a.length + b.length ≤ sizeLine then some (.str (a ++ b)) else none
  | .lst a, .lst b => if a.length + b.length ≤ sizeLine then some (.lst (a ++ b)) else none
  | _, _ => none
theorem OpOK.add : OpOK I k (binaryOp .Add) fAdd := by
  intro A g s x y d u v Q E hA sub gl hx hy hf P
  cases x with
  | int a =>
    cases y with
    | int b =>
      obtain ⟨t, rfl⟩ := hx
      obtain ⟨t', rfl⟩ := hy
      cases hf
      exact PySem.P.add_int (P.now sub ⟨_, rfl⟩)
    | _ => exact no_some hf
  | str a =>
    cases y with
    | str b =>
      obtain ⟨t, rfl⟩ := hx
      obtain ⟨t', rfl⟩ := hy
      obtain ⟨hz, rfl⟩ := ite_some hf
      exact SB.add (fun t' k => P.now sub ⟨_, rfl⟩) hz
    | _ => exact no_some hf
  | lst a =>
    cases y with
    | lst b =>
      obtain ⟨hz, rfl⟩ := ite_some hf
      obtain ⟨l, o, vs, n, rfl, h1, h2, h3, h4⟩ := hx
      obtain ⟨l', o', vs', n', rfl, h1', h2', h3', h4'⟩ := hy
      obtain ⟨cls, dd, data, sl⟩ := o
      obtain ⟨cls', dd', data', sl'⟩ := o'
      simp only at h2 h3 h2' h3'
      subst h2 h3 h2' h3'
      have e1 := h4.length
      have e2 := h4'.length
      refine concat_meets ⟨_, sub _ _ h1, rfl⟩ ⟨_, sub _ _ h1', rfl⟩ noFill_list_add seq_list_add PySem.F.slot_list_add PySem.F.entry_list_add (PySem.F.args_list_add_2 _ _)
        (list_addW l l' vs vs' n n' dd dd' sl sl' (by simp only [Array.length_toList] at e1 e2; omega)) ⟨sub _ _ h1, sub _ _ h1', ?_⟩
      have e : vs ++ vs' = (vs.toList ++ vs'.toList).toArray := by simp
      rw [e]
      exact P.newList sub (IsL.append h4 h4')
    | _ => exact no_some hf
  | _ => exact no_some hf

noncomputable def fSub : D → D → Option D
  | .int a, .int b => some (.int (a - b))
  | _, _ => none
theorem OpOK.sub : OpOK I k (binaryOp .Sub) fSub := by
  intro A g s x y d u v Q E hA sub gl hx hy hf P
  unfold fSub at hf
  split at hf
  · obtain ⟨t, rfl⟩ := hx
    obtain ⟨t', rfl⟩ := hy
    cases hf
    exact PySem.P.sub_int (P.now sub ⟨_, rfl⟩)
  · cases hf
noncomputable def fMul : D → D → Option D
  | .int a, .int b => if mulOk a b = true then some (.int (a * b)) else none
  | _, _ => none
theorem OpOK.mul : OpOK I k (binaryOp .Mult) fMul := by
  intro A g s x y d u v Q E hA sub gl hx hy hf P
  unfold fMul at hf
  split at hf
  · obtain ⟨t, rfl⟩ := hx
    obtain ⟨t', rfl⟩ := hy
    split at hf
    · rename_i hm
      cases hf
      exact PySem.P.mul_int (P.now sub ⟨_, rfl⟩) (mulOk_ok hm)
    · cases hf
  · cases hf
noncomputable def fDiv : D → D → Option D
  | .int a, .int b => if divOk a b = true then some (.int (a.fdiv b)) else none
  | _, _ => none
theorem OpOK.div : OpOK I k (binaryOp .FloorDiv) fDiv := by
  intro A g s x y d u v Q E hA sub gl hx hy hf P
  unfold fDiv at hf
  split at hf
  · obtain ⟨t, rfl⟩ := hx
    obtain ⟨t', rfl⟩ := hy
    split at hf
    · rename_i hm
      cases hf
      simp only [divOk, Bool.and_eq_true, decide_eq_true_eq] at hm
      exact floordiv_int hm.1 (P.now sub ⟨_, rfl⟩) (.inl (PyProof.noPylong_of_log2 hm.2))
    · cases hf
  · cases hf
noncomputable def fMod : D → D → Option D
  | .int a, .int b => if b ≠ 0 then some (.int (a.fmod b)) else none
  | _, _ => none
theorem OpOK.mod : OpOK I k (binaryOp .Mod) fMod := by
  intro A g s x y d u v Q E hA sub gl hx hy hf P
  unfold fMod at hf
  split at hf
  · obtain ⟨t, rfl⟩ := hx
    obtain ⟨t', rfl⟩ := hy
    split at hf
    · rename_i hm
      cases hf
      exact mod_int' hm (P.now sub ⟨_, rfl⟩)
    · cases hf
  · cases hf
noncomputable def fPow : D → D → Option D
  | .int a, .int b => if powOk a b = true then some (.int (a ^ b.toNat)) else none
  | _, _ => none
theorem OpOK.pow : OpOK I k (binaryOp .Pow) fPow := by
  intro A g s x y d u v Q E hA sub gl hx hy hf P
  unfold fPow at hf
  split at hf
  · obtain ⟨t, rfl⟩ := hx
    obtain ⟨t', rfl⟩ := hy
    split at hf
    · rename_i hm
      cases hf
      simp only [powOk, Bool.and_eq_true, decide_eq_true_eq] at hm
      exact pow_int hm.1 hm.2 (P.now sub ⟨_, rfl⟩)
    · cases hf
  · cases hf
noncomputable def fOrd (f : Int → Int → Bool) : D → D → Option D
  | .int a, .int b => some (.bool (f a b))
  | _, _ => none
theorem OpOK.lt : OpOK I k (compareOp .Lt) (fOrd fun a b => decide (a < b)) := by
  intro A g s x y d u v Q E hA sub gl hx hy hf P
  unfold fOrd at hf
  split at hf
  · obtain ⟨t, rfl⟩ := hx
    obtain ⟨t', rfl⟩ := hy
    cases hf
    exact PySem.P.lt_int (P.now (tk := s.toks) sub rfl)
  · cases hf
theorem OpOK.le : OpOK I k (compareOp .LtE) (fOrd fun a b => decide (a ≤ b)) := by
  intro A g s x y d u v Q E hA sub gl hx hy hf P
  unfold fOrd at hf
  split at hf
  · obtain ⟨t, rfl⟩ := hx
    obtain ⟨t', rfl⟩ := hy
    cases hf
    exact PySem.P.le_int (P.now (tk := s.toks) sub rfl)
  · cases hf
theorem OpOK.gt : OpOK I k (compareOp .Gt) (fOrd fun a b => decide (b < a)) := by
  intro A g s x y d u v Q E hA sub gl hx hy hf P
  unfold fOrd at hf
  split at hf
  · obtain ⟨t, rfl⟩ := hx
    obtain ⟨t', rfl⟩ := hy
    cases hf
    exact PySem.P.gt_int (P.now (tk := s.toks) sub rfl)
  · cases hf
mutual
noncomputable def py : D → PyData
  | .none => .none
  | .bool b => .bool b
  | .int i => .int i
  | .str x => .str x
  | .tup l => .tuple (pyL l)
  | .lst l => .list (pyL l)
  | .rng _ _ _ => .none
  | .adr _ => .none
noncomputable def pyL : List D → List PyData
  | [] => []
  | d :: r => py d :: pyL r
end
mutual
noncomputable def noRng : D → Bool
  | .none | .bool _ | .int _ | .str _ => true
  | .tup l => noRngL l
  | .lst l => noRngL l
  | .rng _ _ _ => false
  | .adr _ => false
noncomputable def noRngL : List D → Bool
  | [] => true
  | d :: r => noRng d && noRngL r
end
mutual
theorem Is.reads {g : G} {h : Heap} (s : Sub g h.get?) (d : D) {v : Value} (hn : noRng d = true) (hi : Is g d v) : ∃ as, Reads h v (py d) as := by
  cases d with
  | none => rw [show v = Value.none from hi]; exact ⟨_, Reads.none⟩
  | bool b => rw [show v = Value.bool b from hi]; exact ⟨_, Reads.bool b⟩
  | int i => obtain ⟨t, e⟩ := hi; rw [e]; exact ⟨_, Reads.int i t⟩
  | str x => obtain ⟨t, e⟩ := hi; rw [e]; exact ⟨_, Reads.str x t⟩
  | tup l =>
    obtain ⟨a, o, vs, n, e, h1, h2, h3, h4⟩ := hi
    obtain ⟨as, q⟩ := IsL.reads s l hn h4
    rw [e]
    exact ⟨as, reads_tuple_at (s _ _ h1) h2 h3 q⟩
  | lst l =>
    obtain ⟨a, o, vs, n, e, h1, h2, h3, h4⟩ := hi
    obtain ⟨as, q⟩ := IsL.reads s l hn h4
    rw [e]
    exact ⟨_, reads_list_at (s _ _ h1) h2 h3 q⟩
  | rng a b c => cases hn
  | adr a => cases hn
theorem IsL.reads {g : G} {h : Heap} (s : Sub g h.get?) (l : List D) {vs : List Value} (hn : noRngL l = true) (hi : IsL g l vs) : ∃ as, ReadsAll h vs (pyL l) as := by
  cases l with
  | nil => rw [show vs = [] from hi]; exact ⟨_, ReadsAll.nil⟩
  | cons d r =>
    obtain ⟨v, vs', e, h1, h2⟩ := hi
    have hn := Bool.and_eq_true_iff.mp (show (noRng d && noRngL r) = true from hn)
    obtain ⟨as, q⟩ := Is.reads s d hn.1 h1
    obtain ⟨bs, p⟩ := IsL.reads s r hn.2 h2
    rw [e]
    exact ⟨_, ReadsAll.cons q p⟩
end

noncomputable def eqOk (x y : D) : Bool := noRng x && noRng y && SeqAt.shaped (py x) && SeqAt.shaped (py y)
noncomputable def fEq : D → D → Option D
  | .int a, .int b => some (.bool (a == b))
  | x, y => if eqOk x y = true then some (.bool (PyData.eqv (py x) (py y))) else none
theorem AOK.u64 {A : Around} (h : AOK k A) : A.units + 64 < cLine := Nat.lt_of_le_of_lt (Nat.add_le_add (Nat.le_add_right _ _) (by decide)) h.2.2
theorem OpOK.eq : OpOK I k (compareOp .Eq) fEq := by
  intro A g s x y d u v Q E hA sub gl hx hy hf P
  unfold fEq at hf
  split at hf
  · obtain ⟨t, rfl⟩ := hx
    obtain ⟨t', rfl⟩ := hy
    cases hf
    exact PySem.P.eq_int (P.now (tk := s.toks) sub rfl)
  · split at hf
    · rename_i he
      cases hf
      simp only [eqOk, Bool.and_eq_true] at he
      obtain ⟨as, ra⟩ := Is.reads sub _ he.1.1.1 hx
      obtain ⟨bs, rb⟩ := Is.reads sub _ he.1.1.2 hy
      exact eq_dataH ra rb he.1.2 he.2 hA.u64 (P.now (tk := s.toks) sub rfl)
    · cases hf
noncomputable def fNe : D → D → Option D
  | .int a, .int b => some (.bool (a != b))
  | x, y => if eqOk x y = true then some (.bool (!PyData.eqv (py x) (py y))) else none
theorem OpOK.ne : OpOK I k (compareOp .NotEq) fNe := by
  intro A g s x y d u v Q E hA sub gl hx hy hf P
  unfold fNe at hf
  split at hf
  · obtain ⟨t, rfl⟩ := hx
    obtain ⟨t', rfl⟩ := hy
    cases hf
    exact PySem.P.ne_int (P.now (tk := s.toks) sub rfl)
  · split at hf
    · rename_i he
      cases hf
      simp only [eqOk, Bool.and_eq_true] at he
      obtain ⟨as, ra⟩ := Is.reads sub _ he.1.1.1 hx
      obtain ⟨bs, rb⟩ := Is.reads sub _ he.1.1.2 hy
      exact ne_dataH ra rb he.1.2 he.2 hA.u64 (P.now (tk := s.toks) sub rfl)
    · cases hf
end
end Mine
open PySem PySem.W PyProof.Rows PySem.Spec
set_option linter.unusedVariables false
set_option Elab.async false
set_option maxRecDepth 100000
namespace Mine
section
variable {I : GI} {k : Nat} {sc : Scope} {ns : List Str}

/-- one operand -/
noncomputable def e1 (f : D → Option D) (F : Ev) : Ev := fun r => match F r with
  | some x => f x
  | none => none
noncomputable def fNeg : D → Option D
  | .int a => some (.int (-a))
  | _ => none
theorem EvOK.neg {x : Expr} {pos : Pos} {F : Ev} (hx : EvOK I k sc ns x F) : EvOK I k sc ns (.UnaryOp .USub x pos) (e1 fNeg F) := by
  intro env A g r s d Q E hS hA V hF P
  unfold e1 at hF
  split at hF
  · rename_i y hy
    unfold fNeg at hF
    split at hF
    · cases hF
      refine UnaryOp_ (hx env A g r s _ _ E hS hA V hy fun v h₁ tk₁ k₁ hv => ?_)
      obtain ⟨t, rfl⟩ := hv
      exact PySem.P.neg_int ((P.step k₁).now (V.grow k₁).sub ⟨_, rfl⟩)
    · cases hF
  · cases hF

/-- truth -/
noncomputable def fTruth : D → Option Bool
  | .none => some false
  | .bool b => some b
  | .int i => some (i != 0)
  | .lst l => if l.length ≤ sizeLine then some (!l.isEmpty) else none
  | _ => none
theorem truth_ok {A : Around} {g : G} {s : Shared} {d : D} {v : Value} {b : Bool} {Q : Bool → Shared → Prop} {E : Value → Shared → Prop} (sub : Sub g s.heap.get?) (h : Is g d v) (hf : fTruth d = some b)
    (hq : ∀ tk, Q b { s with toks := tk }) : wpAny (model I.prog I.w) A (truthy v) Q E s := by
  cases d with
  | none =>
    cases hf
    rw [show v = .none from h]
    exact truthy_none (hq s.toks)
  | bool b =>
    cases hf
    rw [show v = .bool _ from h]
    exact wpAny_truthy_bool (hq s.toks)
  | int i =>
    cases hf
    obtain ⟨t, rfl⟩ := h
    exact PySem.P.truthy_int (hq s.toks)
  | lst l =>
      obtain ⟨hz, rfl⟩ := ite_some hf
      obtain ⟨a, vs, rfl, hl, hi⟩ := h.isList sub
      have e := hi.length
      have e' : (!vs.isEmpty) = !l.isEmpty := by
        cases l with
        | nil =>
          have : vs.toList = [] := hi
          have : vs = #[] := by simpa using this
          rw [this]; rfl
        | cons x r =>
          simp only [Array.length_toList, List.length_cons] at e
          have h0 : vs.size ≠ 0 := by omega
          simp [Array.isEmpty, h0]
      refine wpAny_truthy_list hl ?_ ?_
      · simp only [Array.length_toList] at e
        have hs : sizeLine = 2 ^ 24 := by rw [sizeLine_eq]
        omega
      · rw [e']; exact hq _
  | _ => exact no_some hf

noncomputable abbrev Tr := R → Option Bool
noncomputable def TrOK (I : GI) (k : Nat) (sc : Scope) (ns : List Str) (e : Expr) (F : Tr) : Prop :=
  ∀ (env : Env) (A : Around) (g : G) (r : R) (s : Shared) (b : Bool) (Q : Bool → Shared → Prop) (E : Value → Shared → Prop),
    EnvS sc env → AOK k A → View I env ns g r s.heap → F r = some b → (∀ h' tk, Grow s.heap h' → Q b { s with heap := h', toks := tk }) → wpAny (model I.prog I.w) A (isTrue e env (eval e env)) Q E s

noncomputable def tOf (F : Ev) : Tr := fun r => match F r with
  | some x => fTruth x
  | none => none
theorem TrOK.plain {e : Expr} {F : Ev} (h : EvOK I k sc ns e F) (he : ∀ env whole, isTrue e env whole = (do let v ← whole; standAt e.pos; holding [v] (truthy v))) : TrOK I k sc ns e (tOf F) := by
  intro env A g r s b Q E hS hA V hF P
  unfold tOf at hF
  split at hF
  · rename_i x hx
    refine isTrue_plain (h env A g r s x _ E hS hA V hx fun v h₁ tk₁ k₁ hv => ?_) (he _ _)
    exact truth_ok (s := { s with heap := h₁, toks := tk₁ }) (V.grow k₁).sub hv hF fun tk => P _ _ k₁
  · cases hF
theorem TrOK.cmp {l r : Expr} {op : CmpOp} {pos : Pos} {F F' : Ev} {f : D → D → Option D} (hl : EvOK I k sc ns l F) (hr : EvOK I k sc ns r F') (ho : OpOK I k (compareOp op) f)
    (hm : behindInMarks op r = false) : TrOK I k sc ns (.Compare l [op] [r] pos) (tOf (e2 f F F')) := by
  intro env A g rr s b Q E hS hA V hF P
  unfold tOf at hF
  split at hF
  · rename_i d hd
    obtain ⟨x, y, hx, hy, hf⟩ := e2_some hd
    refine wpAny_isTrue_Compare1 (hl env A g rr s x _ E hS hA V hx fun u h₁ tk₁ k₁ hu => ?_) hm
    refine hr env A _ rr _ y _ E hS hA (V.grow k₁) hy fun v h₂ tk₂ k₂ hv => ?_
    have V₂ := (V.grow k₁).grow k₂
    refine ho A _ _ x y d u v _ E hA V₂.sub V₂.gl (Is.mono (ext_sub (V.grow k₁).sub) x hu) hv hf fun c h₃ tk₃ k₃ hc => ?_
    exact truth_ok (s := { s with heap := h₃, toks := tk₃ }) (V₂.grow k₃).sub hc hF fun tk => P _ _ ((k₁.trans k₂).trans k₃)
  · cases hF
noncomputable def tNot (F : Tr) : Tr := fun r => match F r with
  | some b => some (!b)
  | none => none
theorem TrOK.not {x : Expr} {pos : Pos} {F : Tr} (h : TrOK I k sc ns x F) : TrOK I k sc ns (.UnaryOp .Not x pos) (tNot F) := by
  intro env A g r s b Q E hS hA V hF P
  unfold tNot at hF
  split at hF
  · rename_i c hc
    cases hF
    exact isTrue_not (h env A g r s c _ E hS hA V hc P)
  · cases hF
noncomputable def tAnd (F F' : Tr) : Tr := fun r => match F r with
  | some true => F' r
  | some false => some false
  | none => none
noncomputable def tOr (F F' : Tr) : Tr := fun r => match F r with
  | some true => some true
  | some false => F' r
  | none => none
theorem TrOK.and {x : Expr} {rest : List Expr} {pos : Pos} {F F' : Tr} (h : TrOK I k sc ns x F) (h' : TrOK I k sc ns (.BoolOp .And rest pos) F') : TrOK I k sc ns (.BoolOp .And (x :: rest) pos) (tAnd F F') := by
  intro env A g r s b Q E hS hA V hF P
  unfold tAnd at hF
  split at hF
  · rename_i hc
    refine isTrue_and (h env A g r s _ _ E hS hA V hc fun h₁ tk k₁ => ?_)
    exact h' env A _ r _ b Q E hS hA (V.grow k₁) hF fun h₂ tk₂ k₂ => P _ _ (k₁.trans k₂)
  · rename_i hc
    cases hF
    exact isTrue_and (h env A g r s _ _ E hS hA V hc fun h₁ tk k₁ => P _ _ k₁)
  · cases hF
theorem TrOK.and0 {pos : Pos} : TrOK I k sc ns (.BoolOp .And [] pos) (fun _ => some true) := by
  intro env A g r s b Q E hS hA V hF P
  cases hF
  exact isTrue_and_nil (P s.heap s.toks (Grow.refl _))
theorem TrOK.or {x : Expr} {rest : List Expr} {pos : Pos} {F F' : Tr} (h : TrOK I k sc ns x F) (h' : TrOK I k sc ns (.BoolOp .Or rest pos) F') : TrOK I k sc ns (.BoolOp .Or (x :: rest) pos) (tOr F F') := by
  intro env A g r s b Q E hS hA V hF P
  unfold tOr at hF
  split at hF
  · rename_i hc
    cases hF
    exact isTrue_or (h env A g r s _ _ E hS hA V hc fun h₁ tk k₁ => P _ _ k₁)
  · rename_i hc
    refine isTrue_or (h env A g r s _ _ E hS hA V hc fun h₁ tk k₁ => ?_)
    exact h' env A _ r _ b Q E hS hA (V.grow k₁) hF fun h₂ tk₂ k₂ => P _ _ (k₁.trans k₂)
  · cases hF
theorem TrOK.or0 {pos : Pos} : TrOK I k sc ns (.BoolOp .Or [] pos) (fun _ => some false) := by
  intro env A g r s b Q E hS hA V hF P
  cases hF
  exact isTrue_or_nil (P s.heap s.toks (Grow.refl _))

/-- rows of expressions -/
noncomputable abbrev Evs := R → Option (List D)
noncomputable def EvsOK (I : GI) (k : Nat) (sc : Scope) (ns : List Str) (es : List Expr) (F : Evs) : Prop :=
  ∀ (env : Env) (A : Around) (g : G) (r : R) (s : Shared) (ds : List D) (pos : Pos) (Q : List Value → Shared → Prop) (E : Value → Shared → Prop),
    EnvS sc env → AOK k A → View I env ns g r s.heap → F r = some ds → (∀ vs h' tk, Grow s.heap h' → IsL (ext g s.heap h') ds vs → Q vs { s with heap := h', toks := tk }) →
    wpAny (model I.prog I.w) A (spliced (backTo pos (starEach es env))) Q E s
noncomputable def es0 : Evs := fun _ => some []
noncomputable def esC (F : Ev) (Fs : Evs) : Evs := fun r => match F r with
  | some d => match Fs r with
    | some ds => some (d :: ds)
    | none => none
  | none => none
theorem EvsOK.nil : EvsOK I k sc ns [] es0 := by
  intro env A g r s ds pos Q E hS hA V hF P
  cases hF
  exact args_nil (P [] s.heap s.toks (Grow.refl _) rfl)
theorem EvsOK.cons {e : Expr} {es : List Expr} {F : Ev} {Fs : Evs} (h : EvOK I k sc ns e F) (hs : EvsOK I k sc ns es Fs) (he : ∀ env, starEach (e :: es) env = (false, eval e env) :: starEach es env) :
    EvsOK I k sc ns (e :: es) (esC F Fs) := by
  intro env A g r s ds pos Q E hS hA V hF P
  unfold esC at hF
  split at hF
  · rename_i d hd
    split at hF
    · rename_i ds' hds
      cases hF
      refine args_cons (h env A g r s d _ E hS hA V hd fun v h₁ tk₁ k₁ hv => ?_) (he env)
      refine hs env A _ r _ ds' pos _ E hS hA (V.grow k₁) hds fun vs h₂ tk₂ k₂ hvs => ?_
      refine P _ _ _ (k₁.trans k₂) ⟨v, vs, rfl, ?_, ?_⟩
      · rw [← ext_ext k₁ k₂]; exact Is.mono (ext_sub (V.grow k₁).sub) d hv
      · rw [← ext_ext k₁ k₂]; exact hvs
    · cases hF
  · cases hF

noncomputable def eTup (Fs : Evs) : Ev := fun r => match Fs r with
  | some ds => if ds.length ≤ sizeLine then some (.tup ds) else none
  | none => none
noncomputable def eLst (Fs : Evs) : Ev := fun r => match Fs r with
  | some ds => if ds.length ≤ sizeLine then some (.lst ds) else none
  | none => none
theorem EvOK.tup {es : List Expr} {kk : Nat} {pos : Pos} {Fs : Evs} (h : EvsOK I k sc ns es Fs) : EvOK I k sc ns (.Tuple es kk pos) (eTup Fs) := by
  intro env A g r s d Q E hS hA V hF P
  unfold eTup at hF
  split at hF
  · rename_i ds hds
    split at hF
    · rename_i hz
      cases hF
      refine wpAny_Tuple (h env A g r s ds pos _ E hS hA V hds fun vs h₁ tk₁ k₁ hvs => ⟨by rw [hvs.length]; exact hz, ?_⟩)
      exact (P.step (tk := tk₁) k₁).newTuple (V.grow k₁).sub hvs
    · cases hF
  · cases hF
theorem EvOK.lst {es : List Expr} {pos : Pos} {Fs : Evs} (h : EvsOK I k sc ns es Fs) : EvOK I k sc ns (.List es pos) (eLst Fs) := by
  intro env A g r s d Q E hS hA V hF P
  unfold eLst at hF
  split at hF
  · rename_i ds hds
    split at hF
    · rename_i hz
      cases hF
      refine wpAny_List (h env A g r s ds pos _ E hS hA V hds fun vs h₁ tk₁ k₁ hvs => ⟨by rw [hvs.length]; exact hz, ?_⟩)
      exact (P.step (tk := tk₁) k₁).newList (V.grow k₁).sub hvs
    · cases hF
  · cases hF

/-- calls -/
noncomputable def PrimOK (I : GI) (k : Nat) (f : Value) (F : List D → Option D) : Prop :=
  ∀ (A : Around) (g : G) (s : Shared) (ds : List D) (vs : List Value) (d : D) (Q : Value → Shared → Prop) (E : Value → Shared → Prop),
    AOK k A → Sub g s.heap.get? → I.Gl s.heap → F ds = some d → IsL g ds vs → Post g s d Q → wpAny (model I.prog I.w) A (call f vs) Q E s
structure FunOK (I : GI) (k : Nat) (x : Str) (F : List D → Option D) : Prop where
  ok : ∃ f, (I.mg x = some f ∨ (I.mg x = none ∧ x ≠ "__name__" ∧ bootBuiltins x = some f)) ∧
    (∀ h, I.Gl h → ∃ kp, (kp = Keeper.frame ∨ kp = Keeper.machine ∨ kp = Keeper.boundFrame) ∧ Looks (model I.prog I.w) h (keeperOf f) kp) ∧ PrimOK I k f F
theorem FunOK.le {k' : Nat} {x : Str} {F : List D → Option D} (h : FunOK I k x F) (l : k ≤ k') : FunOK I k' x F :=
  let ⟨f, a, b, c⟩ := h.ok
  ⟨f, a, b, fun A g s ds vs d Q E hA => c A g s ds vs d Q E (hA.le l)⟩

noncomputable def eCall (F : List D → Option D) (Fs : Evs) : Ev := fun r => match Fs r with
  | some ds => F ds
  | none => none
theorem EvOK.call {x : Str} {px pos : Pos} {args : List Expr} {F : List D → Option D} {Fs : Evs} (hf : FunOK I k x F) (ha : EvsOK I k sc ns args Fs) (hk : sc.kind = .function)
    (hx : sc.names.lookup x = some .globalImplicit) (hd : (x == ("__debug__" : Str)) = false) (hp : ∀ env, (backTo pos (starEach args env)).any (·.1) = false) (hne : args.isEmpty = false)
    (hs : ∀ env, ∃ t rest, backTo pos (starEach args env) = (false, t) :: rest) :
    EvOK I k sc ns (.Call (.Name x px) args [] pos) (eCall F Fs) := by
  intro env A g r s d Q E hS hA V hF P
  unfold eCall at hF
  split at hF
  · rename_i ds hds
    obtain ⟨f, hn, hkp, hcall⟩ := hf.ok
    refine Call_ ?_ rfl
    have go : wpAny (model I.prog I.w) A (callWith pos f [] (backTo pos (starEach args env)) []) Q E s := by
      refine callWith_of (P := I.Gl) (by rw [hp env]; rfl) hkp ?_
      obtain ⟨t, rest, e⟩ := hs env
      rw [e]
      refine Calls.evalArgs_plain ?_
      rw [← e]
      refine ha env A g r s ds pos _ E hS hA V hds fun vs h₁ tk₁ k₁ hvs => ⟨I.grow V.gl k₁, ?_⟩
      exact hcall A _ _ ds vs d Q E hA (V.grow k₁).sub (I.grow V.gl k₁) hF hvs (P.step k₁)
    have hx' : env.kindOf x = some .globalImplicit := by unfold Env.kindOf; rw [hS.scope]; exact hx
    refine Calls.Name_function_global (hS.scope ▸ hk) hx' ?_ hd
    rcases hn with hn | ⟨hn, hne', hb⟩
    · exact Calls.loadGlobal_global (hS.globals ▸ I.g V.gl) hn go
    · exact Calls.loadGlobal_builtin (hS.globals ▸ I.g V.gl) hn (hS.builtins ▸ I.b V.gl) ((I.boot x hne').trans hb) go
  · cases hF

theorem keeper_builtin {M : Model} {id : String} (h : Heap) : ∃ kp, (kp = Keeper.frame ∨ kp = Keeper.machine ∨ kp = Keeper.boundFrame) ∧ Looks M h (keeperOf (.builtin id)) kp := ⟨.machine, .inr (.inl rfl), Looks.of_pure rfl⟩
theorem keeper_type {M : Model} {id : String} (h : Heap) : ∃ kp, (kp = Keeper.frame ∨ kp = Keeper.machine ∨ kp = Keeper.boundFrame) ∧ Looks M h (keeperOf (.type id)) kp := ⟨.machine, .inr (.inl rfl), Looks.of_pure rfl⟩

theorem FunOK.builtin {x : Str} {id : String} {F : List D → Option D} (hm : I.mg x = none) (hn : x ≠ "__name__") (hb : bootBuiltins x = some (.builtin id)) (h : PrimOK I k (.builtin id) F) : FunOK I k x F :=
  ⟨_, .inr ⟨hm, hn, hb⟩, fun h _ => keeper_builtin h, h⟩
theorem FunOK.type {x : Str} {id : String} {F : List D → Option D} (hm : I.mg x = none) (hn : x ≠ "__name__") (hb : bootBuiltins x = some (.type id)) (h : PrimOK I k (.type id) F) : FunOK I k x F :=
  ⟨_, .inr ⟨hm, hn, hb⟩, fun h _ => keeper_type h, h⟩
end
end Mine
open PySem PySem.W PyProof.Rows PySem.Spec
set_option linter.unusedVariables false
set_option Elab.async false
set_option maxRecDepth 100000
namespace Mine
section
variable {I : GI} {k : Nat} {sc : Scope} {ns : List Str}

theorem IsL.one {g : G} {d : D} {vs : List Value} (h : IsL g [d] vs) : ∃ v, vs = [v] ∧ Is g d v := by
  obtain ⟨v, r, e, hv, hr⟩ := h
  exact ⟨v, by rw [e, show r = [] from hr], hv⟩
theorem IsL.two {g : G} {d d' : D} {vs : List Value} (h : IsL g [d, d'] vs) : ∃ v v', vs = [v, v'] ∧ Is g d v ∧ Is g d' v' := by
  obtain ⟨v, r, e, hv, hr⟩ := h
  obtain ⟨v', e', hv'⟩ := hr.one
  exact ⟨v, v', by rw [e, e'], hv, hv'⟩
theorem IsL.three {g : G} {d d' d'' : D} {vs : List Value} (h : IsL g [d, d', d''] vs) : ∃ v v' v'', vs = [v, v', v''] ∧ Is g d v ∧ Is g d' v' ∧ Is g d'' v'' := by
  obtain ⟨v, r, e, hv, hr⟩ := h
  obtain ⟨v', v'', e', hv', hv''⟩ := hr.two
  exact ⟨v, v', v'', by rw [e, e'], hv, hv', hv''⟩

noncomputable def fLen : List D → Option D
  | [.lst l] => if l.length ≤ sizeLine then some (.int l.length) else none
  | [.tup l] => if l.length ≤ sizeLine then some (.int l.length) else none
  | [.str x] => if x.length ≤ sizeLine then some (.int x.length) else none
  | _ => none
theorem sizeLine_lt {n : Nat} (h : n ≤ sizeLine) : (n : Int) < 2 ^ 63 := by rw [sizeLine_eq] at h; omega
theorem PrimOK.len : PrimOK I k (.builtin "len") fLen := by
  intro A g s ds vs d Q E hA sub gl hf hv P
  cases ds with
  | nil => exact no_some hf
  | cons x r =>
  cases x with
  | lst l =>
    cases r with
    | cons _ _ => exact no_some hf
    | nil =>
      obtain ⟨hz, rfl⟩ := ite_some hf
      obtain ⟨v, rfl, hi⟩ := hv.one
      obtain ⟨a, xs, rfl, hl, hi⟩ := hi.isList sub
      have e := hi.length
      simp only [Array.length_toList] at e
      refine Calls.call_len_list hl (by rw [e]; exact sizeLine_lt hz) ?_
      rw [e]
      exact P.now sub ⟨_, rfl⟩
  | tup l =>
    cases r with
    | cons _ _ => exact no_some hf
    | nil =>
      obtain ⟨hz, rfl⟩ := ite_some hf
      obtain ⟨v, rfl, hi⟩ := hv.one
      obtain ⟨a, xs, rfl, hl, hi⟩ := hi.isTup sub
      have e := hi.length
      simp only [Array.length_toList] at e
      refine len_tuple hl (by rw [e]; exact sizeLine_lt hz) ?_
      rw [e]
      exact P.now sub ⟨_, rfl⟩
  | str x =>
    cases r with
    | cons _ _ => exact no_some hf
    | nil =>
      obtain ⟨hz, rfl⟩ := ite_some hf
      obtain ⟨v, rfl, t, rfl⟩ := hv.one
      exact PySem.P.len_str (by have := sizeLine_lt hz; omega) (P.now sub ⟨_, rfl⟩)
  | _ => exact no_some hf
noncomputable def fAbs : List D → Option D
  | [.int a] => some (.int (if a < 0 then -a else a))
  | _ => none
theorem PrimOK.abs : PrimOK I k (.builtin "abs") fAbs := by
  intro A g s ds vs d Q E hA sub gl hf hv P
  cases ds with
  | nil => exact no_some hf
  | cons x r =>
    cases x with
    | int a =>
      cases r with
      | cons _ _ => exact no_some hf
      | nil =>
        cases hf
        obtain ⟨v, rfl, t, rfl⟩ := hv.one
        exact call_abs_int fun u tk => P.now sub ⟨_, rfl⟩
    | _ => exact no_some hf
noncomputable def fRange : List D → Option D
  | [.int a] => some (.rng 0 a 1)
  | [.int a, .int b] => some (.rng a b 1)
  | _ => none
theorem PrimOK.range : PrimOK I k (.type "range") fRange := by
  intro A g s ds vs d Q E hA sub gl hf hv P
  cases ds with
  | nil => exact no_some hf
  | cons x r =>
    cases x with
    | int a =>
      cases r with
      | nil =>
        cases hf
        obtain ⟨v, rfl, t, rfl⟩ := hv.one
        exact call_range_1 (P.push sub rfl fun g' e k => ⟨_, _, _, _, rfl, e⟩)
      | cons y r =>
        cases y with
        | int b =>
          cases r with
          | nil =>
            cases hf
            obtain ⟨v, v', rfl, ⟨t, rfl⟩, t', rfl⟩ := hv.two
            exact call_range_2 (P.push sub rfl fun g' e k => ⟨_, _, _, _, rfl, e⟩)
          | cons z r =>
            exact no_some hf
        | _ => exact no_some hf
    | _ => exact no_some hf
/-- an item -/
noncomputable def fSubs : D → D → Option D
  | .lst l, .int i => if 0 ≤ i ∧ i < 2 ^ 63 then l[i.toNat]? else none
  | .tup l, .int i => if 0 ≤ i ∧ i < 2 ^ 63 then l[i.toNat]? else none
  | .str x, .int i => if 0 ≤ i ∧ i < 2 ^ 63 then (match x.cps[i.toNat]? with | some c => some (.str ⟨#[c]⟩) | none => none) else none
  | _, _ => none
theorem seqIndex_nat {i : Int} {n : Nat} (h0 : 0 ≤ i) (h1 : i.toNat < n) : seqIndex? i n = some i.toNat := by
  unfold seqIndex?
  have h2 : ¬ i < 0 := by omega
  have h3 : (i : Int) < n := by omega
  simp only [if_neg h2]
  have h4 : (decide (0 ≤ i) && decide (i < (n : Int))) = true := by simp [h0, h3]
  rw [if_pos h4]
theorem subs_ok {A : Around} {g : G} {s : Shared} {x y d : D} {u v : Value} {value slice : Expr} {Q : Value → Shared → Prop} {E : Value → Shared → Prop} (sub : Sub g s.heap.get?) (hx : Is g x u) (hy : Is g y v) (hf : fSubs x y = some d)
    (P : Post g s d Q) (hs : ∀ o i, subscripted slice false o i = operate [o, i] (getItem o i)) : wpAny (model I.prog I.w) A (subscriptTail value slice u v) Q E s := by
  have key : ∀ {o : Option D} {i : Int}, (if 0 ≤ i ∧ i < 2 ^ 63 then o else none) = some d → (0 ≤ i ∧ i < 2 ^ 63) ∧ o = some d := fun {o i} h => by
    by_cases q : 0 ≤ i ∧ i < 2 ^ 63
    · rw [if_pos q] at h; exact ⟨q, h⟩
    · rw [if_neg q] at h; exact no_some h
  cases x with
  | lst l =>
    cases y with
    | int i =>
      obtain ⟨hi, hf⟩ := key hf
      obtain ⟨a, xs, rfl, hl, hL⟩ := hx.isList sub
      obtain ⟨t, rfl⟩ := hy
      obtain ⟨w, hw, hI⟩ := hL.get hf
      exact tail_any hl.typeIs PySem.slot_list_getitem.lookup (wpAny_getItem_list hl hi.1 hi.2 (by simpa using hw) (P.now (tk := s.toks) sub hI)) (hs _ _)
    | _ => exact no_some hf
  | tup l =>
    cases y with
    | int i =>
      obtain ⟨hi, hf⟩ := key hf
      obtain ⟨a, xs, rfl, hl, hL⟩ := hx.isTup sub
      obtain ⟨t, rfl⟩ := hy
      obtain ⟨w, hw, hI⟩ := hL.get hf
      have hlt : i.toNat < xs.size := by
        have := (List.getElem?_eq_some_iff.mp hw).1
        simpa using this
      exact tail_any hl.typeIs PyProof.Rows.slot_tuple_getitem.lookup (PyProof.Rows.getItem_tuple hl (by omega) hi.2 (seqIndex_nat hi.1 hlt) (by simpa using hw) (P.now (tk := s.toks) sub hI)) (hs _ _)
    | _ => exact no_some hf
  | str x =>
    cases y with
    | int i =>
      obtain ⟨hi, hf⟩ := key hf
      cases hc : x.cps[i.toNat]? with
      | none => rw [hc] at hf; exact no_some hf
      | some c =>
        rw [hc] at hf
        cases hf
        obtain ⟨t, rfl⟩ := hx
        obtain ⟨t', rfl⟩ := hy
        have hlt : i.toNat < x.length := by
          have := (Array.getElem?_eq_some_iff.mp hc).1
          exact this
        refine tail_any (typeIs_str s x t) PyProof.Rows.slot_str_getitem.lookup (PySem.P.getItem_str (c := c) ?_ ?_ (P.now sub ⟨_, rfl⟩)) (hs _ _)
        · have h1 : ¬ i < -(2 ^ 63) := by omega
          have h2 : ¬ i ≥ 2 ^ 63 := by omega
          rw [decide_eq_false h1, decide_eq_false h2]; rfl
        · rw [seqIndex_nat hi.1 hlt]; exact hc
    | _ => exact no_some hf
  | _ => exact no_some hf
theorem EvOK.subs {value slice : Expr} {pos : Pos} {F F' : Ev} (hv : EvOK I k sc ns value F) (hi : EvOK I k sc ns slice F') (hs : ∀ o i, subscripted slice false o i = operate [o, i] (getItem o i)) :
    EvOK I k sc ns (.Subscript value slice pos) (e2 fSubs F F') := by
  intro env A g r s d Q E hS hA V hF P
  obtain ⟨x, y, hx, hy, hf⟩ := e2_some hF
  refine Subscript_ (hv env A g r s x _ E hS hA V hx fun u h₁ tk₁ k₁ hu => ?_)
  refine hi env A _ r _ y _ E hS hA (V.grow k₁) hy fun v h₂ tk₂ k₂ hv => ?_
  have V₂ := (V.grow k₁).grow k₂
  refine subs_ok V₂.sub (Is.mono (ext_sub (V.grow k₁).sub) x hu) hv hf ?_ hs
  exact (P.step k₁).step (s := { s with heap := h₁, toks := tk₁ }) k₂

noncomputable def isS : D → Bool
  | .str _ => true
  | _ => false
noncomputable def hitS (a : Str) : D → Bool
  | .str b => b == a
  | _ => false
theorem IsL.hitS {g : G} {a : Str} : ∀ {l : List D} {vs : List Value}, l.all isS = true → IsL g l vs → (∀ v ∈ vs, ∃ b t, v = Value.str b t) ∧ vs.any (valHitsStr a) = l.any (Mine.hitS a)
  | [], vs, _, h => by rw [show vs = [] from h]; exact ⟨fun v hv => (nomatch hv), rfl⟩
  | d :: ds, _, hl, ⟨v, vs', e, hv, h⟩ => by
    simp only [List.all_cons, Bool.and_eq_true] at hl
    obtain ⟨h1, h2⟩ := IsL.hitS (a := a) hl.2 h
    cases d with
    | str i =>
      obtain ⟨t, rfl⟩ := hv
      subst e
      refine ⟨fun w hw => ?_, ?_⟩
      · rcases List.mem_cons.mp hw with rfl | hw
        · exact ⟨_, _, rfl⟩
        · exact h1 w hw
      · rw [List.any_cons, List.any_cons, h2]; rfl
    | _ => exact no_tf hl.1

noncomputable def fIn (neg : Bool) : D → D → Option D
  | .str a, .tup l => if l.all isS = true then some (.bool (neg ^^ l.any (hitS a))) else none
  | _, _ => none
theorem eqAt_str {A : Around} {s : Shared} {y : Value} (h : ∃ b t, y = Value.str b t) (x : Str) (u : Tok) : SeqAt.EqAt A s y (.str x u) (valHitsStr x y) := by
  obtain ⟨b, t, rfl⟩ := h; exact (Carried.str b t).eqAtStr x u
theorem OpOK.isIn : OpOK I k (compareOp .In) (fIn false) := by
  intro A g s x y d u v Q E hA sub gl hx hy hf P
  unfold fIn at hf
  split at hf
  · rename_i a l
    split at hf
    · rename_i hl
      cases hf
      obtain ⟨t, rfl⟩ := hx
      obtain ⟨p, xs, rfl, hp, hL⟩ := hy.isTup sub
      obtain ⟨h1, h2⟩ := hL.hitS (a := a) hl
      refine SeqAt.in_tupleAt (valHitsStr a) hp (fun z hz => eqAt_str (h1 z (by simpa using hz)) a t) (P.now (tk := s.toks) sub ?_)
      have : xs.any (valHitsStr a) = l.any (hitS a) := by rw [← h2]; simp
      rw [this, Bool.false_xor]; rfl
    · cases hf
  · cases hf
end
end Mine
open PySem PySem.W PyProof.Rows PySem.Spec
set_option linter.unusedVariables false
set_option Elab.async false
set_option maxRecDepth 100000
namespace Mine

/-- the items that a for goes through -/
noncomputable def rngL (a c : Int) (n : Nat) : List D := (List.range n).map fun (i : Nat) => .int (a + (i : Int) * c)
noncomputable def itemsOf : D → Option (List D)
  | .lst l => if l.length ≤ sizeLine then some l else none
  | .tup l => if l.length ≤ sizeLine then some l else none
  | .rng a b c => if 0 ≤ Builtin.Range.rangeSize a b c ∧ (Builtin.Range.rangeSize a b c).toNat ≤ sizeLine then some (rngL a c (Builtin.Range.rangeSize a b c).toNat) else none
  | .str x => if x.length ≤ sizeLine then some (x.cps.toList.map fun c => .str ⟨#[c]⟩) else none
  | _ => none

section
variable {I : GI} {k : Nat} {sc : Scope} {ns : List Str}

theorem fresh_none (h : Heap) : h.get? h.objs.size = none := by
  cases q : h.get? h.objs.size with
  | none => rfl
  | some o' => exact absurd (Heap.lt_size q) (Nat.lt_irrefl _)

theorem walks_len {A : Around} {ia : Addr} {fp ow : List Addr} {n n' : Nat} {P : Nat → Value → Prop} {St : Nat → Heap → Prop} (e : n = n') (W : Walks I.prog I.w A ia fp ow n P St) : Walks I.prog I.w A ia fp ow n' P St := e ▸ W
theorem iter_ok {A : Around} {g : G} {s : Shared} {d : D} {v : Value} {ds : List D} {Q : Value → Shared → Prop} {E : Value → Shared → Prop} (hh : A.handled = none) (sub : Sub g s.heap.get?) (hv : Is g d v) (hi : itemsOf d = some ds)
    (h : ∀ (o : Obj) (fp : List Addr) (P : Nat → Value → Prop) (St : Nat → Heap → Prop), Walks I.prog I.w A s.heap.objs.size fp [s.heap.objs.size] ds.length P St → (∀ i u, P i u → ∃ x, ds[i]? = some x ∧ Is g x u) →
      St 0 (s.heap.push o) → (∀ b ∈ fp, b = s.heap.objs.size ∨ (g b).isSome = true) → ((∀ x, d ≠ .str x) → ∀ i h, St i h → (h.get? s.heap.objs.size).isSome = true) → Q (.ref s.heap.objs.size) { s with heap := s.heap.push o }) : wpAny (model I.prog I.w) A (pyIter v) Q E s := by
  cases d with
  | lst l =>
      obtain ⟨_, rfl⟩ := ite_some hi
      have hv' := hv
      obtain ⟨a, xs, rfl, hl, hL⟩ := hv.isList sub
      have e := hL.length
      simp only [Array.length_toList] at e
      have hga : (g a).isSome = true := by
        obtain ⟨a', o, vs, n, e1, h1, _⟩ := hv'
        cases e1; rw [h1]; rfl
      refine wpAny_pyIter_list hl ?_
      have hne : a ≠ s.heap.objs.size := by
        intro q
        cases q' : g a with
        | none => rw [q'] at hga; cases hga
        | some o => have := sub _ _ q'; rw [q, fresh_none] at this; cases this
      refine h _ [s.heap.objs.size, a] _ _ (e ▸ Walks.list hh s.heap.objs.size a hne xs) (fun i u hu => ?_) ⟨⟨_, Heap.get?_push_size _ rfl, rfl, rfl⟩, hl.push _⟩ (fun b hb => ?_) fun _ i h st => (by obtain ⟨⟨o, e, _⟩, _⟩ := st; rw [e]; rfl)
      · have hlt : i < l.length := by
          have := (Array.getElem?_eq_some_iff.mp hu).1
          omega
        obtain ⟨w, hw, hI⟩ := hL.get (List.getElem?_eq_getElem hlt)
        have : xs[i]? = some w := by simpa using hw
        rw [hu] at this; cases this
        exact ⟨_, List.getElem?_eq_getElem hlt, hI⟩
      · rcases List.mem_cons.mp hb with rfl | hb
        · exact .inl rfl
        · rw [List.mem_singleton.mp hb]; exact .inr hga
  | tup l =>
      obtain ⟨_, rfl⟩ := ite_some hi
      have hv' := hv
      obtain ⟨a, xs, rfl, hl, hL⟩ := hv.isTup sub
      have e := hL.length
      simp only [Array.length_toList] at e
      have hga : (g a).isSome = true := by
        obtain ⟨a', o, vs, n, e1, h1, _⟩ := hv'
        cases e1; rw [h1]; rfl
      have hl' : s.heap.IsTuple a xs := hl
      refine wpAny_pyIter_tuple hl' ?_
      have hne : a ≠ s.heap.objs.size := by
        intro q
        cases q' : g a with
        | none => rw [q'] at hga; cases hga
        | some o => have := sub _ _ q'; rw [q, fresh_none] at this; cases this
      refine h _ [s.heap.objs.size, a] _ _ (e ▸ Walks.tuple hh s.heap.objs.size a hne xs) (fun i u hu => ?_) ⟨⟨_, Heap.get?_push_size _ rfl, rfl, rfl⟩, hl'.at fun o e => Heap.get?_push_of_some _ e⟩ (fun b hb => ?_) fun _ i h st => (by obtain ⟨⟨o, e, _⟩, _⟩ := st; rw [e]; rfl)
      · have hlt : i < l.length := by
          have := (Array.getElem?_eq_some_iff.mp hu).1
          omega
        obtain ⟨w, hw, hI⟩ := hL.get (List.getElem?_eq_getElem hlt)
        have : xs[i]? = some w := by simpa using hw
        rw [hu] at this; cases this
        exact ⟨_, List.getElem?_eq_getElem hlt, hI⟩
      · rcases List.mem_cons.mp hb with rfl | hb
        · exact .inl rfl
        · rw [List.mem_singleton.mp hb]; exact .inr hga
  | rng a b c =>
      obtain ⟨hz, rfl⟩ := ite_some hi
      obtain ⟨r, t, u, w, rfl, hr⟩ := hv
      have el : (rngL a c (Builtin.Range.rangeSize a b c).toNat).length = (Builtin.Range.rangeSize a b c).toNat := by simp [rngL]
      have e0 : ((Builtin.Range.rangeSize a b c).toNat : Int) = Builtin.Range.rangeSize a b c := by omega
      have e1 : a + ((0 : Nat) : Int) * c = a := by simp
      have e2 : ((Builtin.Range.rangeSize a b c).toNat : Int) - ((0 : Nat) : Int) = Builtin.Range.rangeSize a b c := by simpa using e0
      have hP : ∀ (i : Nat) (v : Value), (i < (Builtin.Range.rangeSize a b c).toNat ∧ ∃ t, v = .int (a + i * c) t) → ∃ x, (rngL a c (Builtin.Range.rangeSize a b c).toNat)[i]? = some x ∧ Is g x v := fun i v hv => by
        obtain ⟨hlt, t', rfl⟩ := hv
        exact ⟨.int (a + i * c), by simp only [rngL, List.getElem?_map, List.getElem?_range hlt, Option.map_some], ⟨_, rfl⟩⟩
      cases hsm : Builtin.Range.small a b c with
      | true =>
        refine wpAny_pyIter_range (sub _ _ hr) hsm ?_
        have W : Walks I.prog I.w A s.heap.objs.size [s.heap.objs.size] [s.heap.objs.size] (Builtin.Range.rangeSize a b c).toNat (fun i v => i < (Builtin.Range.rangeSize a b c).toNat ∧ ∃ t, v = .int (a + i * c) t)
          (fun i h => IsRangeIter h s.heap.objs.size (a + (i : Nat) * c) (((Builtin.Range.rangeSize a b c).toNat : Int) - (i : Nat)) c) := (Walks.range hh _ a c _).bound
        refine h _ [s.heap.objs.size] _ _ (walks_len el.symm W) hP ?_ (fun b hb => .inl (List.mem_singleton.mp hb)) fun _ i h st => (by have e : h.get? _ = some _ := st; rw [e]; rfl)
        show IsRangeIter _ _ (a + ((0 : Nat) : Int) * c) (((Builtin.Range.rangeSize a b c).toNat : Int) - ((0 : Nat) : Int)) _
        rw [e1, e2]
        exact Heap.get?_push_size _ rfl
      | false =>
        refine wpAny_pyIter_longrange (sub _ _ hr) hsm ?_
        have W : Walks I.prog I.w A s.heap.objs.size [s.heap.objs.size] [s.heap.objs.size] (Builtin.Range.rangeSize a b c).toNat (fun i v => i < (Builtin.Range.rangeSize a b c).toNat ∧ ∃ t, v = .int (a + i * c) t)
          (fun i h => IsLongIter h s.heap.objs.size (a + (i : Nat) * c) (((Builtin.Range.rangeSize a b c).toNat : Int) - (i : Nat)) c) := (Walks.longrange hh _ a c _).bound
        refine h _ [s.heap.objs.size] _ _ (walks_len el.symm W) hP ?_ (fun b hb => .inl (List.mem_singleton.mp hb)) fun _ i h st => (by have e : h.get? _ = some _ := st; rw [e]; rfl)
        show IsLongIter _ _ (a + ((0 : Nat) : Int) * c) (((Builtin.Range.rangeSize a b c).toNat : Int) - ((0 : Nat) : Int)) _
        rw [e1, e2]
        exact Heap.get?_push_size _ rfl
  | str x =>
      obtain ⟨_, rfl⟩ := ite_some hi
      obtain ⟨t, rfl⟩ := hv
      refine wpAny_pyIter_str fun o St hW hst => ?_
      have el : (x.cps.toList.map fun c => D.str ⟨#[c]⟩).length = x.cps.size := by simp
      refine h o [s.heap.objs.size] _ St (el.symm ▸ hW A hh) (fun i u hu => ?_) hst (fun b hb => .inl (List.mem_singleton.mp hb)) fun hne => absurd rfl (hne _)
      obtain ⟨c, w, hc, rfl⟩ := hu
      exact ⟨.str ⟨#[c]⟩, by simp [hc], ⟨_, rfl⟩⟩
  | _ => exact no_some hi

/-- a flat value's datum -/
noncomputable def dv : Value → Option D
  | .none => some .none
  | .bool b => some (.bool b)
  | .int i _ => some (.int i)
  | .str x _ => some (.str x)
  | _ => none
theorem Is.dv {g : G} {d : D} {v : Value} (hf : Mine.flat d = true) (h : Is g d v) : Mine.dv v = some d := by
  cases d with
  | none => rw [show v = .none from h]; rfl
  | bool b => rw [show v = .bool b from h]; rfl
  | int i => obtain ⟨t, rfl⟩ := h; rfl
  | str x => obtain ⟨t, rfl⟩ := h; rfl
  | _ => exact no_tf hf

noncomputable def relabelS (scope sc : Scope) : Scope := { scope with names := scope.names.map fun (n, k) => if (k == .free && sc.kind == .function && sc.names.lookup n == some .cell) then (n, .cell) else (n, k) }

theorem closure_ok {M : Model} {env : Env} (scope : Scope) (h : ∀ y ∈ scope.names, y.2 = .free → (env.cells.lookup y.1).isSome = true) :
    ∃ cl : List (Str × Addr), closureFor scope env = pure cl ∧ ∀ y ∈ scope.names, y.2 = .free → cl.lookup y.1 = env.cells.lookup y.1 := by
  have go : ∀ (names : List (Str × NameKind)) (acc : List (Str × Addr)), (∀ y ∈ names, y.2 = .free → (env.cells.lookup y.1).isSome = true) →
      (∀ y c, acc.lookup y = some c → env.cells.lookup y = some c) →
      ∃ cl : List (Str × Addr), forIn (m := Sem) names acc (fun (x : Str × NameKind) (r : List (Str × Addr)) => if (x.2 == NameKind.free) = true then do let a ← cellOf env x.1; pure (ForInStep.yield ((x.1, a) :: r)) else do pure PUnit.unit; pure (ForInStep.yield r)) = pure cl ∧
        (∀ y ∈ names, y.2 = .free → cl.lookup y.1 = env.cells.lookup y.1) ∧ (∀ y c, acc.lookup y = some c → cl.lookup y = some c) ∧ (∀ y c, cl.lookup y = some c → env.cells.lookup y = some c) := by
    intro names
    induction names with
    | nil => intro acc _ ha; exact ⟨acc, rfl, fun y hy => (nomatch hy), fun _ _ e => e, ha⟩
    | cons x r ih =>
      intro acc hn ha
      obtain ⟨n, kd⟩ := x
      rw [List.forIn_cons]
      by_cases hk : kd = .free
      · subst hk
        have hs := hn (n, .free) (.head _) rfl
        obtain ⟨c, hc⟩ := Option.isSome_iff_exists.mp hs
        have e : cellOf env n = pure c := by unfold cellOf; rw [hc]
        obtain ⟨cl, e1, e2, e3, e4⟩ := ih ((n, c) :: acc) (fun y hy => hn y (.tail _ hy)) (fun y c' hy => by
          rw [List.lookup_cons] at hy
          cases q : y == n with
          | true => rw [q] at hy; cases hy; rw [beq_iff_eq.mp q]; exact hc
          | false => rw [q] at hy; exact ha y c' hy)
        refine ⟨cl, ?_, fun y hy hf => ?_, fun y c' hy => ?_, e4⟩
        · show (if (NameKind.free == NameKind.free) = true then (do let a ← cellOf env n; pure (ForInStep.yield ((n, a) :: acc)) : Sem _) else _) >>= _ = _
          have hb : (NameKind.free == NameKind.free) = true := rfl
          rw [hb]
          show ((cellOf env n >>= fun a => pure (ForInStep.yield ((n, a) :: acc))) >>= _) = _
          rw [e]; exact e1
        · rcases List.mem_cons.mp hy with rfl | hy
          · rw [e3 n c (by rw [List.lookup_cons]; simp), hc]
          · exact e2 y hy hf
        · by_cases q : y = n
          · subst q
            have h1 := e3 y c (by rw [List.lookup_cons]; simp)
            rw [h1]
            have := ha y c' hy
            rw [hc] at this; exact this
          · refine e3 y c' ?_
            rw [List.lookup_cons, show (y == n) = false from by simpa using q]; exact hy
      · obtain ⟨cl, e1, e2, e3, e4⟩ := ih acc (fun y hy => hn y (.tail _ hy)) ha
        refine ⟨cl, ?_, fun y hy hf => ?_, e3, e4⟩
        · have hb : (kd == NameKind.free) = false := by simpa using hk
          show (if (kd == NameKind.free) = true then (do let a ← cellOf env n; pure (ForInStep.yield ((n, a) :: acc)) : Sem _) else _) >>= _ = _
          rw [hb]; exact e1
        · rcases List.mem_cons.mp hy with rfl | hy
          · exact absurd hf hk
          · exact e2 y hy hf
  obtain ⟨cl, e1, e2, _, _⟩ := go scope.names [] h (fun y c hy => by cases hy)
  refine ⟨cl, ?_, e2⟩
  unfold closureFor
  have q := congrArg (fun t : Sem (List (Str × Addr)) => t >>= fun cs => pure cs) e1
  exact q
end
end Mine
open PySem PySem.W PyProof.Rows PySem.Spec
set_option linter.unusedVariables false
set_option Elab.async false
set_option maxRecDepth 100000
namespace Mine

noncomputable def compL (elt : Ev) (tst : Tr) (r : R) : List D → Option (List D)
  | [] => some []
  | x :: xs => if flat x = true then (match tst (some x :: r) with
    | some true => (match elt (some x :: r) with
      | some y => if flat y = true then (match compL elt tst r xs with | some l => some (y :: l) | none => none) else none
      | none => none)
    | some false => compL elt tst r xs
    | none => none) else none

theorem compL_all {elt : Ev} {tst : Tr} {r : R} : ∀ {ds out : List D} {i : Nat} {x : D}, compL elt tst r ds = some out → ds[i]? = some x →
    flat x = true ∧ ∃ b, tst (some x :: r) = some b ∧ (b = true → ∃ y, elt (some x :: r) = some y ∧ flat y = true)
  | d :: ds, out, i, x, h, hx => by
    unfold compL at h
    split at h
    · rename_i hfl
      split at h
      · rename_i ht
        split at h
        · rename_i y hy
          split at h
          · rename_i hfy
            split at h
            · rename_i l hl
              cases i with
              | zero => simp at hx; subst hx; exact ⟨hfl, true, ht, fun _ => ⟨y, hy, hfy⟩⟩
              | succ i => exact compL_all hl (by simpa using hx)
            · cases h
          · cases h
        · cases h
      · rename_i ht
        cases i with
        | zero => simp at hx; subst hx; exact ⟨hfl, false, ht, fun e => by cases e⟩
        | succ i => exact compL_all h (by simpa using hx)
      · cases h
    · cases h

noncomputable def g0 : G := fun _ => none
theorem g0_sub (g : G) : Sub g0 g := fun _ _ e => by cases e
theorem isL_of_get {g : G} : ∀ {ds : List D} {vs : List Value}, vs.length = ds.length → (∀ (j : Nat) (v : Value), vs[j]? = some v → ∃ x, ds[j]? = some x ∧ Is g x v) → IsL g ds vs
  | [], [], _, _ => rfl
  | [], _ :: _, h, _ => by cases h
  | _ :: _, [], h, _ => by cases h
  | d :: ds, v :: vs, h, hg => by
    obtain ⟨x, hx, hi⟩ := hg 0 v rfl
    simp at hx; subst hx
    exact ⟨v, vs, rfl, hi, isL_of_get (by simpa using h) fun j u hu => by
      obtain ⟨x, hx, hi⟩ := hg (j + 1) u (by simpa using hu)
      exact ⟨x, by simpa using hx, hi⟩⟩

noncomputable def compP (tst : Tr) (r : R) (v : Value) : Bool := match dv v with
  | some x => (match tst (some x :: r) with | some true => true | _ => false)
  | none => false
noncomputable def compF (elt : Ev) (r : R) (v y : Value) : Prop := ∃ x d, dv v = some x ∧ elt (some x :: r) = some d ∧ flat d = true ∧ Is g0 d y

theorem comp_out {g : G} {elt : Ev} {tst : Tr} {r : R} : ∀ {ds out : List D} {vs ys : List Value}, compL elt tst r ds = some out → IsL g ds vs → Paired (compF elt r) (vs.filter (compP tst r)) ys → IsL g0 out ys
  | [], out, vs, ys, h, hL, hp => by
    rw [show vs = [] from hL] at hp
    simp only [compL, Option.some.injEq] at h
    subst h
    cases hp; rfl
  | d :: ds, out, _, ys, h, ⟨v, vs', e, hv, hL⟩, hp => by
    subst e
    unfold compL at h
    split at h
    · rename_i hfl
      have hd := hv.dv hfl
      split at h
      · rename_i ht
        have hP : compP tst r v = true := by unfold compP; rw [hd]; simp only [ht]
        rw [List.filter_cons, hP, if_pos rfl] at hp
        split at h
        · rename_i y hy
          split at h
          · rename_i hfy
            split at h
            · rename_i l hl
              cases h
              cases hp with
              | cons hF hp' =>
                obtain ⟨x, d', hx, hd', _, hi⟩ := hF
                rw [hd] at hx; cases hx
                rw [hy] at hd'; cases hd'
                exact ⟨_, _, rfl, hi, comp_out hl hL hp'⟩
            · cases h
          · cases h
        · cases h
      · rename_i ht
        have hP : compP tst r v = false := by unfold compP; rw [hd]; simp only [ht]
        rw [List.filter_cons, hP] at hp
        exact comp_out h hL hp
      · cases h
    · cases h

noncomputable def eComp (elt : Ev) (tst : Tr) (iter : Ev) : Ev := fun r => match iter r with
  | some d => (match itemsOf d with
    | some ds => (match compL elt tst r ds with
      | some out => some (.lst out)
      | none => none)
    | none => none)
  | none => none
theorem eComp_some {elt : Ev} {tst : Tr} {iter : Ev} {r : R} {d : D} (h : eComp elt tst iter r = some d) :
    ∃ di ds out, iter r = some di ∧ itemsOf di = some ds ∧ compL elt tst r ds = some out ∧ d = .lst out := by
  unfold eComp at h
  split at h
  · rename_i di hdi
    split at h
    · rename_i ds hds
      split at h
      · rename_i out ho; cases h; exact ⟨_, _, _, hdi, hds, ho, rfl⟩
      · cases h
    · cases h
  · cases h

section
variable {I : GI} {k : Nat} {sc : Scope} {ns : List Str}

noncomputable def tTrue : Tr := fun _ => some true
/-- the tests of a comprehension: none or one -/
noncomputable def TestsOK (I : GI) (k : Nat) (sc : Scope) (ns : List Str) (ifs : List Expr) (F : Tr) : Prop := (ifs = [] ∧ F = tTrue) ∨ ∃ c, ifs = [c] ∧ TrOK I k sc ns c F
theorem TestsOK.one {c : Expr} {F : Tr} (h : TrOK I k sc ns c F) : TestsOK I k sc ns [c] F := .inr ⟨c, rfl, h⟩

structure CompS (sc scope : Scope) (ns : List Str) (x : Str) : Prop where
  cell : ∀ y ∈ scope.names, y.2 ≠ .cell
  kind : scope.kind = .function
  okind : sc.kind = .function
  names : ∀ y ∈ scope.names, y.2 = .local → scope.names.lookup y.1 = some .local
  local_ : scope.names.lookup x = some .local
  free : ∀ y ∈ scope.names, y.2 = .free → sc.names.lookup y.1 = some .cell
  fresh : ∀ y ∈ ns, (relabelS scope sc).names.lookup y ≠ some .local

theorem relabel_cell {sc : Scope} : ∀ {names : List (Str × NameKind)} {y : Str}, (∀ z ∈ names, z.2 ≠ .cell) →
    (names.map fun (n, k) => if (k == NameKind.free && sc.kind == .function && sc.names.lookup n == some .cell) then (n, NameKind.cell) else (n, k)).lookup y = some .cell → (y, .free) ∈ names ∧ sc.names.lookup y = some .cell
  | [], y, _, h => by simp at h
  | (n, kd) :: r, y, hc, h => by
    rw [List.map_cons] at h
    by_cases hb : (kd == NameKind.free && sc.kind == .function && sc.names.lookup n == some .cell) = true
    · simp only [hb, if_true] at h
      rw [List.lookup_cons] at h
      cases q : y == n with
      | true =>
        have := beq_iff_eq.mp q; subst this
        simp only [Bool.and_eq_true, beq_iff_eq] at hb
        exact ⟨by rw [show kd = .free from hb.1.1]; exact .head _, hb.2⟩
      | false =>
        rw [q] at h
        obtain ⟨a, b⟩ := relabel_cell (fun z hz => hc z (.tail _ hz)) h
        exact ⟨.tail _ a, b⟩
    · simp only [hb] at h
      simp only [Bool.false_eq_true, if_false] at h
      rw [List.lookup_cons] at h
      cases q : y == n with
      | true =>
        rw [q] at h
        exact absurd (Option.some.inj h) (hc (n, kd) (.head _))
      | false =>
        rw [q] at h
        obtain ⟨a, b⟩ := relabel_cell (fun z hz => hc z (.tail _ hz)) h
        exact ⟨.tail _ a, b⟩

/-- the frame of a comprehension, seen from within -/
theorem inner_view {env : Env} {g : G} {r : R} {h₀ h : Heap} {scope : Scope} {cl : List (Str × Addr)} {C : Addr} {x : Str} {v : Value} {xd : D} {m : Str → Option Value} (V : View I env ns g r h₀) (hS : EnvS sc env)
    (cS : CompS sc scope ns x) (hcl : ∀ y ∈ scope.names, y.2 = .free → cl.lookup y.1 = env.cells.lookup y.1) (k₀ : Grow h₀ h) (hn : h.Ns C m) (hm : m x = some v) (hv : Is g xd v) :
    EnvS (relabelS scope sc) (compEnvC scope cl C env) ∧ View I (compEnvC scope cl C env) (x :: ns) g (some xd :: r) h := by
  have er : relabel scope env = relabelS scope sc := by
    unfold relabel relabelS Env.kindOf; rw [hS.scope]
  have free_of : ∀ y, (relabelS scope sc).names.lookup y = some .cell → cl.lookup y = env.cells.lookup y ∧ sc.names.lookup y = some .cell := fun y hy => by
    obtain ⟨a, b⟩ := relabel_cell cS.cell hy
    exact ⟨hcl (y, .free) a rfl, b⟩
  refine ⟨⟨er, hS.globals, hS.builtins, fun y hy => ?_⟩, ⟨fun b o e => k₀ b o (V.sub b o e), I.grow V.gl k₀, fun i y d hy hk hd => ?_⟩⟩
  · obtain ⟨a, b⟩ := free_of y hy
    show (cl.lookup y).isSome = true
    rw [a]; exact hS.cells y b
  · cases i with
    | zero =>
      simp only [List.getElem?_cons_zero, Option.some.injEq] at hy hd
      subst hy hd
      refine ⟨v, hv, .inl ⟨?_, m, hn, hm⟩⟩
      show (relabel scope env).names.lookup x = _
      exact lookup_relabel_local cS.local_
    | succ i =>
      simp only [List.getElem?_cons_succ] at hy hd
      have hk' : (relabelS scope sc).names.lookup y = some .local ∨ (relabelS scope sc).names.lookup y = some .cell := by
        rw [← er]; exact hk
      have hc : (relabelS scope sc).names.lookup y = some .cell := by
        rcases hk' with h | h
        · exact absurd h (cS.fresh y (List.mem_of_getElem? hy))
        · exact h
      obtain ⟨a, b⟩ := free_of y hc
      obtain ⟨v', hi, hh⟩ := V.var i y d hy (.inr (by unfold Env.kindOf; rw [hS.scope]; exact b)) hd
      refine ⟨v', hi, .inr ⟨?_, ?_⟩⟩
      · show (relabel scope env).names.lookup y = _
        rw [er]; exact hc
      · rcases hh with ⟨hl, _⟩ | ⟨_, c, hc', hv'⟩
        · have : env.kindOf y = some .cell := by unfold Env.kindOf; rw [hS.scope]; exact b
          rw [this] at hl; cases hl
        · exact ⟨c, by show cl.lookup y = _; rw [a]; exact hc', hv'.keeps k₀⟩

theorem comp_core {A : Around} {env : Env} {g : G} {r : R} {s : Shared} {d : D} {xv : Value} {ds out : List D} {scope : Scope} {x : Str} {elt : Expr} {ifs : List Expr} {F : Ev} {T : Tr} {cl : List (Str × Addr)}
    {Q : Value → Shared → Prop} {E : Value → Shared → Prop} (hS : EnvS sc env) (hA : AOK k A) (cS : CompS sc scope ns x) (V : View I env ns g r s.heap) (hcl : ∀ y ∈ scope.names, y.2 = .free → cl.lookup y.1 = env.cells.lookup y.1)
    (he : EvOK I k (relabelS scope sc) (x :: ns) elt F) (ht : TestsOK I k (relabelS scope sc) (x :: ns) ifs T) (hv : Is g d xv) (hi : itemsOf d = some ds) (hc : compL F T r ds = some out) (hz : ds.length ≤ sizeLine)
    (h : ∀ (o : Obj) (fp : List Addr) (P : Nat → Value → Prop) (St : Nat → Heap → Prop), Walks I.prog I.w A s.heap.objs.size fp [s.heap.objs.size] ds.length P St → St 0 (s.heap.push o) → (∀ b ∈ fp, b < (s.heap.push o).objs.size) →
      QuietOnC I.prog I.w A env scope cl x ifs elt [s.heap.objs.size] P (compP T r) (compF F r) { s with heap := s.heap.push o } →
      (∀ vs ys : List Value, vs.length = ds.length → (∀ (j : Nat) (v : Value), vs[j]? = some v → P j v) → Paired (compF F r) (vs.filter (compP T r)) ys → IsL g0 out ys) → Q (.ref s.heap.objs.size) { s with heap := s.heap.push o }) :
    wpAny (model I.prog I.w) A (pyIter xv) Q E s := by
  refine iter_ok hA.1 V.sub hv hi fun o fp P St W hP hst hfp _ => h o fp P St W hst (fun b hb => ?_) ?_ fun vs ys hlen hPv hp => ?_
  · rw [Heap.size_push]
    rcases hfp b hb with rfl | hb
    · exact Nat.lt_succ_self _
    · obtain ⟨o', ho'⟩ := Option.isSome_iff_exists.mp hb
      exact Nat.lt_succ_of_lt (Heap.lt_size (V.sub _ _ ho'))
  · have up : ∀ {h' : Heap}, (∀ b o', b ∉ [s.heap.objs.size] → (s.heap.push o).get? b = some o' → h'.get? b = some o') → Grow s.heap h' := fun hk b o' e =>
      hk b o' (by rw [List.mem_singleton]; exact Nat.ne_of_lt (Heap.lt_size e)) (Heap.get?_push_of_some _ e)
    refine ⟨fun C i v s₃ m₃ E' _ hPi hn hm hk _ => ?_, fun C i v s₃ m₃ E' _ hPi hp hn hm hk _ => ?_⟩
    · obtain ⟨xd, hx, hI⟩ := hP i v hPi
      obtain ⟨hfl, b, hb, _⟩ := compL_all hc hx
      have hd := hI.dv hfl
      obtain ⟨hS', V'⟩ := inner_view V hS cS hcl (up hk) hn hm hI
      have hpv : compP T r v = b := by
        unfold compP; rw [hd]; simp only [hb]; cases b <;> rfl
      rcases ht with ⟨rfl, rfl⟩ | ⟨c, rfl, hT⟩
      · cases hb
        exact wpAny_tests_nil ⟨hpv.symm, ⟨s₃.heap, s₃.toks, rfl, fun _ _ e => e⟩⟩
      · exact wpAny_tests_one (hT _ A g _ s₃ b _ E' hS' hA V' hb fun h' tk kk => ⟨hpv.symm, ⟨h', tk, rfl, kk⟩⟩)
    · obtain ⟨xd, hx, hI⟩ := hP i v hPi
      obtain ⟨hfl, b, hb, hy⟩ := compL_all hc hx
      have hd := hI.dv hfl
      obtain ⟨hS', V'⟩ := inner_view V hS cS hcl (up hk) hn hm hI
      have hpv : b = true := by
        unfold compP at hp; rw [hd] at hp; simp only [hb] at hp; cases b
        · cases hp
        · rfl
      obtain ⟨y, hy, hfy⟩ := hy hpv
      exact he _ A g _ s₃ y _ E' hS' hA V' hy fun w h' tk kk hw => ⟨⟨xd, y, hd, hy, hfy, hw.flat hfy⟩, ⟨h', tk, rfl, kk⟩⟩
  · exact comp_out hc (isL_of_get hlen fun j v hv => hP j v (hPv j v hv)) hp

theorem itemsOf_len {d : D} {ds : List D} (h : itemsOf d = some ds) : ds.length ≤ sizeLine := by
  cases d with
  | lst l => obtain ⟨hz, rfl⟩ := ite_some h; exact hz
  | tup l => obtain ⟨hz, rfl⟩ := ite_some h; exact hz
  | rng a b c => obtain ⟨hz, rfl⟩ := ite_some h; rw [rngL, List.length_map, List.length_range]; exact hz.2
  | str x => obtain ⟨hz, rfl⟩ := ite_some h; rw [List.length_map, Array.length_toList]; exact hz
  | _ => exact no_some h

theorem EvOK.comp {elt iter : Expr} {ifs : List Expr} {x : Str} {px pos : Pos} {scope : Scope} {F Fi : Ev} {T : Tr} (cS : CompS sc scope ns x) (hi : EvOK I k sc ns iter Fi)
    (he : EvOK I k (relabelS scope sc) (x :: ns) elt F) (ht : TestsOK I k (relabelS scope sc) (x :: ns) ifs T) (hs : ∀ env x, foldedSetIterable iter env x = pure x) :
    EvOK I k sc ns (.ListComp elt [⟨.Name x px, iter, ifs, 0⟩] scope pos) (eComp F T Fi) := by
  intro env A g r s d Q E hS hA V hF P
  obtain ⟨di, ds, out, h1, h2, h3, rfl⟩ := eComp_some hF
  obtain ⟨cl, e1, e2⟩ := closure_ok (M := model I.prog I.w) (env := env) scope fun y hy hf => hS.cells _ (cS.free y hy hf)
  refine wpAny_ListComp_free (compP T r) (compF F r) e1 cS.cell cS.kind cS.names cS.local_ (hi env A g r s di _ E hS hA V h1 fun xv h₁ tk₁ k₁ hv => ?_) (hs env)
  refine comp_core (s := { s with heap := h₁, toks := tk₁ }) hS hA cS (V.grow k₁) e2 he ht hv h2 h3 (itemsOf_len h2) fun o fp Pp St W hst hfp hq hout => ?_
  refine ⟨_, fp, _, _, Pp, St, rfl, W, itemsOf_len h2, hst, hfp, hq, fun D h' tk ys vs hD hl hpl hlen hPv hp hk => ?_⟩
  have kk : Grow s.heap h' := fun b o' e => hk b o' (by rw [List.mem_singleton]; exact Nat.ne_of_lt (Heap.lt_size (k₁ b o' e))) (Heap.get?_push_of_some _ (k₁ b o' e))
  refine P _ h' tk kk ?_
  obtain ⟨n, hn⟩ := hpl
  refine ⟨D, { cls := .type "list", data := .seq ys n }, ys, n, rfl, ?_, rfl, rfl, IsL.mono (g0_sub _) _ (hout vs ys.toList hlen hPv hp)⟩
  have hDs : s.heap.get? D = none := by
    cases q : s.heap.get? D with
    | none => rfl
    | some o' =>
      have := Heap.get?_push_of_some o (k₁ _ _ q)
      rw [hD] at this; cases this
  rw [ext_new hDs]; exact hn
end
end Mine
open PySem PySem.W PyProof.Rows PySem.Spec
set_option linter.unusedVariables false
set_option Elab.async false
set_option maxRecDepth 100000
namespace Mine

inductive Slot where
  | unb
  | imm (d : D)
  | mt (l : List D)
noncomputable abbrev St := List Slot
noncomputable def rH : Slot → Option D
  | .imm d => some d
  | _ => none
noncomputable def rF : Slot → Option D
  | .imm d => some d
  | .mt l => some (.lst l)
  | .unb => none
noncomputable def rdH (σ : St) : R := σ.map rH
noncomputable def rdF (σ : St) : R := σ.map rF

noncomputable def lobj (vs : Array Value) (n : Nat) : Obj := { cls := .type "list", data := .seq vs n }

structure Owned (env : Env) (g fix : G) (h : Heap) (a : Addr) (l : List D) : Prop where
  obj : ∃ vs n, h.get? a = some (lobj vs n) ∧ IsL g l vs.toList
  off : fix a = none
  loc : a ≠ env.locals
  cel : ∀ n c, env.cells.lookup n = some c → a ≠ c

/-- the frame at hand: g what the names' data rest on, fix what nothing changes -/
structure SR (I : GI) (env : Env) (ns : List Str) (own : Nat → Addr) (g fix : G) (σ : St) (h : Heap) : Prop where
  gfix : Sub g fix
  sub : Sub fix h.get?
  base : ∃ h₀, I.Gl h₀ ∧ Sub h₀.get? fix
  frame : ∃ m, h.Ns env.locals m
  fixL : fix env.locals = none
  cells : ∀ n c, env.cells.lookup n = some c → (∃ v, h.IsCell c v) ∧ fix c = none ∧ c ≠ env.locals
  apart : ∀ n n' c, env.cells.lookup n = some c → env.cells.lookup n' = some c → n = n'
  imm : ∀ (i : Nat) (x : Str) (d : D), ns[i]? = some x → σ[i]? = some (.imm d) → ∃ v, Is g d v ∧ Holds env h x v
  mtd : ∀ (i : Nat) (x : Str) (l : List D), ns[i]? = some x → σ[i]? = some (.mt l) → Holds env h x (.ref (own i)) ∧ Owned env g fix h (own i) l
  inj : ∀ (i j : Nat) (l l' : List D), σ[i]? = some (.mt l) → σ[j]? = some (.mt l') → own i = own j → i = j

section
variable {I : GI} {k : Nat} {sc : Scope} {ns : List Str} {env : Env} {own : Nat → Addr} {g fix : G} {σ : St} {h : Heap}

theorem SR.gl (S : SR I env ns own g fix σ h) : I.Gl h := let ⟨h₀, a, b⟩ := S.base; I.grow a fun i o e => S.sub i o (b i o e)

theorem rdH_get {σ : St} {i : Nat} {d : D} (h : (rdH σ)[i]? = some (some d)) : σ[i]? = some (.imm d) := by
  unfold rdH at h
  rw [List.getElem?_map] at h
  cases q : σ[i]? with
  | none => rw [q] at h; exact no_some h
  | some sl =>
    rw [q] at h
    have h := Option.some.inj h
    cases sl with
    | imm d' => cases h; rfl
    | _ => exact no_some h
theorem rdF_get {σ : St} {i : Nat} {d : D} (h : (rdF σ)[i]? = some (some d)) : σ[i]? = some (.imm d) ∨ ∃ l, d = .lst l ∧ σ[i]? = some (.mt l) := by
  unfold rdF at h
  rw [List.getElem?_map] at h
  cases q : σ[i]? with
  | none => rw [q] at h; exact no_some h
  | some sl =>
    rw [q] at h
    have h := Option.some.inj h
    cases sl with
    | imm d' => cases h; exact .inl rfl
    | mt l => cases h; exact .inr ⟨_, rfl, rfl⟩
    | unb => exact no_some h

theorem SR.viewH (S : SR I env ns own g fix σ h) : View I env ns g (rdH σ) h where
  sub := S.gfix.trans S.sub
  gl := S.gl
  var := fun i x d hx _ hd => S.imm i x d hx (rdH_get hd)
theorem SR.viewF (S : SR I env ns own g fix σ h) : View I env ns h.get? (rdF σ) h where
  sub := Sub.refl _
  gl := S.gl
  var := fun i x d hx _ hd => by
    rcases rdF_get hd with q | ⟨l, rfl, q⟩
    · obtain ⟨v, a, b⟩ := S.imm i x d hx q
      exact ⟨v, Is.mono (S.gfix.trans S.sub) d a, b⟩
    · obtain ⟨a, b⟩ := S.mtd i x l hx q
      obtain ⟨vs, n, h1, h2⟩ := b.obj
      exact ⟨_, ⟨own i, _, vs, n, rfl, h1, rfl, rfl, IsL.mono (S.gfix.trans S.sub) l h2⟩, a⟩

/-- the heap grows: what is new may be leant on -/
theorem ext_mono {g g' : G} {h h' : Heap} (s : Sub g g') : Sub (ext g h h') (ext g' h h') := fun b o e => by
  cases q : h.get? b with
  | none => rw [ext_new q] at e ⊢; exact e
  | some o' => rw [ext_old q] at e ⊢; exact s b o e
theorem IsCell.live {h : Heap} {c : Addr} {v : Option Value} (x : h.IsCell c v) : ∃ o, h.get? c = some o := let ⟨o, a, _⟩ := x; ⟨o, a⟩
theorem SR.grow (S : SR I env ns own g fix σ h) {h' : Heap} (kk : Grow h h') : SR I env ns own (ext g h h') (ext fix h h') σ h' where
  gfix := ext_mono S.gfix
  sub := ext_in S.sub kk
  base := let ⟨h₀, a, b⟩ := S.base; ⟨h₀, a, b.trans (ext_sub S.sub)⟩
  frame := let ⟨m, a⟩ := S.frame; ⟨m, a.keeps kk⟩
  fixL := by
    obtain ⟨m, o, _, _, e, _⟩ := S.frame
    rw [ext_old e]; exact S.fixL
  cells := fun n c hc => by
    obtain ⟨⟨v, a⟩, b, d⟩ := S.cells n c hc
    obtain ⟨o, e⟩ := IsCell.live a
    exact ⟨⟨v, a.keeps kk⟩, by rw [ext_old e]; exact b, d⟩
  apart := S.apart
  imm := fun i x d hx hd => let ⟨v, a, b⟩ := S.imm i x d hx hd; ⟨v, Is.mono (ext_sub (S.gfix.trans S.sub)) d a, b.grow kk⟩
  mtd := fun i x l hx hd => by
    obtain ⟨a, b⟩ := S.mtd i x l hx hd
    obtain ⟨vs, n, h1, h2⟩ := b.obj
    exact ⟨a.grow kk, ⟨⟨vs, n, kk _ _ h1, IsL.mono (ext_sub (S.gfix.trans S.sub)) l h2⟩, by rw [ext_old h1]; exact b.off, b.loc, b.cel⟩⟩
  inj := S.inj
/-- the heap grows: nothing new is leant on -/
theorem SR.keep (S : SR I env ns own g fix σ h) {h' : Heap} (kk : Grow h h') : SR I env ns own g fix σ h' where
  gfix := S.gfix
  sub := fun b o e => kk b o (S.sub b o e)
  base := S.base
  frame := let ⟨m, a⟩ := S.frame; ⟨m, a.keeps kk⟩
  fixL := S.fixL
  cells := fun n c hc => let ⟨⟨v, a⟩, b, d⟩ := S.cells n c hc; ⟨⟨v, a.keeps kk⟩, b, d⟩
  apart := S.apart
  imm := fun i x d hx hd => let ⟨v, a, b⟩ := S.imm i x d hx hd; ⟨v, a, b.grow kk⟩
  mtd := fun i x l hx hd => by
    obtain ⟨a, b⟩ := S.mtd i x l hx hd
    obtain ⟨vs, n, h1, h2⟩ := b.obj
    exact ⟨a.grow kk, ⟨⟨vs, n, kk _ _ h1, h2⟩, b.off, b.loc, b.cel⟩⟩
  inj := S.inj

/-- what a step leaves -/
structure After (g fix g' fix' : G) : Prop where
  gg : Sub g g'
  ff : Sub fix fix'
  new : ∀ b o, g' b = some o → g b = some o ∨ fix b = none
theorem Sub.none {g g' : G} (s : Sub g g') {b : Addr} (h : g' b = none) : g b = none := by
  cases q : g b with
  | none => rfl
  | some o => rw [s b o q] at h; cases h
theorem After.refl (g fix : G) : After g fix g fix := ⟨Sub.refl _, Sub.refl _, fun _ _ e => .inl e⟩
theorem After.trans {g fix g₁ fix₁ g₂ fix₂ : G} (x : After g fix g₁ fix₁) (y : After g₁ fix₁ g₂ fix₂) : After g fix g₂ fix₂ :=
  { gg := x.gg.trans y.gg, ff := x.ff.trans y.ff, new := fun b o e => by
      rcases y.new b o e with q | q
      · exact x.new b o q
      · exact .inr (x.ff.none q) }
theorem After.grow {g fix : G} {h h' : Heap} (sg : Sub g h.get?) (sf : Sub fix h.get?) : After g fix (ext g h h') (ext fix h h') :=
  { gg := ext_sub sg, ff := ext_sub sf,
    new := fun b o e => by
      cases q : h.get? b with
      | none => exact .inr (sf.none q)
      | some o' => rw [ext_old q] at e; exact .inl e }

theorem Ns.func {h : Heap} {a : Addr} {m m' : Str → Option Value} (x : h.Ns a m) (y : h.Ns a m') : m = m' := by
  obtain ⟨o, es, ep, h1, h2, _, h4⟩ := x
  obtain ⟨o', es', ep', h1', h2', _, h4'⟩ := y
  rw [h1] at h1'; cases h1'
  rw [h2] at h2'; cases h2'
  funext z; rw [← h4, ← h4']

/-- a name is stored: a change of one place -/
theorem SR.change (S : SR I env ns own g fix σ h) (nd : ns.Nodup) {h' : Heap} {i : Nat} {x : Str} {a : Addr} {sl : Slot} {own' : Nat → Addr} (hx : ns[i]? = some x) (hs : Heap.SameBut a h h') (hfa : fix a = none)
    (hfr : ∃ m, h'.Ns env.locals m) (hce : ∀ n c, env.cells.lookup n = some c → ∃ v, h'.IsCell c v)
    (hoth : ∀ y v, y ≠ x → Holds env h y v → Holds env h' y v)
    (hna : ∀ j l, σ[j]? = some (.mt l) → own j ≠ a)
    (ho : ∀ j, j ≠ i → own' j = own j)
    (himm : ∀ d, sl = .imm d → ∃ v, Is g d v ∧ Holds env h' x v) (hmut : ∀ l, sl = .mt l → Holds env h' x (.ref (own' i)) ∧ Owned env g fix h' (own' i) l ∧ ∀ j l', j ≠ i → σ[j]? = some (.mt l') → own j ≠ own' i) :
    SR I env ns own' g fix (σ.set i sl) h' ∧ After g fix g fix := by
  have sub' : Sub fix h'.get? := fun b o e => by
    have hb : b ≠ a := fun q => by rw [q, hfa] at e; cases e
    rw [hs.2 b hb]; exact S.sub b o e
  have idx : ∀ j y, j ≠ i → ns[j]? = some y → y ≠ x := fun j y hj hy q => by
    subst q
    obtain ⟨l1, e1⟩ := List.getElem?_eq_some_iff.mp hy
    obtain ⟨l2, e2⟩ := List.getElem?_eq_some_iff.mp hx
    exact hj ((List.getElem_inj nd).mp (e1.trans e2.symm))
  have hin : i < σ.length ∨ σ.length ≤ i := by omega
  refine ⟨⟨S.gfix, sub', S.base, hfr, S.fixL, fun n c hc => ⟨hce n c hc, (S.cells n c hc).2⟩, S.apart, fun j y d hy hd => ?_, fun j y l hy hd => ?_, fun j j' l l' hj hj' e => ?_⟩, After.refl _ _⟩
  · by_cases hj : j = i
    · subst hj
      rw [hx] at hy; cases hy
      rw [List.getElem?_set] at hd
      simp only [if_true] at hd
      split at hd
      · exact himm d (by simpa using hd)
      · cases hd
    · rw [List.getElem?_set_ne (Ne.symm hj)] at hd
      obtain ⟨v, p, q⟩ := S.imm j y d hy hd
      exact ⟨v, p, hoth y v (idx j y hj hy) q⟩
  · by_cases hj : j = i
    · subst hj
      rw [hx] at hy; cases hy
      rw [List.getElem?_set] at hd
      simp only [if_true] at hd
      split at hd
      · obtain ⟨p, q, _⟩ := hmut l (by simpa using hd)
        exact ⟨p, q⟩
      · cases hd
    · rw [List.getElem?_set_ne (Ne.symm hj)] at hd
      obtain ⟨p, q⟩ := S.mtd j y l hy hd
      obtain ⟨vs, n, h1, h2⟩ := q.obj
      rw [ho j hj]
      exact ⟨hoth y _ (idx j y hj hy) p, ⟨⟨vs, n, (hs.2 _ (hna j l hd)).trans h1, h2⟩, q.off, q.loc, q.cel⟩⟩
  · by_cases h1 : j = i
    · by_cases h2 : j' = i
      · rw [h1, h2]
      · exfalso
        subst h1
        rw [List.getElem?_set] at hj
        simp only [if_true] at hj
        split at hj
        · obtain ⟨_, _, r⟩ := hmut l (by simpa using hj)
          rw [List.getElem?_set_ne (Ne.symm h2)] at hj'
          exact r j' l' h2 hj' (by rw [← ho j' h2]; exact e.symm)
        · cases hj
    · by_cases h2 : j' = i
      · exfalso
        subst h2
        rw [List.getElem?_set] at hj'
        simp only [if_true] at hj'
        split at hj'
        · obtain ⟨_, _, r⟩ := hmut l' (by simpa using hj')
          rw [List.getElem?_set_ne (Ne.symm h1)] at hj
          exact r j l h1 hj (by rw [← ho j h1]; exact e)
        · cases hj'
      · rw [List.getElem?_set_ne (Ne.symm h1)] at hj
        rw [List.getElem?_set_ne (Ne.symm h2)] at hj'
        rw [ho j h1, ho j' h2] at e
        exact S.inj j j' l l' hj hj' e

/-- storeName, of a local or a cell -/
theorem SR.store {M : Model} {A : Around} {s : Shared} {E : Value → Shared → Prop} {Q : Unit → Shared → Prop} (S : SR I env ns own g fix σ s.heap) (nd : ns.Nodup) (hS : EnvS sc env) (hk : sc.kind = .function) {i : Nat} {x : Str} {v : Value} {sl : Slot} {own' : Nat → Addr} (hx : ns[i]? = some x)
    (hkind : sc.names.lookup x = some .local ∨ sc.names.lookup x = some .cell)
    (ho : ∀ j, j ≠ i → own' j = own j)
    (himm : ∀ d, sl = .imm d → Is g d v) (hmut : ∀ l, sl = .mt l → v = .ref (own' i) ∧ Owned env g fix s.heap (own' i) l ∧ ∀ j l', j ≠ i → σ[j]? = some (.mt l') → own j ≠ own' i)
    (hown : ∀ j l, σ[j]? = some (.mt l) → own j ≠ env.locals ∧ ∀ n c, env.cells.lookup n = some c → own j ≠ c)
    (hQ : ∀ h' tk, SR I env ns own' g fix (σ.set i sl) h' → After g fix g fix → Q () { s with heap := h', toks := tk }) : wpAny M A (storeName env x v) Q E s := by
  obtain ⟨m, hm⟩ := S.frame
  rcases hkind with hl | hc
  · have hl' : env.kindOf x = some .local := by unfold Env.kindOf; rw [hS.scope]; exact hl
    refine wpAny_storeName_local hl' hm (fun h' hn hs => ?_) (by rw [hS.scope, hk]; rfl)
    have cel' : ∀ n c w, env.cells.lookup n = some c → s.heap.IsCell c w → h'.IsCell c w := fun n c w hc hw => hw.sameBut hs (S.cells n c hc).2.2
    have hh : Holds env h' x v := .inl ⟨hl', _, hn, by simp⟩
    obtain ⟨a, b⟩ := S.change nd (h' := h') (sl := sl) (own' := own') hx hs S.fixL ⟨_, hn⟩ (fun n c hc => let ⟨⟨w, a⟩, _⟩ := S.cells n c hc; ⟨w, cel' n c w hc a⟩)
      (fun y w hy hw => by
        rcases hw with ⟨p, m', hm', q⟩ | ⟨p, c, hc, q⟩
        · rw [Ns.func hm' hm] at q
          exact .inl ⟨p, _, hn, by simp only [if_neg hy]; exact q⟩
        · exact .inr ⟨p, c, hc, cel' y c _ hc q⟩)
      (fun j l hj => (hown j l hj).1) ho (fun d hd => ⟨v, himm d hd, hh⟩)
      (fun l hl => by
        obtain ⟨p, q, r⟩ := hmut l hl
        obtain ⟨vs, n, h1, h2⟩ := q.obj
        exact ⟨p ▸ hh, ⟨⟨vs, n, (hs.2 _ q.loc).trans h1, h2⟩, q.off, q.loc, q.cel⟩, r⟩)
    exact hQ h' _ a b
  · have hc' : env.kindOf x = some .cell := by unfold Env.kindOf; rw [hS.scope]; exact hc
    obtain ⟨c, hcl⟩ := Option.isSome_iff_exists.mp (hS.cells x hc)
    obtain ⟨⟨w₀, hw₀⟩, hfc, hcL⟩ := S.cells x c hcl
    refine wpAny_storeName_cell (hS.scope ▸ hk) hc' hcl hw₀ fun h' hv hs => ?_
    have hn : h'.Ns env.locals m := hm.sameBut hs (Ne.symm hcL)
    have cel' : ∀ n c' w, n ≠ x → env.cells.lookup n = some c' → s.heap.IsCell c' w → h'.IsCell c' w := fun n c' w hne hc2 hw => hw.sameBut hs fun q => hne (S.apart n x c' hc2 (q ▸ hcl))
    have hh : Holds env h' x v := .inr ⟨hc', c, hcl, hv⟩
    obtain ⟨a, b⟩ := S.change nd (h' := h') (sl := sl) (own' := own') hx hs hfc ⟨_, hn⟩
      (fun n c' hc2 => by
        by_cases hne : n = x
        · subst hne; rw [hcl] at hc2; cases hc2; exact ⟨_, hv⟩
        · obtain ⟨⟨w, a⟩, _⟩ := S.cells n c' hc2; exact ⟨w, cel' n c' w hne hc2 a⟩)
      (fun y w hy hw => by
        rcases hw with ⟨p, m', hm', q⟩ | ⟨p, c', hc2, q⟩
        · exact .inl ⟨p, _, hm'.sameBut hs (Ne.symm hcL), q⟩
        · exact .inr ⟨p, c', hc2, cel' y c' _ hy hc2 q⟩)
      (fun j l hj => (hown j l hj).2 x c hcl) ho (fun d hd => ⟨v, himm d hd, hh⟩)
      (fun l hl => by
        obtain ⟨p, q, r⟩ := hmut l hl
        obtain ⟨vs, n, h1, h2⟩ := q.obj
        exact ⟨p ▸ hh, ⟨⟨vs, n, (hs.2 _ (q.cel x c hcl)).trans h1, h2⟩, q.off, q.loc, q.cel⟩, r⟩)
    exact hQ h' s.toks a b

end
end Mine
open PySem PySem.W PyProof.Rows PySem.Spec
set_option linter.unusedVariables false
set_option Elab.async false
set_option maxRecDepth 100000
namespace Mine

inductive Fl where
  | next
  | cont
  | ret (d : D)
  | exc (c : String)

noncomputable def FlOK (g fix : G) (h : Heap) : Fl → Flow → Prop
  | .next, f => f = .next
  | .cont, f => f = .cont
  | .ret d, f => ∃ v gR, f = .ret v ∧ Is gR d v ∧ Sub gR h.get? ∧ ∀ b o, gR b = some o → g b = some o ∨ fix b = none
  | .exc _, _ => False

noncomputable abbrev Run := Nat → St → Option (St × Fl)
noncomputable def RunOK (I : GI) (k : Nat) (sc : Scope) (ns : List Str) (t : Env → Sem Flow) (F : Run) : Prop :=
  ∀ (env : Env) (A : Around) (own : Nat → Addr) (g fix : G) (σ : St) (s : Shared) (fuel : Nat) (σ' : St) (fl : Fl) (Q : Flow → Shared → Prop) (E : Value → Shared → Prop),
    EnvS sc env → AOK k A → SR I env ns own g fix σ s.heap → F fuel σ = some (σ', fl) →
    (∀ own' g' fix' h' tk f, SR I env ns own' g' fix' σ' h' → After g fix g' fix' → FlOK g' fix' h' fl f → Q f { s with heap := h', toks := tk }) → wpAny (model I.prog I.w) A (t env) Q E s

/-- as RunOK, for what may raise: a raise is told at the exception's making -/
noncomputable def RunE (I : GI) (k : Nat) (sc : Scope) (ns : List Str) (t : Env → Sem Flow) (F : Run) : Prop :=
  ∀ (env : Env) (A : Around) (own : Nat → Addr) (g fix : G) (σ : St) (s : Shared) (fuel : Nat) (σ' : St) (fl : Fl) (Q : Flow → Shared → Prop) (E : Value → Shared → Prop),
    EnvS sc env → AOK k A → SR I env ns own g fix σ s.heap → PassesOwn (model I.prog I.w) A env E → F fuel σ = some (σ', fl) →
    (∀ own' g' fix' h' tk f, SR I env ns own' g' fix' σ' h' → After g fix g' fix' → FlOK g' fix' h' fl f → Q f { s with heap := h', toks := tk }) →
    (∀ c, fl = .exc c → ∀ h₁ h' tk e, Sub fix h₁.get? → (∃ m, h₁.Ns env.locals m) → Heap.NewExc h₁ h' e c → E (.ref e) { s with heap := h', toks := tk }) → wpAny (model I.prog I.w) A (t env) Q E s
theorem RunE.of {I : GI} {k : Nat} {sc : Scope} {ns : List Str} {t : Env → Sem Flow} {F : Run} (h : RunOK I k sc ns t F) : RunE I k sc ns t F :=
  fun env A own g fix σ s fuel σ' fl Q E hS hA S _ hF P _ => h env A own g fix σ s fuel σ' fl Q E hS hA S hF P

structure ScS (sc : Scope) (ns : List Str) : Prop where
  kind : sc.kind = .function
  nd : ns.Nodup
  names : ∀ x ∈ ns, sc.names.lookup x = some .local ∨ sc.names.lookup x = some .cell

section
variable {I : GI} {k : Nat} {sc : Scope} {ns : List Str}

open Classical in
/-- the view that also sees the lists that are changed -/
noncomputable def gO (own : Nat → Addr) (g : G) (σ : St) (h : Heap) : G := fun b => if ∃ i l, σ[i]? = some (.mt l) ∧ own i = b then h.get? b else g b
section
variable {env : Env} {own : Nat → Addr} {g fix : G} {σ : St} {h : Heap}
theorem gO_in (S : SR I env ns own g fix σ h) : Sub (gO own g σ h) h.get? := fun b o e => by
  unfold gO at e
  split at e
  · exact e
  · exact S.sub b o (S.gfix b o e)
theorem gO_sub (S : SR I env ns own g fix σ h) (hl : σ.length ≤ ns.length) : Sub g (gO own g σ h) := fun b o e => by
  unfold gO
  split
  · exact S.sub b o (S.gfix b o e)
  · exact e
theorem gO_new (S : SR I env ns own g fix σ h) (hl : σ.length ≤ ns.length) : ∀ b o, gO own g σ h b = some o → g b = some o ∨ fix b = none := fun b o e => by
  unfold gO at e
  split at e
  · rename_i hx
    obtain ⟨i, l, hi, rfl⟩ := hx
    have hlt : i < ns.length := Nat.lt_of_lt_of_le (List.getElem?_eq_some_iff.mp hi).1 hl
    exact .inr (S.mtd i ns[i] l (List.getElem?_eq_getElem hlt) hi).2.off
  · exact .inl e
theorem SR.viewO (S : SR I env ns own g fix σ h) (hl : σ.length ≤ ns.length) : View I env ns (gO own g σ h) (rdF σ) h where
  sub := gO_in S
  gl := S.gl
  var := fun i x d hx _ hd => by
    rcases rdF_get hd with q | ⟨l, rfl, q⟩
    · obtain ⟨v, a, b⟩ := S.imm i x d hx q
      exact ⟨v, Is.mono (gO_sub S hl) d a, b⟩
    · obtain ⟨a, b⟩ := S.mtd i x l hx q
      obtain ⟨vs, n, h1, h2⟩ := b.obj
      have e : gO own g σ h (own i) = some (lobj vs n) := by
        unfold gO; rw [if_pos ⟨i, l, q, rfl⟩]; exact h1
      exact ⟨_, ⟨own i, _, vs, n, rfl, e, rfl, rfl, IsL.mono (gO_sub S hl) l h2⟩, a⟩
end

/-- execs -/
noncomputable def rNil : Run := fun _ σ => some (σ, .next)
noncomputable def rSeq (F Fs : Run) : Run := fun fuel σ => match F fuel σ with
  | some (σ₁, .next) => Fs fuel σ₁
  | r => r
theorem RunOK.nil : RunOK I k sc ns (execs []) rNil := by
  intro env A own g fix σ s fuel σ' fl Q E hS hA S hF P
  cases hF
  exact wpAny_execs_nil (P own g fix s.heap s.toks _ S (After.refl _ _) rfl)
theorem RunOK.cons {st : Stmt} {rest : List Stmt} {F Fs : Run} (h : RunOK I k sc ns (exec st) F) (hs : RunOK I k sc ns (execs rest) Fs) : RunOK I k sc ns (execs (st :: rest)) (rSeq F Fs) := by
  intro env A own g fix σ s fuel σ' fl Q E hS hA S hF P
  unfold rSeq at hF
  refine wpAny_execs_cons ?_
  split at hF
  · rename_i σ₁ h1
    refine h env A own g fix σ s fuel σ₁ .next _ E hS hA S h1 fun own₁ g₁ fix₁ h₁ tk₁ f S₁ A₁ hf => ?_
    rw [show f = .next from hf]
    exact hs env A own₁ g₁ fix₁ σ₁ _ fuel σ' fl Q E hS hA S₁ hF fun own₂ g₂ fix₂ h₂ tk₂ f₂ S₂ A₂ hf₂ => P own₂ g₂ fix₂ h₂ tk₂ f₂ S₂ (A₁.trans A₂) hf₂
  · rename_i hne
    refine h env A own g fix σ s fuel σ' fl _ E hS hA S hF fun own₁ g₁ fix₁ h₁ tk₁ f S₁ A₁ hf => ?_
    have q := P own₁ g₁ fix₁ h₁ tk₁ f S₁ A₁ hf
    cases fl with
    | next => exact absurd hF (hne σ')
    | cont => rw [show f = .cont from hf] at q ⊢; exact q
    | ret d => obtain ⟨v, gR, rfl, _⟩ := hf; exact q
    | exc c => exact hf.elim

/-- a value that may be kept: the changed lists are unseen, or it bears no reference -/
noncomputable def evS (F : Ev) (σ : St) : Option D := match F (rdH σ) with
  | some d => some d
  | none => match F (rdF σ) with
    | some d => if flat d = true then some d else none
    | none => none
theorem evS_ok {env : Env} {A : Around} {own : Nat → Addr} {g fix : G} {σ : St} {s : Shared} {e : Expr} {F : Ev} {d : D} {Q : Value → Shared → Prop} {E : Value → Shared → Prop} (hS : EnvS sc env) (hA : AOK k A)
    (S : SR I env ns own g fix σ s.heap) (h : EvOK I k sc ns e F) (hF : evS F σ = some d)
    (P : ∀ v h' tk, SR I env ns own (ext g s.heap h') (ext fix s.heap h') σ h' → After g fix (ext g s.heap h') (ext fix s.heap h') → Is (ext g s.heap h') d v → Q v { s with heap := h', toks := tk }) : wpAny (model I.prog I.w) A (eval e env) Q E s := by
  have go : ∀ {h' : Heap}, Grow s.heap h' → SR I env ns own (ext g s.heap h') (ext fix s.heap h') σ h' ∧ After g fix (ext g s.heap h') (ext fix s.heap h') := fun kk =>
    ⟨S.grow kk, After.grow (S.gfix.trans S.sub) S.sub⟩
  unfold evS at hF
  split at hF
  · rename_i d' hd
    cases hF
    exact h env A g (rdH σ) s d Q E hS hA S.viewH hd fun v h' tk kk hv => P v h' tk (go kk).1 (go kk).2 hv
  · split at hF
    · rename_i d' hd
      split at hF
      · rename_i hfl
        cases hF
        exact h env A _ (rdF σ) s d Q E hS hA S.viewF hd fun v h' tk kk hv => P v h' tk (go kk).1 (go kk).2 (hv.flat hfl)
      · cases hF
    · cases hF

theorem SR.ownOff {env : Env} {own : Nat → Addr} {g fix : G} {σ : St} {h : Heap} (S : SR I env ns own g fix σ h) (hl : σ.length ≤ ns.length) : ∀ j l, σ[j]? = some (.mt l) → own j ≠ env.locals ∧ ∀ n c, env.cells.lookup n = some c → own j ≠ c := fun j l hj => by
  have hlt : j < ns.length := Nat.lt_of_lt_of_le (List.getElem?_eq_some_iff.mp hj).1 hl
  have q := (S.mtd j ns[j] l (List.getElem?_eq_getElem hlt) hj).2
  exact ⟨q.loc, q.cel⟩

/-- a name is stored, an immutable datum -/
theorem store_imm {env : Env} {A : Around} {own : Nat → Addr} {g fix : G} {σ : St} {s : Shared} {x : Str} {i : Nat} {v : Value} {d : D} {Q : Unit → Shared → Prop} {E : Value → Shared → Prop} (hc : ScS sc ns) (hS : EnvS sc env)
    (S : SR I env ns own g fix σ s.heap) (hl : σ.length ≤ ns.length) (hx : ns[i]? = some x) (hd : Is g d v)
    (P : ∀ h' tk, SR I env ns own g fix (σ.set i (.imm d)) h' → Q () { s with heap := h', toks := tk }) : wpAny (model I.prog I.w) A (storeName env x v) Q E s :=
  S.store hc.nd hS hc.kind hx (hc.names x (List.mem_of_getElem? hx)) (fun _ _ => rfl) (fun d' e => by cases e; exact hd) (fun l e => by cases e) (S.ownOff hl) fun h' tk S' _ => P h' tk S'

noncomputable def rAsg (i : Nat) (F : Ev) : Run := fun _ σ => if σ.length ≤ i then none else match evS F σ with
  | some d => some (σ.set i (.imm d), .next)
  | none => none
/-- the frame's length holds on: a check that the reader makes -/
noncomputable def lenOk (n : Nat) (F : Run) : Run := fun fuel σ => if σ.length = n then F fuel σ else none

theorem RunOK.asg {x : Str} {px pos : Pos} {e : Expr} {i : Nat} {F : Ev} (hc : ScS sc ns) (hx : ns[i]? = some x) (h : EvOK I k sc ns e F) (hs : ∀ env, swapsWith e (some (.Name x px)) pos.line env = pure false) :
    RunOK I k sc ns (exec (.Assign [.Name x px] e pos)) (lenOk ns.length (rAsg i F)) := by
  intro env A own g fix σ s fuel σ' fl Q E hS hA S hF P
  unfold lenOk at hF
  split at hF
  · rename_i hlen
    unfold rAsg at hF
    split at hF
    · cases hF
    · split at hF
      · rename_i d hd
        cases hF
        refine wpAny_Assign_Name (evS_ok hS hA S h hd fun v h₁ tk₁ S₁ A₁ hv => ?_) (hs env)
        exact store_imm hc hS S₁ (Nat.le_of_eq hlen) hx hv fun h₂ tk₂ S₂ => P own _ _ h₂ tk₂ _ S₂ A₁ rfl
      · cases hF
  · cases hF

noncomputable def rRet (F : Ev) : Run := fun _ σ => match F (rdH σ) with
  | some d => some (σ, .ret d)
  | none => match F (rdF σ) with
    | some d => some (σ, .ret d)
    | none => none
theorem RunOK.ret {e : Expr} {pos : Pos} {F : Ev} (h : EvOK I k sc ns e F) : RunOK I k sc ns (exec (.Return (some e) pos)) (lenOk ns.length (rRet F)) := by
  intro env A own g fix σ s fuel σ' fl Q E hS hA S hF P
  unfold lenOk at hF
  split at hF
  · rename_i hlen
    unfold rRet at hF
    split at hF
    · rename_i d hd
      cases hF
      refine wpAny_Return_some (h env A g (rdH σ) s d _ E hS hA S.viewH hd fun v h' tk kk hv => ?_)
      have S' := S.grow kk
      exact P own _ _ h' tk _ S' (After.grow (S.gfix.trans S.sub) S.sub) ⟨v, _, rfl, hv, S'.gfix.trans S'.sub, fun b o e => .inl e⟩
    · split at hF
      · rename_i d hd
        cases hF
        have hl := Nat.le_of_eq hlen
        refine wpAny_Return_some (h env A _ (rdF σ) s d _ E hS hA (S.viewO hl) hd fun v h' tk kk hv => ?_)
        have S' := S.grow kk
        refine P own _ _ h' tk _ S' (After.grow (S.gfix.trans S.sub) S.sub) ⟨v, _, rfl, hv, ext_in (gO_in S) kk, fun b o e => ?_⟩
        cases q : s.heap.get? b with
        | none => rw [ext_new q] at e ⊢; exact .inl e
        | some o' =>
          rw [ext_old q] at e ⊢
          rcases gO_new S hl b o e with p | p
          · exact .inl p
          · exact .inr (by rw [ext_old q]; exact p)
      · cases hF
  · cases hF
noncomputable def rIf (T : Tr) (F F' : Run) : Run := fun fuel σ => match T (rdF σ) with
  | some true => F fuel σ
  | some false => F' fuel σ
  | none => none
theorem RunOK.ifS {test : Expr} {body orelse : List Stmt} {pos : Pos} {T : Tr} {F F' : Run} (ht : TrOK I k sc ns test T) (hb : RunOK I k sc ns (execs body) F) (ho : RunOK I k sc ns (execs orelse) F') :
    RunOK I k sc ns (exec (.If test body orelse pos)) (rIf T F F') := by
  intro env A own g fix σ s fuel σ' fl Q E hS hA S hF P
  unfold rIf at hF
  split at hF
  · rename_i hT
    refine wpAny_If (ht env A _ (rdF σ) s true _ E hS hA S.viewF hT fun h₁ tk₁ kk => ?_)
    exact hb env A own _ _ σ _ fuel σ' fl Q E hS hA (S.grow kk) hF fun own₂ g₂ fix₂ h₂ tk₂ f₂ S₂ A₂ hf₂ => P own₂ g₂ fix₂ h₂ tk₂ f₂ S₂ ((After.grow (S.gfix.trans S.sub) S.sub).trans A₂) hf₂
  · rename_i hT
    refine wpAny_If (ht env A _ (rdF σ) s false _ E hS hA S.viewF hT fun h₁ tk₁ kk => ?_)
    exact ho env A own _ _ σ _ fuel σ' fl Q E hS hA (S.grow kk) hF fun own₂ g₂ fix₂ h₂ tk₂ f₂ S₂ A₂ hf₂ => P own₂ g₂ fix₂ h₂ tk₂ f₂ S₂ ((After.grow (S.gfix.trans S.sub) S.sub).trans A₂) hf₂
  · cases hF

/-- while -/
noncomputable def whileL (T : Tr) (body : St → Option (St × Fl)) : Nat → St → Option (St × Fl)
  | 0, _ => none
  | n + 1, σ => match T (rdF σ) with
    | some true => (match body σ with
      | some (σ', .next) => whileL T body n σ'
      | some (σ', .cont) => whileL T body n σ'
      | some (σ', .ret d) => some (σ', .ret d)
      | some (_, .exc _) => none
      | none => none)
    | some false => some (σ, .next)
    | none => none
noncomputable def rWhile (T : Tr) (F : Run) : Run := fun fuel σ => whileL T (F fuel) fuel σ
theorem RunOK.whileS {test : Expr} {body : List Stmt} {pos : Pos} {T : Tr} {F : Run} (ht : TrOK I k sc ns test T) (hb : RunOK I k sc ns (execs body) F) : RunOK I k sc ns (exec (.While test body [] pos)) (rWhile T F) := by
  intro env A own g fix σ s fuel σ' fl Q E hS hA S hF P
  unfold rWhile at hF
  refine wpAny_While (codeAny_whileLoop (fun n s' => ∃ own₁ g₁ fix₁ σ₁ h₁ tk₁, s' = { s with heap := h₁, toks := tk₁ } ∧ SR I env ns own₁ g₁ fix₁ σ₁ h₁ ∧ After g fix g₁ fix₁ ∧ whileL T (F fuel) n σ₁ = some (σ', fl)) ?_ fuel
    ⟨own, g, fix, σ, s.heap, s.toks, rfl, S, After.refl _ _, hF⟩)
  rintro n s' ⟨own₁, g₁, fix₁, σ₁, h₁, tk₁, rfl, S₁, A₁, hW⟩
  cases n with
  | zero => cases hW
  | succ n =>
    unfold whileL at hW
    split at hW
    · rename_i hT
      refine ht env A _ (rdF σ₁) _ true _ _ hS hA S₁.viewF hT fun h₂ tk₂ kk => ?_
      have S₂ := S₁.grow kk
      have A₂ := A₁.trans (After.grow (S₁.gfix.trans S₁.sub) S₁.sub (h' := h₂))
      simp only [if_true]
      split at hW
      · rename_i σ₂ hB
        refine hb env A own₁ _ _ σ₁ _ fuel σ₂ .next _ _ hS hA S₂ hB fun own₃ g₃ fix₃ h₃ tk₃ f₃ S₃ A₃ hf₃ => ?_
        rw [show f₃ = .next from hf₃]
        exact ⟨n, Nat.lt_succ_self n, own₃, g₃, fix₃, σ₂, h₃, tk₃, rfl, S₃, A₂.trans A₃, hW⟩
      · rename_i σ₂ hB
        refine hb env A own₁ _ _ σ₁ _ fuel σ₂ .cont _ _ hS hA S₂ hB fun own₃ g₃ fix₃ h₃ tk₃ f₃ S₃ A₃ hf₃ => ?_
        rw [show f₃ = .cont from hf₃]
        exact ⟨n, Nat.lt_succ_self n, own₃, g₃, fix₃, σ₂, h₃, tk₃, rfl, S₃, A₂.trans A₃, hW⟩
      · rename_i σ₂ d hB
        cases hW
        refine hb env A own₁ _ _ σ₁ _ fuel _ (.ret d) _ _ hS hA S₂ hB fun own₃ g₃ fix₃ h₃ tk₃ f₃ S₃ A₃ hf₃ => ?_
        have q := P own₃ g₃ fix₃ h₃ tk₃ f₃ S₃ (A₂.trans A₃) hf₃
        obtain ⟨v, gR, rfl, _⟩ := hf₃
        exact q
      · cases hW
      · cases hW
    · rename_i hT
      cases hW
      refine ht env A _ (rdF _) _ false _ _ hS hA S₁.viewF hT fun h₂ tk₂ kk => ?_
      simp only [Bool.false_eq_true, if_false]
      exact wpAny_execs_nil (P own₁ _ _ h₂ tk₂ _ (S₁.grow kk) (A₁.trans (After.grow (S₁.gfix.trans S₁.sub) S₁.sub)) rfl)
    · cases hW
end
end Mine
open PySem PySem.W PyProof.Rows PySem.Spec
set_option linter.unusedVariables false
set_option Elab.async false
set_option maxRecDepth 100000
namespace Mine
section
variable {I : GI} {k : Nat} {sc : Scope} {ns : List Str}

/-- x op= e, ints -/
noncomputable def IOpOK (I : GI) (k : Nat) (op : Operator) (f : D → D → Option D) : Prop :=
  ∀ (A : Around) (s : Shared) (g : G) (x y d : D) (u v : Value) (Q : Value → Shared → Prop) (E : Value → Shared → Prop),
    AOK k A → Is g x u → Is g y v → f x y = some d → (∀ v' tk, Is g d v' → Q v' { s with toks := tk }) → wpAny (model I.prog I.w) A (inplaceOp op u v) Q E s
noncomputable def fAddI : D → D → Option D
  | .int a, .int b => some (.int (a + b))
  | _, _ => none
theorem IOpOK.add : IOpOK I k .Add fAddI := by
  intro A s g x y d u v Q E hA hx hy hf P
  unfold fAddI at hf
  split at hf
  · obtain ⟨t, rfl⟩ := hx
    obtain ⟨t', rfl⟩ := hy
    cases hf
    exact PySem.P.iadd_int (P _ _ ⟨_, rfl⟩)
  · cases hf
theorem IOpOK.mul : IOpOK I k .Mult fMul := by
  intro A s g x y d u v Q E hA hx hy hf P
  unfold fMul at hf
  split at hf
  · obtain ⟨t, rfl⟩ := hx
    obtain ⟨t', rfl⟩ := hy
    split at hf
    · rename_i hm
      cases hf
      exact PySem.P.imul_int (P _ _ ⟨_, rfl⟩) (mulOk_ok hm)
    · cases hf
  · cases hf
theorem loadName_ok {env : Env} {A : Around} {s : Shared} {x : Str} {v : Value} {Q : Value → Shared → Prop} {E : Value → Shared → Prop} (hS : EnvS sc env) (hk : sc.kind = .function) (hv : Holds env s.heap x v) (q : Q v s) :
    wpAny (model I.prog I.w) A (loadName env x) Q E s := by
  rcases hv with ⟨hl, m, hn, hm⟩ | ⟨hl, c, hc, hv⟩
  · exact wpAny_loadName_local (hS.scope ▸ hk) hl hn hm q
  · exact wpAny_loadName_cell (hS.scope ▸ hk) hl hc hv q

noncomputable def rAug (i : Nat) (f : D → D → Option D) (F : Ev) : Run := fun _ σ => match σ[i]? with
  | some (.imm x) => (match evS F σ with
    | some y => (match f x y with
      | some z => some (σ.set i (.imm z), .next)
      | none => none)
    | none => none)
  | _ => none
theorem RunOK.aug {x : Str} {px pos : Pos} {op : Operator} {e : Expr} {i : Nat} {f : D → D → Option D} {F : Ev} (hc : ScS sc ns) (hx : ns[i]? = some x) (h : EvOK I k sc ns e F) (ho : IOpOK I k op f) :
    RunOK I k sc ns (exec (.AugAssign (.Name x px) op e pos)) (lenOk ns.length (rAug i f F)) := by
  intro env A own g fix σ s fuel σ' fl Q E hS hA S hF P
  unfold lenOk at hF
  split at hF
  · rename_i hlen
    unfold rAug at hF
    split at hF
    · rename_i xd hxd
      split at hF
      · rename_i y hy
        split at hF
        · rename_i z hz
          cases hF
          obtain ⟨vx, hi, hh⟩ := S.imm i x xd hx hxd
          refine wpAny_AugAssign_Name (loadName_ok hS hc.kind hh (evS_ok hS hA S h hy fun v h₁ tk₁ S₁ A₁ hv => ?_))
          refine ho A _ _ xd y z vx v _ E hA (Is.mono A₁.gg xd hi) hv hz fun v' tk₂ hv' => ?_
          exact store_imm (s := { s with heap := h₁, toks := tk₂ }) hc hS S₁ (Nat.le_of_eq hlen) hx hv' fun h₂ tk₂ S₂ => P own _ _ h₂ tk₂ _ S₂ A₁ rfl
        · cases hF
      · cases hF
    · cases hF
  · cases hF

/-- several names at once -/
inductive NamesAre : List Expr → List Str → Prop
  | nil : NamesAre [] []
  | cons {x : Str} {p : Pos} {r : List Expr} {xs : List Str} : NamesAre r xs → NamesAre (.Name x p :: r) (x :: xs)
noncomputable def setAll : List Nat → List D → St → St
  | i :: is, d :: ds, σ => setAll is ds (σ.set i (.imm d))
  | _, _, σ => σ
theorem storeAllP {env : Env} {A : Around} {g fix : G} {own : Nat → Addr} {E : Value → Shared → Prop} (hc : ScS sc ns) (hS : EnvS sc env) :
    ∀ (ps : List (Str × Pos)) (is : List Nat) (ds : List D) (vs : List Value) (σ : St) (s : Shared) (Q : Unit → Shared → Prop), SR I env ns own g fix σ s.heap → σ.length ≤ ns.length → is.map (ns[·]?) = (ps.map (·.1)).map some → ds.length = is.length → IsL g ds vs →
      (∀ h' tk, SR I env ns own g fix (setAll is ds σ) h' → Q () { s with heap := h', toks := tk }) → wpAny (model I.prog I.w) A (assignInOrder (ps.map fun q => assign (.Name q.1 q.2) env) vs) Q E s := by
  intro ps
  induction ps with
  | nil =>
    intro is ds vs σ s Q S hl hx hd hv P
    cases is with
    | cons _ _ => exact absurd hx (List.cons_ne_nil _ _)
    | nil =>
      cases ds with
      | cons _ _ => exact absurd hd (Nat.succ_ne_zero _)
      | nil => rw [show vs = [] from hv]; exact wpAny_pure (P s.heap s.toks S)
  | cons q ps ih =>
    intro is ds vs σ s Q S hl hx hd hv P
    cases is with
    | nil => exact absurd hx.symm (List.cons_ne_nil _ _)
    | cons i is =>
      cases ds with
      | nil => exact absurd hd.symm (Nat.succ_ne_zero _)
      | cons d ds =>
        obtain ⟨v, vs', rfl, hv, hvs⟩ := hv
        have hx := List.cons.inj hx
        show wpAny _ _ (do holding vs' (assign (.Name q.1 q.2) env v); assignInOrder (ps.map fun q => assign (.Name q.1 q.2) env) vs') _ _ _
        refine wpAny_bind (wpAny_holding (PyProof.Rows.assign_Name (store_imm hc hS S hl hx.1 hv fun h₁ tk₁ S₁ => ?_)))
        exact ih is ds vs' _ _ Q S₁ (by rw [List.length_set]; exact hl) hx.2 (Nat.succ.inj hd) hvs fun h₂ tk₂ S₂ => P h₂ tk₂ S₂

noncomputable def rTup (is : List Nat) (rev : Bool) (F : Ev) : Run := fun _ σ => match evS F σ with
  | some (.tup ds) => if ds.length = is.length then some (if rev = true then setAll is.reverse ds.reverse σ else setAll is ds σ, .next) else none
  | _ => none

theorem assignEach_names {env : Env} : ∀ {elts : List Expr} {xs : List Str}, NamesAre elts xs → ∃ ps : List (Str × Pos), (assignEach elts env).map (·.2) = ps.map (fun q => assign (.Name q.1 q.2) env) ∧ ps.map (·.1) = xs ∧ (assignEach elts env).findIdx? (·.1) = none ∧ (assignEach elts env).length = xs.length := by
  intro elts xs h
  induction h with
  | nil => exact ⟨[], rfl, rfl, rfl, rfl⟩
  | @cons x p r xs h ih =>
    obtain ⟨ps, h1, h2, h3, h4⟩ := ih
    have e : assignEach (.Name x p :: r) env = (false, assign (.Name x p) env) :: assignEach r env := rfl
    refine ⟨(x, p) :: ps, ?_, by simp [h2], ?_, ?_⟩
    · rw [e, List.map_cons, h1]; rfl
    · rw [e, List.findIdx?_cons, h3]; rfl
    · rw [e, List.length_cons, h4]; rfl

theorem RunOK.tupP {elts : List Expr} {kk : Nat} {tpos pos : Pos} {e : Expr} {xs : List Str} {is : List Nat} {F : Ev} (hc : ScS sc ns) (hn : NamesAre elts xs) (hx : is.map (ns[·]?) = xs.map some) (h : EvOK I k sc ns e F)
    (hs : ∀ env, swapsWithSole [.Tuple elts kk tpos] e pos.line env = pure false) (hw : ∀ env : Env, env.scope = sc → swappedStores [.Tuple elts kk tpos] e env = pure none) :
    RunOK I k sc ns (exec (.Assign [.Tuple elts kk tpos] e pos)) (lenOk ns.length (rTup is false F)) := by
  intro env A own g fix σ s fuel σ' fl Q E hS hA S hF P
  unfold lenOk at hF
  split at hF
  · rename_i hlen
    unfold rTup at hF
    split at hF
    · rename_i ds hds
      split at hF
      · rename_i hl
        simp only [Bool.false_eq_true, if_false] at hF
        cases hF
        refine Assign_Tuple (evS_ok hS hA S h hds fun v h₁ tk₁ S₁ A₁ hv => ?_) (hs env) (hw env hS.scope)
        obtain ⟨a, vs, rfl, ht, hL⟩ := hv.isTup (S₁.gfix.trans S₁.sub)
        have el : xs.length = is.length := by have := congrArg List.length hx; simpa using this.symm
        have e1 := hL.length
        simp only [Array.length_toList] at e1
        have en : xs.length = vs.size := by omega
        obtain ⟨ps, q1, q2, q3, q4⟩ := assignEach_names (env := env) hn
        show wpAny _ _ (do standAt tpos; unpack (.ref a) (assignEach elts env)) _ _ _
        refine wpAny_bind (wpAny_standAt ?_)
        unfold unpack
        rw [q1, q3, q4, en]
        refine wpAny_bind (wpAny_holding (PyProof.Rows.unpackItems_tuple hA.1 ht fun h₂ he => ?_))
        have kk2 : Grow h₁ h₂ := fun b o q => he b o (Nat.ne_of_lt (Heap.lt_size q)) q
        have S₂ := S₁.keep kk2
        subst q2
        exact storeAllP hc hS ps is ds vs.toList σ _ _ S₂ (Nat.le_of_eq hlen) hx hl hL fun h₃ tk₃ S₃ => P own _ _ h₃ tk₃ _ S₃ A₁ rfl
      · cases hF
    · cases hF
  · cases hF
end
end Mine
open PySem PySem.W PyProof.Rows PySem.Spec
set_option linter.unusedVariables false
set_option Elab.async false
set_option maxRecDepth 100000
namespace Mine
section
variable {I : GI} {k : Nat} {sc : Scope} {ns : List Str}

/-- for; the frame's length is a check that the reader makes -/
noncomputable def forL (ex : Bool) (n j : Nat) (body : St → Option (St × Fl)) : List D → St → Option (St × Fl)
  | [], σ => some (σ, .next)
  | d :: ds, σ => if σ.length = n then (match body (σ.set j (.imm d)) with
    | some (σ', .next) => forL ex n j body ds σ'
    | some (σ', .cont) => forL ex n j body ds σ'
    | some (σ', .ret r) => some (σ', .ret r)
    | some (σ', .exc c) => if ex = true then some (σ', .exc c) else none
    | none => none) else none
theorem forL_noexc {n j : Nat} {body : St → Option (St × Fl)} {σ' : St} {c : String} : ∀ {ds : List D} {σ : St}, forL false n j body ds σ ≠ some (σ', .exc c)
  | [], σ, h => by cases h
  | d :: ds, σ, h => by
    unfold forL at h
    split at h
    · split at h
      · exact forL_noexc h
      · exact forL_noexc h
      · cases h
      · cases h
      · cases h
    · cases h

noncomputable def isStr : D → Bool
  | .str _ => true
  | _ => false

noncomputable def fixI (fix : G) (h : Heap) (i : Addr) : G := fun b => if b = i then h.get? b else fix b
noncomputable def dropI (fix : G) (i : Addr) : G := fun b => if b = i then none else fix b

theorem SR.iterstep {env : Env} {own : Nat → Addr} {g fix : G} {σ : St} {h h₁ : Heap} {i : Addr} (S : SR I env ns own g fix σ h) (hk : ∀ b o, b ≠ i → h.get? b = some o → h₁.get? b = some o) (hf : fix i = none)
    (hL : env.locals ≠ i) (hC : ∀ n c, env.cells.lookup n = some c → c ≠ i) (hO : ∀ (j : Nat) (x : Str) (l : List D), ns[j]? = some x → σ[j]? = some (.mt l) → own j ≠ i) : SR I env ns own g (fixI fix h₁ i) σ h₁ := by
  have sf : Sub fix (fixI fix h₁ i) := fun b o e => by
    unfold fixI
    split
    · rename_i q; rw [q, hf] at e; cases e
    · exact e
  have none_ : ∀ b, b ≠ i → fix b = none → fixI fix h₁ i b = none := fun b hb e => by unfold fixI; rw [if_neg hb]; exact e
  have holds : ∀ x v, Holds env h x v → Holds env h₁ x v := fun x v hv => by
    rcases hv with ⟨p, m, ⟨o, es, ep, e, r⟩, q⟩ | ⟨p, c, hc, o, e, q⟩
    · exact .inl ⟨p, m, ⟨o, es, ep, hk _ _ hL e, r⟩, q⟩
    · exact .inr ⟨p, c, hc, o, hk _ _ (hC _ _ hc) e, q⟩
  exact {
    gfix := S.gfix.trans sf
    sub := fun b o e => by
      unfold fixI at e
      split at e
      · exact e
      · rename_i q; exact hk b o q (S.sub b o e)
    base := let ⟨h₀, a, b⟩ := S.base; ⟨h₀, a, b.trans sf⟩
    frame := let ⟨m, o, es, ep, e, r⟩ := S.frame; ⟨m, o, es, ep, hk _ _ hL e, r⟩
    fixL := none_ _ hL S.fixL
    cells := fun n c hc => let ⟨⟨v, o, e, q⟩, a, b⟩ := S.cells n c hc; ⟨⟨v, o, hk _ _ (hC _ _ hc) e, q⟩, none_ _ (hC _ _ hc) a, b⟩
    apart := S.apart
    imm := fun j x d hx hd => let ⟨v, a, b⟩ := S.imm j x d hx hd; ⟨v, a, holds x v b⟩
    mtd := fun j x l hx hd => by
      obtain ⟨a, b⟩ := S.mtd j x l hx hd
      obtain ⟨vs, n, h1, h2⟩ := b.obj
      have ho := hO j x l hx hd
      exact ⟨holds x _ a, ⟨⟨vs, n, hk _ _ ho h1, h2⟩, none_ _ ho b.off, b.loc, b.cel⟩⟩
    inj := S.inj }

theorem SR.drop {env : Env} {own : Nat → Addr} {g fix fix₀ : G} {σ : St} {h : Heap} {i : Addr} (S : SR I env ns own g fix σ h) (hg : g i = none) (h0 : ∃ h₀, I.Gl h₀ ∧ Sub h₀.get? fix₀) (hf : Sub fix₀ fix) (hi : fix₀ i = none) :
    SR I env ns own g (dropI fix i) σ h := by
  have none_ : ∀ b, fix b = none → dropI fix i b = none := fun b e => by
    unfold dropI; split
    · rfl
    · exact e
  have sub0 : Sub fix₀ (dropI fix i) := fun b o e => by
    unfold dropI
    split
    · rename_i q; rw [q, hi] at e; cases e
    · exact hf b o e
  exact {
    gfix := fun b o e => by
      unfold dropI
      split
      · rename_i q; rw [q, hg] at e; cases e
      · exact S.gfix b o e
    sub := fun b o e => by
      unfold dropI at e
      split at e
      · cases e
      · exact S.sub b o e
    base := let ⟨h₀, a, b⟩ := h0; ⟨h₀, a, b.trans sub0⟩
    frame := S.frame
    fixL := none_ _ S.fixL
    cells := fun n c hc => let ⟨a, b, d⟩ := S.cells n c hc; ⟨a, none_ _ b, d⟩
    apart := S.apart
    imm := S.imm
    mtd := fun j x l hx hd => let ⟨a, b⟩ := S.mtd j x l hx hd; ⟨a, ⟨b.obj, none_ _ b.off, b.loc, b.cel⟩⟩
    inj := S.inj }

/-- the loop itself, from an iterable's value on -/
theorem for_core {env : Env} {A : Around} {own : Nat → Addr} {g fix : G} {σ : St} {s : Shared} {fuel : Nat} {σ' : St} {fl : Fl} {Q : Flow → Shared → Prop} {E : Value → Shared → Prop} {x : Str} {px : Pos} {j : Nat} {body : List Stmt} {F : Run} {d : D} {xv : Value} {ds : List D} {n : Nat} {ex : Bool}
    (hc : ScS sc ns) (hx : ns[j]? = some x) (hb : RunE I k sc ns (execs body) F) (hn : n = ns.length) (hS : EnvS sc env) (hA : AOK k A) (S : SR I env ns own g fix σ s.heap) (hv : Is g d xv) (hi : itemsOf d = some ds) (hne : isStr d = false)
    (hF : forL ex n j (F fuel) ds σ = some (σ', fl)) (hE : ex = true → PassesOwn (model I.prog I.w) A env E)
    (PE : ∀ c, fl = .exc c → ∀ h₁ h' tk e, Sub fix h₁.get? → (∃ m, h₁.Ns env.locals m) → Heap.NewExc h₁ h' e c → E (.ref e) { s with heap := h', toks := tk })
    (P : ∀ own' g' fix' h' tk f, SR I env ns own' g' fix' σ' h' → After g fix g' fix' → FlOK g' fix' h' fl f → Q f { s with heap := h', toks := tk }) :
    wpAny (model I.prog I.w) A (pyIter xv) (fun it s₂ => codeAny (model I.prog I.w) A (.forLoop (.Name x px) it body [] env) (fun r s' => match r with | .ok f => Q f s' | .error e => cameBackBy (model I.prog I.w) A env E e s') s₂) E s := by
  refine iter_ok hA.1 (S.gfix.trans S.sub) hv hi fun o fp Pr St₁ W hP hst hfp hlive => ?_
  generalize hI : s.heap.objs.size = It at *
  have hlive := hlive (fun y q => by rw [q] at hne; cases hne)
  have hnone : s.heap.get? It = none := by rw [← hI]; exact fresh_none _
  have gIt : g It = none := (S.gfix.trans S.sub).none hnone
  have fIt : fix It = none := S.sub.none hnone
  have hL0 : env.locals ≠ It := fun q => by
    obtain ⟨m, o', es, ep, e, r⟩ := S.frame
    rw [q, hnone] at e; cases e
  have hC0 : ∀ n c, env.cells.lookup n = some c → c ≠ It := fun n c hc q => by
    obtain ⟨⟨v, o', e, r⟩, _⟩ := S.cells n c hc
    rw [q, hnone] at e; cases e
  have hO0 : ∀ (j : Nat) (x : Str) (l : List D), ns[j]? = some x → σ[j]? = some (.mt l) → own j ≠ It := fun j x l hx hd q => by
    obtain ⟨_, b⟩ := S.mtd j x l hx hd
    obtain ⟨vs, n, h1, _⟩ := b.obj
    rw [q, hnone] at h1; cases h1
  have S0 : SR I env ns own g fix σ (s.heap.push o) := S.keep (Grow.push _ _)
  obtain ⟨h₀, gl₀, sub₀⟩ := S.base
  refine codeAny_forLoop (fun m s' => ∃ own₁ g₁ fix₁ σ₁ h₁ tk₁ i rest, s' = { s with heap := h₁, toks := tk₁ } ∧ SR I env ns own₁ g₁ fix₁ σ₁ h₁ ∧ After g fix g₁ fix₁ ∧ St₁ i h₁ ∧ fix₁ It = none ∧
      (∀ (j : Nat) (x : Str) (l : List D), ns[j]? = some x → σ₁[j]? = some (.mt l) → own₁ j ≠ It) ∧ ds = ds.take i ++ rest ∧ i ≤ ds.length ∧ rest = ds.drop i ∧ m = rest.length ∧ forL ex n j (F fuel) rest σ₁ = some (σ', fl)) ?_ ds.length
    ⟨own, g, fix, σ, _, s.toks, 0, ds, rfl, S0, After.refl _ _, hst, fIt, hO0, by simp, Nat.zero_le _, by simp, rfl, hF⟩
  rintro m s' ⟨own₁, g₁, fix₁, σ₁, h₁, tk₁, i, rest, rfl, S₁, A₁, hst₁, hf₁, hO₁, hds, hile, hrest, rfl, hW⟩
  cases hr : rest with
  | nil =>
    have hie : i = ds.length := by
      have := congrArg List.length hrest
      rw [hr, List.length_drop, List.length_nil] at this
      omega
    refine W.done _ _ _ (hie ▸ hst₁) fun h₂ tk₂ hk₂ => ?_
    have S₂ : SR I env ns own₁ g₁ (fixI fix₁ h₂ It) σ₁ h₂ := S₁.iterstep (fun b o' hb e => hk₂ b o' (by simpa using hb) e) hf₁ hL0 hC0 hO₁
    rw [hr] at hW
    simp only [forL, Option.some.injEq, Prod.mk.injEq] at hW
    obtain ⟨rfl, rfl⟩ := hW
    have sf : Sub fix₁ (fixI fix₁ h₂ It) := fun b o' e => by
      unfold fixI
      split
      · rename_i q; rw [q, hf₁] at e; cases e
      · exact e
    exact wpAny_execs_nil (P own₁ g₁ _ h₂ tk₂ _ S₂ (A₁.trans ⟨Sub.refl _, sf, fun _ _ e => .inl e⟩) rfl)
  | cons d' rest' =>
    have hlt : i < ds.length := by
      have := congrArg List.length hrest
      rw [hr, List.length_drop, List.length_cons] at this
      omega
    have hd' : ds[i]? = some d' := by
      have : (ds.drop i)[0]? = some d' := by rw [← hrest, hr]; rfl
      rw [List.getElem?_drop] at this
      simpa using this
    have hrest' : rest' = ds.drop (i + 1) := by
      have : rest' = (ds.drop i).drop 1 := by rw [← hrest, hr]; rfl
      rw [this, List.drop_drop]
    refine W.item i _ _ _ hlt hst₁ fun v h₂ tk₂ hPv hst₂ hk₂ => ?_
    have S₂ : SR I env ns own₁ g₁ (fixI fix₁ h₂ It) σ₁ h₂ := S₁.iterstep (fun b o' hb e => hk₂ b o' (by simpa using hb) e) hf₁ hL0 hC0 hO₁
    obtain ⟨xd, hxd, hI2⟩ := hP i v hPv
    rw [hd'] at hxd; cases hxd
    have sf : Sub fix₁ (fixI fix₁ h₂ It) := fun b o' e => by
      unfold fixI
      split
      · rename_i q; rw [q, hf₁] at e; cases e
      · exact e
    have hliv : ∃ o', fixI fix₁ h₂ It It = some o' := by
      have := hlive (i + 1) h₂ hst₂
      obtain ⟨o', e⟩ := Option.isSome_iff_exists.mp this
      exact ⟨o', by unfold fixI; rw [if_pos rfl]; exact e⟩
    rw [hr] at hW
    unfold forL at hW
    by_cases hlen₁ : σ₁.length = n
    case neg => rw [if_neg hlen₁] at hW; cases hW
    rw [if_pos hlen₁] at hW
    refine wpAny_assign_Name (store_imm (s := { s with heap := h₂, toks := tk₂ }) hc hS S₂ (by omega) hx (Is.mono A₁.gg d' hI2) fun h₃ tk₃ S₃ => ?_)
    have body : ∀ σ₄ fl₄ (Q' : Flow → Shared → Prop) (E' : Value → Shared → Prop), F fuel (σ₁.set j (.imm d')) = some (σ₄, fl₄) → (∀ c, fl₄ ≠ .exc c) →
        (∀ own₄ g₄ fix₄ h₄ tk₄ f, SR I env ns own₄ g₄ fix₄ σ₄ h₄ → After g₁ (fixI fix₁ h₂ It) g₄ fix₄ → FlOK g₄ fix₄ h₄ fl₄ f → Q' f { s with heap := h₄, toks := tk₄ }) →
        wpAny (model I.prog I.w) A (execs body env) Q' E' { s with heap := h₃, toks := tk₃ } := fun σ₄ fl₄ Q' E' hq hne hQ => wpAny_noRaise (hb env A own₁ g₁ _ _ _ fuel σ₄ fl₄ Q' _ hS hA S₃ PassesOwn.never hq hQ fun c hc => absurd hc (hne c))
    have again : ∀ {own₄ g₄ fix₄ σ₄ h₄}, SR I env ns own₄ g₄ fix₄ σ₄ h₄ → After g₁ (fixI fix₁ h₂ It) g₄ fix₄ →
        SR I env ns own₄ g₄ (dropI fix₄ It) σ₄ h₄ ∧ After g fix g₄ (dropI fix₄ It) ∧ St₁ (i + 1) h₄ ∧ dropI fix₄ It It = none ∧ (∀ (j : Nat) (x : Str) (l : List D), ns[j]? = some x → σ₄[j]? = some (.mt l) → own₄ j ≠ It) := fun {own₄ g₄ fix₄ σ₄ h₄} S₄ A₄ => by
      obtain ⟨o', ho'⟩ := hliv
      have g4 : g₄ It = none := by
        cases q : g₄ It with
        | none => rfl
        | some o2 =>
          rcases A₄.new It o2 q with p | p
          · have := S₂.gfix.trans S₂.sub It o2 p
            have q1 : g₁ It = none := by
              cases q2 : g₁ It with
              | none => rfl
              | some o3 =>
                rcases A₁.new It o3 q2 with p3 | p3
                · rw [gIt] at p3; cases p3
                · have := S₁.gfix It o3 q2; rw [hf₁] at this; cases this
            rw [q1] at p; cases p
          · rw [ho'] at p; cases p
      refine ⟨S₄.drop (fix₀ := fix₁) g4 S₁.base (sf.trans A₄.ff) hf₁, ⟨A₁.gg.trans A₄.gg, ?_, ?_⟩, ?_, by unfold dropI; rw [if_pos rfl], fun j x l hx hd q => ?_⟩
      · intro b o2 e
        unfold dropI
        split
        · rename_i q; rw [q, fIt] at e; cases e
        · exact A₄.ff b o2 (sf b o2 (A₁.ff b o2 e))
      · intro b o2 e
        rcases A₄.new b o2 e with p | p
        · exact A₁.new b o2 p
        · exact .inr (A₁.ff.none (sf.none p))
      · refine W.frame (i + 1) h₂ h₄ hst₂ fun b hb o2 e => ?_
        have e' : fixI fix₁ h₂ It b = some o2 := by
          unfold fixI
          split
          · exact e
          · rename_i hbI
            rcases hfp b hb with q | q
            · exact absurd q hbI
            · obtain ⟨o3, q⟩ := Option.isSome_iff_exists.mp q
              have := A₁.ff b o3 (S.gfix b o3 q)
              have q2 := S₂.sub b o3 (sf b o3 this)
              rw [e] at q2; cases q2
              exact this
        exact S₄.sub b o2 (A₄.ff b o2 e')
      · have := (S₄.mtd j x l hx hd).2.off
        rw [q] at this
        have := A₄.ff.none this
        rw [ho'] at this; cases this
    split at hW
    · rename_i σ₄ hq
      refine body σ₄ .next _ _ hq (fun _ q => nomatch q) fun own₄ g₄ fix₄ h₄ tk₄ f S₄ A₄ hf => ?_
      rw [show f = .next from hf]
      obtain ⟨a1, a2, a3, a4, a5⟩ := again S₄ A₄
      exact ⟨rest'.length, by simp, own₄, g₄, _, σ₄, h₄, tk₄, i + 1, rest', rfl, a1, a2, a3, a4, a5, by rw [hrest', List.take_append_drop], hlt, hrest', rfl, hW⟩
    · rename_i σ₄ hq
      refine body σ₄ .cont _ _ hq (fun _ q => nomatch q) fun own₄ g₄ fix₄ h₄ tk₄ f S₄ A₄ hf => ?_
      rw [show f = .cont from hf]
      obtain ⟨a1, a2, a3, a4, a5⟩ := again S₄ A₄
      exact ⟨rest'.length, by simp, own₄, g₄, _, σ₄, h₄, tk₄, i + 1, rest', rfl, a1, a2, a3, a4, a5, by rw [hrest', List.take_append_drop], hlt, hrest', rfl, hW⟩
    · rename_i σ₄ dr hq
      cases hW
      refine body _ (.ret dr) _ _ hq (fun _ q => nomatch q) fun own₄ g₄ fix₄ h₄ tk₄ f S₄ A₄ hf => ?_
      obtain ⟨a1, a2, a3, a4, a5⟩ := again S₄ A₄
      have q := P own₄ g₄ _ h₄ tk₄ f S₄ (A₁.trans (After.trans ⟨Sub.refl _, sf, fun _ _ e => .inl e⟩ A₄)) hf
      obtain ⟨v', gR, rfl, _⟩ := hf
      exact q
    · rename_i σ₄ c hq
      split at hW
      · rename_i hex
        cases hW
        refine wpAny_passesOwn (hE hex) (hb env A own₁ g₁ _ _ _ fuel _ (.exc c) _ _ hS hA S₃ (hE hex) hq (fun _ _ _ _ _ _ _ _ hf => hf.elim) fun c' hc' h5 h6 tk6 e s5 n5 x5 => ?_)
        exact PE c' hc' h5 h6 tk6 e (fun b o' q => s5 b o' (sf b o' (A₁.ff b o' q))) n5 x5
      · cases hW
    · cases hW

noncomputable def rFor (n j : Nat) (F : Ev) (B : Run) : Run := fun fuel σ => match F (rdH σ) with
  | some d => if isStr d = true then none else (match itemsOf d with
    | some ds => forL false n j (B fuel) ds σ
    | none => none)
  | none => none
theorem RunOK.forS {x : Str} {px pos : Pos} {e : Expr} {j : Nat} {body : List Stmt} {F : Ev} {B : Run} (hc : ScS sc ns) (hx : ns[j]? = some x) (he : EvOK I k sc ns e F) (hb : RunOK I k sc ns (execs body) B) (hs : ∀ env x, foldedSetIterable e env x = pure x) :
    RunOK I k sc ns (exec (.For (.Name x px) e body [] pos)) (rFor ns.length j F B) := by
  intro env A own g fix σ s fuel σ' fl Q E hS hA S hF P
  unfold rFor at hF
  split at hF
  · rename_i d hd
    split at hF
    · cases hF
    · rename_i hns
      split at hF
      · rename_i ds hds
        refine wpAny_For (he env A g (rdH σ) s d _ E hS hA S.viewH hd fun v h₁ tk₁ kk hv => ?_) (hs env)
        have A₁ := After.grow (S.gfix.trans S.sub) S.sub (h' := h₁)
        exact for_core (s := { s with heap := h₁, toks := tk₁ }) hc hx (RunE.of hb) rfl hS hA (S.grow kk) hv hds (by simpa using hns) hF (fun q => nomatch q) (fun c q => absurd (q ▸ hF) forL_noexc) fun own₂ g₂ fix₂ h₂ tk₂ f₂ S₂ A₂ hf₂ => P own₂ g₂ fix₂ h₂ tk₂ f₂ S₂ (A₁.trans A₂) hf₂
      · cases hF
  · cases hF

/-- a changed list that is gone through: from here on it is not changed any more -/
theorem SR.freeze {env : Env} {own : Nat → Addr} {g fix : G} {σ : St} {h : Heap} {i : Nat} {x : Str} {l : List D} (S : SR I env ns own g fix σ h) (hl : σ.length ≤ ns.length) (hx : ns[i]? = some x) (hi : σ[i]? = some (.mt l)) :
    ∃ g' fix', SR I env ns own g' fix' (σ.set i (.imm (.lst l))) h ∧ After g fix g' fix' ∧ Is g' (.lst l) (.ref (own i)) ∧ Holds env h x (.ref (own i)) := by
  obtain ⟨hh, ho⟩ := S.mtd i x l hx hi
  obtain ⟨vs, n, h1, h2⟩ := ho.obj
  have gi : g (own i) = none := S.gfix.none ho.off
  let up : G → G := fun f b => if b = own i then h.get? b else f b
  have sg : ∀ {f : G}, f (own i) = none → Sub f (up f) := fun {f} hf b o e => by
    show (if b = own i then _ else _) = _
    split
    · rename_i q; rw [q, hf] at e; cases e
    · exact e
  have none_ : ∀ b, b ≠ own i → fix b = none → up fix b = none := fun b hb e => by
    show (if b = own i then _ else _) = _
    rw [if_neg hb]; exact e
  have hI : Is (up g) (.lst l) (.ref (own i)) := ⟨own i, _, vs, n, rfl, by show (if own i = own i then _ else _) = _; rw [if_pos rfl]; exact h1, rfl, rfl, IsL.mono (sg gi) l h2⟩
  have hset : ∀ (j : Nat) (sl : Slot), j ≠ i → (σ.set i (.imm (.lst l)))[j]? = some sl → σ[j]? = some sl := fun j sl hj e => by rwa [List.getElem?_set_ne (Ne.symm hj)] at e
  have hself : ∀ (l' : List D), (σ.set i (.imm (.lst l)))[i]? ≠ some (.mt l') := fun l' e => by
    rw [List.getElem?_set] at e
    simp only [if_true] at e
    split at e <;> cases e
  refine ⟨up g, up fix, ?_, ⟨sg gi, sg ho.off, fun b o e => ?_⟩, hI, hh⟩
  · exact {
      gfix := fun b o e => by
        change (if b = own i then _ else _) = _ at e
        show (if b = own i then _ else _) = _
        split at e
        · rename_i q; rw [if_pos q]; exact e
        · rename_i q; rw [if_neg q]; exact S.gfix b o e
      sub := fun b o e => by
        change (if b = own i then _ else _) = _ at e
        split at e
        · exact e
        · exact S.sub b o e
      base := let ⟨h₀, a, b⟩ := S.base; ⟨h₀, a, b.trans (sg ho.off)⟩
      frame := S.frame
      fixL := none_ _ (Ne.symm ho.loc) S.fixL
      cells := fun n c hc => let ⟨a, b, d⟩ := S.cells n c hc; ⟨a, none_ _ (Ne.symm (ho.cel n c hc)) b, d⟩
      apart := S.apart
      imm := fun j y d hy hd => by
        by_cases hj : j = i
        · subst hj
          rw [hx] at hy; cases hy
          rw [List.getElem?_set] at hd
          simp only [if_true] at hd
          split at hd
          · cases hd
            exact ⟨_, hI, hh⟩
          · cases hd
        · obtain ⟨v, a, b⟩ := S.imm j y d hy (hset j _ hj hd)
          exact ⟨v, Is.mono (sg gi) d a, b⟩
      mtd := fun j y l' hy hd => by
        by_cases hj : j = i
        · subst hj; exact absurd hd (hself l')
        · have hd' := hset j _ hj hd
          obtain ⟨a, b⟩ := S.mtd j y l' hy hd'
          obtain ⟨vs', n', h1', h2'⟩ := b.obj
          have hne : own j ≠ own i := fun q => hj (S.inj j i l' l hd' hi q)
          exact ⟨a, ⟨⟨vs', n', h1', IsL.mono (sg gi) l' h2'⟩, none_ _ hne b.off, b.loc, b.cel⟩⟩
      inj := fun j j' l1 l2 h1 h2 e => by
        by_cases hj : j = i
        · subst hj; exact absurd h1 (hself l1)
        · by_cases hj' : j' = i
          · subst hj'; exact absurd h2 (hself l2)
          · exact S.inj j j' l1 l2 (hset j _ hj h1) (hset j' _ hj' h2) e }
  · change (if b = own i then _ else _) = _ at e
    split at e
    · rename_i q; rw [q]; exact .inr ho.off
    · exact .inl e

end
end Mine
open PySem PySem.W PyProof.Rows PySem.Spec
set_option linter.unusedVariables false
set_option Elab.async false
set_option maxRecDepth 100000
namespace Mine
section
variable {I : GI} {k : Nat} {sc : Scope} {ns : List Str}

/-- a new list that will be changed -/
theorem store_new {env : Env} {A : Around} {own : Nat → Addr} {g fix : G} {σ : St} {s : Shared} {x : Str} {i : Nat} {vs : Array Value} {l : List D} {Q : Unit → Shared → Prop} {E : Value → Shared → Prop} (hc : ScS sc ns) (hS : EnvS sc env)
    (S : SR I env ns own g fix σ s.heap) (hl : σ.length ≤ ns.length) (hx : ns[i]? = some x) (hd : IsL g l vs.toList)
    (P : ∀ own' h' tk, SR I env ns own' g fix (σ.set i (.mt l)) h' → Q () { s with heap := h', toks := tk }) :
    wpAny (model I.prog I.w) A (storeName env x (.ref s.heap.objs.size)) Q E { s with heap := s.heap.push (lobj vs 0) } := by
  have kk : Grow s.heap (s.heap.push (lobj vs 0)) := Grow.push _ _
  have S₁ := S.keep kk
  have hn := fresh_none s.heap
  have hlt : ∀ {b : Addr} {o : Obj}, s.heap.get? b = some o → b ≠ s.heap.objs.size := fun e q => by rw [q, hn] at e; cases e
  have hown : ∀ j l', σ[j]? = some (.mt l') → own j ≠ s.heap.objs.size := fun j l' hj => by
    have hlt' : j < ns.length := Nat.lt_of_lt_of_le (List.getElem?_eq_some_iff.mp hj).1 hl
    obtain ⟨vs', n', h1, _⟩ := (S.mtd j ns[j] l' (List.getElem?_eq_getElem hlt') hj).2.obj
    exact hlt h1
  refine S₁.store (s := { s with heap := s.heap.push (lobj vs 0) }) hc.nd hS hc.kind (sl := .mt l) (own' := fun j => if j = i then s.heap.objs.size else own j) hx (hc.names x (List.mem_of_getElem? hx)) (fun j hj => by simp only [if_neg hj]) (fun d e => by cases e) (fun l' e => ?_) (S₁.ownOff hl) fun h' tk S' _ => P _ h' tk S'
  cases e
  show _ = Value.ref (if i = i then _ else _) ∧ Owned _ _ _ _ (if i = i then _ else _) _ ∧ (∀ j l', _ → _ → own j ≠ (if i = i then _ else _))
  rw [if_pos rfl]
  refine ⟨rfl, ⟨⟨vs, 0, Heap.get?_push_size _ rfl, hd⟩, S.sub.none hn, fun q => ?_, fun n c hc q => ?_⟩, fun j l' _ hj => hown j l' hj⟩
  · obtain ⟨m, o, _, _, e, _⟩ := S.frame
    exact hlt e q.symm
  · obtain ⟨⟨v, o, e, _⟩, _⟩ := S.cells n c hc
    exact hlt e q.symm

/-- x = [..], a list that will be changed -/
noncomputable def evsS (Fs : Evs) (σ : St) : Option (List D) := Fs (rdH σ)
noncomputable def rNew (i : Nat) (Fs : Evs) : Run := fun _ σ => match evsS Fs σ with
  | some ds => if ds.length ≤ sizeLine then some (σ.set i (.mt ds), .next) else none
  | none => none
theorem RunOK.new {x : Str} {px pos lpos : Pos} {es : List Expr} {i : Nat} {Fs : Evs} (hc : ScS sc ns) (hx : ns[i]? = some x) (h : EvsOK I k sc ns es Fs) (hs : ∀ env, swapsWith (.List es lpos) (some (.Name x px)) pos.line env = pure false) :
    RunOK I k sc ns (exec (.Assign [.Name x px] (.List es lpos) pos)) (lenOk ns.length (rNew i Fs)) := by
  intro env A own g fix σ s fuel σ' fl Q E hS hA S hF P
  unfold lenOk at hF
  split at hF
  · rename_i hlen
    unfold rNew at hF
    split at hF
    · rename_i ds hds
      split at hF
      · rename_i hz
        cases hF
        refine wpAny_Assign_Name (wpAny_List (h env A g (rdH σ) s ds lpos _ E hS hA S.viewH hds fun vs h₁ tk₁ kk hvs => ⟨by rw [hvs.length]; exact hz, ?_⟩)) (hs env)
        exact store_new (s := { s with heap := h₁, toks := tk₁ }) (vs := vs.toArray) hc hS (S.grow kk) (Nat.le_of_eq hlen) hx (by simpa using hvs) fun own' h₂ tk₂ S₂ => P own' _ _ h₂ tk₂ _ S₂ (After.grow (S.gfix.trans S.sub) S.sub) rfl
      · cases hF
    · cases hF
  · cases hF

end
end Mine
open PySem PySem.W PyProof.Rows PySem.Spec
set_option linter.unusedVariables false
set_option Elab.async false
set_option maxRecDepth 100000
namespace Mine
section
variable {I : GI} {k : Nat} {sc : Scope} {ns : List Str}

theorem SR.mutate {env : Env} {own : Nat → Addr} {g fix : G} {σ : St} {h h' : Heap} {i : Nat} {x : Str} {l l' : List D} {vs' : Array Value} {n' : Nat} (S : SR I env ns own g fix σ h) (hl : σ.length ≤ ns.length) (hx : ns[i]? = some x) (hi : σ[i]? = some (.mt l))
    (hs : Heap.SameBut (own i) h h') (ho : h'.get? (own i) = some (lobj vs' n')) (hL : IsL g l' vs'.toList) : SR I env ns own g fix (σ.set i (.mt l')) h' := by
  obtain ⟨hh, hO⟩ := S.mtd i x l hx hi
  have keep : ∀ b o, b ≠ own i → h.get? b = some o → h'.get? b = some o := fun b o hb e => (hs.2 b hb).trans e
  have holds : ∀ z v, Holds env h z v → Holds env h' z v := fun z v hv => by
    rcases hv with ⟨p, m, ⟨o, es, ep, e, r⟩, q⟩ | ⟨p, c, hc, o, e, q⟩
    · exact .inl ⟨p, m, ⟨o, es, ep, keep _ _ (Ne.symm hO.loc) e, r⟩, q⟩
    · exact .inr ⟨p, c, hc, o, keep _ _ (Ne.symm (hO.cel z c hc)) e, q⟩
  have set_ne : ∀ (j : Nat) (s' : Slot), j ≠ i → (σ.set i (.mt l'))[j]? = some s' → σ[j]? = some s' := fun j s' hj e => by rwa [List.getElem?_set_ne (Ne.symm hj)] at e
  have set_eq : ∀ (s' : Slot), (σ.set i (.mt l'))[i]? = some s' → s' = .mt l' := fun s' e => by
    rw [List.getElem?_set] at e
    simp only [if_true] at e
    split at e
    · exact (Option.some.inj e).symm
    · cases e
  have back : ∀ (j : Nat) (l1 : List D), (σ.set i (.mt l'))[j]? = some (.mt l1) → ∃ l2, σ[j]? = some (.mt l2) := fun j l1 e => by
    by_cases hj : j = i
    · exact ⟨l, by rw [hj]; exact hi⟩
    · exact ⟨l1, set_ne j _ hj e⟩
  exact {
    gfix := S.gfix
    sub := fun b o e => keep b o (fun q => by rw [q, hO.off] at e; cases e) (S.sub b o e)
    base := S.base
    frame := let ⟨m, o, es, ep, e, r⟩ := S.frame; ⟨m, o, es, ep, keep _ _ (Ne.symm hO.loc) e, r⟩
    fixL := S.fixL
    cells := fun n c hc => let ⟨⟨v, o, e, q⟩, a, b⟩ := S.cells n c hc; ⟨⟨v, o, keep _ _ (Ne.symm (hO.cel n c hc)) e, q⟩, a, b⟩
    apart := S.apart
    imm := fun j z d hz hd => by
      by_cases hj : j = i
      · subst hj; have := set_eq _ hd; cases this
      · obtain ⟨v, a, b⟩ := S.imm j z d hz (set_ne j _ hj hd)
        exact ⟨v, a, holds z v b⟩
    mtd := fun j z l1 hz hd => by
      by_cases hj : j = i
      · subst hj
        rw [hx] at hz; cases hz
        have := set_eq _ hd; cases this
        exact ⟨holds _ _ hh, ⟨⟨vs', n', ho, hL⟩, hO.off, hO.loc, hO.cel⟩⟩
      · have hd' := set_ne j _ hj hd
        obtain ⟨a, b⟩ := S.mtd j z l1 hz hd'
        obtain ⟨vs, n, p1, p2⟩ := b.obj
        exact ⟨holds _ _ a, ⟨⟨vs, n, keep _ _ (fun q => hj (S.inj j i l1 l hd' hi q)) p1, p2⟩, b.off, b.loc, b.cel⟩⟩
    inj := fun j j' l1 l2 p p' e => by
      obtain ⟨m1, q1⟩ := back j l1 p
      obtain ⟨m2, q2⟩ := back j' l2 p'
      exact S.inj j j' m1 m2 q1 q2 e }

noncomputable def rApp (i : Nat) (F : Ev) : Run := fun _ σ => match σ[i]? with
  | some (.mt l) => if l.length ≤ sizeLine then (match evS F σ with
    | some d => some (σ.set i (.mt (l ++ [d])), .next)
    | none => none) else none
  | _ => none
theorem interactive_fun {env : Env} (hS : EnvS sc env) (hk : sc.kind = .function) : interactive env = false := by
  unfold interactive
  rw [hS.scope, hk]; rfl
theorem RunOK.app {x : Str} {px apos cpos pos : Pos} {i : Nat} {e : Expr} {F : Ev} {pl : Env → Sem Bool} (hc : ScS sc ns) (hx : ns[i]? = some x) (hd : (x == ("__debug__" : Str)) = false) (h : EvOK I k sc ns e F)
    (hst : ∀ env, starEach [e] env = (false, eval e env) :: starEach [] env)
    (he : ∀ env, eval (.Call (.Attribute (.Name x px) "append" apos) [e] [] cpos) env = (do
      let ov ← eval (.Name x px) env
      standAt apos.atName
      let (f, first) ← holding [ov] (getMethod ov "append" (pl env))
      callWith cpos f first (backTo cpos (starEach [e] env)) []))
    (hs : ∀ env, swapsWith (.Call (.Attribute (.Name x px) "append" apos) [e] [] cpos) none pos.line env = pure false) :
    RunOK I k sc ns (exec (.Expr (.Call (.Attribute (.Name x px) "append" apos) [e] [] cpos) pos)) (lenOk ns.length (rApp i F)) := by
  intro env A own g fix σ s fuel σ' fl Q E hS hA S hF P
  unfold lenOk at hF
  split at hF
  · rename_i hlen
    unfold rApp at hF
    split at hF
    · rename_i l hl
      split at hF
      · rename_i hz
        split at hF
        · rename_i d hdd
          cases hF
          obtain ⟨hh, hO⟩ := S.mtd i x l hx hl
          obtain ⟨vs, n, p1, p2⟩ := hO.obj
          refine wpAny_Expr ?_ (interactive_fun hS hc.kind) (hs env)
          refine MethodCall_ (pl := pl env) (wpAny_Name (loadName_ok hS hc.kind hh ?_) hd) (he env)
          refine Calls.getMethod_list_append p1 rfl rfl ?_
          refine callWith_method1 (args_cons (evS_ok hS hA S h hdd fun v h₁ tk₁ S₁ A₁ hv => args_nil ?_) (hst env)) (hst env) rfl
          obtain ⟨hh₁, hO₁⟩ := S₁.mtd i x l hx hl
          obtain ⟨vs₁, n₁, q1, q2⟩ := hO₁.obj
          have el := q2.length
          simp only [Array.length_toList] at el
          refine wpAny_list_append_plain (items := vs₁) ⟨n₁, q1⟩ (fun h₂ hp hsb => ?_) (by omega)
          obtain ⟨n₂, hp⟩ := hp
          have S₂ := S₁.mutate (Nat.le_of_eq hlen) hx hl hsb hp (l' := l ++ [d]) (by rw [Array.toList_push]; exact IsL.append q2 ⟨v, [], rfl, hv, rfl⟩)
          exact P own _ _ h₂ tk₁ _ S₂ A₁ rfl
        · cases hF
      · cases hF
    · cases hF
  · cases hF

/-- a def of the text: what its body means is what a call of it means -/
structure FnAt (I : GI) (x : Str) (params : Arguments) (body : List Stmt) (sc : Scope) : Prop where
  at_ : ∃ a, I.mg x = some (.ref a) ∧ ∀ h, I.Gl h → ∃ o pm code doc, h.get? a = some o ∧ o.data = .func (Calls.docDef x params body sc pm code doc) ∧ h.CodeRec code x

theorem bindL_off {kindOf : Str → Option NameKind} {z : Str} : ∀ {l : List (Str × Value)} {m : Str → Option Value}, (∀ p ∈ l, p.1 ≠ z) → bindL kindOf l m z = m z
  | [], _, _ => rfl
  | (n, v) :: r, m, h => by
    unfold bindL
    rw [bindL_off fun p hp => h p (.tail _ hp)]
    have hn : z ≠ n := Ne.symm (h (n, v) (.head _))
    split
    · exact if_neg hn
    · rfl
theorem bindC_off {kindOf : Str → Option NameKind} {z : Str} : ∀ {l : List (Str × Value)} {m : Str → Option Value}, (∀ p ∈ l, p.1 ≠ z) → bindC kindOf l m z = m z
  | [], _, _ => rfl
  | (n, v) :: r, m, h => by
    unfold bindC
    rw [bindC_off fun p hp => h p (.tail _ hp)]
    have hn : z ≠ n := Ne.symm (h (n, v) (.head _))
    split
    · rfl
    · exact if_neg hn
theorem bindL_get {kindOf : Str → Option NameKind} : ∀ {xs : List Str} {vs : List Value} {m : Str → Option Value} {i : Nat} {x : Str} {v : Value}, xs.Nodup → xs[i]? = some x → vs[i]? = some v → kindOf x = some .local → bindL kindOf (xs.zip vs) m x = some v
  | y :: xs, u :: vs, m, 0, x, v, nd, hx, hv, hk => by
    simp only [List.getElem?_cons_zero, Option.some.injEq] at hx hv
    subst hx hv
    rw [List.zip_cons_cons, bindL, if_pos hk, bindL_off]
    · simp
    · intro p hp q
      have := (List.of_mem_zip (a := p.1) (b := p.2) hp).1
      exact (List.nodup_cons.mp nd).1 (q ▸ this)
  | y :: xs, u :: vs, m, i + 1, x, v, nd, hx, hv, hk => by
    rw [List.zip_cons_cons, bindL]
    exact bindL_get (i := i) (List.nodup_cons.mp nd).2 (by simpa using hx) (by simpa using hv) hk
  | [], _, _, i, _, _, _, hx, _, _ => by simp at hx
  | _ :: _, [], _, i, _, _, _, _, hv, _ => by simp at hv
theorem bindC_get {kindOf : Str → Option NameKind} : ∀ {xs : List Str} {vs : List Value} {m : Str → Option Value} {i : Nat} {x : Str} {v : Value}, xs.Nodup → xs[i]? = some x → vs[i]? = some v → kindOf x ≠ some .local → bindC kindOf (xs.zip vs) m x = some v
  | y :: xs, u :: vs, m, 0, x, v, nd, hx, hv, hk => by
    simp only [List.getElem?_cons_zero, Option.some.injEq] at hx hv
    subst hx hv
    rw [List.zip_cons_cons, bindC, if_neg hk, bindC_off]
    · simp
    · intro p hp q
      have := (List.of_mem_zip (a := p.1) (b := p.2) hp).1
      exact (List.nodup_cons.mp nd).1 (q ▸ this)
  | y :: xs, u :: vs, m, i + 1, x, v, nd, hx, hv, hk => by
    rw [List.zip_cons_cons, bindC]
    exact bindC_get (i := i) (List.nodup_cons.mp nd).2 (by simpa using hx) (by simpa using hv) hk
  | [], _, _, i, _, _, _, hx, _, _ => by simp at hx
  | _ :: _, [], _, i, _, _, _, _, hv, _ => by simp at hv

/-- the slots at the start: the arguments, then names without a value -/
noncomputable def startSt (ds : List D) (n : Nat) : St := ds.map Slot.imm ++ List.replicate (n - ds.length) .unb
noncomputable def callF (n : Nat) (F : Run) (fuel : Nat) (ds : List D) : Option D := match F fuel (startSt ds n) with
  | some (_, .ret d) => some d
  | some (_, .next) => some .none
  | _ => none

theorem startSt_get {ds : List D} {n i : Nat} {sl : Slot} (h : (startSt ds n)[i]? = some sl) : sl = .unb ∨ ∃ d, ds[i]? = some d ∧ sl = .imm d := by
  unfold startSt at h
  by_cases hi : i < (ds.map Slot.imm).length
  · rw [List.getElem?_append_left hi, List.getElem?_map] at h
    cases q : ds[i]? with
    | none => rw [q] at h; cases h
    | some d => rw [q] at h; exact .inr ⟨d, rfl, (Option.some.inj h).symm⟩
  · rw [List.getElem?_append_right (by omega), List.getElem?_replicate] at h
    split at h
    · exact .inl (Option.some.inj h).symm
    · cases h

theorem cellsFrom_some' {x : Str} : ∀ (names : List (Str × NameKind)) (n : Nat) (acc : List (Str × Addr)), names.lookup x = some .cell → ((cellsFrom n names acc).lookup x).isSome = true := fun names n acc h =>
  cellsFrom_some names n acc (.inl h)

/-- what a call of a def does, up to its body -/
noncomputable def CallsTo (I : GI) (sc : Scope) (ns : List Str) (m : Nat) (body : List Stmt) (a : Addr) : Prop :=
  ∀ (A : Around) (g fix : G) (s : Shared) (ds : List D) (vs : List Value) (Q : Value → Shared → Prop) (E : Value → Shared → Prop), A.depth < recursionLimit → I.Gl s.heap → Sub g fix → Sub fix s.heap.get? → (∃ h₀, I.Gl h₀ ∧ Sub h₀.get? fix) → IsL g ds vs → ds.length = m →
    (∀ env h₁ tk E', EnvS sc env → env.frame = some env.locals → env.locals = s.heap.objs.size → env.cells = cellsFrom (s.heap.objs.size + 1) sc.names [] → Grow s.heap h₁ → SR I env ns (fun _ => 0) g fix (startSt ds ns.length) h₁ →
      wpAny (model I.prog I.w) (A.deeper env) (execs body env) (fun f s' => Q (match f with | .ret v => v | _ => .none) s') E' { s with heap := h₁, toks := tk }) → wpAny (model I.prog I.w) A (call (.ref a) vs) Q E s
theorem callsTo {x : Str} {params : Arguments} {body : List Stmt} {m : Nat} (hat : FnAt I x params body sc) (hc : ScS sc ns) (hm : m ≤ ns.length)
    (hbind : ∀ pm cd doc vs, vs.length = m → bindArgs (Calls.docDef x params body sc pm cd doc) ⟨vs, []⟩ = pure ((ns.take m).zip vs)) (hco : sc.isCoroutine = false) (hgen : sc.isGenerator = false) :
    ∃ a, I.mg x = some (.ref a) ∧ (∀ h, I.Gl h → ∃ kp, (kp = Keeper.frame ∨ kp = Keeper.machine ∨ kp = Keeper.boundFrame) ∧ Looks (model I.prog I.w) h (keeperOf (.ref a)) kp) ∧ CallsTo I sc ns m body a := by
  obtain ⟨a, hmg, hgl⟩ := hat.at_
  refine ⟨a, hmg, fun h hG => ?_, ?_⟩
  · obtain ⟨o, pm, code, doc, ho, hd, _⟩ := hgl h hG
    refine ⟨.frame, .inl rfl, (Looks.ld (part := none) ho).andThen ?_⟩
    rw [hd]; exact Looks.now
  · intro A g fix s ds vs Q E hroom gl hgf hfs hbase hv hlen P
    obtain ⟨o, pm, code, doc, ho, hd, hcd⟩ := hgl s.heap gl
    have hvl : vs.length = m := by rw [hv.length, hlen]
    refine wpAny_call (codeAny_call_cells (fd := Calls.docDef x params body sc pm code doc) (binds := (ns.take m).zip vs) hroom ho hd (I.nolimit gl) hcd rfl (hbind pm code doc vs hvl) rfl ?_ ?_ hco hgen hc.kind)
    · intro y hy
      have hmem := List.mem_of_mem_take (List.of_mem_zip (a := y.1) (b := y.2) hy).1
      rcases hc.names y.1 hmem with h | h
      · exact .inl h
      · exact .inr ⟨h, cellsFrom_some' _ _ _ h⟩
    · intro s₁ X
      generalize he : callEnvC (Calls.docDef x params body sc pm code doc) s.heap.objs.size a = env at X
      have esc : env.scope = sc := by rw [← he]; rfl
      have eloc : env.locals = s.heap.objs.size := by rw [← he]; rfl
      have hS : EnvS sc env := ⟨esc, by rw [← he]; rfl, by rw [← he]; rfl, fun y hy => by rw [← he]; exact cellsFrom_some' _ _ _ hy⟩
      obtain ⟨h₁, tk₁, rfl⟩ := X.toInCall.same
      have hkeep : Grow s.heap h₁ := X.toInCall.keep
      have hnone := fresh_none s.heap
      have above : ∀ n c, env.cells.lookup n = some c → s.heap.get? c = none ∧ c ≠ env.locals := fun n c hc2 => by
        have := X.above n c (mem_of_lookup hc2)
        rw [eloc] at this ⊢
        refine ⟨?_, Nat.ne_of_gt this⟩
        cases q : s.heap.get? c with
        | none => rfl
        | some o' => exact absurd (Heap.lt_size q) (Nat.not_lt.mpr (Nat.le_of_lt this))
      have S : SR I env ns (fun _ => 0) g fix (startSt ds ns.length) h₁ := {
        gfix := hgf
        sub := fun b o e => hkeep b o (hfs b o e)
        base := hbase
        frame := ⟨_, X.toInCall.ns⟩
        fixL := by rw [eloc]; exact Sub.none hfs hnone
        cells := fun n c hc2 => ⟨⟨_, X.cell n c hc2⟩, Sub.none hfs (above n c hc2).1, (above n c hc2).2⟩
        apart := fun n n' c h1 h2 => name_of_addr X.apart (mem_of_lookup h1) (mem_of_lookup h2)
        imm := fun i y d' hy hd' => by
          rcases startSt_get hd' with q | ⟨d2, q, e⟩
          · cases q
          · cases e
            obtain ⟨v, hv1, hv2⟩ := hv.get q
            refine ⟨v, hv2, ?_⟩
            have hi : i < m := by
              have := (List.getElem?_eq_some_iff.mp q).1
              omega
            have hy' : (ns.take m)[i]? = some y := by rw [List.getElem?_take_of_lt hi]; exact hy
            have nd' : (ns.take m).Nodup := List.Nodup.sublist (List.take_sublist m ns) hc.nd
            rcases hc.names y (List.mem_of_getElem? hy) with h | h
            · have hk : env.kindOf y = some .local := by unfold Env.kindOf; rw [esc]; exact h
              exact .inl ⟨hk, _, X.toInCall.ns, bindL_get nd' hy' hv1 hk⟩
            · have hk : env.kindOf y = some .cell := by unfold Env.kindOf; rw [esc]; exact h
              obtain ⟨c, hc2⟩ := Option.isSome_iff_exists.mp (hS.cells y h)
              have := X.cell y c hc2
              rw [bindC_get nd' hy' hv1 (by rw [hk]; exact fun q => by cases q)] at this
              exact .inr ⟨hk, c, hc2, this⟩
        mtd := fun i y l hy hd' => by
          rcases startSt_get hd' with q | ⟨d2, q, e⟩
          · cases q
          · cases e
        inj := fun i j l l' hd' _ _ => by
          rcases startSt_get hd' with q | ⟨d2, q, e⟩
          · cases q
          · cases e }
      exact P env h₁ tk₁ _ hS (by rw [← he]; rfl) eloc (by rw [← he]; rfl) hkeep S
/-- what a body's end says of the call -/
theorem SR.fin {env : Env} {s : Shared} {own' : Nat → Addr} {g g' fix' : G} {σ' : St} {h' : Heap} {v : Value} {gR : G} {d : D} (sub : Sub g s.heap.get?) (S' : SR I env ns own' g' fix' σ' h') (A' : After g s.heap.get? g' fix') (hI : Is gR d v) (hsub : Sub gR h'.get?) (hnew : ∀ b o, gR b = some o → g' b = some o ∨ fix' b = none) :
    Grow s.heap h' ∧ Is (ext g s.heap h') d v := by
  refine ⟨fun b o e => S'.sub b o (A'.ff b o e), Is.mono (fun b o e => ?_) d hI⟩
  have old : s.heap.get? b = none → ext g s.heap h' b = some o := fun q => by rw [ext_new q]; exact hsub b o e
  rcases hnew b o e with p | p
  · rcases A'.new b o p with r | r
    · have q := sub b o r
      rw [ext_old q]; exact r
    · exact old r
  · exact old (A'.ff.none p)

theorem FunOK.def {x : Str} {params : Arguments} {body : List Stmt} {m : Nat} {F : Run} {F' : List D → Option D} (hat : FnAt I x params body sc) (hc : ScS sc ns) (hm : m ≤ ns.length)
    (hbind : ∀ pm cd doc vs, vs.length = m → bindArgs (Calls.docDef x params body sc pm cd doc) ⟨vs, []⟩ = pure ((ns.take m).zip vs)) (hco : sc.isCoroutine = false) (hgen : sc.isGenerator = false)
    (hr : RunOK I k sc ns (execs body) F) (hF : ∀ ds d, F' ds = some d → ds.length = m ∧ ∃ fuel, callF ns.length F fuel ds = some d) : FunOK I (k + 1) x F' := by
  obtain ⟨a, hmg, hkp, hcall⟩ := callsTo hat hc hm hbind hco hgen
  refine ⟨.ref a, .inl hmg, hkp, fun A g s ds vs d Q E hA sub gl hf hv P => ?_⟩
  obtain ⟨hlen, fuel, hrun⟩ := hF ds d hf
  refine hcall A g s.heap.get? s ds vs Q E (by have := hA.2.1; omega) gl sub (Sub.refl _) ⟨s.heap, gl, Sub.refl _⟩ hv hlen fun env h₁ tk₁ E' hS _ _ _ _ S => ?_
  unfold callF at hrun
  have hA' : AOK k (A.deeper env) := hA.deeper
  cases hr' : F fuel (startSt ds ns.length) with
  | none => rw [hr'] at hrun; exact no_some hrun
  | some p =>
  rw [hr'] at hrun
  obtain ⟨σ', fl⟩ := p
  cases fl with
  | ret d' =>
    cases hrun
    refine hr env _ _ g _ _ _ fuel σ' (.ret d) _ _ hS hA' S hr' fun own' g' fix' h' tk f S' A' hf => ?_
    obtain ⟨v, gR, rfl, hI, hsub, hnew⟩ := hf
    obtain ⟨p, q⟩ := SR.fin sub S' A' hI hsub hnew
    exact P v h' tk p q
  | next =>
    cases hrun
    refine hr env _ _ g _ _ _ fuel σ' .next _ _ hS hA' S hr' fun own' g' fix' h' tk f S' A' hf => ?_
    rw [show f = .next from hf]
    obtain ⟨p, q⟩ := SR.fin (v := .none) (gR := g0) (d := .none) sub S' A' rfl (g0_sub _) (fun b o e => no_some e)
    exact P _ h' tk p q
  | _ => exact no_some hrun
end
end Mine
open PySem PySem.W PyProof.Rows PySem.Spec
set_option linter.unusedVariables false
set_option Elab.async false
set_option maxRecDepth 100000
namespace Mine

/-- the facts of a top, as the reader wants them -/
noncomputable def giOf (prog : Program) (w : World) (mg mb : Str → Option Value) (p : Program) (loose : List Str) (mean : ExcName → Option Value) (K : Frag) (hboot : ∀ x : Str, x ≠ "__name__" → mb x = bootBuiltins x) : GI where
  prog := prog
  w := w
  mg := mg
  mb := mb
  Gl := fun h => Top p loose mean mg mb h ∧ K.In h
  grow := fun ⟨a, b⟩ k => ⟨a.keeps k, b.keeps k⟩
  g := fun h => h.1.g
  b := fun h => h.1.b
  nolimit := fun h => h.1.nolimit
  boot := hboot

theorem fnAt_of {prog : Program} {w : World} {mg mb : Str → Option Value} {p : Program} {loose : List Str} {mean : ExcName → Option Value} {K : Frag} {hboot : ∀ x : Str, x ≠ "__name__" → mb x = bootBuiltins x} {h₀ : Heap} (T : Top p loose mean mg mb h₀) {d : DefRec} {i : Nat} (hd : (recsOf p)[i]? = some d) :
    FnAt (giOf prog w mg mb p loose mean K hboot) d.name d.params d.body d.scope := by
  have hm : d ∈ recsOf p := List.mem_of_getElem? hd
  obtain ⟨a, _, _, _, _, ha, _⟩ := T.fn d hm
  refine ⟨a, ha, fun h hg => ?_⟩
  obtain ⟨a', o, pm, code, doc, ha', ho, hdt, hc⟩ := hg.1.fn d hm
  have e : a = a' := by
    have : some (Value.ref a) = some (Value.ref a') := ha.symm.trans ha'
    cases this; rfl
  subst e
  exact ⟨o, pm, code, doc, ho, hdt, hc⟩

theorem free_of {mg mb : Str → Option Value} {p : Program} {loose : List Str} {mean : ExcName → Option Value} {K : Frag} {h₀ : Heap} (T : Top p loose mean mg mb h₀) (X : K.In h₀) {x : Str} (e : nsIn K mainGlobals x = some none) : mg x = none := mg_none_of X T.g e

noncomputable def intsD (ns : List Int) : List D := ns.map .int
theorem isL_ints {g : G} : ∀ {vs : List Value} {ns : List Int}, IntsAre vs ns → IsL g (intsD ns) vs := by
  intro vs ns h
  induction h with
  | nil => exact rfl
  | cons n t r ih => exact ⟨_, _, rfl, ⟨t, rfl⟩, ih⟩

end Mine

namespace Mine
noncomputable def idx : List Str → Str → Option Nat
  | [], _ => none
  | y :: r, x => match y == x with
    | true => some 0
    | false => match idx r x with
      | some i => some (i + 1)
      | none => none
theorem idx_get : ∀ {ns : List Str} {x : Str} {i : Nat}, idx ns x = some i → ns[i]? = some x
  | y :: r, x, i, h => by
    unfold idx at h
    split at h
    · rename_i e
      cases h
      rw [beq_iff_eq.mp e]; rfl
    · split at h
      · rename_i j hj
        cases h
        simpa using idx_get hj
      · cases h
noncomputable def idxs (ns : List Str) : List Str → Option (List Nat)
  | [] => some []
  | x :: r => match idx ns x with
    | some i => match idxs ns r with
      | some l => some (i :: l)
      | none => none
    | none => none
theorem idxs_get {ns : List Str} : ∀ {xs : List Str} {is : List Nat}, idxs ns xs = some is → is.map (ns[·]?) = xs.map some
  | [], is, h => by cases h; rfl
  | x :: r, is, h => by
    unfold idxs at h
    split at h
    · rename_i i hi
      split at h
      · rename_i l hl
        cases h
        rw [List.map_cons, List.map_cons, idx_get hi, idxs_get hl]
      · cases h
    · cases h
section
variable {I : GI} {k : Nat} {sc : Scope} {ns : List Str}
theorem vis_of {sc : Scope} {x : Str} (h : (sc.names.lookup x == some .local || sc.names.lookup x == some .cell) = true) : sc.names.lookup x = some .local ∨ sc.names.lookup x = some .cell := by
  simpa using h
theorem EvOK.v {x : Str} {pos : Pos} {i : Nat} (hx : idx ns x = some i) (hk : sc.kind = .function) (hd : (x == ("__debug__" : Str)) = false) (hn : (sc.names.lookup x == some .local || sc.names.lookup x == some .cell) = true) : EvOK I k sc ns (.Name x pos) (eVar i) :=
  EvOK.var hk (idx_get hx) hd (vis_of hn)
theorem RunOK.asg' {x : Str} {px pos : Pos} {e : Expr} {i : Nat} {F : Ev} (hx : idx ns x = some i) (hs : ∀ env, swapsWith e (some (.Name x px)) pos.line env = pure false) (hc : ScS sc ns) (h : EvOK I k sc ns e F) :
    RunOK I k sc ns (exec (.Assign [.Name x px] e pos)) (lenOk ns.length (rAsg i F)) := RunOK.asg hc (idx_get hx) h hs
theorem RunOK.aug' {x : Str} {px pos : Pos} {op : Operator} {e : Expr} {i : Nat} {f : D → D → Option D} {F : Ev} (hx : idx ns x = some i) (hc : ScS sc ns) (h : EvOK I k sc ns e F) (ho : IOpOK I k op f) :
    RunOK I k sc ns (exec (.AugAssign (.Name x px) op e pos)) (lenOk ns.length (rAug i f F)) := RunOK.aug hc (idx_get hx) h ho
theorem RunOK.for' {x : Str} {px pos : Pos} {e : Expr} {j : Nat} {body : List Stmt} {F : Ev} {B : Run} (hx : idx ns x = some j) (hs : ∀ env x, foldedSetIterable e env x = pure x) (hc : ScS sc ns) (he : EvOK I k sc ns e F) (hb : RunOK I k sc ns (execs body) B) :
    RunOK I k sc ns (exec (.For (.Name x px) e body [] pos)) (rFor ns.length j F B) := RunOK.forS hc (idx_get hx) he hb hs
theorem RunOK.tupP' {elts : List Expr} {kk : Nat} {tpos pos : Pos} {e : Expr} {xs : List Str} {is : List Nat} {F : Ev} (hn : NamesAre elts xs) (hw : ∀ env : Env, env.scope = sc → swappedStores [.Tuple elts kk tpos] e env = pure none) (hx : idxs ns xs = some is)
    (hs : ∀ env, swapsWithSole [.Tuple elts kk tpos] e pos.line env = pure false) (hc : ScS sc ns) (h : EvOK I k sc ns e F) :
    RunOK I k sc ns (exec (.Assign [.Tuple elts kk tpos] e pos)) (lenOk ns.length (rTup is false F)) := RunOK.tupP hc hn (idxs_get hx) h hs hw
theorem RunOK.new' {x : Str} {px pos lpos : Pos} {es : List Expr} {i : Nat} {Fs : Evs} (hx : idx ns x = some i) (hs : ∀ env, swapsWith (.List es lpos) (some (.Name x px)) pos.line env = pure false) (hc : ScS sc ns) (h : EvsOK I k sc ns es Fs) :
    RunOK I k sc ns (exec (.Assign [.Name x px] (.List es lpos) pos)) (lenOk ns.length (rNew i Fs)) := RunOK.new hc (idx_get hx) h hs
theorem RunOK.app' {x : Str} {px apos cpos pos : Pos} {i : Nat} {e : Expr} {F : Ev} {pl : Env → Sem Bool} (hx : idx ns x = some i) (hd : (x == ("__debug__" : Str)) = false)
    (hst : ∀ env, starEach [e] env = (false, eval e env) :: starEach [] env)
    (he : ∀ env, eval (.Call (.Attribute (.Name x px) "append" apos) [e] [] cpos) env = (do
      let ov ← eval (.Name x px) env
      standAt apos.atName
      let (f, first) ← holding [ov] (getMethod ov "append" (pl env))
      callWith cpos f first (backTo cpos (starEach [e] env)) []))
    (hs : ∀ env, swapsWith (.Call (.Attribute (.Name x px) "append" apos) [e] [] cpos) none pos.line env = pure false) (hc : ScS sc ns) (h : EvOK I k sc ns e F) :
    RunOK I k sc ns (exec (.Expr (.Call (.Attribute (.Name x px) "append" apos) [e] [] cpos) pos)) (lenOk ns.length (rApp i F)) := RunOK.app hc (idx_get hx) hd h hst he hs
theorem EvOK.call' {x : Str} {px pos : Pos} {args : List Expr} {F : List D → Option D} {Fs : Evs} (hx : sc.names.lookup x = some .globalImplicit) (hk : sc.kind = .function) (hd : (x == ("__debug__" : Str)) = false) (hp : ∀ env, (backTo pos (starEach args env)).any (·.1) = false) (hne : args.isEmpty = false)
    (hs : ∀ env, ∃ t rest, backTo pos (starEach args env) = (false, t) :: rest) (hf : FunOK I k x F) (ha : EvsOK I k sc ns args Fs) :
    EvOK I k sc ns (.Call (.Name x px) args [] pos) (eCall F Fs) := EvOK.call hf ha hk hx hd hp hne hs
end
end Mine
open PySem PySem.W PyProof.Rows PySem.Spec
set_option linter.unusedVariables false
set_option Elab.async false
set_option maxRecDepth 100000
namespace Mine
noncomputable def fnF (m n : Nat) (F : Run) (N : Nat) : List D → Option D := fun ds => if ds.length = m then callF n F N ds else none

noncomputable def HatI (I : GI) (p : Program) : Prop := ∀ (i : Nat) (d : DefRec), (recsOf p)[i]? = some d → FnAt I d.name d.params d.body d.scope

theorem FunOK.of {I : GI} {p : Program} {k m i : Nat} (N : Nat) {d : DefRec} {ns : List Str} {F : Run} (hat : HatI I p) (hd : (recsOf p)[i]? = some d) (hc : ScS d.scope ns) (hm : m ≤ ns.length)
    (hbind : ∀ pm cd doc vs, vs.length = m → bindArgs (Calls.docDef d.name d.params d.body d.scope pm cd doc) ⟨vs, []⟩ = pure ((ns.take m).zip vs)) (hco : d.scope.isCoroutine = false) (hgen : d.scope.isGenerator = false)
    (hr : RunOK I k d.scope ns (execs d.body) F) : FunOK I (k + 1) d.name (fnF m ns.length F N) :=
  FunOK.def (hat i d hd) hc hm hbind hco hgen hr fun ds r h => by
    unfold fnF at h
    split at h
    · rename_i hl; exact ⟨hl, N, h⟩
    · cases h

/-- at most n binary digits -/
noncomputable def Bd (n : Nat) (a : Int) : Prop := a.natAbs < 2 ^ n
theorem Bd.mono {m n : Nat} {a : Int} (h : Bd m a) (l : m ≤ n) : Bd n a := Nat.lt_of_lt_of_le h (Nat.pow_le_pow_right (by decide) l)
theorem Bd.neg {n : Nat} {a : Int} (h : Bd n a) : Bd n (-a) := by unfold Bd; rw [Int.natAbs_neg]; exact h
theorem Bd.mul {m n : Nat} {a b : Int} (h : Bd m a) (h' : Bd n b) : Bd (m + n) (a * b) := by
  unfold Bd at *
  rw [Int.natAbs_mul, Nat.pow_add]
  exact Nat.mul_lt_mul_of_lt_of_lt h h'
theorem Bd.add {n : Nat} {a b : Int} (h : Bd n a) (h' : Bd n b) : Bd (n + 1) (a + b) := by
  unfold Bd at *
  have := Int.natAbs_add_le a b
  rw [Nat.pow_succ]; omega
theorem Bd.sub {n : Nat} {a b : Int} (h : Bd n a) (h' : Bd n b) : Bd (n + 1) (a - b) := by
  rw [Int.sub_eq_add_neg]; exact h.add h'.neg
theorem Bd.one {n : Nat} : Bd (n + 1) 1 := by
  unfold Bd
  have : 1 < 2 ^ (n + 1) := Nat.one_lt_two_pow (by omega)
  exact this
theorem Bd.pow {n : Nat} {a : Int} (h : Bd n a) : ∀ k : Nat, Bd (n * k + 1) (a ^ k)
  | 0 => by rw [Int.pow_zero]; exact Bd.one
  | k + 1 => by
    rw [Int.pow_succ]
    have := (Bd.pow h k).mul h
    exact this.mono (by rw [Nat.mul_succ]; omega)
theorem intBits_le {n : Nat} {a : Int} (h : Bd n a) : Builtin.Int.intBits a ≤ n := by
  unfold Builtin.Int.intBits
  unfold Bd at h
  split
  · omega
  · rename_i q
    have q' : a.natAbs ≠ 0 := by
      intro e
      exact q (by rw [Int.natAbs_eq_zero.mp e]; rfl)
    have := (Nat.log2_lt q').mpr h
    omega
theorem mulOk_bd {m n : Nat} {a b : Int} (h : Bd m a) (h' : Bd n b) (l : m + n ≤ 100000000) : mulOk a b = true := by
  have h1 := intBits_le h
  have h2 := intBits_le h'
  have : Builtin.Int.intTooBig (Builtin.Int.intBits a + Builtin.Int.intBits b) = false := by
    unfold Builtin.Int.intTooBig
    rw [decide_eq_false_iff_not]
    have : (bitsLine : Int) ≥ 134217728 := by decide
    omega
  unfold mulOk
  rw [this, Bool.and_false]; rfl
theorem divOk_bd {n : Nat} {a b : Int} (h0 : b ≠ 0) (h : Bd n b) (l : n ≤ 9000) : divOk a b = true := by
  unfold divOk
  have : b.natAbs.log2 < 9000 := by
    have := (Nat.log2_lt (by omega : b.natAbs ≠ 0)).mpr h
    omega
  simp [h0, this]
theorem powOk_bd {n k : Nat} {a : Int} (h : Bd n a) (l : n * k ≤ 100000000) : powOk a k = true := by
  have h1 := intBits_le h
  unfold powOk
  have : (Builtin.Int.intBits a : Int) * (k : Int) ≤ 2 ^ 27 := by
    have := Nat.mul_le_mul_right k h1
    have e : (Builtin.Int.intBits a : Int) * (k : Int) = ((Builtin.Int.intBits a * k : Nat) : Int) := by simp
    rw [e]
    have : (2:Int)^27 = 134217728 := by decide
    omega
  rw [Bool.and_eq_true, decide_eq_true_eq, decide_eq_true_eq]
  exact ⟨by omega, this⟩
/-- a run of ints, multiplied up -/
noncomputable def prodI (l : List Int) : Int := l.foldl (· * ·) 1
theorem foldl_mul (l : List Int) : ∀ z : Int, l.foldl (· * ·) z = z * prodI l := by
  induction l with
  | nil => intro z; simp [prodI]
  | cons x r ih => intro z; rw [List.foldl_cons, ih, show prodI (x :: r) = r.foldl (· * ·) (1 * x) from rfl, ih (1 * x), Int.one_mul, Int.mul_assoc]
theorem prodI_nil : prodI [] = 1 := rfl
theorem prodI_cons (x : Int) (r : List Int) : prodI (x :: r) = x * prodI r := by rw [show prodI (x :: r) = r.foldl (· * ·) (1 * x) from rfl, foldl_mul, Int.one_mul]
theorem prodI_append (l r : List Int) : prodI (l ++ r) = prodI l * prodI r := by
  induction l with
  | nil => simp [prodI_nil]
  | cons x l ih => rw [List.cons_append, prodI_cons, ih, prodI_cons, Int.mul_assoc]
theorem intsD_cons (x : Int) (l : List Int) : intsD (x :: l) = .int x :: intsD l := rfl
theorem intsD_length (l : List Int) : (intsD l).length = l.length := by simp [intsD]
theorem sizeLine_ge : 10000 ≤ sizeLine := by rw [sizeLine_eq]; decide
theorem items_lst {l : List D} (h : l.length ≤ 10000) : itemsOf (.lst l) = some l := by
  show (if l.length ≤ sizeLine then some l else none) = some l
  rw [if_pos (Nat.le_trans h sizeLine_ge)]
noncomputable def upI (a : Int) (n : Nat) : List Int := (List.range n).map fun (i : Nat) => a + (i : Int)
noncomputable def stepI (a c : Int) (n : Nat) : List Int := (List.range n).map fun (i : Nat) => a + (i : Int) * c
theorem upI_succ (a : Int) (n : Nat) : upI a (n + 1) = a :: upI (a + 1) n := by
  unfold upI
  rw [List.range_succ_eq_map, List.map_cons, List.map_map]
  refine congr (congrArg _ (by simp)) (List.map_congr_left fun i _ => ?_)
  simp only [Function.comp]; omega
theorem upI_last (a : Int) (n : Nat) : upI a (n + 1) = upI a n ++ [a + (n : Int)] := by
  unfold upI
  rw [List.range_succ, List.map_append]; rfl
theorem upI_length (a : Int) (n : Nat) : (upI a n).length = n := by simp [upI]
theorem rngL_step (a c : Int) (n : Nat) : rngL a c n = intsD (stepI a c n) := by
  unfold rngL intsD stepI
  rw [List.map_map]; rfl
theorem stepI_one (a : Int) (n : Nat) : stepI a 1 n = upI a n := by
  unfold stepI upI
  exact List.map_congr_left fun i _ => by omega
theorem items_stepB {a b c : Int} {n : Nat} (hn : n ≤ 10000) (hs : Builtin.Range.rangeSize a b c = n) : itemsOf (.rng a b c) = some (intsD (stepI a c n)) := by
  show (if 0 ≤ Builtin.Range.rangeSize a b c ∧ (Builtin.Range.rangeSize a b c).toNat ≤ sizeLine then some (rngL a c (Builtin.Range.rangeSize a b c).toNat) else none) = _
  rw [hs, if_pos ⟨Int.natCast_nonneg n, Nat.le_trans hn sizeLine_ge⟩, rngL_step]
  rfl
theorem items_rngB {a b : Int} (hn : (b - a).toNat ≤ 10000) : itemsOf (.rng a b 1) = some (intsD (upI a (b - a).toNat)) := by
  rw [← stepI_one]
  refine items_stepB hn ?_
  unfold Builtin.Range.rangeSize
  rw [if_pos (by decide)]
  split <;> omega
theorem fLen_ints {l : List Int} (h : l.length ≤ 10000) : fLen [.lst (intsD l)] = some (.int (l.length : Int)) := by
  show (if (intsD l).length ≤ sizeLine then some (D.int ((intsD l).length : Int)) else none) = _
  have := sizeLine_ge
  rw [intsD_length, if_pos (by omega)]
theorem fSubs_ints {l : List Int} {n : Nat} {x : Int} (h : l[n]? = some x) (hn : n ≤ 10000) : fSubs (.lst (intsD l)) (.int (n : Int)) = some (.int x) := by
  have : (2:Int)^63 = 9223372036854775808 := by decide
  have c : 0 ≤ (n : Int) ∧ (n : Int) < 2 ^ 63 := ⟨by omega, by omega⟩
  unfold fSubs
  simp only [c, and_self, if_true, Int.toNat_natCast, intsD, List.getElem?_map, h]; rfl
theorem Bd.ofNat {n : Nat} {a : Int} (h0 : 0 ≤ a) (h : a < 2 ^ n) : Bd n a := by
  unfold Bd
  have : ((a.natAbs : Nat) : Int) < ((2 ^ n : Nat) : Int) := by rw [Int.natAbs_of_nonneg h0]; simpa using h
  exact Int.ofNat_lt.mp this
noncomputable def asInt : Option D → Option Int
  | some (.int i) => some i
  | _ => none
theorem asInt_eq {o : Option D} {i : Int} (h : asInt o = some i) : o = some (.int i) := by
  cases o with
  | none => exact no_some h
  | some x =>
    cases x with
    | int j => cases h; rfl
    | _ => exact no_some h
noncomputable def asIntL : List D → Option (List Int)
  | [] => some []
  | .int i :: r => match asIntL r with
    | some l => some (i :: l)
    | none => none
  | _ => none
theorem asIntL_eq : ∀ {l : List D} {r : List Int}, asIntL l = some r → l = intsD r := by
  intro l
  induction l with
  | nil => intro r h; cases h; rfl
  | cons x l ih =>
    intro r h
    cases x with
    | int i =>
      have h : (match asIntL l with | some l => some (i :: l) | none => none) = some r := h
      cases q : asIntL l with
      | none => rw [q] at h; exact no_some h
      | some r' => rw [q] at h; cases h; rw [ih q]; rfl
    | _ => exact no_some h
theorem mulOk_sm {a b : Int} (h1 : -(2:Int)^60 < a) (h2 : a < 2^60) : mulOk a b = true := by
  have h : Bd 60 a := by
    unfold Bd
    have : (2:Int)^60 = 1152921504606846976 := by decide
    have : (2:Nat)^60 = 1152921504606846976 := by decide
    omega
  have h1 := intBits_le h
  have : decide (Builtin.Int.intBits a > shortFactorBits) = false := by
    rw [decide_eq_false_iff_not]
    have : shortFactorBits = 64 := rfl
    omega
  unfold mulOk
  rw [this]; rfl
end Mine
open PySem PySem.W PyProof.Rows PySem.Spec
set_option linter.unusedVariables false
set_option Elab.async false
set_option maxRecDepth 100000
namespace Mine
/-! what a run gives, backwards from what is wanted -/
noncomputable def RW (F : Run) (N : Nat) (σ : St) (P : St → Fl → Prop) : Prop := ∃ σ' fl, F N σ = some (σ', fl) ∧ P σ' fl
noncomputable def EW (F : Ev) (r : R) (Q : D → Prop) : Prop := ∃ d, F r = some d ∧ Q d
noncomputable def EsW (F : Evs) (r : R) (Q : List D → Prop) : Prop := ∃ d, F r = some d ∧ Q d
noncomputable def TW (T : Tr) (r : R) (Q : Bool → Prop) : Prop := ∃ b, T r = some b ∧ Q b
noncomputable def CW (f : List D → Option D) (ds : List D) (Q : D → Prop) : Prop := ∃ d, f ds = some d ∧ Q d
noncomputable def OW (f : D → D → Option D) (x y : D) (Q : D → Prop) : Prop := ∃ d, f x y = some d ∧ Q d
noncomputable def UW (f : D → Option D) (x : D) (Q : D → Prop) : Prop := ∃ d, f x = some d ∧ Q d
noncomputable def SW (F : Ev) (σ : St) (Q : D → Prop) : Prop := ∃ d, evS F σ = some d ∧ Q d
noncomputable def SK (Fs : Run) (N : Nat) (P : St → Fl → Prop) (σ : St) : Fl → Prop
  | .next => RW Fs N σ P
  | fl => P σ fl
noncomputable def CK (Q : D → Prop) (σ : St) : Fl → Prop
  | .next => Q .none
  | .ret d => Q d
  | .cont => False
  | .exc _ => False
noncomputable def IfK (b : Bool) (p q : Prop) : Prop := match b with
  | true => p
  | false => q
noncomputable def NotK (b : Bool) (Q : Bool → Prop) : Prop := Q (!b)
noncomputable def TruthK (x : D) (K : Bool → Prop) : Prop := ∃ b, fTruth x = some b ∧ K b
noncomputable def PutAt (σ : St) (i : Nat) (s : Slot) (K : St → Prop) : Prop := i < σ.length ∧ K (σ.set i s)
noncomputable def TupK (is : List Nat) (rev : Bool) (d : D) (σ : St) (K : St → Prop) : Prop := ∃ ds, d = .tup ds ∧ ds.length = is.length ∧ K (if rev = true then setAll is.reverse ds.reverse σ else setAll is ds σ)
noncomputable def TpK (ds : List D) (Q : D → Prop) : Prop := ds.length ≤ sizeLine ∧ Q (.tup ds)
noncomputable def LsK (ds : List D) (Q : D → Prop) : Prop := ds.length ≤ sizeLine ∧ Q (.lst ds)
noncomputable def LW (n j : Nat) (B : Run) (N : Nat) (ds : List D) (σ : St) (P : St → Fl → Prop) : Prop := ∃ σ' fl, forL false n j (B N) ds σ = some (σ', fl) ∧ P σ' fl
noncomputable def ForK (d : D) (n j : Nat) (B : Run) (N : Nat) (σ : St) (P : St → Fl → Prop) : Prop := ∃ ds, isStr d = false ∧ itemsOf d = some ds ∧ LW n j B N ds σ P
noncomputable def WW (T : Tr) (B : Run) (N fuel : Nat) (σ : St) (P : St → Fl → Prop) : Prop := ∃ σ' fl, whileL T (B N) fuel σ = some (σ', fl) ∧ P σ' fl
noncomputable def CompK (elt : Ev) (tst : Tr) (r : R) (d : D) (Q : D → Prop) : Prop := ∃ ds out, itemsOf d = some ds ∧ compL elt tst r ds = some out ∧ Q (.lst out)
noncomputable def LK (P : St → Fl → Prop) (K : St → Prop) (σ : St) : Fl → Prop
  | .ret d => P σ (.ret d)
  | .exc _ => False
  | _ => K σ
noncomputable def StartsAt (ds : List D) (n : Nat) (σ : St) : Prop := startSt ds n = σ

section
variable {F Fs F' B : Run} {N n i j m : Nat} {σ σ' : St} {P : St → Fl → Prop} {E G H : Ev} {r : R} {Q : D → Prop} {T T' : Tr} {es : Evs} {d x y : D} {ds : List D} {K : St → Prop}
theorem StartsAt.nil : StartsAt [] 0 [] := rfl
theorem StartsAt.unb (h : StartsAt [] n σ) : StartsAt [] (n + 1) (.unb :: σ) := by
  unfold StartsAt at *; rw [← h]; rfl
theorem StartsAt.cons (h : StartsAt ds n σ) : StartsAt (d :: ds) (n + 1) (.imm d :: σ) := by
  unfold StartsAt at *; rw [← h]
  simp [startSt]
theorem CW.fn (hs : StartsAt ds n σ) (hl : ds.length = m) (h : RW F N σ (CK Q)) : CW (fnF m n F N) ds Q := by
  obtain ⟨σ', fl, e, p⟩ := h
  rw [← show startSt ds n = σ from hs] at e
  unfold CW fnF callF
  rw [if_pos hl, e]
  cases fl with
  | next => exact ⟨_, rfl, p⟩
  | ret d => exact ⟨_, rfl, p⟩
  | cont => exact p.elim
  | exc _ => exact p.elim
theorem CK.ret (h : Q d) : CK Q σ (.ret d) := h
theorem CW.of {f : List D → Option D} (h : f ds = some d) (k : Q d) : CW f ds Q := ⟨d, h, k⟩
theorem CW.eq {f : List D → Option D} (h : CW f ds (fun z => z = d)) : f ds = some d := by
  obtain ⟨z, e, q⟩ := h; rw [e, q]
theorem OW.of {f : D → D → Option D} (h : f x y = some d) (k : Q d) : OW f x y Q := ⟨d, h, k⟩
theorem RW.nil (h : P σ .next) : RW rNil N σ P := ⟨_, _, rfl, h⟩
theorem RW.seq (h : RW F N σ (SK Fs N P)) : RW (rSeq F Fs) N σ P := by
  obtain ⟨σ', fl, e, p⟩ := h
  unfold RW rSeq
  rw [e]
  cases fl with
  | next => exact p
  | ret d => exact ⟨_, _, rfl, p⟩
  | cont => exact ⟨_, _, rfl, p⟩
  | exc _ => exact ⟨_, _, rfl, p⟩
theorem SK.next (h : RW Fs N σ P) : SK Fs N P σ .next := h
theorem SK.ret (h : P σ (.ret d)) : SK Fs N P σ (.ret d) := h
theorem LK.next (h : K σ) : LK P K σ .next := h
theorem RW.lenOk (hl : σ.length = n) (h : RW F N σ P) : RW (lenOk n F) N σ P := by
  obtain ⟨σ', fl, e, p⟩ := h
  exact ⟨σ', fl, by unfold Mine.lenOk; rw [if_pos hl]; exact e, p⟩
theorem SW.of (h : EW E (rdH σ) Q) : SW E σ Q := by
  obtain ⟨d, e, q⟩ := h
  exact ⟨d, by unfold evS; rw [e], q⟩
noncomputable def SetR (σ : St) (i : Nat) (s : Slot) (σ' : St) : Prop := i < σ.length ∧ σ.set i s = σ'
theorem SetR.z {s t : Slot} : SetR (t :: σ) 0 s (s :: σ) := ⟨by simp, rfl⟩
theorem SetR.s {s t : Slot} (h : SetR σ i s σ') : SetR (t :: σ) (i + 1) s (t :: σ') := ⟨by have := h.1; simp; exact this, by rw [← h.2]; rfl⟩
theorem SetR.s3 {s t u v : Slot} (h : SetR σ i s σ') : SetR (t :: u :: v :: σ) (i + 3) s (t :: u :: v :: σ') := h.s.s.s
theorem PutAt.of {s : Slot} (h : SetR σ i s σ') (k : K σ') : PutAt σ i s K := ⟨h.1, by rw [h.2]; exact k⟩
theorem RW.asg (h : SW E σ fun d => PutAt σ i (.imm d) fun σ' => P σ' .next) : RW (rAsg i E) N σ P := by
  obtain ⟨d, e, hi, p⟩ := h
  refine ⟨_, _, ?_, p⟩
  unfold rAsg
  rw [if_neg (by omega), e]
theorem RW.ret (h : EW E (rdH σ) fun d => P σ (.ret d)) : RW (rRet E) N σ P := by
  obtain ⟨d, e, p⟩ := h
  exact ⟨_, _, by unfold rRet; rw [e], p⟩
theorem RW.if (h : TW T (rdF σ) fun b => IfK b (RW F N σ P) (RW F' N σ P)) : RW (rIf T F F') N σ P := by
  obtain ⟨b, e, p⟩ := h
  unfold RW rIf
  rw [e]
  cases b <;> exact p
theorem IfK.t {p q : Prop} (h : p) : IfK true p q := h
theorem IfK.f {p q : Prop} (h : q) : IfK false p q := h
theorem IfK.decT {c p q : Prop} [Decidable c] (hc : c) (h : p) : IfK (decide c) p q := by rw [decide_eq_true hc]; exact h
theorem IfK.decF {c p q : Prop} [Decidable c] (hc : ¬ c) (h : q) : IfK (decide c) p q := by rw [decide_eq_false hc]; exact h
theorem NotK.t {Q : Bool → Prop} (h : Q false) : NotK true Q := h
theorem NotK.f {Q : Bool → Prop} (h : Q true) : NotK false Q := h
theorem TruthK.bool {b : Bool} {K : Bool → Prop} (h : K b) : TruthK (.bool b) K := ⟨_, rfl, h⟩
theorem TruthK.lst {l : List D} {K : Bool → Prop} (hl : l.length ≤ 10000) (h : K (!l.isEmpty)) : TruthK (.lst l) K := by
  refine ⟨_, ?_, h⟩
  show (if l.length ≤ sizeLine then some (!l.isEmpty) else Option.none) = _
  rw [if_pos (Nat.le_trans hl sizeLine_ge)]
theorem RW.aug {f : D → D → Option D} (hx : σ[i]? = some (.imm x)) (h : SW E σ fun y => OW f x y fun z => PutAt σ i (.imm z) fun σ' => P σ' .next) : RW (rAug i f E) N σ P := by
  obtain ⟨y, e, z, e', hi, p⟩ := h
  exact ⟨_, _, by unfold rAug; rw [hx]; simp only [e, e'], p⟩
theorem RW.tup {is : List Nat} {rev : Bool} (h : SW E σ fun d => TupK is rev d σ fun σ' => P σ' .next) : RW (rTup is rev E) N σ P := by
  obtain ⟨d, e, ds, rfl, hl, p⟩ := h
  exact ⟨_, _, by unfold rTup; rw [e]; simp only [hl, if_true], p⟩
theorem TupK.two_f {a b : D} {i j : Nat} (h : PutAt σ i (.imm a) fun σ' => PutAt σ' j (.imm b) K) : TupK [i, j] false (.tup [a, b]) σ K := ⟨_, rfl, rfl, h.2.2⟩
theorem RW.for (h : EW E (rdH σ) fun d => ForK d n j B N σ P) : RW (rFor n j E B) N σ P := by
  obtain ⟨d, e, ds, h1, h2, σ', fl, h3, p⟩ := h
  refine ⟨σ', fl, ?_, p⟩
  unfold rFor
  simp only [e, h1, h2, Bool.false_eq_true, if_false, h3]
theorem ForK.of (h1 : isStr d = false) (h2 : itemsOf d = some ds) (h : LW n j B N ds σ P) : ForK d n j B N σ P := ⟨ds, h1, h2, h⟩
theorem LW.nil (h : P σ .next) : LW n j B N [] σ P := ⟨_, _, rfl, h⟩
theorem LW.cons (hl : σ.length = n) (h : PutAt σ j (.imm d) fun σ₁ => RW B N σ₁ (LK P fun σ' => LW n j B N ds σ' P)) : LW n j B N (d :: ds) σ P := by
  obtain ⟨hj, σ', fl, e, p⟩ := h
  unfold LW forL
  rw [if_pos hl, e]
  cases fl with
  | next => exact p
  | cont => exact p
  | ret d => exact ⟨_, _, rfl, p⟩
  | exc _ => exact p.elim
theorem LW.inv (Inv : List D → St → Prop) (h0 : Inv ds σ) (hs : ∀ d ds σ, Inv (d :: ds) σ → σ.length = n ∧ PutAt σ j (.imm d) fun σ₁ => RW B N σ₁ (LK P (Inv ds))) (hP : ∀ σ', Inv [] σ' → P σ' .next) : LW n j B N ds σ P := by
  induction ds generalizing σ with
  | nil => exact LW.nil (hP _ h0)
  | cons d ds ih =>
    obtain ⟨hl, hj, σ', fl, e, p⟩ := hs d ds σ h0
    refine LW.cons hl ⟨hj, σ', fl, e, ?_⟩
    cases fl with
    | next => exact ih p
    | cont => exact ih p
    | ret d => exact p
    | exc _ => exact p.elim
theorem RW.while (h : WW T B N N σ P) : RW (rWhile T B) N σ P := h
theorem WW.inv (Inv : Nat → St → Prop) {k fuel : Nat} (h0 : Inv k σ) (hk : k < fuel) (hs : ∀ k σ, Inv k σ → TW T (rdF σ) fun b => IfK b (RW B N σ (LK P fun σ' => ∃ k', k' < k ∧ Inv k' σ')) (P σ .next)) : WW T B N fuel σ P := by
  induction fuel generalizing k σ with
  | zero => omega
  | succ fuel ih =>
    obtain ⟨b, e, p⟩ := hs k σ h0
    unfold WW whileL
    rw [e]
    cases b with
    | false => exact ⟨_, _, rfl, p⟩
    | true =>
      obtain ⟨σ', fl, e', p'⟩ := p
      simp only [e']
      cases fl with
      | next => obtain ⟨k', hk', hi⟩ := p'; exact ih hi (by omega)
      | cont => obtain ⟨k', hk', hi⟩ := p'; exact ih hi (by omega)
      | ret d => exact ⟨_, _, rfl, p'⟩
      | exc _ => exact p'.elim
theorem EW.var (h : r[i]? = some (some d)) (k : Q d) : EW (eVar i) r Q := ⟨d, by unfold eVar; rw [h], k⟩
theorem EW.cst (k : Q d) : EW (eCst d) r Q := ⟨d, rfl, k⟩
theorem EW.e1 {f : D → Option D} (h : EW E r fun x => UW f x Q) : EW (e1 f E) r Q := by
  obtain ⟨x, e, d, e', q⟩ := h
  exact ⟨d, by unfold Mine.e1; rw [e]; exact e', q⟩
theorem EW.e2 {f : D → D → Option D} (h : EW E r fun x => EW G r fun y => OW f x y Q) : EW (e2 f E G) r Q := by
  obtain ⟨x, e, y, e', d, e'', q⟩ := h
  exact ⟨d, by unfold Mine.e2; rw [e]; simp only [e', e''], q⟩
theorem EW.call {f : List D → Option D} (h : EsW es r fun ds => CW f ds Q) : EW (eCall f es) r Q := by
  obtain ⟨ds, e, d, e', q⟩ := h
  exact ⟨d, by unfold eCall; rw [e]; exact e', q⟩
theorem EsW.nil {Q : List D → Prop} (k : Q []) : EsW es0 r Q := ⟨[], rfl, k⟩
theorem EsW.cons {Q : List D → Prop} (h : EW E r fun d => EsW es r fun ds => Q (d :: ds)) : EsW (esC E es) r Q := by
  obtain ⟨d, e, ds, e', q⟩ := h
  exact ⟨_, by unfold esC; rw [e]; simp only [e'], q⟩
theorem EW.tup (h : EsW es r fun ds => TpK ds Q) : EW (eTup es) r Q := by
  obtain ⟨ds, e, hl, q⟩ := h
  exact ⟨_, by unfold eTup; rw [e]; simp only [hl, if_true], q⟩
theorem EW.lst (h : EsW es r fun ds => LsK ds Q) : EW (eLst es) r Q := by
  obtain ⟨ds, e, hl, q⟩ := h
  exact ⟨_, by unfold eLst; rw [e]; simp only [hl, if_true], q⟩
theorem TpK.mk (h : ds.length ≤ 10000) (k : Q (.tup ds)) : TpK ds Q := ⟨Nat.le_trans h sizeLine_ge, k⟩
theorem LsK.mk (h : ds.length ≤ 10000) (k : Q (.lst ds)) : LsK ds Q := ⟨Nat.le_trans h sizeLine_ge, k⟩
theorem EW.comp (h : EW G r fun d => CompK E T r d Q) : EW (eComp E T G) r Q := by
  obtain ⟨d, e, ds, out, h1, h2, q⟩ := h
  exact ⟨_, by unfold eComp; rw [e]; simp only [h1, h2], q⟩
theorem TW.tOf {Q : Bool → Prop} (h : EW E r fun x => TruthK x Q) : TW (tOf E) r Q := by
  obtain ⟨x, e, b, e', q⟩ := h
  exact ⟨b, by unfold Mine.tOf; rw [e]; exact e', q⟩
theorem TW.not {Q : Bool → Prop} (h : TW T r fun b => NotK b Q) : TW (tNot T) r Q := by
  obtain ⟨b, e, q⟩ := h
  exact ⟨!b, by unfold tNot; rw [e], q⟩
theorem TW.and {Q : Bool → Prop} (h : TW T r fun b => IfK b (TW T' r Q) (Q false)) : TW (tAnd T T') r Q := by
  obtain ⟨b, e, q⟩ := h
  unfold TW tAnd
  rw [e]
  cases b
  · exact ⟨_, rfl, q⟩
  · exact q
theorem TW.or {Q : Bool → Prop} (h : TW T r fun b => IfK b (Q true) (TW T' r Q)) : TW (tOr T T') r Q := by
  obtain ⟨b, e, q⟩ := h
  unfold TW tOr
  rw [e]
  cases b
  · exact q
  · exact ⟨_, rfl, q⟩
section ops
variable {a b : Int}
theorem OW.add (k : Q (.int (a + b))) : OW fAdd (.int a) (.int b) Q := ⟨_, rfl, k⟩
theorem OW.addI (k : Q (.int (a + b))) : OW fAddI (.int a) (.int b) Q := ⟨_, rfl, k⟩
theorem OW.addL {l l' : List D} (h : l.length + l'.length ≤ 10000) (k : Q (.lst (l ++ l'))) : OW fAdd (.lst l) (.lst l') Q := ⟨_, by
  show (if l.length + l'.length ≤ sizeLine then some (D.lst (l ++ l')) else none) = _
  rw [if_pos (Nat.le_trans h sizeLine_ge)], k⟩
theorem OW.sub (k : Q (.int (a - b))) : OW fSub (.int a) (.int b) Q := ⟨_, rfl, k⟩
theorem OW.mul (h : mulOk a b = true) (k : Q (.int (a * b))) : OW fMul (.int a) (.int b) Q := ⟨_, by simp only [fMul]; rw [if_pos h], k⟩
theorem OW.div (h : divOk a b = true) (k : Q (.int (a.fdiv b))) : OW fDiv (.int a) (.int b) Q := ⟨_, by simp only [fDiv]; rw [if_pos h], k⟩
theorem OW.mod (h : b ≠ 0) (k : Q (.int (a.fmod b))) : OW fMod (.int a) (.int b) Q := ⟨_, by simp only [fMod]; rw [if_pos h], k⟩
theorem OW.pow (h : powOk a b = true) (k : Q (.int (a ^ b.toNat))) : OW fPow (.int a) (.int b) Q := ⟨_, by simp only [fPow]; rw [if_pos h], k⟩
theorem OW.ord {f : Int → Int → Bool} (k : Q (.bool (f a b))) : OW (fOrd f) (.int a) (.int b) Q := ⟨_, rfl, k⟩
theorem OW.eq (k : Q (.bool (decide (a = b)))) : OW fEq (.int a) (.int b) Q := ⟨_, rfl, by
  have : (a == b) = decide (a = b) := by by_cases q : a = b <;> simp [q]
  rw [this]; exact k⟩
theorem OW.ne (k : Q (.bool (decide (a ≠ b)))) : OW fNe (.int a) (.int b) Q := ⟨_, rfl, by
  have : (a != b) = decide (a ≠ b) := by by_cases q : a = b <;> simp [q]
  rw [this]; exact k⟩
theorem UW.neg (k : Q (.int (-a))) : UW fNeg (.int a) Q := ⟨_, rfl, k⟩
theorem CW.range1 (k : Q (.rng 0 a 1)) : CW fRange [.int a] Q := ⟨_, rfl, k⟩
theorem CW.range2 (k : Q (.rng a b 1)) : CW fRange [.int a, .int b] Q := ⟨_, rfl, k⟩
end ops
/-- a comprehension over plain data -/
theorem compL_map {p : D → Bool} {g : D → D} : ∀ {ds : List D}, (∀ x ∈ ds, flat x = true ∧ T (some x :: r) = some (p x) ∧ (p x = true → E (some x :: r) = some (g x) ∧ flat (g x) = true)) → compL E T r ds = some ((ds.filter p).map g)
  | [], _ => rfl
  | x :: ds, h => by
    obtain ⟨h1, h2, h3⟩ := h x (.head _)
    have ih := compL_map (ds := ds) fun y hy => h y (.tail _ hy)
    unfold compL
    rw [if_pos h1, h2]
    cases q : p x with
    | false => simp only [List.filter_cons, q]; exact ih
    | true =>
      obtain ⟨h4, h5⟩ := h3 q
      simp only [h4, h5, if_true, ih, List.filter_cons, q, List.map_cons]
theorem CompK.ints {l : List Int} {p : Int → Bool} {g : Int → Int} (hi : itemsOf d = some (intsD l)) (h : ∀ x ∈ l, TW T (some (.int x) :: r) (fun b => b = p x) ∧ (p x = true → EW E (some (.int x) :: r) fun z => z = .int (g x))) (k : Q (.lst (intsD ((l.filter p).map g)))) : CompK E T r d Q := by
  refine ⟨_, _, hi, compL_map (p := fun z => match z with | .int x => p x | _ => true) (g := fun z => match z with | .int x => .int (g x) | _ => z) ?_, ?_⟩
  · intro x hx
    obtain ⟨y, hy, rfl⟩ := List.mem_map.mp hx
    obtain ⟨⟨b, e, rfl⟩, h2⟩ := h y hy
    refine ⟨rfl, e, fun q => ?_⟩
    obtain ⟨z, e', rfl⟩ := h2 q
    exact ⟨e', rfl⟩
  · have : ((intsD l).filter (fun z => match z with | .int x => p x | _ => true)).map (fun z => match z with | .int x => D.int (g x) | _ => z) = intsD ((l.filter p).map g) := by
      clear hi h k
      induction l with
      | nil => rfl
      | cons x l ih =>
        rw [intsD_cons, List.filter_cons, List.filter_cons]
        by_cases q : p x = true
        · simp only [q, if_true, List.map_cons, ih, intsD_cons]
        · simp only [Bool.not_eq_true] at q
          simp only [q, Bool.false_eq_true, if_false, ih]
    rw [this]; exact k
theorem TW.c {b : Bool} {Q : Bool → Prop} (h : Q b) : TW (fun _ => some b) r Q := ⟨b, rfl, h⟩
theorem RW.mid (M : St → Prop) (h : RW F N σ fun σ' fl => fl = .next ∧ M σ') (k : ∀ σ', M σ' → P σ' .next) : RW F N σ P := by
  obtain ⟨σ', fl, e, rfl, hm⟩ := h
  exact ⟨σ', _, e, k _ hm⟩
end
end Mine
open PySem PySem.W PyProof.Rows PySem.Spec
set_option linter.unusedVariables false
set_option Elab.async false
set_option maxRecDepth 100000
namespace Mine
/-! greatest common parts -/
noncomputable def absI (a : Int) : Int := if a < 0 then -a else a
theorem absI_eq (a : Int) : absI a = (a.natAbs : Int) := by unfold absI; split <;> omega
theorem fAbs_nat (a : Int) : fAbs [.int a] = some (.int (a.natAbs : Int)) := by
  show some (D.int (absI a)) = _
  rw [absI_eq]
theorem fmod_nat (m n : Nat) : (m : Int).fmod (n : Int) = ((m % n : Nat) : Int) := by
  rw [Int.fmod_eq_emod_of_nonneg _ (by omega)]; simp
end Mine
open PySem PySem.W PyProof.Rows PySem.Spec
set_option linter.unusedVariables false
set_option Elab.async false
set_option maxRecDepth 100000
namespace Mine
section
variable {F Fs F' B : Run} {N n i j m : Nat} {σ σ' : St} {P : St → Fl → Prop} {E G H : Ev} {r : R} {Q : D → Prop} {T T' : Tr} {es : Evs} {d x y : D} {ds : List D} {K : St → Prop}
theorem RW.retF (h0 : E (rdH σ) = none) (h : EW E (rdF σ) fun d => P σ (.ret d)) : RW (rRet E) N σ P := by
  obtain ⟨d, e, p⟩ := h
  exact ⟨_, _, by unfold rRet; rw [h0]; simp only [e], p⟩
theorem RW.new (h : EsW es (rdH σ) fun ds => ds.length ≤ 10000 ∧ PutAt σ i (.mt ds) fun σ' => P σ' .next) : RW (rNew i es) N σ P := by
  obtain ⟨ds, e, hl, hi, p⟩ := h
  exact ⟨_, _, by unfold rNew evsS; rw [e]; simp only [Nat.le_trans hl sizeLine_ge, if_true], p⟩
theorem RW.app {l : List D} (hx : σ[i]? = some (.mt l)) (hl : l.length ≤ 10000) (h : SW E σ fun d => PutAt σ i (.mt (l ++ [d])) fun σ' => P σ' .next) : RW (rApp i E) N σ P := by
  obtain ⟨d, e, hi, p⟩ := h
  exact ⟨_, _, by unfold rApp; rw [hx]; simp only [Nat.le_trans hl sizeLine_ge, if_true, e], p⟩
theorem TruthK.lstE {l : List D} {K : Bool → Prop} (h : l = []) (k : K false) : TruthK (.lst l) K := by
  subst h; exact TruthK.lst (by decide) k
theorem TruthK.lstN {l : List D} {K : Bool → Prop} (h : l ≠ []) (hl : l.length ≤ 10000) (k : K true) : TruthK (.lst l) K := by
  refine TruthK.lst hl ?_
  cases l with
  | nil => exact absurd rfl h
  | cons a b => exact k
end
/-- the primes as the programs build them -/
noncomputable def natI (l : List Nat) : List Int := l.map fun (n : Nat) => (n : Int)
theorem natI_cons (n : Nat) (l : List Nat) : natI (n :: l) = (n : Int) :: natI l := rfl
theorem natI_length (l : List Nat) : (natI l).length = l.length := by simp [natI]
theorem mem_natI {x : Int} {l : List Nat} : x ∈ natI l ↔ ∃ n ∈ l, x = (n : Int) := by
  unfold natI; rw [List.mem_map]
  exact ⟨fun ⟨a, b, c⟩ => ⟨a, b, c.symm⟩, fun ⟨a, b, c⟩ => ⟨a, b, c.symm⟩⟩
noncomputable def pgT (n p : Nat) : Bool := decide (p * p ≤ n) && decide (n % p = 0)
noncomputable def pgS (l : List Nat) (n : Nat) : List Nat := if (l.filter (pgT n)).isEmpty = true then l ++ [n] else l
noncomputable def pgR : Nat → List Nat
  | 0 => []
  | k + 1 => pgS (pgR k) (k + 2)
theorem pgR_mem : ∀ {k x : Nat}, x ∈ pgR k → 2 ≤ x ∧ x ≤ k + 1
  | k + 1, x, h => by
    rw [pgR, pgS] at h
    split at h
    · rcases List.mem_append.mp h with h | h
      · have := pgR_mem h; omega
      · have : x = k + 2 := by simpa using h
        omega
    · have := pgR_mem h; omega
theorem pgR_length : ∀ k, (pgR k).length ≤ k
  | 0 => Nat.le_refl 0
  | k + 1 => by
    have := pgR_length k
    rw [pgR, pgS]
    split
    · rw [List.length_append]; simp; exact this
    · omega
theorem filter_natI (p : Int → Bool) (l : List Nat) : (natI l).filter p = natI (l.filter fun n => p (n : Int)) := by
  induction l with
  | nil => rfl
  | cons a l ih =>
    rw [natI_cons, List.filter_cons, List.filter_cons, ih]
    split <;> rfl
theorem fSubs_at {l : List D} {n : Nat} {x : D} (h : l[n]? = some x) (hn : n ≤ 10000) : fSubs (.lst l) (.int (n : Int)) = some x := by
  have : (2:Int)^63 = 9223372036854775808 := by decide
  have c : 0 ≤ (n : Int) ∧ (n : Int) < 2 ^ 63 := ⟨by omega, by omega⟩
  unfold fSubs
  simp only [c, and_self, if_true, Int.toNat_natCast, h]
theorem Bd.sm {x : Int} (h : -1000 ≤ x) (h' : x ≤ 1000) : Bd 10 x := by
  unfold Bd
  have : (2:Nat) ^ 10 = 1024 := by decide
  omega
end Mine
open PySem PySem.W PyProof.Rows PySem.Spec
set_option linter.unusedVariables false
set_option Elab.async false
set_option maxRecDepth 100000
namespace Mine
end Mine
open PySem PySem.W PyProof.Rows PySem.Spec PySem.Calls
set_option linter.unusedVariables false
set_option Elab.async false
set_option maxRecDepth 100000
namespace Mine
section
variable {I : GI} {k : Nat}
end
end Mine
open PySem PySem.W PyProof.Rows PySem.Spec PySem.Calls
set_option linter.unusedVariables false
set_option Elab.async false
set_option maxRecDepth 100000
namespace Mine
section
variable {I : GI} {k : Nat} {sc : Scope} {ns : List Str}
end
end Mine
section
open PySem PySem.W PyProof.Rows PySem.Spec
set_option linter.unusedVariables false
set_option Elab.async false
set_option maxRecDepth 100000
namespace Mine
section
variable {I : GI} {k : Nat} {sc : Scope} {ns : List Str}

/-- str of an int -/
noncomputable def fStr : List D → Option D
  | [.int a] => if a.natAbs < 10 ^ 4300 then some (.str (Str.ofString (toString a))) else none
  | _ => none
theorem PrimOK.str (hd : ∀ h, I.Gl h → h.NoDigits) : PrimOK I k (.type "str") fStr := by
  intro A g s ds vs d Q E hA sub gl hf hv P
  cases ds with
  | nil => exact no_some hf
  | cons x r =>
    cases x with
    | int a =>
      cases r with
      | cons _ _ => exact no_some hf
      | nil =>
        obtain ⟨hz, rfl⟩ := ite_some hf
        obtain ⟨v, rfl, t, rfl⟩ := hv.one
        exact str_of_int_or hA.1 (hd _ gl) (fun _ => P.now sub ⟨_, rfl⟩) fun h => absurd hz (Nat.not_lt_of_le h)
    | _ => exact no_some hf

/-- int of a text or an int -/
noncomputable def fInt : List D → Option D
  | [.int a] => some (.int a)
  | [.str x] => if x.length ≤ 640 then (match PySem.intText? x with
    | some n => some (.int n)
    | none => none) else none
  | _ => none
theorem PrimOK.int : PrimOK I k (.type "int") fInt := by
  intro A g s ds vs d Q E hA sub gl hf hv P
  cases ds with
  | nil => exact no_some hf
  | cons x r =>
    cases x with
    | int a =>
      cases r with
      | cons _ _ => exact no_some hf
      | nil =>
        cases hf
        obtain ⟨v, rfl, t, rfl⟩ := hv.one
        exact call_int_int (P.now (tk := s.toks) sub ⟨_, rfl⟩)
    | str x =>
      cases r with
      | cons _ _ => exact no_some hf
      | nil =>
        have hf : (if x.length ≤ 640 then (match PySem.intText? x with | some n => some (D.int n) | none => none) else none) = some d := hf
        by_cases hz : x.length ≤ 640
        · rw [if_pos hz] at hf
          cases hn : PySem.intText? x with
          | none => rw [hn] at hf; exact no_some hf
          | some n =>
            rw [hn] at hf
            cases hf
            obtain ⟨v, rfl, t, rfl⟩ := hv.one
            exact KIN.call_text hn hz (P.now sub ⟨_, rfl⟩)
        · rw [if_neg hz] at hf; exact no_some hf
    | _ => exact no_some hf

/-- a text's words -/
noncomputable def strsD (l : List Str) : List D := l.map .str
theorem isL_strs {g : G} : ∀ (l : List (Str × Tok)), IsL g (strsD (l.map (·.1))) (strValues l)
  | [] => rfl
  | p :: r => ⟨_, _, rfl, ⟨p.2, rfl⟩, isL_strs r⟩
noncomputable def fSplit : D → Option D
  | .str x => if x.length + 1 ≤ sizeLine then some (.lst (strsD (Txt.words x))) else none
  | _ => none
theorem words_fit {x : Str} (h : x.length + 1 ≤ sizeLine) : (Builtin.Str.spaceWords x (x.length + 1)).length ≤ sizeLine :=
  Nat.le_trans (StrLaws.len_le_wsum _) (Nat.le_trans (StrLaws.sw_weight x).1 h)
theorem split_ok {A : Around} {g : G} {s : Shared} {x : Str} {t : Tok} {Q : Value → Shared → Prop} {E : Value → Shared → Prop} (sub : Sub g s.heap.get?) (hz : x.length + 1 ≤ sizeLine)
    (P : Post g s (.lst (strsD (Txt.words x))) Q) : wpAny (model I.prog I.w) A (call (.builtin "str.split") [.str x t]) Q E s := by
  refine call_meets F.slot_str_split (typeIs_str _ _ _) F.entry_str_split (F.args_str_split_1 _) (meets_str_split_space x t (Nat.le_of_succ_le hz) (words_fit hz)) ?_
  have fin : ∀ (l : List (Str × Tok)) (tk : Nat), l.map (·.1) = Txt.words x → Q (.ref s.heap.objs.size) { s with heap := s.heap.push { cls := .type "list", data := .seq (strValues l).toArray }, toks := tk } := fun l tk e =>
    P.newList sub (by rw [← e]; exact isL_strs l)
  cases hw : Builtin.Str.spaceWords x (x.length + 1) == [(0, x.length)]
  · simp only [Bool.false_eq_true, if_false]
    rw [strsFrom_eq]
    exact fin (numbered s.toks (PySem.wordsOf x)) _ ((numbered_texts _ _).trans (if_neg (ne_true_of_eq_false hw)).symm)
  · simp only [if_true]
    exact fin [(x, t)] _ (if_pos hw).symm
theorem EvOK.split {e : Expr} {apos cpos : Pos} {F : Ev} {pl : Env → Sem Bool} (he : ∀ env, eval (.Call (.Attribute e "split" apos) [] [] cpos) env = (do
      let ov ← eval e env
      standAt apos.atName
      let (f, first) ← holding [ov] (getMethod ov "split" (pl env))
      callWith cpos f first (backTo cpos (starEach [] env)) [])) (h : EvOK I k sc ns e F) : EvOK I k sc ns (.Call (.Attribute e "split" apos) [] [] cpos) (e1 fSplit F) := by
  intro env A g r s d Q E hS hA V hF P
  unfold e1 at hF
  split at hF
  · rename_i xd hx
    unfold fSplit at hF
    split at hF
    · split at hF
      · rename_i x hz
        cases hF
        refine MethodCall_ (pl := pl env) (h env A g r s _ _ E hS hA V hx fun v h₁ tk₁ k₁ hv => ?_) (he env)
        obtain ⟨t, rfl⟩ := hv
        refine GM.split (callWith_method0 ?_)
        exact split_ok (s := { s with heap := h₁, toks := tk₁ }) (V.grow k₁).sub hz (P.step k₁)
      · cases hF
    · cases hF
  · cases hF

/-- a text in a text -/
noncomputable def fInS (neg : Bool) : D → D → Option D
  | .str y, .str x => some (.bool (neg ^^ Txt.contains x y))
  | _, _ => none
theorem OpOK.notInS : OpOK I k (compareOp .NotIn) (fInS true) := by
  intro A g s x y d u v Q E hA sub gl hx hy hf P
  cases x with
  | str x =>
    cases y with
    | str y =>
      obtain ⟨t, rfl⟩ := hx
      obtain ⟨t', rfl⟩ := hy
      cases hf
      refine PySem.P.notIn_str (P.now (tk := s.toks) sub ?_)
      rw [Bool.true_xor]; rfl
    | _ => exact no_some hf
  | _ => exact no_some hf

/-- a text from a place on -/
noncomputable def fSloS : D → D → Option D
  | .str x, .int i => if 0 ≤ i ∧ i ≤ x.length ∧ x.length ≤ sizeLine then some (.str ⟨(x.cps.toList.drop i.toNat).toArray⟩) else none
  | _, _ => none
theorem EvOK.sliceLoS {value low : Expr} {p pos : Pos} {F F' : Ev} (hv : EvOK I k sc ns value F) (hu : EvOK I k sc ns low F') (ht : ∀ o r, letTemporaryGo value o r = pure ()) :
    EvOK I k sc ns (.Subscript value (.Slice (Option.some low) Option.none Option.none p) pos) (e2 fSloS F F') := by
  intro env A g r s d Q E hS hA V hF P
  obtain ⟨x, y, hx, hy, hf⟩ := e2_some hF
  cases x with
  | str x =>
    cases y with
    | int i =>
      obtain ⟨hb, rfl⟩ := ite_some hf
      refine wpAny_Subscript_str_slice (hv env A g r s _ _ E hS hA V hx fun u h₁ tk₁ k₁ hu' => ?_) ht
      rw [evalPart_none, evalPart_some]
      refine hu env A _ r _ _ _ E hS hA (V.grow k₁) hy fun v h₂ tk₂ k₂ hv' => wpAny_pure ?_
      have V₂ := (V.grow k₁).grow k₂
      obtain ⟨t, rfl⟩ := hu'
      obtain ⟨t', rfl⟩ := hv'
      have ex : x.cps.toList.length = x.length := Array.length_toList
      have e := StrLaws.sliceText_from (x := x) (i := i) ⟨hb.1, by rw [ex]; exact hb.2.1⟩
      refine ⟨x, t, some (i, t'), none, rfl, rfl, rfl, ?_⟩
      have P₂ := (P.step (tk := tk₁) k₁).step (s := { s with heap := h₁, toks := tk₁ }) (tk := tk₂) k₂
      have P₃ := P₂.step (tk := tk₂) (Grow.push h₂ { cls := .type "slice", data := .fields #[.int i t', .none, .none] })
      have es : Txt.slice x (some i) none = ⟨(x.cps.toList.drop i.toNat).toArray⟩ := by
        show StrLaws.sliceText x (some i) none = _
        rw [e, List.take_of_length_le]
        rw [List.length_drop]; omega
      refine post_val_or_str (s := { s with heap := h₂.push { cls := .type "slice", data := .fields #[.int i t', .none, .none] }, toks := tk₂ }) ⟨Nat.le_trans (Txt.slice_le x _ _) hb.2.2, fun t'' kk => ?_⟩
      have q := P₃.now (tk := kk) (ext_in V₂.sub (Grow.push _ _)) (v := .str ⟨(x.cps.toList.drop i.toNat).toArray⟩ t'') ⟨_, rfl⟩
      rw [← es] at q
      exact q
    | _ => exact no_some hf
  | _ => exact no_some hf

/-- y = x.pop() -/
noncomputable def rPop (i j : Nat) : Run := fun _ σ => match σ[i]? with
  | some (.mt l) => if l.length ≤ sizeLine then (match l.getLast? with
    | some d => some ((σ.set i (.mt l.dropLast)).set j (.imm d), .next)
    | none => none) else none
  | _ => none
theorem IsL.dropLast {g : G} : ∀ {l : List D} {vs : List Value}, IsL g l vs → IsL g l.dropLast vs.dropLast := by
  intro l
  induction l with
  | nil => intro vs h; rw [show vs = [] from h]; exact rfl
  | cons d ds ih =>
    intro vs h
    obtain ⟨v, r, rfl, hv, h⟩ := h
    cases ds with
    | nil => rw [show r = [] from h]; exact rfl
    | cons d' ds =>
      have q := ih h
      obtain ⟨v', r', rfl, _, _⟩ := h
      exact ⟨v, _, rfl, hv, q⟩
theorem erase_last {α : Type} (vs : Array α) : (vs.eraseIdxIfInBounds (vs.size - 1)).toList = vs.toList.dropLast := by
  rw [Array.toList_eraseIdxIfInBounds, ← Array.length_toList, List.eraseIdx_length_sub_one]
theorem RunOK.pop {x y : Str} {px py apos cpos pos : Pos} {i j : Nat} {pl : Env → Sem Bool} (hx : idx ns x = some i) (hy : idx ns y = some j) (hd : (x == ("__debug__" : Str)) = false)
    (he : ∀ env, eval (.Call (.Attribute (.Name x px) "pop" apos) [] [] cpos) env = (do
      let ov ← eval (.Name x px) env
      standAt apos.atName
      let (f, first) ← holding [ov] (getMethod ov "pop" (pl env))
      callWith cpos f first (backTo cpos (starEach [] env)) []))
    (hs : ∀ env, swapsWith (.Call (.Attribute (.Name x px) "pop" apos) [] [] cpos) (some (.Name y py)) pos.line env = pure false) (hc : ScS sc ns) :
    RunOK I k sc ns (exec (.Assign [.Name y py] (.Call (.Attribute (.Name x px) "pop" apos) [] [] cpos) pos)) (lenOk ns.length (rPop i j)) := by
  intro env A own g fix σ s fuel σ' fl Q E hS hA S hF P
  unfold lenOk at hF
  split at hF
  · rename_i hlen
    unfold rPop at hF
    split at hF
    · rename_i l hl
      split at hF
      · rename_i hz
        split at hF
        · rename_i d hdd
          cases hF
          have hx' := idx_get hx
          obtain ⟨hh, hO⟩ := S.mtd i x l hx' hl
          obtain ⟨vs, n, p1, p2⟩ := hO.obj
          have el := p2.length
          have hne : l ≠ [] := fun q => by rw [q] at hdd; cases hdd
          have hpos : 0 < l.length := List.length_pos_iff.mpr hne
          rw [Array.length_toList] at el
          have hlast : l[l.length - 1]? = some d := by rw [← List.getLast?_eq_getElem?]; exact hdd
          obtain ⟨v, hv1, hv2⟩ := p2.get hlast
          have hv1' : vs[vs.size - 1]? = some v := by rw [el]; simpa using hv1
          refine wpAny_Assign_Name ?_ (hs env)
          refine MethodCall_ (pl := pl env) (wpAny_Name (loadName_ok hS hc.kind hh ?_) hd) (he env)
          refine getMethod_list_of PySem.F.slot_list_pop PySem.F.type_list_pop ⟨_, p1, rfl, n, rfl⟩ ⟨_, p1, rfl⟩ (callWith_method0 ?_)
          refine call_meets PySem.F.slot_list_pop ⟨_, p1, rfl⟩ PySem.F.entry_list_pop (PySem.F.args_list_pop_1 _) (PySem.MeetsSeq.list_pop_last (own i) vs n v hv1' (by omega)) ⟨p1, ?_⟩
          have hfin : (s.heap.update (own i) (Obj.mapSeq fun xs => xs.eraseIdxIfInBounds (vs.size - 1))).get? (own i) = some (Obj.mapSeq (fun xs => xs.eraseIdxIfInBounds (vs.size - 1)) (lobj vs n)) := Heap.get?_update_self _ p1 rfl
          have S₁ := S.mutate (Nat.le_of_eq hlen) hx' hl (Heap.SameBut.update ..) (vs' := vs.eraseIdxIfInBounds (vs.size - 1)) (l' := l.dropLast) hfin (by rw [erase_last]; exact IsL.dropLast p2)
          have hl1 : (σ.set i (.mt l.dropLast)).length ≤ ns.length := by rw [List.length_set]; exact Nat.le_of_eq hlen
          exact store_imm (s := { s with heap := s.heap.update (own i) (Obj.mapSeq fun xs => xs.eraseIdxIfInBounds (vs.size - 1)) }) hc hS S₁ hl1 (idx_get hy) hv2 fun h₂ tk₂ S₂ => P own g fix h₂ tk₂ _ S₂ (After.refl _ _) rfl
        · cases hF
      · cases hF
    · cases hF
  · cases hF
end
end Mine
end
section
open PySem PySem.W PyProof.Rows PySem.Spec
set_option linter.unusedVariables false
set_option Elab.async false
set_option maxRecDepth 100000
namespace Mine
section
variable {M : Model} {A : Around} {R : GenEnd} {Y : Protocol} {n : Nat} {s₀ : Shared} {c : Code} {fs : List Frame} {s : Shared} {env : Env}
  {K : Flow → Sem Fin} {H : Value → Sem Fin} {gd : Bool → Bool} {lv : List Value → List Value}

/-- what goes on behind a loop of a generator's body -/
noncomputable def backF (env : Env) (K : Flow → Sem Fin) (H : Value → Sem Fin) (gd : Bool → Bool) (lv : List Value → List Value) : Result → Sem Fin := fun r =>
  ((match r with | .ok f => (.pure f : Sem Flow) | .error e => .raise e).onRaise fun (x : Value) => do
    if (← field x 1) == Value.none then unsupported "frame.own-activation:exception-without-traceback"
    setFlight x env.frame).wrap K H gd lv
theorem seg_For {target iter : Expr} {body orelse : List Stmt} {pos : Pos} (hs : ∀ v, foldedSetIterable iter env v = pure v)
    (h : wpAny M (A.over c fs) (eval iter env) (fun v s1 => wpAny M (A.over c fs) (pyIter v) (fun it s2 => ∀ p, Seg M A R Y n s₀ (.forLoop target it body orelse env) (M.den (.forLoop target it body orelse env))
      (.ret (backF env K H gd lv) none (gd false) (lv []) c p [] :: fs) s2) (fun x s' => Seg M A R Y n s₀ c (H x) fs s') s1) (fun x s' => Seg M A R Y n s₀ c (H x) fs s') s) :
    Seg M A R Y n s₀ c ((exec (.For target iter body orelse pos) env).wrap K H gd lv) fs s := by
  rw [exec_For]
  refine seg_bind_wrap (wpAny_standAt ?_)
  refine seg_bind_wrap (wpAny_mono h (fun v s1 h1 => ?_) fun _ _ e => e)
  refine seg_bind_wrap (wpAny_of_eq (hs v) ?_)
  refine seg_bind_wrap (wpAny_standAt ?_)
  refine seg_bind_wrap (wpAny_holding (wpAny_mono h1 (fun it s2 h2 => ?_) fun _ _ e => e))
  exact seg_call h2
end

section
variable {prog : Program} {w : World} {A : Around} {R : GenEnd} {Y : Protocol} {n : Nat} {s₀ : Shared} {fs : List Frame} {s : Shared} {env : Env}

theorem seg_congr {c : Code} {t t' : Sem Fin} (e : t = t') (h : Seg (model prog w) A R Y n s₀ c t' fs s) : Seg (model prog w) A R Y n s₀ c t fs s := by rw [e]; exact h
noncomputable def turnK (c : Code) : Flow → Sem Fin := fun f => match f with
  | .next | .cont => .pure (.again c)
  | .brk => .pure (.done .next)
  | .ret v => .pure (.done (.ret v))
noncomputable def turnH (env : Env) : Value → Sem Fin := fun e => (do noteFrame e env; theTreesLotGoes e : Sem Unit).wrap (fun _ => .raise e) .raise id id

theorem seg_forLoop {x : Str} {px : Pos} {it : Value} {body orelse : List Stmt} {I : Addr} (hit : it = .ref I)
    (h : wpAny (model prog w) (A.over (.forLoop (.Name x px) it body orelse env) fs) (pyNext it) (fun r s' => match r with
      | none => Seg (model prog w) A R Y n s₀ (.forLoop (.Name x px) it body orelse env) (.pure (.again (.block orelse env))) fs s'
      | some v => wpAny (model prog w) (A.over (.forLoop (.Name x px) it body orelse env) fs) (assign (.Name x px) env v) (fun _ s'' =>
          Seg (model prog w) A R Y n s₀ (.forLoop (.Name x px) it body orelse env) ((execs body env).wrap (turnK (.forLoop (.Name x px) it body orelse env)) (turnH env) id id) fs s'')
          (fun e s'' => Seg (model prog w) A R Y n s₀ (.forLoop (.Name x px) it body orelse env) (turnH env e) fs s'') s')
      (fun e s'' => Seg (model prog w) A R Y n s₀ (.forLoop (.Name x px) it body orelse env) (turnH env e) fs s'') s) :
    Seg (model prog w) A R Y n s₀ (.forLoop (.Name x px) it body orelse env) ((model prog w).den (.forLoop (.Name x px) it body orelse env)) fs s := by
  subst hit
  have eH : ∀ e : Value, ((do noteFrame e env; theTreesLotGoes e : Sem Unit).bind fun _ => (.raise e : Sem Fin)) = turnH env e := fun e => Sem.bind_eq_wrap _ _
  show Seg _ A R Y n s₀ _ ((forTurn (.Name x px) (.ref I) body orelse env).onRaise (fun x => do noteFrame x env; theTreesLotGoes x)) fs s
  rw [Sem.onRaise_eq_wrap, show (fun e : Value => ((do noteFrame e env; theTreesLotGoes e : Sem Unit).bind fun _ => (.raise e : Sem Fin))) = turnH env from funext eH]
  unfold forTurn
  refine seg_bind_wrap (wpAny_standAt ?_)
  refine seg_bind_wrap (wpAny_onRaise (wpAny_mono h (fun r s1 h1 => ?_) fun _ _ h' => wpAny_standAt h'))
  cases r with
  | none => exact h1
  | some v =>
    refine seg_bind_wrap (wpAny_of_eq (rfl : letOwnedTupleGo (.Name x px) (.ref I) v = pure ()) ?_)
    refine seg_bind_wrap (wpAny_mono h1 (fun _ s2 h2 => ?_) fun _ _ e => e)
    rw [Sem.bind_eq_wrap', Sem.wrap_wrap]
    exact seg_congr (Sem.wrap_congr (execs body env) _ _ (K' := turnK (.forLoop (.Name x px) (.ref I) body orelse env)) (H' := turnH env) (fun f => by cases f <;> rfl) (fun e => rfl)) h2
theorem seg_block_nil {K : Result → Sem Fin} {g l c₁ p₁ kp} {c : Code} (h : Seg (model prog w) A R Y n s₀ c₁ (K (.ok .next)) fs s) :
    Seg (model prog w) A R Y n s₀ c (.pure (.again (.block [] env))) (.ret K none g l c₁ p₁ kp :: fs) s :=
  seg_again rfl (seg_leaf (.ok .next) h)
end
end Mine
end
section
open PySem PySem.W PyProof.Rows PySem.Spec
set_option linter.unusedVariables false
set_option Elab.async false
set_option maxRecDepth 100000
namespace Mine

noncomputable def GSince (L : Addr) (old : Addr → Prop) (s₀ s : Shared) : Prop := ∃ h' tk, s = { s₀ with heap := h', toks := tk } ∧ ∀ b o, old b → b ≠ L → s₀.heap.get? b = some o → h'.get? b = some o
theorem GSince.refl (L : Addr) (old : Addr → Prop) (s : Shared) : GSince L old s s := ⟨s.heap, s.toks, rfl, fun _ _ _ _ e => e⟩
theorem GSince.step {L : Addr} {old : Addr → Prop} {s₀ s : Shared} (x : GSince L old s₀ s) {h' : Heap} {tk : Nat} (hk : ∀ b o, old b → b ≠ L → s.heap.get? b = some o → h'.get? b = some o) : GSince L old s₀ { s with heap := h', toks := tk } := by
  obtain ⟨h₁, tk₁, rfl, hk₁⟩ := x
  exact ⟨h', tk, rfl, fun b o hb hL e => hk b o hb hL (hk₁ b o hb hL e)⟩
noncomputable def gR (L : Addr) (old : Addr → Prop) : GenEnd := fun n s₀ r s => r = .ok (.ret .none) ∧ (n = 0 ∧ GSince L old s₀ s)
noncomputable def gY (L : Addr) (old W : Addr → Prop) (vals : List Int) : Protocol := fun m s₀ v s kap =>
  (∃ a t, vals[vals.length - 1 - m]? = some a ∧ v = .int a t) ∧ GSince L old s₀ s ∧ ∀ s'' : Shared, (∀ b o, ¬ W b → s.heap.get? b = some o → s''.heap.get? b = some o) → kap (.send .none) s''

section
variable {I : GI} {k : Nat} {sc : Scope} {ns : List Str}

/-- the loop's frame, as it stands between two values -/
structure LoopSt (I : GI) (env : Env) (fixC : G) (St : Nat → Heap → Prop) (j : Nat) (h : Heap) : Prop where
  ns : ∃ m, h.Ns env.locals m
  st : St j h
  fix : Sub fixC h.get?

noncomputable def xr (n ix : Nat) (a : Int) : R := (List.replicate n none).set ix (some (.int a))
theorem xr_get {n ix i : Nat} {a : Int} {d : D} (h : (xr n ix a)[i]? = some (some d)) : i = ix ∧ d = .int a := by
  unfold xr at h
  by_cases e : i = ix
  · subst e
    rw [List.getElem?_set] at h
    simp only [if_true] at h
    split at h
    · cases h; exact ⟨rfl, rfl⟩
    · cases h
  · rw [List.getElem?_set_ne (Ne.symm e), List.getElem?_replicate] at h
    split at h <;> cases h

theorem gen_loop {A : Around} {env : Env} {fixC : G} {old W : Addr → Prop} {vals : List Int} {St : Nat → Heap → Prop} {It S : Addr} {vs : Array Value} {x : Str} {px ypos epos : Pos} {e : Expr} {ix : Nat} {Fe : Ev} {fr : Frame} {c₁ : Code} {kp : Pos} {RK : Result → Sem Fin} {g : Bool} {l : List Value}
    (hfr : fr = .ret RK none g l c₁ kp []) (hg : g = false)
    (hS : EnvS sc env) (hsk : sc.kind = .function) (hco : sc.isCoroutine = false) (hx : ns[ix]? = some x) (hxl : sc.names.lookup x = some .local) (hns : ns.Nodup)
    (hbase : ∃ h₀, I.Gl h₀ ∧ Sub h₀.get? fixC) (hA : AOK k (A.over (.forLoop (.Name x px) (.ref It) [.Expr (.Yield (some e) ypos) epos] [] env) [fr]))
    (Wk : Walks I.prog I.w (A.over (.forLoop (.Name x px) (.ref It) [.Expr (.Yield (some e) ypos) epos] [] env) [fr]) It [It, S] [It] vs.size (fun i u => vs[i]? = some u) St)
    (hv : ∀ (j : Nat) (u : Value), vs[j]? = some u → ∃ a t, vals[j]? = some a ∧ u = .int a t) (hsz : vs.size = vals.length)
    (he : EvOK I k sc ns e Fe) (hF : ∀ a, Fe (xr ns.length ix a) = some (.int a))
    (hIL : It ≠ env.locals) (hSL : S ≠ env.locals) (hfI : fixC It = none) (hfL : fixC env.locals = none) (hoI : ¬ old It) (hWI : ¬ W It) (hWS : ¬ W S) (hWL : ¬ W env.locals) (hWf : ∀ b o, fixC b = some o → ¬ W b)
    (hend : ∀ s₀ s, GSince env.locals old s₀ s → Seg (model I.prog I.w) A (gR env.locals old) (gY env.locals old W vals) 0 s₀ c₁ (RK (.ok .next)) [] s) :
    ∀ (m j : Nat) (s₀ s : Shared), vals.length - j = m → j ≤ vals.length → LoopSt I env fixC St j s.heap → GSince env.locals old s₀ s →
      Seg (model I.prog I.w) A (gR env.locals old) (gY env.locals old W vals) m s₀ (.forLoop (.Name x px) (.ref It) [.Expr (.Yield (some e) ypos) epos] [] env)
        ((model I.prog I.w).den (.forLoop (.Name x px) (.ref It) [.Expr (.Yield (some e) ypos) epos] [] env)) [fr] s := by
  have hkx : env.kindOf x = some .local := by unfold Env.kindOf; rw [hS.scope]; exact hxl
  have hint : interactive env = false := interactive_fun hS hsk
  intro m
  induction m with
  | zero =>
    intro j s₀ s hm hj hst hsin
    have hjn : j = vs.size := (idx_end hm hj).trans hsz.symm
    refine seg_forLoop rfl (Wk.done s _ _ (hjn ▸ hst.st) fun h₁ tk₁ hk₁ => ?_)
    subst hfr
    refine seg_block_nil (hend _ _ (hsin.step fun b o hb hL q => hk₁ b o (by rw [List.mem_singleton]; exact fun z => hoI (z ▸ hb)) q))
  | succ m ih =>
    intro j s₀ s hm hj hst hsin
    have hlt : j < vs.size := by rw [hsz]; exact (idx_next hm).2.2
    refine seg_forLoop rfl (Wk.item j s _ _ hlt hst.st fun v h₁ tk₁ hPv hst₁ hk₁ => ?_)
    obtain ⟨mm, hmm⟩ := hst.ns
    obtain ⟨a, t, ha, rfl⟩ := hv j v hPv
    have hk₁' : ∀ b o, b ≠ It → s.heap.get? b = some o → h₁.get? b = some o := fun b o hb q => hk₁ b o (by rw [List.mem_singleton]; exact hb) q
    have hn₁ : h₁.Ns env.locals mm := hmm.at' fun o q => hk₁' _ o (Ne.symm hIL) q
    refine wpAny_assign_Name (wpAny_storeName_local hkx hn₁ (fun h₂ hn₂ hs₂ => ?_) (by rw [hS.scope, hsk]; rfl))
    have up₂ : ∀ b o, b ≠ It → b ≠ env.locals → s.heap.get? b = some o → h₂.get? b = some o := fun b o hb hL q => (hs₂.2 b hL).trans (hk₁' b o hb q)
    have fix₂ : Sub fixC h₂.get? := fun b o q => up₂ b o (fun z => by rw [z, hfI] at q; cases q) (fun z => by rw [z, hfL] at q; cases q) (hst.fix b o q)
    have st₂ : St (j + 1) h₂ := Wk.frame (j + 1) h₁ h₂ hst₁ fun b hb o q => by
      refine (hs₂.2 b ?_).trans q
      rcases List.mem_cons.mp hb with rfl | hb
      · exact hIL
      · rw [List.mem_singleton.mp hb]; exact hSL
    obtain ⟨h₀, gl₀, sub₀⟩ := hbase
    have V : View I env ns g0 (xr ns.length ix a) h₂ := {
      sub := g0_sub _
      gl := I.grow gl₀ fun b o q => fix₂ b o (sub₀ b o q)
      var := fun i y d hy hk hd => by
        obtain ⟨rfl, rfl⟩ := xr_get hd
        rw [hx] at hy; cases hy
        exact ⟨.int a t, ⟨t, rfl⟩, .inl ⟨hkx, _, hn₂, by simp⟩⟩ }
    subst hfr hg
    refine seg_execs_cons (seg_Expr_Yield rfl rfl rfl (he env _ g0 _ _ (.int a) _ _ hS hA V (hF a) fun w h₃ tk₃ k₃ hw => ?_) (by rw [hS.scope]; exact hco) hint)
    obtain ⟨t₃, rfl⟩ := hw
    intro kap hkap
    refine ⟨⟨a, t₃, ?_, rfl⟩, hsin.step fun b o hb hL q => k₃ b o (up₂ b o (fun z => hoI (z ▸ hb)) hL q), fun s'' hal => hkap .none s'' ?_⟩
    · have : vals.length - 1 - m = j := idx_eq hm
      rw [this]; exact ha
    show Seg _ A _ _ m s'' _ (.pure (.again (.forLoop (.Name x px) (.ref It) [.Expr (.Yield (some e) ypos) epos] [] env))) _ s''
    refine seg_again rfl (ih (j + 1) s'' s'' (idx_next hm).1 (idx_next hm).2.1 ⟨⟨_, (hn₂.keeps k₃).at' fun o q => hal _ o hWL q⟩, ?_, fun b o q => hal b o (hWf b o q) (k₃ b o (fix₂ b o q))⟩ (GSince.refl _ _ _))
    refine Wk.frame (j + 1) h₂ s''.heap st₂ fun b hb o q => ?_
    rcases List.mem_cons.mp hb with rfl | hb
    · exact hal _ o hWI (k₃ _ o q)
    · rw [List.mem_singleton.mp hb] at q ⊢
      exact hal _ o hWS (k₃ _ o q)
end
end Mine
end
section
open PySem PySem.W PyProof.Rows PySem.Spec
set_option linter.unusedVariables false
set_option Elab.async false
set_option maxRecDepth 100000
namespace Mine
section
variable {I : GI} {k : Nat} {sc : Scope} {ns : List Str}

theorem AOK.over0 {A : Around} {body : List Stmt} {env : Env} (h : AOK (k + 1) A) : AOK k (A.over (.func body env) []) := h.up h.1 (Nat.le_refl _) (Nat.le_refl _)
theorem AOK.over1 {A : Around} {body body' : List Stmt} {env env' : Env} {t : Expr} {it : Value} {RK : Result → Sem Fin} {g : Bool} {l : List Value} {p : Pos} (h : AOK (k + 1) A) : AOK k (A.over (.forLoop t it body' [] env') [.ret RK none g l (.func body env) p []]) := h.up h.1 (Nat.le_refl _) (Nat.le_refl _)

/-- all that stands is leant on, but for the frame's own names -/
noncomputable def allBut (h : Heap) (L : Addr) : G := fun b => if b = L then none else h.get? b
theorem SR.max {env : Env} {own : Nat → Addr} {g fix : G} {σ : St} {h : Heap} (S : SR I env ns own g fix σ h) (hcl : env.cells = []) (hno : ∀ (i : Nat) (l : List D), σ[i]? ≠ some (.mt l)) : SR I env ns own g (allBut h env.locals) σ h := by
  have sf : Sub fix (allBut h env.locals) := fun b o e => by
    unfold allBut
    rw [if_neg (fun q => by rw [q, S.fixL] at e; cases e)]
    exact S.sub b o e
  exact {
    gfix := S.gfix.trans sf
    sub := fun b o e => by
      unfold allBut at e
      split at e
      · cases e
      · exact e
    base := let ⟨h₀, a, b⟩ := S.base; ⟨h₀, a, b.trans sf⟩
    frame := S.frame
    fixL := by unfold allBut; rw [if_pos rfl]
    cells := fun n c hc => by rw [hcl] at hc; cases hc
    apart := fun n n' c hc _ => by rw [hcl] at hc; cases hc
    imm := S.imm
    mtd := fun i x l _ hi => absurd hi (hno i l)
    inj := fun i j l l' hi _ _ => absurd hi (hno i l) }

theorem gen_first {A : Around} {env : Env} {own : Nat → Addr} {g fixC : G} {σ0 σ1 σ2 : St} {s : Shared} {old W : Addr → Prop} {vals : List Int} {x y : Str} {px py ypos epos fpos : Pos} {e : Expr} {ix iy fuel : Nat} {Fe : Ev} {F1 F2 : Run} {st1 st2 : Stmt}
    (hc : ScS sc ns) (hco : sc.isCoroutine = false) (hS : EnvS sc env) (hcl : env.cells = []) (h1 : RunOK I k sc ns (exec st1) F1) (h2 : RunE I k sc ns (exec st2) F2)
    (hr1 : F1 fuel σ0 = some (σ1, .next)) (hr2 : F2 fuel σ1 = some (σ2, .next)) (hno : ∀ (i : Nat) (l : List D), σ0[i]? ≠ some (.mt l)) (hst : σ2[iy]? = some (.mt (intsD vals))) (hz : vals.length ≤ sizeLine)
    (hx : ns[ix]? = some x) (hxl : sc.names.lookup x = some .local) (hy : ns[iy]? = some y) (hyd : (y == ("__debug__" : Str)) = false) (hfold : ∀ v, foldedSetIterable (.Name y py) env v = pure v)
    (he : EvOK I k sc ns e Fe) (hF : ∀ a, Fe (xr ns.length ix a) = some (.int a)) (hA : AOK (k + 1) A)
    (S : SR I env ns own g fixC σ0 s.heap) (hW : ∀ b, W b → (s.heap.get? b).isSome = true ∧ b ≠ env.locals ∧ fixC b = none) (hold : ∀ b, old b → (s.heap.get? b).isSome = true) :
    Seg (model I.prog I.w) A (gR env.locals old) (gY env.locals old W vals) vals.length s
      (.func [st1, st2, .For (.Name x px) (.Name y py) [.Expr (.Yield (some e) ypos) epos] [] fpos] env)
      ((model I.prog I.w).den (.func [st1, st2, .For (.Name x px) (.Name y py) [.Expr (.Yield (some e) ypos) epos] [] fpos] env)) [] s := by
  have Sm := S.max hcl hno
  have hA0 : AOK k (A.over (.func [st1, st2, .For (.Name x px) (.Name y py) [.Expr (.Yield (some e) ypos) epos] [] fpos] env) []) := hA.over0
  refine seg_func (seg_execs_cons (seg_wrap (h1 env _ own g _ σ0 s fuel σ1 .next _ _ hS hA0 Sm hr1 fun own1 g1 fix1 e1 tk1 f1 S1 A1 hf1 => ?_)))
  rw [show f1 = .next from hf1]
  refine seg_execs_cons (seg_wrap (wpAny_noRaise (h2 env _ own1 g1 fix1 σ1 _ fuel σ2 .next _ _ hS hA0 S1 PassesOwn.never hr2 (fun own2 g2 fix2 e2 tk2 f2 S2 A2 hf2 => ?_) fun _ q => nomatch q)))
  rw [show f2 = .next from hf2]
  have AA := A1.trans A2
  have live : ∀ b o, s.heap.get? b = some o → b ≠ env.locals → fix2 b = some o := fun b o q hb => AA.ff b o (by unfold allBut; rw [if_neg hb]; exact q)
  obtain ⟨hh, hO⟩ := S2.mtd iy y (intsD vals) hy hst
  obtain ⟨vs, nn, p1, p2⟩ := hO.obj
  have hl : e2.IsList (own2 iy) vs := ⟨_, p1, rfl, nn, rfl⟩
  refine seg_execs_cons (seg_For hfold (wpAny_Name (loadName_ok (s := { s with heap := e2, toks := tk2 }) hS hc.kind hh (wpAny_pyIter_list hl fun p => ?_)) hyd))
  have hnone := fresh_none e2
  have hfr : ∃ m, e2.Ns env.locals m := S2.frame
  have hLlive : ∃ o, e2.get? env.locals = some o := by obtain ⟨m, o, es, ep, q, r⟩ := hfr; exact ⟨o, q⟩
  have hIL : e2.objs.size ≠ env.locals := fun q => by obtain ⟨o, z⟩ := hLlive; rw [← q, hnone] at z; cases z
  have hIS : own2 iy ≠ e2.objs.size := fun q => by rw [q, hnone] at p1; cases p1
  have fixlive : ∀ b o, fixC b = some o → fix2 b = some o ∧ b ≠ env.locals := fun b o q => by
    have hb : b ≠ env.locals := fun z => by rw [z, S.fixL] at q; cases q
    exact ⟨live b o (S.sub b o q) hb, hb⟩
  have hsin : GSince env.locals old s { s with heap := e2, toks := tk2 } := ⟨e2, tk2, rfl, fun b o _ hb q => S2.sub b o (live b o q hb)⟩
  have Wlive : ∀ b, W b → ∃ o, fix2 b = some o := fun b hb => by
    obtain ⟨q1, q2, _⟩ := hW b hb
    obtain ⟨o, ho⟩ := Option.isSome_iff_exists.mp q1
    exact ⟨o, live b o ho q2⟩
  refine gen_loop (S := own2 iy) (It := e2.objs.size) (vs := vs) (old := old) (fixC := fixC) (ns := ns) (k := k) (sc := sc) (I := I) rfl rfl hS hc.kind hco hx hxl hc.nd
    (let ⟨h₀, a, b⟩ := S.base; ⟨h₀, a, b⟩) hA.over1 (Walks.list hA.over1.1 e2.objs.size (own2 iy) hIS vs) ?_ ?_ he hF hIL hO.loc ?_ S.fixL ?_ ?_ ?_ ?_ ?_ ?_ vals.length 0 s _ rfl (Nat.zero_le _) ?_ ?_
  · intro j u hu
    have hj : j < (intsD vals).length := by
      have h3 := (Array.getElem?_eq_some_iff.mp hu).1
      have h4 := p2.length
      rw [Array.length_toList] at h4
      omega
    obtain ⟨w, hw, hI⟩ := p2.get (List.getElem?_eq_getElem hj)
    have : vs[j]? = some w := by simpa using hw
    rw [hu] at this; cases this
    have hj' : j < vals.length := by rw [intsD_length] at hj; exact hj
    have e3 : (intsD vals)[j] = .int vals[j] := by simp [intsD]
    rw [e3] at hI
    obtain ⟨t, rfl⟩ := hI
    exact ⟨vals[j], t, List.getElem?_eq_getElem hj', rfl⟩
  · have h4 := p2.length
    rw [Array.length_toList, intsD_length] at h4
    exact h4
  · cases q : fixC e2.objs.size with
    | none => rfl
    | some o => have := S2.sub _ o (fixlive _ o q).1; rw [hnone] at this; cases this
  · intro hb
    obtain ⟨o, ho⟩ := Option.isSome_iff_exists.mp (hold _ hb)
    have := S2.sub _ o (live _ o ho hIL)
    rw [hnone] at this; cases this
  · intro hb
    obtain ⟨o, ho⟩ := Wlive _ hb
    have := S2.sub _ o ho
    rw [hnone] at this; cases this
  · intro hb
    obtain ⟨o, ho⟩ := Wlive _ hb
    rw [hO.off] at ho; cases ho
  · exact fun hb => (hW _ hb).2.1 rfl
  · intro b o q hb
    rw [(hW b hb).2.2] at q; cases q
  · intro s₀ s' hs
    exact seg_end (.ok (.ret .none)) ⟨rfl, rfl, hs⟩
  · refine ⟨let ⟨m, q⟩ := hfr; ⟨m, q.keeps (Grow.push _ _)⟩, ⟨⟨_, Heap.get?_push_size _ rfl, rfl, rfl⟩, hl.push _⟩, fun b o q => Heap.get?_push_of_some _ (S2.sub b o (fixlive b o q).1)⟩
  · exact hsin.step (tk := tk2) fun b o _ _ q => Heap.get?_push_of_some _ q
end
end Mine
end
section
open PySem PySem.W PyProof.Rows PySem.Spec
set_option linter.unusedVariables false
set_option Elab.async false
set_option maxRecDepth 100000
namespace Mine
section
variable {I : GI} {k : Nat} {sc : Scope} {ns : List Str}

theorem startSt_no {ds : List D} {n : Nat} : ∀ (j : Nat) (l : List D), (startSt ds n)[j]? ≠ some (.mt l) := fun j l h => by
  rcases startSt_get h with q | ⟨d, _, q⟩ <;> cases q

noncomputable def genObj (g : Nat) (nm qn : Str) (t t' : Tok) : Obj := { cls := .type "generator", data := .fields #[.int g 0, .str nm t, .str qn t'] }
/-- a generator's making -/
theorem gen_call {x : Str} {params : Arguments} {body : List Stmt} {m : Nat} (hat : FnAt I x params body sc) (hc : ScS sc ns) (hm : m ≤ ns.length)
    (hbind : ∀ pm cd doc vs, vs.length = m → bindArgs (Calls.docDef x params body sc pm cd doc) ⟨vs, []⟩ = pure ((ns.take m).zip vs)) (hco : sc.isCoroutine = false) (hgen : sc.isGenerator = true) (hcl : ∀ n, cellsFrom n sc.names [] = []) (hlo : ∀ y ∈ ns, sc.names.lookup y = some .local) :
    ∃ a, I.mg x = some (.ref a) ∧ (∀ h, I.Gl h → Looks (model I.prog I.w) h (keeperOf (.ref a)) .frame) ∧
    ∀ (A : Around) (g fixC : G) (s : Shared) (ds : List D) (vs : List Value) (Q : Value → Shared → Prop) (E : Value → Shared → Prop), A.depth < recursionLimit → I.Gl s.heap → Sub g fixC → Sub fixC s.heap.get? → (∃ h₀, I.Gl h₀ ∧ Sub h₀.get? fixC) → IsL g ds vs → ds.length = m →
      (∀ env h₁ tk o, EnvS sc env → env.frame = some env.locals → env.cells = [] → o = genObj s.gens.size x x tk (tk + 1) → SR I env ns (fun _ => 0) g fixC (startSt ds ns.length) (h₁.push o) → env.locals = s.heap.objs.size → env.locals < h₁.objs.size → Grow s.heap h₁ →
        Q (.ref h₁.objs.size) { s with heap := h₁.push o, toks := tk + 1 + 1, gens := s.gens.push (.fresh (.func body env)) }) → wpAny (model I.prog I.w) A (call (.ref a) vs) Q E s := by
  obtain ⟨a, hmg, hgl⟩ := hat.at_
  refine ⟨a, hmg, fun h hG => ?_, ?_⟩
  · obtain ⟨o, pm, code, doc, ho, hd, _⟩ := hgl h hG
    refine (Looks.ld (part := none) ho).andThen ?_
    rw [hd]; exact Looks.now
  · intro A g fixC s ds vs Q E hroom gl hgf hfs hbase hv hlen P
    obtain ⟨o, pm, code, doc, ho, hd, hcd⟩ := hgl s.heap gl
    have hvl : vs.length = m := by rw [hv.length, hlen]
    refine wpAny_call (codeAny_call_generator (fd := Calls.docDef x params body sc pm code doc) hroom ho hd hco hgen rfl hcd ?_)
    rw [hbind pm code doc vs hvl]
    refine wpAny_pure (wpAny_newFunctionEnv_cells hc.kind ?_ fun env he s₁ X => ?_)
    · intro y hy
      have hmem := List.mem_of_mem_take (List.of_mem_zip (a := y.1) (b := y.2) hy).1
      exact .inl (hlo y.1 hmem)
    · have X' : InCallC s env.locals (bindL env.kindOf ((ns.take m).zip vs) fun _ => none) env.cells (bindC env.kindOf ((ns.take m).zip vs) fun _ => none) s₁ := X
      have esc : env.scope = sc := by rw [he]; rfl
      have eloc : env.locals = s.heap.objs.size := by rw [he]; rfl
      have ecl : env.cells = [] := by rw [he]; exact hcl _
      have hS : EnvS sc env := ⟨esc, by rw [he]; rfl, by rw [he]; rfl, fun y hy => by rw [he]; exact cellsFrom_some' _ _ _ hy⟩
      obtain ⟨h₁, tk₁, rfl⟩ := X'.toInCall.same
      have hkeep : Grow s.heap h₁ := X'.toInCall.keep
      have hnone := fresh_none s.heap
      have S : SR I env ns (fun _ => 0) g fixC (startSt ds ns.length) h₁ := {
        gfix := hgf
        sub := fun b o e => hkeep b o (hfs b o e)
        base := hbase
        frame := ⟨_, X'.toInCall.ns⟩
        fixL := by rw [eloc]; exact Sub.none hfs hnone
        cells := fun n c hc2 => by rw [ecl] at hc2; cases hc2
        apart := fun n n' c h1 _ => by rw [ecl] at h1; cases h1
        imm := fun i y d' hy hd' => by
          rcases startSt_get hd' with q | ⟨d2, q, e⟩
          · cases q
          · cases e
            obtain ⟨v, hv1, hv2⟩ := hv.get q
            refine ⟨v, hv2, ?_⟩
            have hi : i < m := by
              have := (List.getElem?_eq_some_iff.mp q).1
              omega
            have hy' : (ns.take m)[i]? = some y := by rw [List.getElem?_take_of_lt hi]; exact hy
            have nd' : (ns.take m).Nodup := List.Nodup.sublist (List.take_sublist m ns) hc.nd
            have hk : env.kindOf y = some .local := by unfold Env.kindOf; rw [esc]; exact hlo y (List.mem_of_getElem? hy)
            exact .inl ⟨hk, _, X'.toInCall.ns, bindL_get nd' hy' hv1 hk⟩
        mtd := fun i y l _ hd' => absurd hd' (startSt_no i l)
        inj := fun i j l l' hd' _ _ => absurd hd' (startSt_no i l) }
      refine ⟨(I.nolimit gl).keeps hkeep, ?_⟩
      have hLt : env.locals < h₁.objs.size := by
        obtain ⟨m', o', es, ep, e, r⟩ := S.frame
        exact Heap.lt_size e
      exact P env h₁ tk₁ _ hS (by rw [he]; rfl) ecl rfl (S.keep (Grow.push _ _)) eloc hLt hkeep
end
end Mine
end
section
open PySem PySem.W PyProof.Rows PySem.Spec
set_option linter.unusedVariables false
set_option Elab.async false
set_option maxRecDepth 100000
namespace Mine

section
variable {prog : Program} {w : World} {A : Around} {R : Result → Shared → Prop} {ga S : Addr} {n : Nat} {P : Nat → Value → Prop} {St : Nat → Shared → Prop} {Fin : Shared → Prop}

end

section
variable {prog : Program} {w : World} {A : Around} {E : Value → Shared → Prop} {ga : Addr} {n : Nat} {P : Nat → Value → Prop} {St : Nat → Shared → Prop} {Fin : Shared → Prop}
end
end Mine
end
section
open PySem PySem.W PyProof.Rows PySem.Spec
set_option linter.unusedVariables false
set_option Elab.async false
set_option maxRecDepth 100000
namespace Mine
section
variable {I : GI} {k : Nat} {sc : Scope} {ns : List Str}

theorem set_push {B : Array GenState} {x y : GenState} : (B.push y).setIfInBounds B.size x = B.push x := by
  apply Array.ext'
  simp
theorem setGen_push {s : Shared} {B : Array GenState} {x y : GenState} (h : s.gens = B.push y) : s.setGen B.size x = { s with gens := B.push x } := by
  unfold Shared.setGen
  rw [h, set_push]
theorem some_live {h : Heap} {b : Addr} {o : Obj} (q : h.get? b = some o) : (h.get? b).isSome = true := by rw [q]; rfl
end
end Mine
end
section
open PySem PySem.W PyProof.Rows PySem.Spec
set_option linter.unusedVariables false
set_option Elab.async false
set_option maxRecDepth 100000
namespace Mine

section
variable {I : GI} {k : Nat} {sc : Scope} {ns : List Str}

noncomputable def rRetG (F : Ev) : Run := fun _ σ => match F (rdH σ) with
  | some d => some (σ, .ret d)
  | none => none
theorem RW.retG {E : Ev} {N : Nat} {σ : St} {P : St → Fl → Prop} (h : EW E (rdH σ) fun d => P σ (.ret d)) : RW (rRetG E) N σ P := by
  obtain ⟨d, e, p⟩ := h
  exact ⟨_, _, by unfold rRetG; rw [e], p⟩

end
end Mine
end
section
open PySem PySem.W PyProof.Rows PySem.Spec
set_option linter.unusedVariables false
set_option Elab.async false
set_option maxRecDepth 100000
namespace Mine
section
variable {I : GI} {k : Nat} {sc : Scope} {ns : List Str}

/-- a call of a global or built-in name -/
theorem call_name {env : Env} {A : Around} {s : Shared} {x : Str} {px pos : Pos} {args : List Expr} {f : Value} {Q : Value → Shared → Prop} {E : Value → Shared → Prop} (hS : EnvS sc env) (hk : sc.kind = .function) (hx : sc.names.lookup x = some .globalImplicit) (hd : (x == ("__debug__" : Str)) = false) (gl : I.Gl s.heap)
    (hn : I.mg x = some f ∨ (I.mg x = none ∧ x ≠ "__name__" ∧ bootBuiltins x = some f)) (hkp : ∀ h, I.Gl h → ∃ kp, (kp = Keeper.frame ∨ kp = Keeper.machine ∨ kp = Keeper.boundFrame) ∧ Looks (model I.prog I.w) h (keeperOf f) kp)
    (hp : (backTo pos (starEach args env)).any (·.1) = false) (hs : ∃ t rest, backTo pos (starEach args env) = (false, t) :: rest)
    (h : wpAny (model I.prog I.w) A (spliced (backTo pos (starEach args env))) (fun vs s₁ => I.Gl s₁.heap ∧ wpAny (model I.prog I.w) A (call f vs) Q E s₁) E s) : wpAny (model I.prog I.w) A (eval (.Call (.Name x px) args [] pos) env) Q E s := by
  refine Call_ ?_ rfl
  have go : wpAny (model I.prog I.w) A (callWith pos f [] (backTo pos (starEach args env)) []) Q E s := by
    refine callWith_of (P := I.Gl) (by rw [hp]; rfl) hkp ?_
    obtain ⟨t, rest, e⟩ := hs
    rw [e]
    refine Calls.evalArgs_plain ?_
    rw [← e]
    exact h
  have hx' : env.kindOf x = some .globalImplicit := by unfold Env.kindOf; rw [hS.scope]; exact hx
  refine Calls.Name_function_global (hS.scope ▸ hk) hx' ?_ hd
  rcases hn with hn | ⟨hn, hne', hb⟩
  · exact Calls.loadGlobal_global (hS.globals ▸ I.g gl) hn go
  · exact Calls.loadGlobal_builtin (hS.globals ▸ I.g gl) hn (hS.builtins ▸ I.b gl) ((I.boot x hne').trans hb) go

end

end Mine
end
section
open PySem PySem.W PyProof.Rows PySem.Spec
set_option linter.unusedVariables false
set_option Elab.async false
set_option maxRecDepth 100000
namespace Mine
/-! texts as lists of signs -/
noncomputable def mkS (l : List Nat) : Str := ⟨l.toArray⟩
theorem mkS_of (x : Str) : mkS x.cps.toList = x := by unfold mkS; simp
theorem mkS_length (l : List Nat) : (mkS l).length = l.length := by show (l.toArray).size = _; simp
theorem mkS_append (l r : List Nat) : mkS l ++ mkS r = mkS (l ++ r) := by
  show (⟨l.toArray ++ r.toArray⟩ : Str) = _
  unfold mkS; simp
open StrLaws in
section
noncomputable def wordsL : List Nat → List Nat → List (List Nat)
  | cur, [] => if cur = [] then [] else [cur]
  | cur, c :: r => if Unicode.isSpace c = true then (if cur = [] then wordsL [] r else cur :: wordsL [] r) else wordsL (cur ++ [c]) r
noncomputable def curOf (l : List Nat) (i : Nat) : Option Nat → List Nat
  | none => []
  | some b => (l.drop b).take (i - b)
noncomputable def subP (x : Str) (p : Nat × Nat) : Str := Builtin.Str.strSub x p.1 p.2
theorem strSub_mk (l : List Nat) (i j : Nat) : Builtin.Str.strSub (mkS l) i j = mkS ((l.drop i).take (j - i)) := by
  unfold Builtin.Str.strSub mkS
  simp
theorem cur_ne {l : List Nat} {b i : Nat} (hb : b < i) (hi : i ≤ l.length) : (l.drop b).take (i - b) ≠ [] := List.ne_nil_of_length_pos (by
  rw [List.length_take, List.length_drop]
  exact Nat.lt_min.mpr ⟨Nat.sub_pos_of_lt hb, Nat.sub_pos_of_lt (Nat.lt_of_lt_of_le hb hi)⟩)
theorem sw_words (l : List Nat) : ∀ (m i : Nat) (W : Array (Nat × Nat)) (start : Option Nat), i + m = l.length → W.size ≤ i → (∀ b, start = some b → b < i) →
    (swEnd (mkS l) (forIn (List.range' i m) ((none, W, start) : SwSt) (swBody (mkS l) ((mkS l).length + 1))).run).map (subP (mkS l)) = W.toList.map (subP (mkS l)) ++ (wordsL (curOf l i start) (l.drop i)).map mkS
  | 0, i, W, start, hi, hW, hb => by
    have hd : l.drop i = [] := List.drop_of_length_le (Nat.le_of_eq hi.symm)
    rw [hd]
    show (swEnd (mkS l) (none, W, start)).map _ = _
    unfold swEnd
    cases start with
    | none => simp [curOf, wordsL]
    | some b =>
      have hb' := hb b rfl
      have hne : curOf l i (some b) ≠ [] := cur_ne hb' (Nat.le_of_eq hi)
      unfold wordsL
      rw [if_neg hne]
      show ((W.push (b, (mkS l).length)).toList).map _ = _
      rw [Array.toList_push, List.map_append, List.map_cons, List.map_nil, List.map_cons, List.map_nil]
      congr 1
      show [Builtin.Str.strSub (mkS l) b (mkS l).length] = _
      rw [strSub_mk, mkS_length]
      unfold curOf
      rw [show l.length = i from hi.symm]
  | m + 1, i, W, start, hi, hW, hb => by
    have hlt : i < l.length := Nat.lt_of_lt_of_le (Nat.lt_add_of_pos_right (Nat.succ_pos m)) (Nat.le_of_eq hi)
    have hsz : ¬ ((W.size == (mkS l).length + 1) = true) := by
      rw [beq_iff_eq, mkS_length]; exact Nat.ne_of_lt (Nat.lt_succ_of_le (Nat.le_trans hW (Nat.le_of_lt hlt)))
    have hget : (mkS l).cps.getD i 0 = l[i] := by
      show (l.toArray).getD i 0 = _
      simp [Array.getD, hlt]
    have hd : l.drop i = l[i] :: l.drop (i + 1) := List.drop_eq_getElem_cons hlt
    rw [List.range'_succ, List.forIn_cons, hd]
    unfold wordsL
    have cur_succ : ∀ b, b ≤ i → (l.drop b).take (i + 1 - b) = (l.drop b).take (i - b) ++ [l[i]] := fun b hbi => by
      rw [Nat.succ_sub hbi, List.take_add_one]
      congr 1
      rw [List.getElem?_drop, Nat.add_sub_of_le hbi, List.getElem?_eq_getElem hlt]; rfl
    cases hsp : Unicode.isSpace l[i] with
    | true =>
      cases start with
      | none =>
        have e : swBody (mkS l) ((mkS l).length + 1) i (none, W, none) = pure (ForInStep.yield (none, W, none)) := by
          unfold swBody
          simp only [hsz, if_false, hget, hsp]; rfl
        rw [e]
        have ih := sw_words l m (i + 1) W none ((Nat.succ_add_eq_add_succ i m).trans hi) (Nat.le_succ_of_le hW) (fun b q => by cases q)
        simp only [curOf, if_true]
        exact ih
      | some b =>
        have hb' := hb b rfl
        have hne : curOf l i (some b) ≠ [] := cur_ne hb' (Nat.le_of_lt hlt)
        have e : swBody (mkS l) ((mkS l).length + 1) i (none, W, some b) = pure (ForInStep.yield (none, W.push (b, i), none)) := by
          unfold swBody
          simp only [hsz, if_false, hget, hsp]; rfl
        rw [e, if_pos rfl, if_neg hne]
        have ih := sw_words l m (i + 1) (W.push (b, i)) none ((Nat.succ_add_eq_add_succ i m).trans hi) (by rw [Array.size_push]; exact Nat.succ_le_succ hW) (fun b q => by cases q)
        refine (show _ = _ from ih).trans ?_
        rw [Array.toList_push, List.map_append, List.append_assoc]
        congr 1
        show [Builtin.Str.strSub (mkS l) b i] ++ _ = _
        rw [strSub_mk]; rfl
    | false =>
      simp only [Bool.false_eq_true, if_false]
      cases start with
      | none =>
        have e : swBody (mkS l) ((mkS l).length + 1) i (none, W, none) = pure (ForInStep.yield (none, W, some i)) := by
          unfold swBody
          simp only [hsz, if_false, hget, hsp]; rfl
        rw [e]
        have ih := sw_words l m (i + 1) W (some i) ((Nat.succ_add_eq_add_succ i m).trans hi) (Nat.le_succ_of_le hW) (fun b q => by cases q; exact Nat.lt_succ_self _)
        refine (show _ = _ from ih).trans ?_
        have : curOf l (i + 1) (some i) = curOf l i none ++ [l[i]] := by
          unfold curOf
          simp only
          rw [cur_succ i (Nat.le_refl _), Nat.sub_self, List.take_zero]
        rw [this]
      | some b =>
        have hb' := hb b rfl
        have e : swBody (mkS l) ((mkS l).length + 1) i (none, W, some b) = pure (ForInStep.yield (none, W, some b)) := by
          unfold swBody
          simp only [hsz, if_false, hget, hsp]; rfl
        rw [e]
        have ih := sw_words l m (i + 1) W (some b) ((Nat.succ_add_eq_add_succ i m).trans hi) (Nat.le_succ_of_le hW) (fun b' q => by cases q; exact Nat.lt_succ_of_lt hb')
        refine (show _ = _ from ih).trans ?_
        have : curOf l (i + 1) (some b) = curOf l i (some b) ++ [l[i]] := by
          unfold curOf
          simp only
          exact cur_succ b (Nat.le_of_lt hb')
        rw [this]
theorem words_eq (l : List Nat) : Txt.words (mkS l) = (wordsL [] l).map mkS := by
  have h := sw_words l l.length 0 #[] none (Nat.zero_add _) (Nat.le_refl _) (fun b q => by cases q)
  have e : (Builtin.Str.spaceWords (mkS l) ((mkS l).length + 1)).map (subP (mkS l)) = (wordsL [] l).map mkS := by
    rw [sw_eq]
    have : (mkS l).length = l.length := mkS_length l
    refine Eq.trans ?_ (h.trans ?_)
    · rw [mkS_length l]
    · simp [curOf]
  have ew : PySem.wordsOf (mkS l) = (Builtin.Str.spaceWords (mkS l) ((mkS l).length + 1)).map (subP (mkS l)) := by
    unfold PySem.wordsOf
    apply List.map_congr_left
    intro ⟨a, b⟩ _
    rfl
  unfold Txt.words
  split
  · rename_i hq
    have hq' := eq_of_beq hq
    rw [hq'] at e
    rw [← e]
    show _ = [Builtin.Str.strSub (mkS l) 0 (mkS l).length]
    rw [strSub_mk, mkS_length, List.drop_zero, Nat.sub_zero, List.take_length]
  · rw [← e, ← ew]
end
noncomputable def noSp (t : List Nat) : Prop := ∀ c ∈ t, Unicode.isSpace c = false
noncomputable def allSp (t : List Nat) : Prop := ∀ c ∈ t, Unicode.isSpace c = true
theorem wordsL_tok {t : List Nat} (h : noSp t) : ∀ (cur r : List Nat), wordsL cur (t ++ r) = wordsL (cur ++ t) r := by
  induction t with
  | nil => intro cur r; rw [List.nil_append, List.append_nil]
  | cons c t ih =>
    intro cur r
    have hc := h c (.head _)
    rw [List.cons_append, wordsL, hc]
    simp only [Bool.false_eq_true, if_false]
    rw [ih (fun d hd => h d (.tail _ hd)), List.append_assoc]; rfl
theorem wordsL_sp0 {b : List Nat} (h : allSp b) : ∀ r : List Nat, wordsL [] (b ++ r) = wordsL [] r := by
  induction b with
  | nil => intro r; rfl
  | cons c b ih =>
    intro r
    rw [List.cons_append, wordsL, h c (.head _)]
    simp only [if_true]
    exact ih (fun d hd => h d (.tail _ hd)) r
theorem wordsL_sp {b cur : List Nat} (h : allSp b) (hb : b ≠ []) (hc : cur ≠ []) (r : List Nat) : wordsL cur (b ++ r) = cur :: wordsL [] r := by
  cases b with
  | nil => exact absurd rfl hb
  | cons c b =>
    rw [List.cons_append, wordsL, h c (.head _)]
    simp only [if_true, if_neg hc]
    rw [wordsL_sp0 (fun d hd => h d (.tail _ hd))]
end Mine
end
section
open PySem PySem.W PyProof.Rows PySem.Spec
set_option linter.unusedVariables false
set_option linter.unusedSimpArgs false
set_option Elab.async false
set_option maxRecDepth 100000
namespace Mine
/-! figures -/
noncomputable def isDg (c : Nat) : Bool := decide (48 ≤ c) && decide (c ≤ 57)
theorem isDg_iff {c : Nat} : isDg c = true ↔ 48 ≤ c ∧ c ≤ 57 := by unfold isDg; simp
noncomputable def dgs (m : Nat) : List Nat := (Nat.toDigits 10 m).map Char.toNat
theorem dgs_all (m : Nat) : ∀ c ∈ dgs m, 48 ≤ c ∧ c ≤ 57 := fun c hc => by
  obtain ⟨ch, hch, e⟩ := List.mem_map.mp hc
  have r := digit_range (Nat.isDigit_of_mem_toDigits (by decide) (by decide) hch)
  rw [← e]; exact r
theorem dgs_ne (m : Nat) : dgs m ≠ [] := fun e => by
  have h := toDigits_len_ge 10 m
  rw [List.map_eq_nil_iff.mp e] at h
  exact absurd h (by decide)
theorem dgs_val (m : Nat) : NumText.digitsVal (dgs m) = m := KIN.val_back m
theorem dgs_len : ∀ (k m : Nat), m < 10 ^ (k + 1) → (dgs m).length ≤ k + 1
  | 0, m, h => by
    unfold dgs
    rw [Nat.toDigits_of_lt_base (by simpa using h)]; simp
  | k + 1, m, h => by
    by_cases hs : m < 10
    · unfold dgs
      rw [Nat.toDigits_of_lt_base hs]; simp
    · have hm : m % 10 < 10 := Nat.mod_lt m (by decide)
      have t : Nat.toDigits 10 (m / 10) ++ Nat.toDigits 10 (m % 10) = Nat.toDigits 10 (10 * (m / 10) + m % 10) := Nat.toDigits_append_toDigits (by decide) (Nat.div_pos (Nat.not_lt.mp hs) (by decide)) hm
      rw [Nat.div_add_mod] at t
      have ih := dgs_len k (m / 10) (Nat.div_lt_of_lt_mul (by rw [Nat.mul_comm, ← Nat.pow_succ]; exact h))
      unfold dgs at ih ⊢
      rw [← t, List.map_append, List.length_append, Nat.toDigits_of_lt_base hm]
      exact Nat.succ_le_succ ih
/-- an int's text -/
noncomputable def numL (a : Int) : List Nat := if a < 0 then 45 :: dgs a.natAbs else dgs a.natAbs
theorem str_num (a : Int) : Str.ofString (toString a) = mkS (numL a) := by
  rw [← mkS_of (Str.ofString (toString a))]
  congr 1
  unfold numL
  cases a with
  | ofNat m =>
    rw [if_neg (show ¬ (Int.ofNat m < 0) from Int.not_lt.mpr (Int.natCast_nonneg m))]
    exact KIN.signs_num m
  | negSucc m =>
    rw [if_pos (Int.negSucc_lt_zero m), signs_ofString]
    show ("-" ++ Nat.repr (m + 1)).toList.map Char.toNat = _
    rw [String.toList_append, List.map_append, Nat.toList_repr]
    rfl
theorem numL_nat (m : Nat) : numL (m : Int) = dgs m := by
  unfold numL
  rw [if_neg (by omega), Int.natAbs_natCast]
theorem numL_ne (a : Int) : numL a ≠ [] := by
  unfold numL
  split
  · simp
  · exact dgs_ne _
theorem numL_len {k : Nat} {a : Int} (h : a.natAbs < 10 ^ (k + 1)) : (numL a).length ≤ k + 2 := by
  have := dgs_len k a.natAbs h
  unfold numL
  split
  · exact Nat.succ_le_succ this
  · exact Nat.le_succ_of_le this
theorem dg_key : (List.range 58).all (fun c => decide (c < 48) || !Unicode.isSpace c) = true := by decide +kernel
theorem dg_noSp {c : Nat} (h : 48 ≤ c ∧ c ≤ 57) : Unicode.isSpace c = false := by
  rcases Bool.or_eq_true_iff.mp (List.all_eq_true.mp dg_key c (List.mem_range.mpr (Nat.lt_succ_of_le h.2))) with q | q
  · exact absurd h.1 (Nat.not_le.mpr (of_decide_eq_true q))
  · exact (Bool.not_eq_true' _).mp q
theorem dgs_noSp (m : Nat) : noSp (dgs m) := fun c hc => dg_noSp (dgs_all m c hc)
theorem numL_noSp (a : Int) : noSp (numL a) := by
  unfold numL
  split
  · intro c hc
    rcases List.mem_cons.mp hc with rfl | hc
    · decide +kernel
    · exact dgs_noSp _ c hc
  · exact dgs_noSp _

/-- tokens of ints: figures, or - and figures -/
noncomputable def NumTok (l : List Nat) (n : Int) : Prop := l.length ≤ 640 ∧ ((l ≠ [] ∧ (∀ c ∈ l, 48 ≤ c ∧ c ≤ 57) ∧ n = (NumText.digitsVal l : Nat)) ∨ ∃ ds, l = 45 :: ds ∧ ds ≠ [] ∧ (∀ c ∈ ds, 48 ≤ c ∧ c ≤ 57) ∧ n = -(NumText.digitsVal ds : Nat))
theorem NumTok.num {a : Int} (h : a.natAbs < 10 ^ 600) : NumTok (numL a) a := by
  refine ⟨Nat.le_trans (numL_len (k := 599) h) (by decide), ?_⟩
  unfold numL
  by_cases ha : a < 0
  · rw [if_pos ha]
    refine .inr ⟨_, rfl, dgs_ne _, dgs_all _, ?_⟩
    rw [dgs_val]; omega
  · rw [if_neg ha]
    refine .inl ⟨dgs_ne _, dgs_all _, ?_⟩
    rw [dgs_val]; omega
theorem NumTok.reads {l : List Nat} {n : Int} (h : NumTok l n) : fInt [.str (mkS l)] = some (.int n) := by
  obtain ⟨hl, h⟩ := h
  have e : PySem.intText? (mkS l) = some n := by
    rcases h with ⟨h1, h2, rfl⟩ | ⟨ds, rfl, h1, h2, rfl⟩
    · exact intText_digits (x := mkS l) h2 h1 (by rw [mkS_length]; omega)
    · exact intText_neg (x := mkS (45 :: ds)) rfl h2 h1 (by rw [mkS_length]; omega)
  unfold fInt
  simp only [mkS_length, hl, if_true, e]
theorem NumTok.all {l : List Nat} {n : Int} (h : NumTok l n) : (l.all isDg = true) ∨ (l.all isDg = false ∧ ∃ ds, l = 45 :: ds ∧ ds ≠ [] ∧ ds.all isDg = true) := by
  obtain ⟨hl, h⟩ := h
  rcases h with ⟨h1, h2, _⟩ | ⟨ds, rfl, h1, h2, _⟩
  · exact .inl (List.all_eq_true.mpr fun c hc => isDg_iff.mpr (h2 c hc))
  · exact .inr ⟨by rw [List.all_cons]; rfl, ds, rfl, h1, List.all_eq_true.mpr fun c hc => isDg_iff.mpr (h2 c hc)⟩

/-! the tests of texts -/
noncomputable def chD (c : Nat) : D := .str (mkS [c])
theorem itemsS {l : List Nat} (h : l.length ≤ 10000) : itemsOf (.str (mkS l)) = some (l.map chD) := by
  show (if (mkS l).length ≤ sizeLine then some ((mkS l).cps.toList.map fun c => D.str ⟨#[c]⟩) else none) = _
  rw [mkS_length, if_pos (Nat.le_trans h sizeLine_ge)]; rfl
theorem figS_eq : (Str.ofString "1234567890").cps.toList = [49, 50, 51, 52, 53, 54, 55, 56, 57, 48] := by decide +kernel
theorem fig_key : (List.range 58).all (fun c => decide (c ∈ [49, 50, 51, 52, 53, 54, 55, 56, 57, 48]) == isDg c) = true := by decide +kernel
theorem contains_fig (c : Nat) : Txt.contains (Str.ofString "1234567890") (mkS [c]) = isDg c := by
  unfold Txt.contains
  rw [show mkS [c] = ⟨#[c]⟩ from rfl, StrLaws.found_one, figS_eq]
  by_cases h : c < 58
  · exact eq_of_beq (List.all_eq_true.mp fig_key c (List.mem_range.mpr h))
  · have h1 : decide (c ∈ [49, 50, 51, 52, 53, 54, 55, 56, 57, 48]) = false := decide_eq_false fun q => h ((by decide : ∀ x ∈ [49, 50, 51, 52, 53, 54, 55, 56, 57, 48], x < 58) c q)
    have h2 : isDg c = false := by
      unfold isDg
      rw [decide_eq_false (p := c ≤ 57) fun q => h (Nat.lt_succ_of_le q), Bool.and_false]
    exact h1.trans h2.symm
section
variable {r : R} {Q : D → Prop} {G : Ev}
theorem comp_dgs : ∀ (l : List Nat), compL (eVar 0) (tOf (e2 (fInS true) (eVar 0) (eCst (.str (Str.ofString "1234567890"))))) r (l.map chD) = some ((l.filter fun c => !isDg c).map chD)
  | [] => rfl
  | c :: l => by
    have ih := comp_dgs l
    rw [List.map_cons]
    unfold compL
    have ht : tOf (e2 (fInS true) (eVar 0) (eCst (.str (Str.ofString "1234567890")))) (some (chD c) :: r) = some (!isDg c) := by
      show (match (some (D.bool (true ^^ Txt.contains (Str.ofString "1234567890") (mkS [c]))) : Option D) with | some x => fTruth x | none => none) = _
      rw [contains_fig, Bool.true_xor]; rfl
    rw [if_pos (show flat (chD c) = true from rfl), ht, List.filter_cons]
    cases isDg c with
    | true => simp only [Bool.not_true]; exact ih
    | false =>
      simp only [Bool.not_false, if_true, List.map_cons]
      have he : eVar 0 (some (chD c) :: r) = some (chD c) := rfl
      rw [he, ih]
      rfl
theorem EW.dgs {l : List Nat} (hl : l.length ≤ 10000) (hG : EW G r fun d => d = .str (mkS l)) (k : Q (.lst ((l.filter fun c => !isDg c).map chD))) : EW (eComp (eVar 0) (tOf (Mine.e2 (fInS true) (eVar 0) (eCst (.str (Str.ofString "1234567890"))))) G) r Q := by
  obtain ⟨d, e, rfl⟩ := hG
  refine ⟨_, ?_, k⟩
  unfold eComp
  simp only [e, itemsS hl, comp_dgs]
end
/-- plain data that may be compared -/
noncomputable def flatO : D → Bool
  | .none | .bool _ | .int _ => true
  | .str x => PyData.strOk x
  | _ => false
theorem flats {l : List D} (h : ∀ x ∈ l, flatO x = true) : noRngL l = true ∧ PyData.canLayAll0 (pyL l) = true ∧ PyData.depthAll (pyL l) = 0 := by
  induction l with
  | nil => exact ⟨rfl, rfl, rfl⟩
  | cons x l ih =>
    obtain ⟨h1, h2, h3⟩ := ih fun y hy => h y (.tail _ hy)
    have hx := h x (.head _)
    cases x with
    | str y => exact ⟨h1, Bool.and_eq_true_iff.mpr ⟨hx, h2⟩, by show max 0 (PyData.depthAll (pyL l)) = 0; rw [h3]; rfl⟩
    | tup _ => cases hx
    | lst _ => cases hx
    | rng _ _ _ => cases hx
    | adr _ => cases hx
    | _ => exact ⟨h1, h2, by show max 0 (PyData.depthAll (pyL l)) = 0; rw [h3]; rfl⟩
theorem eqOk_flats {l r : List D} (h : ∀ x ∈ l, flatO x = true) (h' : ∀ x ∈ r, flatO x = true) : eqOk (.lst l) (.lst r) = true := by
  obtain ⟨a1, a2, a3⟩ := flats h
  obtain ⟨b1, b2, b3⟩ := flats h'
  show (noRngL l && noRngL r && (PyData.canLayAll0 (pyL l) && decide (PyData.depthAll (pyL l) + 1 ≤ 64)) && (PyData.canLayAll0 (pyL r) && decide (PyData.depthAll (pyL r) + 1 ≤ 64))) = true
  rw [a1, a2, a3, b1, b2, b3]; rfl
theorem strOk_ch {c : Nat} (h : c < 128) : PyData.strOk (mkS [c]) = true := by
  show (#[c] : Array Nat).all (· < 0x110000) = true
  simp; omega
theorem OW.eqNil {l : List Nat} {Q : D → Prop} (hl : ∀ c ∈ l, c < 128) (k : Q (.bool (l.all isDg))) : OW fEq (.lst ((l.filter fun c => !isDg c).map chD)) (.lst []) Q := by
  refine ⟨_, ?_, k⟩
  show (if eqOk _ _ = true then some (D.bool (PyData.eqvAll (pyL _) [])) else none) = _
  rw [if_pos (eqOk_flats (fun x hx => by obtain ⟨c, hc, rfl⟩ := List.mem_map.mp hx; exact strOk_ch (hl c (List.mem_filter.mp hc).1)) (fun x hx => by cases hx))]
  congr 2
  clear k hl
  induction l with
  | nil => rfl
  | cons c l ih =>
    rw [List.filter_cons, List.all_cons]
    cases isDg c with
    | true => simp only [Bool.not_true, Bool.true_and, Bool.false_eq_true, if_false]; exact ih
    | false => rfl
/-- two rows of ints -/
theorem eqv_ints : ∀ (l r : List Int), PyData.eqvAll (pyL (intsD l)) (pyL (intsD r)) = (l == r)
  | [], [] => rfl
  | [], _ :: _ => rfl
  | _ :: _, [] => rfl
  | a :: l, b :: r => by
    have ih := eqv_ints l r
    show (a == b && PyData.eqvAll (pyL (intsD l)) (pyL (intsD r))) = _
    rw [ih]; rfl
theorem intsD_flatO {l : List Int} : ∀ x ∈ intsD l, flatO x = true := fun x hx => by obtain ⟨y, _, rfl⟩ := List.mem_map.mp hx; rfl
noncomputable def asB : Option D → Option Bool
  | some (.bool b) => some b
  | _ => none
theorem asB_eq {o : Option D} {b : Bool} (h : asB o = some b) : o = some (.bool b) := by
  cases o with
  | none => exact no_some h
  | some x =>
    cases x with
    | bool c => cases h; rfl
    | _ => exact no_some h
theorem OW.clT {f : D → D → Option D} {x y : D} {Q : D → Prop} (h : asB (f x y) = some true) (k : Q (.bool true)) : OW f x y Q := ⟨_, asB_eq h, k⟩
theorem OW.clF {f : D → D → Option D} {x y : D} {Q : D → Prop} (h : asB (f x y) = some false) (k : Q (.bool false)) : OW f x y Q := ⟨_, asB_eq h, k⟩
theorem IfK.hT {b : Bool} {p q : Prop} (hb : b = true) (h : p) : IfK b p q := by rw [hb]; exact h
theorem IfK.hF {b : Bool} {p q : Prop} (hb : b = false) (h : q) : IfK b p q := by rw [hb]; exact h
theorem OW.addS {l r : List Nat} {Q : D → Prop} (h : l.length + r.length ≤ 10000) (k : Q (.str (mkS (l ++ r)))) : OW fAdd (.str (mkS l)) (.str (mkS r)) Q := ⟨_, by
  show (if (mkS l).length + (mkS r).length ≤ sizeLine then some (D.str (mkS l ++ mkS r)) else none) = _
  rw [mkS_length, mkS_length, if_pos (Nat.le_trans h sizeLine_ge), mkS_append], k⟩
theorem CW.str {a : Int} {Q : D → Prop} (h : a.natAbs < 10 ^ 600) (k : Q (.str (mkS (numL a)))) : CW fStr [.int a] Q := ⟨_, by
  show (if a.natAbs < 10 ^ 4300 then some (D.str (Str.ofString (toString a))) else none) = _
  rw [if_pos (Nat.lt_of_lt_of_le h (Nat.pow_le_pow_right (by decide) (by decide))), str_num], k⟩
theorem CW.intT {l : List Nat} {n : Int} {Q : D → Prop} (h : NumTok l n) (k : Q (.int n)) : CW fInt [.str (mkS l)] Q := ⟨_, h.reads, k⟩
theorem UW.split {ts : List (List Nat)} {l : List Nat} {Q : D → Prop} (hl : l.length ≤ 9999) (h : wordsL [] l = ts) (k : Q (.lst (ts.map fun t => .str (mkS t)))) : UW fSplit (.str (mkS l)) Q := ⟨_, by
  show (if (mkS l).length + 1 ≤ sizeLine then some (D.lst (strsD (Txt.words (mkS l)))) else none) = _
  have := sizeLine_ge
  rw [mkS_length, if_pos (by omega), words_eq, h]
  unfold strsD
  rw [List.map_map]; rfl, k⟩
theorem OW.sloS {l : List Nat} {i : Nat} {Q : D → Prop} (hi : i ≤ l.length) (hl : l.length ≤ 10000) (k : Q (.str (mkS (l.drop i)))) : OW fSloS (.str (mkS l)) (.int (i : Int)) Q := ⟨_, by
  show (if 0 ≤ (i : Int) ∧ (i : Int) ≤ (mkS l).length ∧ (mkS l).length ≤ sizeLine then some (D.str ⟨((mkS l).cps.toList.drop (i : Int).toNat).toArray⟩) else none) = _
  have := sizeLine_ge
  rw [mkS_length, if_pos ⟨by omega, by omega, by omega⟩, Int.toNat_natCast]; rfl, k⟩
theorem CW.lenS {l : List Nat} {Q : D → Prop} (hl : l.length ≤ 10000) (k : Q (.int (l.length : Int))) : CW fLen [.str (mkS l)] Q := ⟨_, by
  show (if (mkS l).length ≤ sizeLine then some (D.int (((mkS l).length : Nat) : Int)) else none) = _
  rw [mkS_length, if_pos (Nat.le_trans hl sizeLine_ge)], k⟩
theorem RW.pop {σ : St} {i j : Nat} {N : Nat} {P : St → Fl → Prop} {l : List D} {d : D} (hx : σ[i]? = some (.mt (l ++ [d]))) (hl : l.length ≤ 9999) (h : PutAt σ i (.mt l) fun σ₁ => PutAt σ₁ j (.imm d) fun σ' => P σ' .next) : RW (rPop i j) N σ P := by
  obtain ⟨hi, hj, p⟩ := h
  refine ⟨_, _, ?_, p⟩
  unfold rPop
  have := sizeLine_ge
  rw [hx]
  simp only [List.length_append, List.length_cons, List.length_nil, List.getLast?_append, List.getLast?_singleton, Option.some_or, List.dropLast_concat]
  rw [if_pos (by omega)]
end Mine
end
section
open PySem PySem.W PyProof.Rows PySem.Spec
set_option linter.unusedVariables false
set_option linter.unusedSimpArgs false
set_option Elab.async false
set_option maxRecDepth 100000
namespace Mine
end Mine
namespace Mine
section
open PySem
variable {P : List Value → Prop}
theorem vs0 (h : P []) : ∀ vs : List Value, vs.length = 0 → P vs := fun vs e => by
  cases vs with
  | nil => exact h
  | cons a r => exact absurd e (Nat.succ_ne_zero _)
theorem vsS {n : Nat} (h : ∀ a, ∀ vs : List Value, vs.length = n → P (a :: vs)) : ∀ vs : List Value, vs.length = n + 1 → P vs := fun vs e => by
  cases vs with
  | nil => exact absurd e.symm (Nat.succ_ne_zero _)
  | cons a r => exact h a r (Nat.succ.inj e)
end
section
open PySem
variable {P : List Value → Prop}
theorem vs1 (h : ∀ a, P [a]) : ∀ vs : List Value, vs.length = 1 → P vs := vsS fun a => vs0 (h a)
theorem vs2 (h : ∀ a b, P [a, b]) : ∀ vs : List Value, vs.length = 2 → P vs := vsS fun a => vsS fun b => vs0 (h a b)
theorem vs3 (h : ∀ a b c, P [a, b, c]) : ∀ vs : List Value, vs.length = 3 → P vs := vsS fun a => vsS fun b => vsS fun c => vs0 (h a b c)
theorem vs4 (h : ∀ a b c d, P [a, b, c, d]) : ∀ vs : List Value, vs.length = 4 → P vs := vsS fun a => vsS fun b => vsS fun c => vsS fun d => vs0 (h a b c d)
end
noncomputable def StopIf : Prop := True
theorem IfK.gd {c p q : Prop} [Decidable c] (h : IfK (decide c) p q) : IfK (decide c) p q := h
theorem sub_next {n t : Nat} (h : t < n) : ∃ u, n - t = u + 1 ∧ u = n - (t + 1) := ⟨_, (Nat.succ_pred_eq_of_pos (Nat.sub_pos_of_lt h)).symm, rfl⟩
end Mine
namespace Mine
section
variable {r : R} {Q : D → Prop}
theorem EW.dgsVar {i : Nat} {l : List Nat} (hr : r[i]? = some (some (.str (mkS l)))) (hl : l.length ≤ 10000) (k : Q (.lst ((l.filter fun c => !isDg c).map chD))) : EW (eComp (eVar 0) (tOf (Mine.e2 (fInS true) (eVar 0) (eCst (.str (Str.ofString "1234567890"))))) (eVar i)) r Q :=
  EW.dgs hl (EW.var hr rfl) k
theorem EW.dgsTail {i c : Nat} {l : List Nat} (hr : r[i]? = some (some (.str (mkS (c :: l))))) (hl : l.length ≤ 9999) (k : Q (.lst ((l.filter fun c => !isDg c).map chD))) : EW (eComp (eVar 0) (tOf (Mine.e2 (fInS true) (eVar 0) (eCst (.str (Str.ofString "1234567890"))))) (Mine.e2 fSloS (eVar i) (eCst (.int 1)))) r Q :=
  EW.dgs (Nat.le_succ_of_le hl) (EW.e2 (EW.var hr (EW.cst (OW.sloS (i := 1) (by rw [List.length_cons]; omega) (by rw [List.length_cons]; omega) rfl)))) k
end
/-! rpn's signs -/
inductive Op2 | add | sub | mul | mulx | div | divv | mod | pow | powx
inductive Op1 | fac | fct | prm | prp
noncomputable def op2S : Op2 → List Nat
  | .add => [43] | .sub => [45] | .mul => [42] | .mulx => [120] | .div => [47] | .divv => [47, 47] | .mod => [37] | .pow => [42, 42] | .powx => [120, 120]
noncomputable def op1S : Op1 → List Nat
  | .fac => [33] | .fct => [102] | .prm => [35] | .prp => [112]
noncomputable def op2 (a b : Int) : Op2 → Option Int
  | .add => some (a + b)
  | .sub => some (a - b)
  | .mul | .mulx => if mulOk a b = true then some (a * b) else none
  | .div | .divv => if divOk a b = true then some (a.fdiv b) else none
  | .mod => if b ≠ 0 then some (a.fmod b) else none
  | .pow | .powx => if powOk a b = true then some (a ^ b.toNat) else none
noncomputable def facI (a : Int) : Int := prodI (upI 1 a.toNat)
noncomputable def prmI (a : Int) : Int := prodI (natI (pgR (a.toNat - 1)))
noncomputable def op1 (a : Int) : Op1 → Option Int
  | .fac | .fct => if a ≤ 100 then some (facI a) else none
  | .prm | .prp => if a ≤ 100 then some (prmI a) else none
inductive StepT : List Nat → List Int → List Int → Prop
  | num {t : List Nat} {n : Int} {st : List Int} (h : NumTok t n) : StepT t st (st ++ [n])
  | two {o : Op2} {a b c : Int} {st : List Int} (h : op2 a b o = some c) : StepT (op2S o) (st ++ [a] ++ [b]) (st ++ [c])
  | one {o : Op1} {a c : Int} {st : List Int} (h : op1 a o = some c) : StepT (op1S o) (st ++ [a]) (st ++ [c])
theorem intsD_snoc (st : List Int) (a : Int) : intsD (st ++ [a]) = intsD st ++ [.int a] := by simp [intsD]
end Mine
namespace Mine
theorem asIntL_ints : ∀ l : List Int, asIntL (intsD l) = some l
  | [] => rfl
  | a :: l => by
    show (match asIntL (intsD l) with | some l => some (a :: l) | none => none) = _
    rw [asIntL_ints l]
noncomputable def strT (t : List Nat) : D := .str (mkS t)
theorem items_strs {ts : List (List Nat)} (h : ts.length ≤ 10000) : itemsOf (.lst (ts.map strT)) = some (ts.map strT) := items_lst (by rw [List.length_map]; exact h)
theorem numTok_128 {l : List Nat} {n : Int} (h : NumTok l n) : ∀ c ∈ l, c < 128 := by
  obtain ⟨_, h⟩ := h
  rcases h with ⟨_, h2, _⟩ | ⟨ds, rfl, _, h2, _⟩
  · exact fun c hc => by have := h2 c hc; omega
  · intro c hc
    rcases List.mem_cons.mp hc with rfl | hc
    · decide
    · have := h2 c hc; omega
end Mine
namespace Mine
end Mine
end
section
open PySem PySem.W PyProof.Rows PySem.Spec
set_option linter.unusedVariables false
set_option linter.unusedSimpArgs false
set_option Elab.async false
set_option maxRecDepth 100000
namespace Mine
/-! law 04's numbers -/
noncomputable def atI (row ns : List Int) (p : Nat) : Int := match ns[p]? with
  | some x => x
  | none => row.getD (p % row.length) 0
noncomputable def cutI (v t : Int) : Int := if v < 0 then -((-v).fmod t) else v.fmod t
/-- the primes as the law finds them -/
noncomputable def isPr (n : Nat) : Bool := (List.range n).all fun d => d < 2 || n % d != 0
noncomputable def lprS (l : List Nat) (n : Nat) : List Nat := if isPr n = true then l ++ [n] else l
noncomputable def lpr : Nat → List Nat
  | 0 => []
  | k + 1 => lprS (lpr k) (k + 2)
end Mine
end
section
open PySem PySem.W PyProof.Rows PySem.Spec
set_option linter.unusedVariables false
set_option Elab.async false
set_option maxRecDepth 100000
namespace Mine
section
variable {I : GI} {k : Nat} {sc : Scope} {ns : List Str}

theorem RunE.cons {st : Stmt} {rest : List Stmt} {F Fs : Run} (h : RunE I k sc ns (exec st) F) (hs : RunE I k sc ns (execs rest) Fs) : RunE I k sc ns (execs (st :: rest)) (rSeq F Fs) := by
  intro env A own g fix σ s fuel σ' fl Q E hS hA S hE hF P PE
  unfold rSeq at hF
  refine wpAny_execs_cons ?_
  split at hF
  · rename_i σ₁ h1
    refine h env A own g fix σ s fuel σ₁ .next _ E hS hA S hE h1 (fun own₁ g₁ fix₁ h₁ tk₁ f S₁ A₁ hf => ?_) fun _ q => nomatch q
    rw [show f = .next from hf]
    exact hs env A own₁ g₁ fix₁ σ₁ _ fuel σ' fl Q E hS hA S₁ hE hF (fun own₂ g₂ fix₂ h₂ tk₂ f₂ S₂ A₂ hf₂ => P own₂ g₂ fix₂ h₂ tk₂ f₂ S₂ (A₁.trans A₂) hf₂) fun c hc h₂ h' tk e s2 => PE c hc h₂ h' tk e fun b o q => s2 b o (A₁.ff b o q)
  · rename_i hne
    refine h env A own g fix σ s fuel σ' fl _ E hS hA S hE hF (fun own₁ g₁ fix₁ h₁ tk₁ f S₁ A₁ hf => ?_) PE
    have q := P own₁ g₁ fix₁ h₁ tk₁ f S₁ A₁ hf
    cases fl with
    | next => exact absurd hF (hne σ')
    | cont => rw [show f = .cont from hf] at q ⊢; exact q
    | ret d => obtain ⟨v, gR, rfl, _⟩ := hf; exact q
    | exc c => exact hf.elim
theorem RunE.nil : RunE I k sc ns (execs []) rNil := RunE.of RunOK.nil
theorem RunE.ifS {test : Expr} {body orelse : List Stmt} {pos : Pos} {T : Tr} {F F' : Run} (ht : TrOK I k sc ns test T) (hb : RunE I k sc ns (execs body) F) (ho : RunE I k sc ns (execs orelse) F') :
    RunE I k sc ns (exec (.If test body orelse pos)) (rIf T F F') := by
  intro env A own g fix σ s fuel σ' fl Q E hS hA S hE hF P PE
  unfold rIf at hF
  have up : ∀ {h₁ : Heap}, Sub fix (ext fix s.heap h₁) := fun {h₁} => ext_sub S.sub
  split at hF
  · rename_i hT
    refine wpAny_If (ht env A _ (rdF σ) s true _ E hS hA S.viewF hT fun h₁ tk₁ kk => ?_)
    exact hb env A own _ _ σ _ fuel σ' fl Q E hS hA (S.grow kk) hE hF (fun own₂ g₂ fix₂ h₂ tk₂ f₂ S₂ A₂ hf₂ => P own₂ g₂ fix₂ h₂ tk₂ f₂ S₂ ((After.grow (S.gfix.trans S.sub) S.sub).trans A₂) hf₂)
      fun c hc h₂ h' tk e s2 => PE c hc h₂ h' tk e (up.trans s2)
  · rename_i hT
    refine wpAny_If (ht env A _ (rdF σ) s false _ E hS hA S.viewF hT fun h₁ tk₁ kk => ?_)
    exact ho env A own _ _ σ _ fuel σ' fl Q E hS hA (S.grow kk) hE hF (fun own₂ g₂ fix₂ h₂ tk₂ f₂ S₂ A₂ hf₂ => P own₂ g₂ fix₂ h₂ tk₂ f₂ S₂ ((After.grow (S.gfix.trans S.sub) S.sub).trans A₂) hf₂)
      fun c hc h₂ h' tk e s2 => PE c hc h₂ h' tk e (up.trans s2)
  · cases hF

/-- x = l op r, where the right side may be 0 -/
noncomputable def isZ : D → Bool
  | .int b => b == 0
  | _ => false
noncomputable def isInt : D → Bool
  | .int _ => true
  | _ => false
noncomputable def rAsgZ (i : Nat) (f : D → D → Option D) (F G : Ev) : Run := fun fuel σ => match F (rdH σ), G (rdH σ) with
  | some x, some y => if (isInt x && isZ y) = true then some (σ, .exc "ZeroDivisionError") else rAsg i (e2 f F G) fuel σ
  | _, _ => none
noncomputable def ZOp (I : GI) (op : Operator) : Prop := ∀ (A : Around) (s : Shared) (a : Int) (t u : Tok) (Q : Value → Shared → Prop) (E : Value → Shared → Prop), A.handled = none →
  (∀ h' tk e, Heap.NewExc s.heap h' e "ZeroDivisionError" → E (.ref e) { s with heap := h', toks := tk }) → wpAny (model I.prog I.w) A (binaryOp op (.int a t) (.int 0 u)) Q E s
theorem ZOp.div : ZOp I .FloorDiv := fun A s a t u Q E hA h => floordiv_int_or hA (fun _ => h) (fun q => absurd rfl q) fun q => absurd rfl q
theorem ZOp.mod : ZOp I .Mod := fun A s a t u Q E hA h => mod_int_or hA (fun _ => h) (fun q => absurd rfl q)
theorem RunE.asgZ {x : Str} {px ppos pos : Pos} {l r : Expr} {op : Operator} {i : Nat} {F G : Ev} {f : D → D → Option D} (hx : idx ns x = some i) (hs : ∀ env, swapsWith (.BinOp l op r ppos) (some (.Name x px)) pos.line env = pure false) (hc : ScS sc ns)
    (hl : EvOK I k sc ns l F) (hr : EvOK I k sc ns r G) (ho : OpOK I k (binaryOp op) f) (hz : ZOp I op) : RunE I k sc ns (exec (.Assign [.Name x px] (.BinOp l op r ppos) pos)) (lenOk ns.length (rAsgZ i f F G)) := by
  intro env A own g fix σ s fuel σ' fl Q E hS hA S hE hF P PE
  have ok := RunOK.asg' (i := i) hx hs hc (EvOK.bin (pos := ppos) hl hr ho)
  unfold lenOk at hF
  split at hF
  · rename_i hlen
    unfold rAsgZ at hF
    split at hF
    · rename_i dx dy hdx hdy
      split at hF
      · rename_i hzz
        cases hF
        refine wpAny_Assign_Name (wpAny_BinOp (hl env A g (rdH _) s _ _ E hS hA S.viewH hdx fun u h₁ tk₁ k₁ hu => ?_)) (hs env)
        refine hr env A _ (rdH _) _ _ _ E hS hA (S.viewH.grow k₁) hdy fun v h₂ tk₂ k₂ hv => ?_
        cases dx with
        | int a =>
          cases dy with
          | int b =>
            have hb : b = 0 := eq_of_beq (show (b == 0) = true from hzz)
            subst hb
            obtain ⟨t, rfl⟩ := hu
            obtain ⟨t', rfl⟩ := hv
            refine hz A _ a t t' _ E hA.1 fun h' tk e hx => ?_
            have kk := k₁.trans k₂
            obtain ⟨m, hm⟩ := S.frame
            exact PE _ rfl h₂ h' tk e (fun b o q => kk b o (S.sub b o q)) ⟨m, hm.keeps kk⟩ hx
          | _ => exact no_tf hzz
        | _ => exact no_tf hzz
      · exact ok env A own g fix σ s fuel σ' fl Q E hS hA S (by unfold lenOk; rw [if_pos hlen]; exact hF) P
    · cases hF
  · cases hF

/-- y = x.pop(), where x may be empty -/
noncomputable def rPopZ (i j : Nat) : Run := fun fuel σ => match σ[i]? with
  | some (.mt []) => some (σ, .exc "IndexError")
  | _ => rPop i j fuel σ
theorem RunE.popZ {x y : Str} {px py apos cpos pos : Pos} {i j : Nat} {pl : Env → Sem Bool} (hx : idx ns x = some i) (hy : idx ns y = some j) (hd : (x == ("__debug__" : Str)) = false)
    (he : ∀ env, eval (.Call (.Attribute (.Name x px) "pop" apos) [] [] cpos) env = (do
      let ov ← eval (.Name x px) env
      standAt apos.atName
      let (f, first) ← holding [ov] (getMethod ov "pop" (pl env))
      callWith cpos f first (backTo cpos (starEach [] env)) []))
    (hs : ∀ env, swapsWith (.Call (.Attribute (.Name x px) "pop" apos) [] [] cpos) (some (.Name y py)) pos.line env = pure false) (hc : ScS sc ns) :
    RunE I k sc ns (exec (.Assign [.Name y py] (.Call (.Attribute (.Name x px) "pop" apos) [] [] cpos) pos)) (lenOk ns.length (rPopZ i j)) := by
  intro env A own g fix σ s fuel σ' fl Q E hS hA S hE hF P PE
  have ok := RunOK.pop (I := I) (k := k) (px := px) (py := py) (apos := apos) (cpos := cpos) (pos := pos) hx hy hd he hs hc
  unfold lenOk at hF
  split at hF
  · rename_i hlen
    unfold rPopZ at hF
    by_cases hl : σ[i]? = some (.mt [])
    · rw [hl] at hF
      cases hF
      have hx' := idx_get hx
      obtain ⟨hh, hO⟩ := S.mtd i x [] hx' hl
      obtain ⟨vs, n, p1, p2⟩ := hO.obj
      have hv : vs.isEmpty = true := by
        have : vs.toList = [] := p2
        have : vs = #[] := by simpa using this
        rw [this]; rfl
      refine wpAny_Assign_Name ?_ (hs env)
      refine MethodCall_ (pl := pl env) (wpAny_Name (loadName_ok hS hc.kind hh ?_) hd) (he env)
      refine getMethod_list_of PySem.F.slot_list_pop PySem.F.type_list_pop ⟨_, p1, rfl, n, rfl⟩ ⟨_, p1, rfl⟩ (callWith_method0 ?_)
      refine call_meets PySem.F.slot_list_pop ⟨_, p1, rfl⟩ PySem.F.entry_list_pop (PySem.F.args_list_pop_1 _) (PySem.AutoSeq1.list_pop_list_0 (own i) vs n hv) ⟨p1, hA.1, fun h' tk e hn => ?_⟩
      exact PE _ rfl s.heap h' tk e S.sub S.frame hn
    · have hF : rPop i j fuel σ = some (σ', fl) := by
        cases q : σ[i]? with
        | none => rw [q] at hF; exact hF
        | some sl =>
          rw [q] at hF
          cases sl with
          | mt l =>
            cases l with
            | nil => exact absurd q hl
            | cons _ _ => exact hF
          | _ => exact hF
      exact ok env A own g fix σ s fuel σ' fl Q E hS hA S (by unfold lenOk; rw [if_pos hlen]; exact hF) P
  · cases hF

/-- raise Exception -/
theorem RunE.raise {px pos : Pos} (hk : sc.kind = .function) (hm : I.mg ("Exception" : Str) = none) (hx : sc.names.lookup ("Exception" : Str) = some .globalImplicit) : RunE I k sc ns (exec (.Raise (some (.Name "Exception" px)) none pos)) (fun _ σ => some (σ, .exc "Exception")) := by
  intro env A own g fix σ s fuel σ' fl Q E hS hA S hE hF P PE
  cases hF
  refine Raise_classB hA.1 excClass_Exception PySem.F.self_Exception ?_ fun h' e hn => PE _ rfl s.heap h' s.toks e S.sub S.frame hn
  have hx' : env.kindOf ("Exception" : Str) = some .globalImplicit := by unfold Env.kindOf; rw [hS.scope]; exact hx
  refine Calls.Name_function_global (hS.scope ▸ hk) hx' ?_ rfl
  exact Calls.loadGlobal_builtin (hS.globals ▸ I.g S.gl) hm (hS.builtins ▸ I.b S.gl) ((I.boot _ (by decide)).trans rfl) ⟨rfl, rfl⟩

noncomputable def rForE (n j : Nat) (F : Ev) (B : Run) : Run := fun fuel σ => match F (rdH σ) with
  | some d => if isStr d = true then none else (match itemsOf d with
    | some ds => forL true n j (B fuel) ds σ
    | none => none)
  | none => none
theorem RunE.forS {x : Str} {px pos : Pos} {e : Expr} {j : Nat} {body : List Stmt} {F : Ev} {B : Run} (hx : idx ns x = some j) (hs : ∀ env x, foldedSetIterable e env x = pure x) (hc : ScS sc ns) (he : EvOK I k sc ns e F) (hb : RunE I k sc ns (execs body) B) :
    RunE I k sc ns (exec (.For (.Name x px) e body [] pos)) (rForE ns.length j F B) := by
  intro env A own g fix σ s fuel σ' fl Q E hS hA S hE hF P PE
  unfold rForE at hF
  split at hF
  · rename_i d hd
    split at hF
    · cases hF
    · rename_i hns
      split at hF
      · rename_i ds hds
        refine wpAny_For (he env A g (rdH σ) s d _ E hS hA S.viewH hd fun v h₁ tk₁ kk hv => ?_) (hs env)
        have A₁ := After.grow (S.gfix.trans S.sub) S.sub (h' := h₁)
        exact for_core (s := { s with heap := h₁, toks := tk₁ }) hc (idx_get hx) hb rfl hS hA (S.grow kk) hv hds (by simpa using hns) hF (fun _ => hE) (fun c hc h₂ h' tk e s2 => PE c hc h₂ h' tk e ((ext_sub S.sub).trans s2))
          fun own₂ g₂ fix₂ h₂ tk₂ f₂ S₂ A₂ hf₂ => P own₂ g₂ fix₂ h₂ tk₂ f₂ S₂ (A₁.trans A₂) hf₂
      · cases hF
  · cases hF
end

/-! backwards -/
section
variable {F Fs F' B : Run} {N n i j m : Nat} {σ σ' : St} {P : St → Fl → Prop} {E G H : Ev} {r : R} {d x y : D} {ds : List D} {c : String}
theorem SK.exc (h : P σ (.exc c)) : SK Fs N P σ (.exc c) := h
noncomputable def LEK (P : St → Fl → Prop) (K : St → Prop) (σ : St) : Fl → Prop
  | .ret d => P σ (.ret d)
  | .exc c => P σ (.exc c)
  | _ => K σ
theorem LEK.next {K : St → Prop} (h : K σ) : LEK P K σ .next := h
theorem LEK.exc {K : St → Prop} (h : P σ (.exc c)) : LEK P K σ (.exc c) := h
noncomputable def LEW (n j : Nat) (B : Run) (N : Nat) (ds : List D) (σ : St) (P : St → Fl → Prop) : Prop := ∃ σ' fl, forL true n j (B N) ds σ = some (σ', fl) ∧ P σ' fl
theorem LEW.nil (h : P σ .next) : LEW n j B N [] σ P := ⟨_, _, rfl, h⟩
theorem LEW.cons (hl : σ.length = n) (h : PutAt σ j (.imm d) fun σ₁ => RW B N σ₁ (LEK P fun σ' => LEW n j B N ds σ' P)) : LEW n j B N (d :: ds) σ P := by
  obtain ⟨hj, σ', fl, e, p⟩ := h
  unfold LEW forL
  rw [if_pos hl, e]
  cases fl with
  | next => exact p
  | cont => exact p
  | ret d => exact ⟨_, _, rfl, p⟩
  | exc c => exact ⟨_, _, rfl, p⟩
theorem RW.forE (h : EW E (rdH σ) fun d => isStr d = false ∧ ∃ ds, itemsOf d = some ds ∧ LEW n j B N ds σ P) : RW (rForE n j E B) N σ P := by
  obtain ⟨d, e, h1, ds, h2, σ', fl, h3, p⟩ := h
  refine ⟨σ', fl, ?_, p⟩
  unfold rForE
  simp only [e, h1, h2, Bool.false_eq_true, if_false, h3]
theorem RW.popZ0 (h : σ[i]? = some (.mt [])) (k : P σ (.exc "IndexError")) : RW (rPopZ i j) N σ P := ⟨σ, _, by unfold rPopZ; rw [h], k⟩
theorem RW.popZ1 {l : List D} (h : σ[i]? = some (.mt l)) (hl : l ≠ []) (k : RW (rPop i j) N σ P) : RW (rPopZ i j) N σ P := by
  obtain ⟨σ', fl, e, p⟩ := k
  refine ⟨σ', fl, ?_, p⟩
  unfold rPopZ
  rw [h]
  cases l with
  | nil => exact absurd rfl hl
  | cons d l => exact e
theorem RW.asgZ0 {f : D → D → Option D} {a : Int} (h : EW E (rdH σ) fun x => x = .int a) (h' : EW G (rdH σ) fun y => y = .int 0) (k : P σ (.exc "ZeroDivisionError")) : RW (rAsgZ i f E G) N σ P := by
  obtain ⟨x, e, rfl⟩ := h
  obtain ⟨y, e', rfl⟩ := h'
  exact ⟨σ, _, by unfold rAsgZ; rw [e, e']; rfl, k⟩
theorem RW.asgZ1 {f : D → D → Option D} {a b : Int} (hb : b ≠ 0) (h : EW E (rdH σ) fun x => x = .int a) (h' : EW G (rdH σ) fun y => y = .int b) (k : RW (rAsg i (Mine.e2 f E G)) N σ P) : RW (rAsgZ i f E G) N σ P := by
  obtain ⟨x, e, rfl⟩ := h
  obtain ⟨y, e', rfl⟩ := h'
  obtain ⟨σ', fl, e2, p⟩ := k
  refine ⟨σ', fl, ?_, p⟩
  unfold rAsgZ
  rw [e, e']
  have : (isInt (.int a) && isZ (.int b)) = false := beq_eq_false_iff_ne.mpr hb
  simp only [this, Bool.false_eq_true, if_false]
  exact e2
end
end Mine
end
section
open PySem PySem.W PyProof.Rows PySem.Spec
set_option linter.unusedVariables false
set_option Elab.async false
set_option maxRecDepth 100000
namespace Mine

/-- activations that stand -/
noncomputable def FrOK (h : Heap) (l : List Env) : Prop := ∀ env ∈ l, env.scope.kind ≠ .module ∧ ∃ L o, env.frame = some L ∧ h.get? L = some o ∧ ∀ vs, o.data ≠ .fields vs
noncomputable def frAt (l : List Env) : List Addr := l.filterMap (·.frame)
theorem FrOK.frames {h h' : Heap} {as : List Addr} : ∀ {l : List Env}, FrOK h l → (∀ b o, h.get? b = some o → h'.get? b = some o) → (∀ a ∈ frAt l, a ∈ as) → h'.FunFrames (hideAll h as) l
  | [], _, _, _ => trivial
  | env :: r, x, k, m => by
    obtain ⟨a, L, o, hf, ho, hd⟩ := x env (.head _)
    refine ⟨a, ⟨L, o, hf, hideAll_none _ (m L ?_), k L o ho, hd⟩, FrOK.frames (fun e he => x e (.tail _ he)) k fun b hb => m b ?_⟩
    · unfold frAt; rw [List.filterMap_cons, hf]; exact .head _
    · unfold frAt; rw [List.filterMap_cons, hf]; exact .tail _ hb
/-- all that stood still stands, but for what activations note down for themselves -/
noncomputable def KeepS (as : List Addr) (h h' : Heap) : Prop := ∀ b o, h.get? b = some o → ∃ sl, h'.get? b = some { o with slots := sl } ∧ (b ∉ as → sl = o.slots)
theorem KeepS.of_grow {as : List Addr} {h h' : Heap} (k : Grow h h') : KeepS as h h' := fun b o e => ⟨o.slots, k b o e, fun _ => rfl⟩
theorem KeepS.trans {as : List Addr} {h h' h'' : Heap} (x : KeepS as h h') (y : KeepS as h' h'') : KeepS as h h'' := fun b o e => by
  obtain ⟨sl, e1, n1⟩ := x b o e
  obtain ⟨sl', e2, n2⟩ := y b _ e1
  exact ⟨sl', e2, fun hb => (n2 hb).trans (n1 hb)⟩
theorem KeepS.at {as : List Addr} {h h' : Heap} (x : KeepS as h h') {b : Addr} {o : Obj} (hb : b ∉ as) (e : h.get? b = some o) : h'.get? b = some o := by
  obtain ⟨sl, e1, n1⟩ := x b o e
  rw [e1, n1 hb]
section
variable {I : GI} {k : Nat} {sc : Scope} {ns : List Str}

/-- the end of a generator that raises -/
noncomputable def gX (outer : List Env) (L : Addr) (c : String) : GenEnd := fun _ s₀ r s => ∃ e a0 base h' tk, r = .error (.ref e) ∧ s = { s₀ with heap := h', toks := tk } ∧ Heap.FlyingW base outer e (.type c) a0 h' ∧
  (∀ b o, s₀.heap.get? b = some o → b ≠ L → b ∉ frAt outer → base.get? b = some o) ∧ ∀ b o, s₀.heap.get? b = some o → b ≠ L → (∀ vs, o.data ≠ .fields vs) → ∃ sl, h'.get? b = some { o with slots := sl }

theorem ns_notFields {h : Heap} {a : Addr} {m : Str → Option Value} (x : h.Ns a m) : ∃ o, h.get? a = some o ∧ ∀ vs, o.data ≠ .fields vs := by
  obtain ⟨o, es, ep, e, d, _⟩ := x
  exact ⟨o, e, fun vs q => by rw [d] at q; cases q⟩

theorem gen_exc {A : Around} {env : Env} {outer : List Env} {own : Nat → Addr} {g fixC : G} {σ0 σ1 σ2 : St} {s : Shared} {n : Nat} {Y : Protocol} {c : String} {fuel : Nat} {F1 F2 : Run} {st1 st2 : Stmt} {rest : List Stmt}
    (hc : ScS sc ns) (hS : EnvS sc env) (hcl : env.cells = []) (h1 : RunOK I k sc ns (exec st1) F1) (h2 : RunE I k sc ns (exec st2) F2)
    (hr1 : F1 fuel σ0 = some (σ1, .next)) (hr2 : F2 fuel σ1 = some (σ2, .exc c)) (hno : ∀ (i : Nat) (l : List D), σ0[i]? ≠ some (.mt l)) (hA : AOK (k + 1) A)
    (S : SR I env ns own g fixC σ0 s.heap) (hfr : A.frames = some outer) (hef : env.frame = some env.locals) (hout : FrOK s.heap outer) (hoL : env.locals ∉ frAt outer) :
    Seg (model I.prog I.w) A (gX outer env.locals c) Y n s (.func (st1 :: st2 :: rest) env) ((model I.prog I.w).den (.func (st1 :: st2 :: rest) env)) [] s := by
  have Sm := S.max hcl hno
  have hA0 : AOK k (A.over (.func (st1 :: st2 :: rest) env) []) := hA.over0
  have hfr0 : (A.over (.func (st1 :: st2 :: rest) env) []).frames = some (env :: outer) := by
    show pushEnvs [env] (pushEnvs [] A.frames) = _
    rw [hfr]; rfl
  refine seg_func (seg_execs_cons (seg_wrap (h1 env _ own g _ σ0 s fuel σ1 .next _ _ hS hA0 Sm hr1 fun own1 g1 fix1 e1 tk1 f1 S1 A1 hf1 => ?_)))
  rw [show f1 = .next from hf1]
  refine seg_execs_cons (seg_wrap (wpAny_mono (h2 env _ own1 g1 fix1 σ1 { s with heap := e1, toks := tk1 } fuel σ2 (.exc c) _
    (fun x s' => wpAny (model I.prog I.w) (A.over (.func (st1 :: st2 :: rest) env) []) (leaving env x) (fun _ s'' => Seg (model I.prog I.w) A (gX outer env.locals c) Y n s (.func (st1 :: st2 :: rest) env) (.raise x) [] s'') (fun _ _ => False) s')
    hS hA0 S1 PassesOwn.leaving hr2 (fun _ _ _ _ _ _ _ _ hf => hf.elim) fun c' hc' h₁ h' tk e s2 hm hx => ?_) (fun _ _ q => q) fun x s' q => seg_wrap (wpAny_noRaise q)))
  cases hc'
  obtain ⟨m, hm⟩ := hm
  have live : ∀ b o, s.heap.get? b = some o → b ≠ env.locals → h₁.get? b = some o := fun b o q hb => s2 b o (A1.ff b o (by unfold allBut; rw [if_neg hb]; exact q))
  have fr1 : FrOK h₁ (env :: outer) := fun e2 he2 => by
    rcases List.mem_cons.mp he2 with rfl | he2
    · obtain ⟨o, q1, q2⟩ := ns_notFields hm
      exact ⟨by rw [hS.scope, hc.kind]; exact fun q => (nomatch q), e2.locals, o, hef, q1, q2⟩
    · obtain ⟨a, L, o, hf, ho, hd⟩ := hout e2 he2
      exact ⟨a, L, o, hf, live L o ho (fun q => hoL (q ▸ List.mem_filterMap.mpr ⟨e2, he2, hf⟩)), hd⟩
  obtain ⟨ob, t, he, hcls, hd⟩ := hx.there
  have st : (hideAll h₁ (frAt (env :: outer))).StaysIn h' := fun b o q => hx.keeps b o (of_hideAll _ q)
  have hen : (hideAll h₁ (frAt (env :: outer))).get? e = none := by
    cases q : (hideAll h₁ (frAt (env :: outer))).get? e with
    | none => rfl
    | some o => have := of_hideAll _ q; rw [hx.new] at this; cases this
  refine wpAny_leaving_firstW (base := hideAll h₁ (frAt (env :: outer))) hfr0 (fr1.frames hx.keeps fun _ q => q) hef he st hen hd rfl rfl fun h'' hL => ?_
  obtain ⟨k1, k2, k3, k4⟩ := hL
  rw [hcls] at k3
  refine seg_end (.error (.ref e)) ⟨e, t, _, h'', tk, rfl, rfl, ⟨k1, hen, k2.2.2, k3⟩, fun b o q hb hm2 => hideAll_get _ (live b o q hb) fun hm3 => ?_, fun b o q hb hdf => k4 b o (hx.keeps b o (live b o q hb)) hdf⟩
  unfold frAt at hm3
  rw [List.filterMap_cons, hef] at hm3
  rcases List.mem_cons.mp hm3 with q3 | q3
  · exact hb q3
  · exact hm2 q3
end

section
variable {prog : Program} {w : World} {A : Around} {E : Value → Shared → Prop} {s : Shared}
theorem pyNext_raises {a : Addr} {g n : Nat} {gs : GenState} {R : GenEnd} {Y : Protocol} {Q : Option Value → Shared → Prop} (hl : s.heap.NoLimit) (hroom : A.depth < recursionLimit)
    (hg : s.heap.IsGen a g) (hgs : s.gens[g]? = some gs) (hgo : gs.Goes (model prog w) A.in1 R Y n (.send .none) (s.setGen g .running)) (hY : ∀ v s₁ kap, ¬ Y (n - 1) (s.setGen g .running) v s₁ kap)
    (hR : ∀ r s₁, R n (s.setGen g .running) r s₁ → ∃ e ob X, r = .error (.ref e) ∧ s₁.heap.get? e = some ob ∧ ob.cls = .type X ∧ isSubtype (.type X) (.type "StopIteration") = pure false ∧ s₁.heap.IsGen a g ∧ E (.ref e) (s₁.setGen g .finished)) :
    wpAny (model prog w) A (pyNext (.ref a)) Q E s := by
  unfold pyNext
  refine wpAny_bind (wpAny_attempt (wpAny_callSpecial?_slot (name := Str.ofString "__next__") hg.typeIs slot_gen_next
    (wpAny_call_entry slot_gen_next hg.typeIs entry_gen_next ?_ (args_gen_next _))))
  show wpAny _ _ (Builtin.Generator.genWake (.ref a) (.send .none)) _ _ s
  unfold Builtin.Generator.genWake
  refine wpAny_bind (wpAny_holding (wpAny_genNumber hg (wpAny_bind (wpAny_genState hgs ?_))))
  cases gs with
  | running => exact hgo.elim
  | finished => exact hgo.elim
  | _ =>
    refine wpAny_bind (wpAny_roomToWake hl hroom ?_)
    show wpAny _ _ (.resume g (.send .none) [] _) _ _ s
    refine wpAny_resume hgs hgo (fun x s₁ hx => ?_) (fun v s₁ gs' hv => (hY _ _ _ hv).elim)
    obtain ⟨e, ob, X, rfl, he, hcls, hns, ⟨o, nm, qn, ho, hc, hd, hsl⟩, hE⟩ := hR x s₁ hx
    have hT : (s₁.setGen g .finished).TypeIs (.ref e) X := ⟨ob, he, hcls⟩
    show wpAny _ _ (Builtin.Generator.genLeft (.ref a) (.ref e)) _ _ _
    unfold Builtin.Generator.genLeft Builtin.Generator.madeByALambda
    refine wpAny_bind (wpAny_bind (wpAny_load (show (s₁.setGen g .finished).heap.get? a = some o from ho) (wpAny_pure ?_)))
    refine wpAny_bind (wpAny_isInstance (T := X) (b := false) hT hns ?_)
    rw [hd]
    simp only [Bool.and_false, Bool.false_eq_true, if_false]
    unfold Builtin.Generator.genEscaped
    refine wpAny_bind (wpAny_isInstance (T := X) (b := false) hT hns ?_)
    simp only [Bool.not_false, if_true]
    refine wpAny_throw ?_
    refine wpAny_bind (wpAny_isInstance (T := X) (b := false) hT hns ?_)
    simp only [Bool.false_eq_true, if_false]
    exact wpAny_throw hE
end
end Mine
end
section
open PySem PySem.W PyProof.Rows PySem.Spec
set_option linter.unusedVariables false
set_option Elab.async false
set_option maxRecDepth 100000
namespace Mine
section
variable {I : GI} {k : Nat} {sc : Scope} {ns : List Str}

/-- the frame at hand stands, where what it leans on stands -/
theorem SR.kept {env : Env} {own : Nat → Addr} {g fix : G} {σ : St} {h h₁ : Heap} (S : SR I env ns own g fix σ h) (hcl : env.cells = []) (hf : Sub fix h₁.get?) (hL : ∀ o, h.get? env.locals = some o → h₁.get? env.locals = some o)
    (hm : ∀ (i : Nat) (l : List D), σ[i]? = some (.mt l) → ∀ o, h.get? (own i) = some o → h₁.get? (own i) = some o) : SR I env ns own g fix σ h₁ := by
  have holds : ∀ x v, Holds env h x v → Holds env h₁ x v := fun x v hv => by
    rcases hv with ⟨p, m, ⟨o, es, ep, e, r⟩, q⟩ | ⟨p, c, hc, _⟩
    · exact .inl ⟨p, m, ⟨o, es, ep, hL _ e, r⟩, q⟩
    · rw [hcl] at hc; cases hc
  exact {
    gfix := S.gfix
    sub := hf
    base := S.base
    frame := let ⟨m, o, es, ep, e, r⟩ := S.frame; ⟨m, o, es, ep, hL _ e, r⟩
    fixL := S.fixL
    cells := fun n c hc => by rw [hcl] at hc; cases hc
    apart := S.apart
    imm := fun j x d hx hd => let ⟨v, a, b⟩ := S.imm j x d hx hd; ⟨v, a, holds x v b⟩
    mtd := fun j x l hx hd => by
      obtain ⟨a, b⟩ := S.mtd j x l hx hd
      obtain ⟨vs, n, h1, h2⟩ := b.obj
      exact ⟨holds x _ a, ⟨⟨vs, n, hm j l hd _ h1, h2⟩, b.off, b.loc, b.cel⟩⟩
    inj := S.inj }

theorem SR.storeL {M : Model} {A : Around} {env : Env} {own : Nat → Addr} {g fix : G} {σ : St} {s : Shared} {E : Value → Shared → Prop} {Q : Unit → Shared → Prop} (S : SR I env ns own g fix σ s.heap) (hc : ScS sc ns) (hS : EnvS sc env) (hcl : env.cells = []) (hl : σ.length ≤ ns.length)
    {i : Nat} {x : Str} {v : Value} {d : D} (hx : ns[i]? = some x) (hlo : sc.names.lookup x = some .local) (hd : Is g d v)
    (hQ : ∀ h' tk, SR I env ns own g fix (σ.set i (.imm d)) h' → Heap.SameBut env.locals s.heap h' → Q () { s with heap := h', toks := tk }) : wpAny M A (storeName env x v) Q E s := by
  obtain ⟨m, hm⟩ := S.frame
  have hl' : env.kindOf x = some .local := by unfold Env.kindOf; rw [hS.scope]; exact hlo
  refine wpAny_storeName_local hl' hm (fun h' hn hs => ?_) (by rw [hS.scope, hc.kind]; rfl)
  have hh : Holds env h' x v := .inl ⟨hl', _, hn, by simp⟩
  obtain ⟨a, _⟩ := S.change hc.nd (h' := h') (sl := .imm d) (own' := own) hx hs S.fixL ⟨_, hn⟩ (fun n c hc2 => by rw [hcl] at hc2; cases hc2)
    (fun y w hy hw => by
      rcases hw with ⟨p, m', hm', q⟩ | ⟨p, c, hc, q⟩
      · rw [Ns.func hm' hm] at q
        exact .inl ⟨p, _, hn, by simp only [if_neg hy]; exact q⟩
      · rw [hcl] at hc; cases hc)
    (fun j l hj => (S.ownOff hl j l hj).1) (fun _ _ => rfl) (fun d' e => by cases e; exact ⟨v, hd, hh⟩) (fun l e => by cases e)
  exact hQ h' _ a hs

/-- what a generator will do when it is first woken -/
noncomputable def GenRun (I : GI) (k : Nat) (fixC : G) (L : Addr) (h₁ : Heap) (c : Code) : List Int ⊕ String → Prop
  | .inl vals => ∀ (A : Around) (s : Shared) (W old : Addr → Prop), AOK (k + 1) A → Sub fixC s.heap.get? → (∀ o, h₁.get? L = some o → s.heap.get? L = some o) → (∀ b, W b → (s.heap.get? b).isSome = true ∧ b ≠ L ∧ fixC b = none) →
      (∀ b, old b → (s.heap.get? b).isSome = true) → Seg (model I.prog I.w) A (gR L old) (gY L old W vals) vals.length s c ((model I.prog I.w).den c) [] s
  | .inr cls => ∀ (A : Around) (s : Shared) (outer : List Env) (Y : Protocol) (n : Nat), AOK (k + 1) A → Sub fixC s.heap.get? → (∀ o, h₁.get? L = some o → s.heap.get? L = some o) → A.frames = some outer → FrOK s.heap outer → L ∉ frAt outer →
      Seg (model I.prog I.w) A (gX outer L cls) Y n s c ((model I.prog I.w).den c) [] s
/-- a generator function that may raise before its first value -/
noncomputable def GenE (I : GI) (k : Nat) (x : Str) (Fx : List D → Option (List Int ⊕ String)) : Prop :=
  ∃ a, I.mg x = some (.ref a) ∧ (∀ h, I.Gl h → Looks (model I.prog I.w) h (keeperOf (.ref a)) .frame) ∧
    ∀ (A : Around) (g fixC : G) (s : Shared) (ds : List D) (vs : List Value) (o : List Int ⊕ String) (Q : Value → Shared → Prop) (E : Value → Shared → Prop), A.depth < recursionLimit → I.Gl s.heap → Sub g fixC → Sub fixC s.heap.get? → (∃ h₀, I.Gl h₀ ∧ Sub h₀.get? fixC) → IsL g ds vs → Fx ds = some o →
      (∀ L ga c h₁ tk, Grow s.heap h₁ → s.heap.get? L = none → (h₁.get? L).isSome = true → s.heap.get? ga = none → h₁.IsGen ga s.gens.size → ga ≠ L → GenRun I k fixC L h₁ c o → Q (.ref ga) { s with heap := h₁, toks := tk, gens := s.gens.push (.fresh c) }) →
      wpAny (model I.prog I.w) A (call (.ref a) vs) Q E s
noncomputable def genXF (m n iy : Nat) (F1 F2 : Run) (N : Nat) : List D → Option (List Int ⊕ String) := fun ds => if ds.length = m then (match F1 N (startSt ds n) with
  | some (σ1, .next) => (match F2 N σ1 with
    | some (σ2, .next) => (match σ2[iy]? with
      | some (.mt l) => if l.length ≤ sizeLine then (asIntL l).map .inl else none
      | _ => none)
    | some (_, .exc c) => some (.inr c)
    | _ => none)
  | _ => none) else none
theorem genXF_some {m n iy : Nat} {F1 F2 : Run} {N : Nat} {ds : List D} {o : List Int ⊕ String} (h : genXF m n iy F1 F2 N ds = some o) : ds.length = m ∧ ∃ σ1 σ2, F1 N (startSt ds n) = some (σ1, .next) ∧
    match o with
    | .inl vals => F2 N σ1 = some (σ2, .next) ∧ σ2[iy]? = some (.mt (intsD vals)) ∧ vals.length ≤ sizeLine
    | .inr c => F2 N σ1 = some (σ2, .exc c) := by
  unfold genXF at h
  by_cases hl : ds.length = m
  · rw [if_pos hl] at h
    cases e1 : F1 N (startSt ds n) with
    | none => rw [e1] at h; exact no_some h
    | some p =>
    obtain ⟨σ1, f1⟩ := p
    rw [e1] at h
    cases f1 with
    | next =>
      replace h : (match F2 N σ1 with
        | some (σ2, .next) => (match σ2[iy]? with
          | some (.mt l) => if l.length ≤ sizeLine then (asIntL l).map .inl else none
          | _ => none)
        | some (_, .exc c) => some (.inr c)
        | _ => none) = some o := h
      cases e2 : F2 N σ1 with
      | none => rw [e2] at h; exact no_some h
      | some p =>
      obtain ⟨σ2, f2⟩ := p
      rw [e2] at h
      cases f2 with
      | exc c => cases h; exact ⟨hl, σ1, σ2, rfl, e2⟩
      | next =>
        replace h : (match σ2[iy]? with
          | some (.mt l) => if l.length ≤ sizeLine then (asIntL l).map .inl else none
          | _ => none) = some o := h
        cases e3 : σ2[iy]? with
        | none => rw [e3] at h; exact no_some h
        | some sl =>
        rw [e3] at h
        cases sl with
        | mt l =>
          replace h : (if l.length ≤ sizeLine then (asIntL l).map .inl else none) = some o := h
          by_cases hz : l.length ≤ sizeLine
          · rw [if_pos hz] at h
            cases hv : asIntL l with
            | none => rw [hv] at h; exact no_some h
            | some vals =>
              rw [hv] at h
              cases h
              have := asIntL_eq hv
              subst this
              exact ⟨hl, σ1, σ2, rfl, e2, e3, by rw [intsD_length] at hz; exact hz⟩
          · rw [if_neg hz] at h; exact no_some h
        | _ => exact no_some h
      | _ => exact no_some h
    | _ => exact no_some h
  · rw [if_neg hl] at h; exact no_some h
theorem GenE.def {x : Str} {params : Arguments} {body : List Stmt} {m : Nat} {xv y : Str} {px py ypos epos fpos : Pos} {e : Expr} {ix iy : Nat} (N : Nat) {Fe : Ev} {F1 F2 : Run} {st1 st2 : Stmt} (hbody : body = [st1, st2, .For (.Name xv px) (.Name y py) [.Expr (.Yield (some e) ypos) epos] [] fpos])
    (hat : FnAt I x params body sc) (hc : ScS sc ns) (hm : m ≤ ns.length)
    (hbind : ∀ pm cd doc vs, vs.length = m → bindArgs (Calls.docDef x params body sc pm cd doc) ⟨vs, []⟩ = pure ((ns.take m).zip vs)) (hco : sc.isCoroutine = false) (hgen : sc.isGenerator = true) (hcl : ∀ n, cellsFrom n sc.names [] = []) (hlo : ∀ y ∈ ns, sc.names.lookup y = some .local)
    (hx : idx ns xv = some ix) (hy : idx ns y = some iy) (hyd : (y == ("__debug__" : Str)) = false) (hfold : ∀ env v, foldedSetIterable (.Name y py) env v = pure v)
    (he : EvOK I k sc ns e Fe) (hF : ∀ a, Fe (xr ns.length ix a) = some (.int a))
    (h1 : RunOK I k sc ns (exec st1) F1) (h2 : RunE I k sc ns (exec st2) F2) : GenE I k x (genXF m ns.length iy F1 F2 N) := by
  obtain ⟨a, hmg, hkp, hcall⟩ := gen_call hat hc hm hbind hco hgen hcl hlo
  refine ⟨a, hmg, hkp, fun A g fixC s ds vs o Q E hroom gl hgf hfs hbase hv hf P => ?_⟩
  obtain ⟨hlen, σ1, σ2, e1, hcase⟩ := genXF_some hf
  refine hcall A g fixC s ds vs Q E hroom gl hgf hfs hbase hv hlen fun env h₁ tk o' hS hef ecl ho S eloc hLt hkeep => ?_
  have kk : Grow s.heap (h₁.push o') := hkeep.trans (Grow.push _ _)
  have hfr : o'.isFreed = false := by rw [ho]; rfl
  have hnew : s.heap.get? h₁.objs.size = none := by
    cases q : s.heap.get? h₁.objs.size with
    | none => rfl
    | some o2 => exact absurd (Heap.lt_size (hkeep _ _ q)) (Nat.lt_irrefl _)
  have hlive : ((h₁.push o').get? env.locals).isSome = true := by
    obtain ⟨m', o2, es, ep, q, r⟩ := S.frame
    exact some_live q
  refine P env.locals h₁.objs.size (.func body env) (h₁.push o') _ kk (by rw [eloc]; exact fresh_none _) hlive hnew ⟨o', _, _, Heap.get?_push_size _ hfr, by rw [ho]; rfl, by rw [ho]; rfl, by rw [ho]; rfl⟩ (Nat.ne_of_gt hLt) ?_
  have hxx := idx_get hx
  subst hbody
  cases o with
  | inl vals =>
    obtain ⟨e2, e3, hz⟩ := hcase
    intro A' s' W old hA' hfx hLk hW hold
    have S' := S.kept ecl hfx hLk (fun i l q => absurd q (startSt_no i l))
    exact gen_first hc hco hS ecl h1 h2 e1 e2 startSt_no e3 hz hxx (hlo xv (List.mem_of_getElem? hxx)) (idx_get hy) hyd (hfold env) he hF hA' S' hW hold
  | inr cls =>
    intro A' s' outer Y n hA' hfx hLk hfr' hout hoL
    have S' := S.kept ecl hfx hLk (fun i l q => absurd q (startSt_no i l))
    exact gen_exc hc hS ecl h1 h2 e1 hcase startSt_no hA' S' hfr' hef hout hoL
end
end Mine
end
section
open PySem PySem.W PyProof.Rows PySem.Spec
set_option linter.unusedVariables false
set_option Elab.async false
set_option maxRecDepth 100000
namespace Mine
section
variable {I : GI} {k : Nat} {sc : Scope} {ns : List Str}

theorem AOK.in1 {A : Around} (h : AOK (k + 1) A) : AOK k A.in1 := h.up h.1 (Nat.le_succ _) (Nat.add_le_add_left (by decide) _)

/-- for x in row: given.append(x), row a generator that is not yet woken -/
theorem gen_for {A : Around} {env : Env} {own : Nat → Addr} {g fix fixC : G} {σ : St} {s0 : Shared} {h h₁ : Heap} {tk : Nat} {c : Code} {L ga : Addr} {vals : List Int} {xv xr xg : Str} {iv ir ig : Nat} {pv pr pg pa pc pe ps pf : Pos} {pl : Env → Sem Bool} {Q : Flow → Shared → Prop} {E : Value → Shared → Prop}
    (hc : ScS sc ns) (hS : EnvS sc env) (hcl : env.cells = []) (hA : AOK (k + 2) A) (S : SR I env ns own g fix σ h) (hlen : σ.length = ns.length) (hxv : idx ns xv = some iv) (hxr : idx ns xr = some ir) (hxg : idx ns xg = some ig) (hne : iv ≠ ig) (hlo : sc.names.lookup xv = some .local)
    (hdr : (xr == ("__debug__" : Str)) = false) (hdg : (xg == ("__debug__" : Str)) = false) (hdv : (xv == ("__debug__" : Str)) = false) (hfold : ∀ env v, foldedSetIterable (.Name xr pr) env v = pure v)
    (hst : ∀ env, starEach [.Name xv pe] env = (false, eval (.Name xv pe) env) :: starEach [] env)
    (hap : ∀ env, eval (.Call (.Attribute (.Name xg pg) "append" pa) [.Name xv pe] [] pc) env = (do
      let ov ← eval (.Name xg pg) env
      standAt pa.atName
      let (f, first) ← holding [ov] (getMethod ov "append" (pl env))
      callWith pc f first (backTo pc (starEach [.Name xv pe] env)) []))
    (hsw : ∀ env, swapsWith (.Call (.Attribute (.Name xg pg) "append" pa) [.Name xv pe] [] pc) none ps.line env = pure false)
    (hrow : σ[ir]? = some (.imm (.adr ga))) (hgiv : σ[ig]? = some (.mt [])) (hone : ∀ (i : Nat) (l : List D), σ[i]? = some (.mt l) → i = ig) (hz : vals.length ≤ sizeLine)
    (hgen : h.IsGen ga s0.gens.size) (hgaL : ga ≠ env.locals) (hgag : ga ≠ own ig) (hgal : ga ≠ L) (hLl : (h.get? L).isSome = true) (hLe : L ≠ env.locals) (hLg : L ≠ own ig) (hfL : fix L = none)
    (hCf : Sub fixC fix) (hLk : ∀ o, h₁.get? L = some o → h.get? L = some o) (run : GenRun I k fixC L h₁ c (.inl vals))
    (hQ : ∀ h' tk' σ', SR I env ns own g fix σ' h' → σ'.length = ns.length → σ'[ig]? = some (.mt (intsD vals)) → Q .next { s0 with heap := h', toks := tk', gens := s0.gens.push .finished }) :
    wpAny (model I.prog I.w) A (exec (.For (.Name xv pv) (.Name xr pr) [.Expr (.Call (.Attribute (.Name xg pg) "append" pa) [.Name xv pe] [] pc) ps] [] pf) env) Q E { s0 with heap := h, toks := tk, gens := s0.gens.push (.fresh c) } := by
  obtain ⟨vr, hvr, hhr⟩ := S.imm ir xr _ (idx_get hxr) hrow
  cases hvr
  refine wpAny_For (wpAny_Name (loadName_ok hS hc.kind hhr ?_) hdr) (hfold env)
  refine wpAny_pyIter_gen hgen ?_
  have hroom := hA.room
  have gens_get : ∀ {x : GenState}, (s0.gens.push x)[s0.gens.size]? = some x := Array.getElem?_push_size ..
  let W : Addr → Prop := fun b => b = env.locals ∨ b = own ig
  let old : Addr → Prop := fun b => (h.get? b).isSome = true
  have liveW : ∀ {σ' h'}, SR I env ns own g fix σ' h' → (∃ l, σ'[ig]? = some (.mt l)) → ∀ b, W b → (h'.get? b).isSome = true := fun {σ' h'} S' hl b hb => by
    rcases hb with rfl | rfl
    · obtain ⟨m, o, es, ep, q, r⟩ := S'.frame
      exact some_live q
    · obtain ⟨l, hl⟩ := hl
      obtain ⟨vs, n, p1, p2⟩ := (S'.mtd ig xg l (idx_get hxg) hl).2.obj
      exact some_live p1
  refine codeAny_forLoop (fun m s' => ∃ j h' tk' gsx σ', m = vals.length - j ∧ j ≤ vals.length ∧ s' = { s0 with heap := h', toks := tk', gens := s0.gens.push gsx } ∧ SR I env ns own g fix σ' h' ∧ σ'.length = ns.length ∧
      σ'[ig]? = some (.mt (intsD (vals.take j))) ∧ (∀ (i : Nat) (l : List D), σ'[i]? = some (.mt l) → i = ig) ∧ h'.IsGen ga s0.gens.size ∧
      ∀ s'' : Shared, (∀ b o, ¬ W b → h'.get? b = some o → s''.heap.get? b = some o) → (∀ b, W b → (s''.heap.get? b).isSome = true) → gsx.Goes (model I.prog I.w) A.in1 (gR L old) (gY L old W vals) (vals.length - j) (.send .none) s'') ?_ vals.length
    ⟨0, h, tk, .fresh c, σ, rfl, Nat.zero_le _, rfl, S, hlen, by rw [List.take_zero]; exact hgiv, hone, hgen, fun s'' hal hW => ⟨rfl, ?_⟩⟩
  · rintro m s' ⟨j, h', tk', gsx, σ', hm, hj, rfl, S', hl', hg', hback, hgen', hgo⟩
    have hO' := (S'.mtd ig xg _ (idx_get hxg) hg').2
    have go := hgo (({ s0 with heap := h', toks := tk', gens := s0.gens.push gsx } : Shared).setGen s0.gens.size .running) (fun _ _ _ q => q) (liveW S' ⟨_, hg'⟩)
    -- what a turn of the generator leaves of this frame
    have keptBy : ∀ {h2 : Heap}, (∀ b o, old b → b ≠ L → h'.get? b = some o → h2.get? b = some o) → SR I env ns own g fix σ' h2 ∧ h2.IsGen ga s0.gens.size := fun {h2} hk => by
      refine ⟨S'.kept hcl (fun b o q => hk b o (some_live (S.sub b o q)) (fun z => by rw [z, hfL] at q; cases q) (S'.sub b o q)) (fun o q => hk _ o (liveW S ⟨_, hgiv⟩ _ (.inl rfl)) (Ne.symm hLe) q) (fun i l q o e => ?_), ?_⟩
      · have hi := hback i l q
        subst hi
        exact hk _ o (liveW S ⟨_, hgiv⟩ _ (.inr rfl)) (Ne.symm hLg) e
      · obtain ⟨og, nm, qn, hog, rr⟩ := hgen
        obtain ⟨og', nm', qn', hog', rr'⟩ := hgen'
        exact ⟨og', nm', qn', hk _ _ (some_live hog) hgal hog', rr'⟩
    have lives : ∀ b, W b → (({ s0 with heap := h', toks := tk', gens := s0.gens.push gsx } : Shared).heap.get? b).isSome = true := liveW S' ⟨_, hg'⟩
    cases hn : vals.length - j with
    | zero =>
      have hj' := idx_end hn hj
      rw [hn] at go
      refine wpAny_pyNext_gen (n := 0) (P := fun n s₀ s₁ => n = 0 ∧ GSince L old s₀ s₁) (Y := gY L old W vals) hA.1 (I.nolimit S'.gl) hroom hgen' gens_get go (fun v s₁ gs' hv => ?_) (fun s₁ hp h2 hk => ?_)
      · exact (hv.2.2 s₁ fun _ _ _ q => q).elim
      · obtain ⟨_, h1', tk1, rfl, hk1⟩ := hp
        rw [setGen_push (B := s0.gens) (y := .running) (by rw [setGen_push (B := s0.gens) rfl])]
        obtain ⟨S2, _⟩ := keptBy (h2 := h2) fun b o hb hbL q => hk b o (hk1 b o hb hbL q)
        refine wpAny_execs_nil (hQ h2 tk1 σ' S2 hl' ?_)
        rw [hj', List.take_length] at hg'; exact hg'
    | succ m' =>
      rw [hn] at go
      refine wpAny_pyNext_gen (n := m' + 1) (P := fun n s₀ s₁ => n = 0 ∧ GSince L old s₀ s₁) (Y := gY L old W vals) hA.1 (I.nolimit S'.gl) hroom hgen' gens_get go (fun v s₁ gs' hv => ?_) (fun s₁ hp => absurd hp.1 (Nat.succ_ne_zero m'))
      obtain ⟨⟨a, t, ha, rfl⟩, ⟨h1', tk1, rfl, hk1⟩, hkap⟩ := hv
      rw [setGen_push (B := s0.gens) (y := .running) (by rw [setGen_push (B := s0.gens) rfl])]
      have e0 : vals.length - 1 - (m' + 1 - 1) = j := idx_eq hn
      rw [e0] at ha
      obtain ⟨S1, g1⟩ := keptBy (h2 := h1') hk1
      refine wpAny_assign_Name (S1.storeL (s := { s0 with heap := h1', toks := tk1, gens := s0.gens.push gs' }) hc hS hcl (Nat.le_of_eq hl') (d := .int a) (idx_get hxv) hlo ⟨t, rfl⟩ fun h2 tk2 S2 hs2 => ?_)
      have hg2 : (σ'.set iv (.imm (.int a)))[ig]? = some (.mt (intsD (vals.take j))) := by rw [List.getElem?_set_ne hne]; exact hg'
      have hl2 : (σ'.set iv (.imm (.int a))).length = ns.length := by rw [List.length_set]; exact hl'
      have hv2 : (σ'.set iv (.imm (.int a)))[iv]? = some (.imm (.int a)) := by
        have : iv < σ'.length := by rw [hl']; exact (List.getElem?_eq_some_iff.mp (idx_get hxv)).1
        exact List.getElem?_set_self this
      obtain ⟨vv, hvv, hhv⟩ := S2.imm iv xv _ (idx_get hxv) hv2
      obtain ⟨hhg, hO2⟩ := S2.mtd ig xg _ (idx_get hxg) hg2
      obtain ⟨vs, nn, p1, p2⟩ := hO2.obj
      refine wpAny_execs_cons (wpAny_Expr ?_ (interactive_fun hS hc.kind) (hsw env))
      refine MethodCall_ (pl := pl env) (wpAny_Name (loadName_ok hS hc.kind hhg ?_) hdg) (hap env)
      refine Calls.getMethod_list_append p1 rfl rfl ?_
      refine callWith_method1 (args_cons (wpAny_Name (loadName_ok hS hc.kind hhv ?_) hdv) (hst env)) (hst env) rfl
      refine args_nil ?_
      have el := p2.length
      rw [Array.length_toList, intsD_length, List.length_take] at el
      refine wpAny_list_append_plain (items := vs) ⟨nn, p1⟩ (fun h3 hp hsb => ?_) (by rw [el]; exact Nat.le_trans (Nat.min_le_right _ _) hz)
      obtain ⟨n3, hp⟩ := hp
      have S3 := S2.mutate (Nat.le_of_eq hl2) (idx_get hxg) hg2 hsb hp (l' := intsD (vals.take j) ++ [.int a]) (by rw [Array.toList_push]; exact IsL.append p2 ⟨vv, [], rfl, hvv, rfl⟩)
      have etake : intsD (vals.take j) ++ [D.int a] = intsD (vals.take (j + 1)) := by
        rw [List.take_add_one, ha]; simp [intsD]
      rw [etake] at S3
      refine wpAny_execs_nil ⟨m', (by rw [hm, hn]; exact Nat.lt_succ_self _), j + 1, h3, tk2, gs', _, (idx_next hn).1.symm, (idx_next hn).2.1, rfl, S3, by rw [List.length_set]; exact hl2, ?_, ?_, ?_, fun s'' hal hW => ?_⟩
      · have : ig < (σ'.set iv (.imm (.int a))).length := by rw [hl2]; exact (List.getElem?_eq_some_iff.mp (idx_get hxg)).1
        exact List.getElem?_set_self this
      · intro i l q
        by_cases hi : i = ig
        · exact hi
        · rw [List.getElem?_set_ne (Ne.symm hi)] at q
          by_cases hi2 : i = iv
          · subst hi2; rw [hv2] at q; cases q
          · rw [List.getElem?_set_ne (Ne.symm hi2)] at q
            exact hback i l q
      · obtain ⟨og, nm, qn, hog, rr⟩ := g1
        exact ⟨og, nm, qn, (hsb.2 _ hgag).trans ((hs2.2 _ hgaL).trans hog), rr⟩
      · have e1 := (idx_next hn).1
        rw [e1]
        exact hkap s'' fun b o hb q => hal b o hb ((hsb.2 b fun z => hb (.inr z)).trans ((hs2.2 b fun z => hb (.inl z)).trans q))
  · refine run A.in1 s'' W old hA.in1 (fun b o q => hal b o (fun hb => ?_) (S.sub b o (hCf b o q))) (fun o q => hal L o (fun hb => ?_) (hLk o q)) (fun b hb => ⟨hW b hb, ?_, ?_⟩) fun b hb => ?_
    · rcases hb with rfl | rfl
      · rw [Sub.none hCf S.fixL] at q; cases q
      · rw [Sub.none hCf (S.mtd ig xg _ (idx_get hxg) hgiv).2.off] at q; cases q
    · rcases hb with q | q
      · exact hLe q
      · exact hLg q
    · rcases hb with rfl | rfl
      · exact Ne.symm hLe
      · exact Ne.symm hLg
    · rcases hb with rfl | rfl
      · exact Sub.none hCf S.fixL
      · exact Sub.none hCf (S.mtd ig xg _ (idx_get hxg) hgiv).2.off
    · by_cases hb2 : W b
      · exact hW b hb2
      · obtain ⟨o, q⟩ := Option.isSome_iff_exists.mp hb
        exact some_live (hal b o hb2 q)
end
end Mine
end
section
open PySem PySem.W PyProof.Rows PySem.Spec
set_option linter.unusedVariables false
set_option Elab.async false
set_option maxRecDepth 100000
namespace Mine
section
variable {I : GI} {k : Nat} {sc : Scope} {ns : List Str}

/-- as gen_for, where the generator raises when it is first woken -/
theorem gen_for_exc {A : Around} {env : Env} {outer : List Env} {own : Nat → Addr} {g fix fixC : G} {σ : St} {s0 : Shared} {h h₁ : Heap} {tk : Nat} {c : Code} {X : String} {L ga : Addr} {x xr : Str} {ir : Nat} {px pr pf : Pos} {body : List Stmt} {Q : Flow → Shared → Prop} {E : Value → Shared → Prop}
    (hc : ScS sc ns) (hS : EnvS sc env) (hA : AOK (k + 2) A) (S : SR I env ns own g fix σ h) (hxr : idx ns xr = some ir) (hdr : (xr == ("__debug__" : Str)) = false) (hfold : ∀ env v, foldedSetIterable (.Name xr pr) env v = pure v)
    (hrow : σ[ir]? = some (.imm (.adr ga))) (hgen : h.IsGen ga s0.gens.size) (hgal : ga ≠ L) (hgaF : ga ∉ frAt (env :: outer)) (hCf : Sub fixC fix) (hLk : ∀ o, h₁.get? L = some o → h.get? L = some o) (run : GenRun I k fixC L h₁ c (.inr X))
    (hfr : A.frames = some (env :: outer)) (hout : FrOK h (env :: outer)) (hoL : L ∉ frAt (env :: outer)) (hns : isSubtype (.type X) (.type "StopIteration") = pure false) (hE : PassesOwn (model I.prog I.w) A env E)
    (hX : ∀ e a0 base h' tk', Heap.FlyingW base (env :: outer) e (.type X) a0 h' → (∀ b o, h.get? b = some o → b ≠ L → b ∉ frAt (env :: outer) → base.get? b = some o) → (∀ b o, h.get? b = some o → b ≠ L → (∀ vs, o.data ≠ .fields vs) → ∃ sl, h'.get? b = some { o with slots := sl }) →
      E (.ref e) { s0 with heap := h', toks := tk', gens := s0.gens.push .finished }) :
    wpAny (model I.prog I.w) A (exec (.For (.Name x px) (.Name xr pr) body [] pf) env) Q E { s0 with heap := h, toks := tk, gens := s0.gens.push (.fresh c) } := by
  obtain ⟨vr, hvr, hhr⟩ := S.imm ir xr _ (idx_get hxr) hrow
  cases hvr
  refine wpAny_For (wpAny_Name (loadName_ok hS hc.kind hhr ?_) hdr) (hfold env)
  refine wpAny_pyIter_gen hgen ?_
  have hroom : A.depth < recursionLimit := by have := hA.2.1; omega
  refine codeAny_forLoop (fun _ s' => s' = { s0 with heap := h, toks := tk, gens := s0.gens.push (.fresh c) }) ?_ 0 rfl
  rintro _ s' rfl
  have hseg := run A.in1 (({ s0 with heap := h, toks := tk, gens := s0.gens.push (.fresh c) } : Shared).setGen s0.gens.size .running) (env :: outer) (fun _ _ _ _ _ => False) 0 hA.in1 (fun b o q => S.sub b o (hCf b o q)) hLk hfr hout hoL
  refine wpAny_passesOwn hE (pyNext_raises (R := gX (env :: outer) L X) (Y := fun _ _ _ _ _ => False) (n := 0) (I.nolimit S.gl) hroom hgen (Array.getElem?_push_size ..) ⟨rfl, hseg⟩ (fun _ _ _ q => q) fun r s₁ hr => ?_)
  obtain ⟨e, a0, base, h', tk', rfl, rfl, hfl, hb, hs⟩ := hr
  obtain ⟨ob, hob, hobc⟩ := hfl.there
  refine ⟨e, ob, X, rfl, hob, hobc, hns, ?_, ?_⟩
  · obtain ⟨og, nm, qn, hog, rr⟩ := hgen
    exact ⟨og, nm, qn, hfl.1 _ _ (hb _ _ hog hgal hgaF), rr⟩
  · rw [setGen_push (B := s0.gens) (y := .running) (by rw [setGen_push (B := s0.gens) rfl])]
    exact hX e a0 base h' tk' hfl hb hs

theorem eval_builtin {A : Around} {env : Env} {s : Shared} {x : Str} {px : Pos} {v : Value} {Q : Value → Shared → Prop} {E : Value → Shared → Prop} (hS : EnvS sc env) (hk : sc.kind = .function) (hm : I.mg x = none) (hx : sc.names.lookup x = some .globalImplicit) (hb : bootBuiltins x = some v) (hn : x ≠ "__name__")
    (hd : (x == ("__debug__" : Str)) = false) (gl : I.Gl s.heap) (h : Q v s) : wpAny (model I.prog I.w) A (eval (.Name x px) env) Q E s := by
  have hx' : env.kindOf x = some .globalImplicit := by unfold Env.kindOf; rw [hS.scope]; exact hx
  refine Calls.Name_function_global (hS.scope ▸ hk) hx' ?_ hd
  exact Calls.loadGlobal_builtin (hS.globals ▸ I.g gl) hm (hS.builtins ▸ I.b gl) ((I.boot _ hn).trans hb) h

/-- where a flight has landed: what the frame at hand is to know -/
structure Caught (I : GI) (sc : Scope) (env : Env) (base : Heap) (X : String) (e : Addr) (gx : Str) (S : Addr) (h : Heap) : Prop where
  fly : ∃ l a0, Heap.FlyingW base l e (.type X) a0 h
  gl : ∃ h₀, I.Gl h₀ ∧ Sub h₀.get? base.get?
  giv : ∃ m, h.Ns env.locals m ∧ m gx = some (.ref S)
theorem Caught.up {env : Env} {base : Heap} {X : String} {e S : Addr} {gx : Str} {h h' : Heap} (C : Caught I sc env base X e gx S h) (f : ∃ l a0, Heap.FlyingW base l e (.type X) a0 h') (u : h.UpToSlots h') : Caught I sc env base X e gx S h' :=
  ⟨f, C.gl, let ⟨m, a, b⟩ := C.giv; ⟨m, u.ns a, b⟩⟩

/-- an except clause: return (text, given) -/
theorem clause {A : Around} {env : Env} {base : Heap} {X T : String} {x gx txt : Str} {e S : Addr} {b : Bool} {s : Shared} {q1 q2 q3 q4 q5 q6 : Pos} {k1 : Nat} {t1 : Nat} {rest : List ExceptHandler} {Q : Flow → Shared → Prop} {E : Value → Shared → Prop}
    (hS : EnvS sc env) (hk : sc.kind = .function) (hm : I.mg x = none) (hx : sc.names.lookup x = some .globalImplicit) (hb : bootBuiltins x = some (.type T)) (hn : x ≠ "__name__") (hd : (x == ("__debug__" : Str)) = false) (hgx : sc.names.lookup gx = some .local) (hgd : (gx == ("__debug__" : Str)) = false)
    (hst : ∀ env, starEach [.Constant (.str txt) k1 q2, .Name gx q3] env = (false, eval (.Constant (.str txt) k1 q2) env) :: starEach [.Name gx q3] env) (hst' : ∀ env, starEach [.Name gx q3] env = (false, eval (.Name gx q3) env) :: starEach [] env)
    (hexc : isSubtype (.type T) (.type "BaseException") = pure true) (hnt : isSubtype (.type ((Manifest.find? T).elim "type" fun x => x.metatype)) (.type "tuple") = pure false) (hsub : isSubtype (.type X) (.type T) = pure b)
    (C : Caught I sc env base X e gx S s.heap)
    (hno : b = false → wpAny (model I.prog I.w) A (handleBy (.ref e) env rest) Q E s)
    (hyes : b = true → ∀ h' tk t, s.heap.UpToSlots h' → base.StaysIn h' → Q (.ret (.ref h'.objs.size)) { s with heap := h'.push { cls := .type "tuple", data := .seq #[.str txt t, .ref S] }, toks := tk }) :
    wpAny (model I.prog I.w) A (handleBy (.ref e) env (.ExceptHandler (some (.Name x q1)) none [.Return (some (.Tuple [.Constant (.str txt) k1 q2, .Name gx q3] t1 q4)) q5] q6 :: rest)) Q E s := by
  have glOf : ∀ {h : Heap}, base.StaysIn h → I.Gl h := fun hst => let ⟨h₀, a, b⟩ := C.gl; I.grow a fun i o q => hst i o (b i o q)
  obtain ⟨l, a0, hfl⟩ := C.fly
  obtain ⟨ob, hob, hobc⟩ := hfl.there
  refine wpAny_handleBy_builtin hexc hnt hsub (eval_builtin hS hk hm hx hb hn hd (glOf hfl.1) ⟨rfl, ⟨ob, hob, hobc⟩, ?_⟩)
  cases b with
  | false => exact hno rfl
  | true =>
    refine lands_againW hfl fun h' hfl' hup => ?_
    have C' := C.up ⟨_, _, hfl'⟩ hup
    obtain ⟨m, hm1, hm2⟩ := C'.giv
    have hkx : env.kindOf gx = some .local := by unfold Env.kindOf; rw [hS.scope]; exact hgx
    refine wpAny_execs_cons (wpAny_Return_some (wpAny_Tuple (args_cons (wpAny_Constant_str (args_cons (wpAny_Name (loadName_ok hS hk (.inl ⟨hkx, m, hm1, hm2⟩) (args_nil ⟨by rw [sizeLine_eq]; exact (by decide : 2 ≤ 16777216), ?_⟩)) hgd) (hst' env))) (hst env))))
    exact hyes rfl h' _ _ hup hfl'.1
end
end Mine
end
section
open PySem PySem.W PyProof.Rows PySem.Spec
set_option linter.unusedVariables false
set_option Elab.async false
set_option maxRecDepth 100000
namespace Mine
section
variable {I : GI} {k : Nat} {sc : Scope} {ns : List Str}

theorem SR.storeN {M : Model} {A : Around} {env : Env} {own : Nat → Addr} {g fix : G} {σ : St} {s : Shared} {E : Value → Shared → Prop} {Q : Unit → Shared → Prop} (S : SR I env ns own g fix σ s.heap) (hc : ScS sc ns) (hS : EnvS sc env) (hcl : env.cells = [])
    {i : Nat} {x : Str} {a : Addr} (hx : ns[i]? = some x) (hlo : sc.names.lookup x = some .local) (hno : ∀ (j : Nat) (l : List D), σ[j]? ≠ some (.mt l)) (ha : s.heap.get? a = some (lobj #[] 0)) (hfa : fix a = none) (haL : a ≠ env.locals)
    (hQ : ∀ h' tk own', own' i = a → SR I env ns own' g fix (σ.set i (.mt [])) h' → Heap.SameBut env.locals s.heap h' → Q () { s with heap := h', toks := tk }) : wpAny M A (storeName env x (.ref a)) Q E s := by
  obtain ⟨m, hm⟩ := S.frame
  have hl' : env.kindOf x = some .local := by unfold Env.kindOf; rw [hS.scope]; exact hlo
  refine wpAny_storeName_local hl' hm (fun h' hn hs => ?_) (by rw [hS.scope, hc.kind]; rfl)
  have hh : Holds env h' x (.ref a) := .inl ⟨hl', _, hn, by simp⟩
  obtain ⟨own', e1, ho⟩ : ∃ own' : Nat → Addr, own' i = a ∧ ∀ j, j ≠ i → own' j = own j := ⟨fun j => if j = i then a else own j, if_pos rfl, fun j hj => if_neg hj⟩
  obtain ⟨q, _⟩ := S.change hc.nd (h' := h') (sl := .mt []) (own' := own') hx hs S.fixL ⟨_, hn⟩ (fun n c hc2 => by rw [hcl] at hc2; cases hc2)
    (fun y w hy hw => by
      rcases hw with ⟨p, m', hm', q⟩ | ⟨p, c, hc, q⟩
      · rw [Ns.func hm' hm] at q
        exact .inl ⟨p, _, hn, by simp only [if_neg hy]; exact q⟩
      · rw [hcl] at hc; cases hc)
    (fun j l hj => absurd hj (hno j l)) ho (fun d' e => by cases e) (fun l e => by
      cases e
      refine ⟨by rw [e1]; exact hh, ⟨⟨#[], 0, ?_, rfl⟩, ?_, ?_, fun n c hc2 => ?_⟩, fun j l' _ hj => absurd hj (hno j l')⟩
      · rw [e1]; exact (hs.2 a haL).trans ha
      · rw [e1]; exact hfa
      · rw [e1]; exact haL
      · rw [hcl] at hc2; cases hc2)
  exact hQ h' _ _ e1 q hs

/-- a function that may note down things with the activations behind it -/
noncomputable def PrimT (I : GI) (k : Nat) (f : Value) (F : List D → Option D) : Prop :=
  ∀ (A : Around) (outer : List Env) (g : G) (s : Shared) (ds : List D) (vs : List Value) (d : D) (Q : Value → Shared → Prop) (E : Value → Shared → Prop), AOK k A → A.frames = some outer → FrOK s.heap outer → Sub g s.heap.get? →
    (∃ h₀, I.Gl h₀ ∧ Sub h₀.get? s.heap.get? ∧ ∀ a ∈ frAt outer, h₀.get? a = none) → AllBare s.gens → F ds = some d → IsL g ds vs →
    (∀ v h' tk gs, KeepS (frAt outer) s.heap h' → AllBare gs → Is (ext g s.heap h') d v → Q v { s with heap := h', toks := tk, gens := gs }) → wpAny (model I.prog I.w) A (call f vs) Q E s
structure FunT (I : GI) (k : Nat) (x : Str) (F : List D → Option D) : Prop where
  ok : ∃ f, I.mg x = some f ∧ (∀ h, I.Gl h → ∃ kp, (kp = Keeper.frame ∨ kp = Keeper.machine ∨ kp = Keeper.boundFrame) ∧ Looks (model I.prog I.w) h (keeperOf f) kp) ∧ PrimT I k f F

noncomputable def tellO : Option (List Int ⊕ String) → Option D
  | some (.inl vals) => if vals.length ≤ sizeLine then some (.tup [.str "", .lst (intsD vals)]) else none
  | some (.inr c) => if c = "IndexError" then some (.tup [.str "short", .lst []]) else if c = "ZeroDivisionError" then some (.tup [.str "nought", .lst []]) else if c = "Exception" then some (.tup [.str "unknown", .lst []]) else none
  | none => none
noncomputable def tellF (Fx : List D → Option (List Int ⊕ String)) : List D → Option D
  | [.str x] => tellO (Fx [.str x])
  | _ => none

noncomputable abbrev tellNs : List Str := ["text", "row", "given", "value"]
theorem told {x : Str} {params : Arguments} {body : List Stmt} {Fx : List D → Option (List Int ⊕ String)} {p1 p2 p3 p4 p5 p6 p7 p8 p9 p10 p11 p12 p13 p14 p15 p16 p17 a1 a2 a3 a4 a5 a6 b1 b2 b3 b4 b5 b6 c1 c2 c3 c4 c5 c6 r1 r2 r3 r4 : Pos} {k1 k2 k3 k4 t1 t2 t3 t4 : Nat} {pl : Env → Sem Bool}
    (hbody : body = [.Assign [.Name "row" p1] (.Call (.Name "rpn" p2) [.Name "text" p3] [] p4) p5, .Assign [.Name "given" p6] (.List [] p7) p8,
      .Try [.For (.Name "value" p9) (.Name "row" p10) [.Expr (.Call (.Attribute (.Name "given" p11) "append" p12) [.Name "value" p13] [] p14) p15] [] p16]
        [.ExceptHandler (some (.Name "IndexError" a1)) none [.Return (some (.Tuple [.Constant (.str "short") k1 a2, .Name "given" a3] t1 a4)) a5] a6,
         .ExceptHandler (some (.Name "ZeroDivisionError" b1)) none [.Return (some (.Tuple [.Constant (.str "nought") k2 b2, .Name "given" b3] t2 b4)) b5] b6,
         .ExceptHandler (some (.Name "Exception" c1)) none [.Return (some (.Tuple [.Constant (.str "unknown") k3 c2, .Name "given" c3] t3 c4)) c5] c6] [] [] p17,
      .Return (some (.Tuple [.Constant (.str "") k4 r1, .Name "given" r2] t4 r3)) r4])
    (hns : ns = tellNs) (hat : FnAt I x params body sc) (hc : ScS sc ns)
    (hbind : ∀ pm cd doc vs, vs.length = 1 → bindArgs (Calls.docDef x params body sc pm cd doc) ⟨vs, []⟩ = pure ((ns.take 1).zip vs)) (hco : sc.isCoroutine = false) (hgen : sc.isGenerator = false) (hcl : ∀ n, cellsFrom n sc.names [] = []) (hlo : ∀ y ∈ ns, sc.names.lookup y = some .local)
    (g1 : sc.names.lookup ("rpn" : Str) = some .globalImplicit) (g2 : sc.names.lookup ("IndexError" : Str) = some .globalImplicit) (g3 : sc.names.lookup ("ZeroDivisionError" : Str) = some .globalImplicit) (g4 : sc.names.lookup ("Exception" : Str) = some .globalImplicit)
    (m2 : I.mg ("IndexError" : Str) = none) (m3 : I.mg ("ZeroDivisionError" : Str) = none) (m4 : I.mg ("Exception" : Str) = none)
    (hs1 : ∀ env, swapsWith (.Call (.Name "rpn" p2) [.Name "text" p3] [] p4) (some (.Name "row" p1)) p5.line env = pure false) (hs2 : ∀ env, swapsWith (.List [] p7) (some (.Name "given" p6)) p8.line env = pure false)
    (hsw : ∀ env, swapsWith (.Call (.Attribute (.Name "given" p11) "append" p12) [.Name "value" p13] [] p14) none p15.line env = pure false)
    (hap : ∀ env, eval (.Call (.Attribute (.Name "given" p11) "append" p12) [.Name "value" p13] [] p14) env = (do
      let ov ← eval (.Name "given" p11) env
      standAt p12.atName
      let (f, first) ← holding [ov] (getMethod ov "append" (pl env))
      callWith p14 f first (backTo p14 (starEach [.Name "value" p13] env)) []))
    (hG : GenE I k "rpn" Fx) : FunT I (k + 3) x (tellF Fx) := by
  obtain ⟨a, hmg, hkp, hcall⟩ := callsTo (m := 1) hat hc (by rw [hns]; decide) hbind hco hgen
  refine ⟨.ref a, hmg, hkp, fun A outer g s ds vs d Q E hA hfr hout sub hb0 hb hf hv P => ?_⟩
  obtain ⟨h₀, gl₀, sub₀, off₀⟩ := hb0
  have gl : I.Gl s.heap := I.grow gl₀ sub₀
  obtain ⟨aR, hmgR, hkpR, hcallR⟩ := hG
  obtain ⟨xt, rfl⟩ : ∃ xt, ds = [.str xt] := by
    cases ds with
    | nil => exact no_some hf
    | cons y r =>
      cases y with
      | str xt =>
        cases r with
        | nil => exact ⟨xt, rfl⟩
        | cons _ _ => exact no_some hf
      | _ => exact no_some hf
  replace hf : tellO (Fx [.str xt]) = some d := hf
  have hne : ∃ o, Fx [.str xt] = some o := by
    cases q : Fx [.str xt] with
    | none => rw [q] at hf; exact no_some hf
    | some o => exact ⟨o, rfl⟩
  obtain ⟨o, ho⟩ := hne
  rw [ho] at hf
  refine hcall A g s.heap.get? s _ vs Q E hA.room gl sub (Sub.refl _) ⟨h₀, gl₀, sub₀⟩ hv rfl fun env h₁ tk₁ E' hS hef eloc hecl hkeep S => ?_
  have hA' : AOK (k + 2) (A.deeper env) := hA.deeper
  have hfr' : (A.deeper env).frames = some (env :: outer) := Around.frames_deeper hfr
  have ecl : env.cells = [] := by rw [hecl]; exact hcl _
  have hnone : s.heap.get? env.locals = none := by rw [eloc]; exact fresh_none _
  subst hbody
  subst hns
  have i0 : idx tellNs ("text" : Str) = some 0 := by decide +kernel
  have i1 : idx tellNs ("row" : Str) = some 1 := by decide +kernel
  have i2 : idx tellNs ("given" : Str) = some 2 := by decide +kernel
  have i3 : idx tellNs ("value" : Str) = some 3 := by decide +kernel
  obtain ⟨vt, hvt, hht⟩ := S.imm 0 "text" _ (idx_get i0) rfl
  -- row = rpn(text)
  refine wpAny_execs_cons (wpAny_Assign_Name (call_name (I := I) hS hc.kind g1 rfl S.gl (.inl hmgR) (fun h gl => ⟨.frame, .inl rfl, hkpR h gl⟩) rfl ⟨_, _, rfl⟩ (args_cons (wpAny_Name (loadName_ok hS hc.kind hht (args_nil ⟨S.gl, ?_⟩)) rfl) rfl)) (hs1 env))
  refine hcallR (A.deeper env) g s.heap.get? { s with heap := h₁, toks := tk₁ } [.str xt] [vt] o _ _ hA'.room S.gl sub hkeep ⟨h₀, gl₀, sub₀⟩ ⟨vt, [], rfl, hvt, rfl⟩ ho fun L ga c h₂ tk₂ kk hLn hLl hgan hgen' hgaL run => ?_
  have Ls : s.heap.get? L = none := Sub.none hkeep hLn
  have gas : s.heap.get? ga = none := Sub.none hkeep hgan
  have elive : ∃ o, h₁.get? env.locals = some o := by obtain ⟨m, o, es, ep, q, r⟩ := S.frame; exact ⟨o, q⟩
  have hLe : L ≠ env.locals := fun q => by obtain ⟨o, z⟩ := elive; rw [← q, hLn] at z; cases z
  have hgae : ga ≠ env.locals := fun q => by obtain ⟨o, z⟩ := elive; rw [← q, hgan] at z; cases z
  have SA : SR I env tellNs (fun _ => 0) g s.heap.get? (startSt [.str xt] 4) h₂ := S.keep kk
  refine SA.storeL (s := { s with heap := h₂, toks := tk₂, gens := s.gens.push (.fresh c) }) hc hS ecl (Nat.le_refl _) (d := .adr ga) (idx_get i1) (hlo _ (by decide +kernel)) rfl fun h₃ tk₃ SB hs₃ => ?_
  have hL3 : ∀ o, h₂.get? L = some o → h₃.get? L = some o := fun o q => (hs₃.2 L hLe).trans q
  have gen3 : h₃.IsGen ga s.gens.size := let ⟨og, nm, qn, hog, rr⟩ := hgen'; ⟨og, nm, qn, (hs₃.2 ga hgae).trans hog, rr⟩
  -- given = []
  have nomt : ∀ (j : Nat) (l : List D), ((startSt [.str xt] 4).set 1 (.imm (.adr ga)))[j]? ≠ some (.mt l) := fun j l q => by
    by_cases hj : j = 1
    · subst hj; cases q
    · rw [List.getElem?_set_ne (Ne.symm hj)] at q; exact startSt_no j l q
  refine wpAny_execs_cons (wpAny_Assign_Name (wpAny_List (args_nil ⟨Nat.zero_le _, ?_⟩)) (hs2 env))
  have SC := SB.keep (Grow.push h₃ (lobj #[] 0))
  have hS3 : h₃.get? h₃.objs.size = none := fresh_none _
  have old3 : ∀ b o, s.heap.get? b = some o → h₃.get? b = some o := fun b o q => SB.sub b o q
  have e3live : ∃ o, h₃.get? env.locals = some o := by obtain ⟨m, o, es, ep, q, r⟩ := SB.frame; exact ⟨o, q⟩
  have hSe : h₃.objs.size ≠ env.locals := fun q => by obtain ⟨o, z⟩ := e3live; rw [← q, hS3] at z; cases z
  refine SC.storeN (s := { s with heap := h₃.push (lobj #[] 0), toks := tk₃, gens := s.gens.push (.fresh c) }) hc hS ecl (idx_get i2) (hlo _ (by decide +kernel)) nomt (Heap.get?_push_size _ rfl) (Sub.none old3 hS3) hSe fun h₄ tk₄ own4 ho4 S4 hs₄ => ?_
  have up4 : ∀ b o, b ≠ env.locals → h₃.get? b = some o → h₄.get? b = some o := fun b o hb q => (hs₄.2 b hb).trans (Heap.get?_push_of_some _ q)
  have gen4 : h₄.IsGen ga s.gens.size := let ⟨og, nm, qn, hog, rr⟩ := gen3; ⟨og, nm, qn, up4 ga og hgae hog, rr⟩
  obtain ⟨o3, hL3o⟩ : ∃ o, h₃.get? L = some o := by obtain ⟨o, q⟩ := Option.isSome_iff_exists.mp hLl; exact ⟨o, hL3 o q⟩
  have hLg : L ≠ own4 2 := fun q => by rw [ho4] at q; rw [q, hS3] at hL3o; cases hL3o
  have hgag : ga ≠ own4 2 := fun q => by obtain ⟨og, nm, qn, hog, rr⟩ := gen3; rw [ho4] at q; rw [q, hS3] at hog; cases hog
  have hLk4 : ∀ o, h₂.get? L = some o → h₄.get? L = some o := fun o q => up4 L o hLe (hL3 o q)
  have hL4 : (h₄.get? L).isSome = true := some_live (up4 L o3 hLe hL3o)
  cases o with
  | inl vals =>
    obtain ⟨hz, rfl⟩ := ite_some hf
    refine wpAny_execs_cons (wpAny_Try_except (wpAny_execs_cons (gen_for (iv := 3) (ir := 1) (ig := 2) (s0 := s) (tk := tk₄) hc hS ecl hA' S4 rfl i3 i1 i2 (by decide) (hlo _ (by decide +kernel)) rfl rfl rfl (fun _ _ => rfl) (fun _ => rfl) hap hsw rfl rfl (fun i l q => ?_) hz gen4 hgae hgag hgaL hL4 hLe hLg Ls (Sub.refl _) hLk4 run fun h₅ tk₅ σ5 S5 hl5 hg5 => ?_)))
    · by_cases hi : i = 2
      · exact hi
      · rw [List.getElem?_set_ne (Ne.symm hi)] at q; exact absurd q (nomt i l)
    · refine wpAny_execs_nil (wpAny_execs_nil ?_)
      have hev : EvsOK I k sc tellNs [.Constant (.str "") k4 r1, .Name "given" r2] (esC (eCst (.str "")) (esC (eVar 2) es0)) := EvsOK.cons EvOK.cstr (EvsOK.cons (EvOK.v i2 hc.kind rfl (by rw [hlo _ (by decide +kernel)]; rfl)) EvsOK.nil fun _ => rfl) fun _ => rfl
      refine wpAny_execs_cons (RunOK.ret (EvOK.tup hev) env (A.deeper env) own4 g s.heap.get? σ5 { s with heap := h₅, toks := tk₅, gens := s.gens.push .finished } 0 σ5 (.ret (.tup [.str "", .lst (intsD vals)])) _ _ hS (hA'.le (Nat.le_add_right k 2)) S5 ?_ fun own6 g6 fix6 h₆ tk₆ f S6 A6 hf6 => ?_)
      · have eF : (rdF σ5)[2]? = some (some (.lst (intsD vals))) := by unfold rdF; rw [List.getElem?_map, hg5]; rfl
        have eH : (rdH σ5)[2]? = some none := by unfold rdH; rw [List.getElem?_map, hg5]; rfl
        have hz2 : (2 : Nat) ≤ sizeLine := by rw [sizeLine_eq]; decide
        unfold lenOk rRet eTup esC eVar es0 eCst
        rw [if_pos hl5]
        simp only [eF, eH, List.length_cons, List.length_nil, hz2, if_true]
      · obtain ⟨v, gR', rfl, hI, hsub, hnew⟩ := hf6
        obtain ⟨q1, q2⟩ := SR.fin (s := s) sub S6 A6 hI hsub hnew
        exact P v h₆ tk₆ _ (KeepS.of_grow q1) (hb.push rfl) q2
  | inr X =>
    have hX3 : (X = "IndexError" ∧ d = .tup [.str "short", .lst []]) ∨ (X = "ZeroDivisionError" ∧ d = .tup [.str "nought", .lst []]) ∨ (X = "Exception" ∧ d = .tup [.str "unknown", .lst []]) := by
      unfold tellO at hf
      simp only at hf
      split at hf
      · rename_i q; cases hf; exact .inl ⟨q, rfl⟩
      · split at hf
        · rename_i q; cases hf; exact .inr (.inl ⟨q, rfl⟩)
        · split at hf
          · rename_i q; cases hf; exact .inr (.inr ⟨q, rfl⟩)
          · cases hf
    have hns : isSubtype (.type X) (.type "StopIteration") = pure false := by
      rcases hX3 with ⟨rfl, _⟩ | ⟨rfl, _⟩ | ⟨rfl, _⟩ <;> (rw [isSubtype_type]; kernel_rfl)
    have outS : ∀ b ∈ frAt outer, ∃ o, s.heap.get? b = some o ∧ ∀ vs, o.data ≠ .fields vs := fun b hb => by
      obtain ⟨e2, he2, hf2⟩ := List.mem_filterMap.mp hb
      obtain ⟨_, L2, o2, hf3, ho2, hd2⟩ := hout e2 he2
      rw [hf2] at hf3; cases hf3
      exact ⟨o2, ho2, hd2⟩
    have notF : ∀ b, s.heap.get? b = none → b ≠ env.locals → b ∉ frAt (env :: outer) := fun b hb hbe hm => by
      unfold frAt at hm
      rw [List.filterMap_cons, hef] at hm
      rcases List.mem_cons.mp hm with q | q
      · exact hbe q
      · obtain ⟨o, q, _⟩ := outS b q; rw [hb] at q; cases q
    have fr4 : FrOK h₄ (env :: outer) := fun e2 he2 => by
      rcases List.mem_cons.mp he2 with rfl | he2
      · obtain ⟨m, hm⟩ := S4.frame
        obtain ⟨o, q1, q2⟩ := ns_notFields hm
        exact ⟨by rw [hS.scope, hc.kind]; exact fun q => (nomatch q), e2.locals, o, hef, q1, q2⟩
      · obtain ⟨a, L2, o, hf2, ho2, hd2⟩ := hout e2 he2
        exact ⟨a, L2, o, hf2, S4.sub _ _ ho2, hd2⟩
    refine wpAny_execs_cons (wpAny_Try_except (wpAny_execs_cons (gen_for_exc (ir := 1) (s0 := s) (tk := tk₄) (outer := outer) hc hS hA' S4 i1 rfl (fun _ _ => rfl) rfl gen4 hgaL (notF ga gas hgae) (Sub.refl _) hLk4 run hfr' fr4 (notF L Ls hLe) hns PassesOwn.looking fun e a0 base h5 tk5 hfl hbs hsl => ?_)))
    refine wpAny_looks_onW hfr' hef hfl fun h6 hheld u6 => wpAny_landsW hheld fun h7 hfl7 u7 => ?_
    obtain ⟨hhg, hOg⟩ := S4.mtd 2 "given" [] (idx_get i2) rfl
    obtain ⟨vs4, n4, p1, p2⟩ := hOg.obj
    have giv : ∃ m, h7.Ns env.locals m ∧ m "given" = some (.ref (own4 2)) := by
      rcases hhg with ⟨_, m, hm, hmx⟩ | ⟨_, c2, hc2, _⟩
      · obtain ⟨o, es, ep, ho2, hd2, r⟩ := hm
        obtain ⟨sl, q⟩ := hsl _ o ho2 (Ne.symm hLe) (fun vs q => by rw [hd2] at q; cases q)
        have n5 : h5.Ns env.locals m := ⟨_, es, ep, q, hd2, r⟩
        exact ⟨m, u7.ns (u6.ns n5), hmx⟩
      · rw [ecl] at hc2; cases hc2
    have sne : ∀ {b o}, s.heap.get? b = some o → b ≠ L ∧ b ≠ env.locals := fun q => ⟨fun z => (by rw [z, Ls] at q; cases q), fun z => (by rw [z, hnone] at q; cases q)⟩
    have nin : ∀ {b}, b ∉ frAt outer → b ≠ env.locals → b ∉ frAt (env :: outer) := fun {b} hb hbe hm => by
      unfold frAt at hm
      rw [List.filterMap_cons, hef] at hm
      rcases List.mem_cons.mp hm with q | q
      · exact hbe q
      · exact hb q
    have C : Caught I sc env base X e "given" (own4 2) h7 := ⟨⟨_, _, hfl7⟩, ⟨h₀, gl₀, fun b o q => by
      have q1 := sub₀ b o q
      exact hbs b o (S4.sub b o q1) (sne q1).1 (nin (fun hm => by rw [off₀ b hm] at q; cases q) (sne q1).2)⟩, giv⟩
    have fin : ∀ txt : Str, d = .tup [.str txt, .lst []] → ∀ h' tk t, h7.UpToSlots h' → base.StaysIn h' → Q (.ref h'.objs.size) { s with heap := h'.push { cls := .type "tuple", data := .seq #[.str txt t, .ref (own4 2)] }, toks := tk, gens := s.gens.push .finished } := fun txt hd h' tk t up st => by
      have KS : KeepS (frAt outer) s.heap h' := fun b o q => by
        have q4 := S4.sub b o q
        obtain ⟨n1, n2⟩ := sne q
        by_cases hm : b ∈ frAt outer
        · obtain ⟨o2, q2, hdf⟩ := outS b hm
          rw [q] at q2; cases q2
          obtain ⟨sl, r1⟩ := hsl b o q4 n1 hdf
          obtain ⟨sl2, r2⟩ := (u6.trans (u7.trans up)) b _ r1 hdf
          exact ⟨sl2, r2, fun hn => absurd hm hn⟩
        · exact ⟨o.slots, st b o (hbs b o q4 n1 (nin hm n2)), fun _ => rfl⟩
      have sz : s.heap.get? h'.objs.size = none := by
        cases q : s.heap.get? h'.objs.size with
        | none => rfl
        | some o => obtain ⟨sl, q2, _⟩ := KS _ _ q; exact absurd (Heap.lt_size q2) (Nat.lt_irrefl _)
      have gn : (h'.push { cls := .type "tuple", data := .seq #[.str txt t, .ref (own4 2)] }).get? (own4 2) = some (lobj vs4 n4) :=
        Heap.get?_push_of_some _ (st _ _ (hbs _ _ p1 (Ne.symm hLg) (notF _ hOg.off (by rw [ho4]; exact hSe))))
      refine P _ _ tk _ (KS.trans (KeepS.of_grow (Grow.push _ _))) (hb.push rfl) ?_
      rw [hd]
      exact ⟨h'.objs.size, _, _, _, rfl, (ext_new sz).trans (Heap.get?_push_size _ rfl), rfl, rfl, _, _, rfl, ⟨t, rfl⟩, _, _, rfl, ⟨own4 2, lobj vs4 n4, vs4, n4, rfl, (ext_new hOg.off).trans gn, rfl, rfl, p2⟩, rfl⟩
    have hgx : sc.names.lookup ("given" : Str) = some .local := hlo _ (by decide +kernel)
    rcases hX3 with ⟨rfl, hd⟩ | ⟨rfl, hd⟩ | ⟨rfl, hd⟩
    · refine clause (T := "IndexError") (b := true) hS hc.kind m2 g2 rfl (by decide) rfl hgx rfl (fun _ => rfl) (fun _ => rfl) PySem.F.isExc_IndexError PySem.F.notTuple_IndexError (by rw [isSubtype_type]; kernel_rfl) C (fun q => nomatch q) fun _ h' tk t up st => ?_
      exact fin _ hd h' tk t up st
    · refine clause (T := "IndexError") (b := false) hS hc.kind m2 g2 rfl (by decide) rfl hgx rfl (fun _ => rfl) (fun _ => rfl) PySem.F.isExc_IndexError PySem.F.notTuple_IndexError (by rw [isSubtype_type]; kernel_rfl) C (fun _ => ?_) (fun q => nomatch q)
      refine clause (T := "ZeroDivisionError") (b := true) hS hc.kind m3 g3 rfl (by decide) rfl hgx rfl (fun _ => rfl) (fun _ => rfl) PySem.F.isExc_ZeroDivisionError PySem.F.notTuple_ZeroDivisionError (by rw [isSubtype_type]; kernel_rfl) C (fun q => nomatch q) fun _ h' tk t up st => ?_
      exact fin _ hd h' tk t up st
    · refine clause (T := "IndexError") (b := false) hS hc.kind m2 g2 rfl (by decide) rfl hgx rfl (fun _ => rfl) (fun _ => rfl) PySem.F.isExc_IndexError PySem.F.notTuple_IndexError (by rw [isSubtype_type]; kernel_rfl) C (fun _ => ?_) (fun q => nomatch q)
      refine clause (T := "ZeroDivisionError") (b := false) hS hc.kind m3 g3 rfl (by decide) rfl hgx rfl (fun _ => rfl) (fun _ => rfl) PySem.F.isExc_ZeroDivisionError PySem.F.notTuple_ZeroDivisionError (by rw [isSubtype_type]; kernel_rfl) C (fun _ => ?_) (fun q => nomatch q)
      refine clause (T := "Exception") (b := true) hS hc.kind m4 g4 rfl (by decide) rfl hgx rfl (fun _ => rfl) (fun _ => rfl) PySem.F.isExc_Exception PySem.F.notTuple_Exception (by rw [isSubtype_type]; kernel_rfl) C (fun q => nomatch q) fun _ h' tk t up st => ?_
      exact fin _ hd h' tk t up st
end
end Mine
end
section
open PySem PySem.W PyProof.Rows PySem.Spec
set_option linter.unusedVariables false
set_option Elab.async false
set_option maxRecDepth 100000
namespace Mine
section
variable {I : GI} {k : Nat} {sc : Scope} {ns : List Str}

/-- the frame at hand stands, where something was noted down with it -/
theorem SR.keepS {env : Env} {own : Nat → Addr} {g fix : G} {σ : St} {h h' : Heap} (S : SR I env ns own g fix σ h) (hcl : env.cells = []) (kk : KeepS [env.locals] h h') : SR I env ns own (ext g h h') (ext fix h h') σ h' := by
  have at_ : ∀ b o, b ≠ env.locals → h.get? b = some o → h'.get? b = some o := fun b o hb e => kk.at (by simpa using hb) e
  have ns_ : ∀ {m}, h.Ns env.locals m → h'.Ns env.locals m := fun {m} x => by
    obtain ⟨o, es, ep, e, d, r⟩ := x
    obtain ⟨sl, q, _⟩ := kk _ _ e
    exact ⟨_, es, ep, q, d, r⟩
  have holds : ∀ x v, Holds env h x v → Holds env h' x v := fun x v hv => by
    rcases hv with ⟨p, m, hm, q⟩ | ⟨p, c, hc, _⟩
    · exact .inl ⟨p, m, ns_ hm, q⟩
    · rw [hcl] at hc; cases hc
  exact {
    gfix := ext_mono S.gfix
    sub := fun b o e => by
      cases q : h.get? b with
      | none => rw [ext_new q] at e; exact e
      | some o' =>
        rw [ext_old q] at e
        exact at_ b o (fun z => by rw [z, S.fixL] at e; cases e) (S.sub b o e)
    base := let ⟨h₀, a, b⟩ := S.base; ⟨h₀, a, b.trans (ext_sub S.sub)⟩
    frame := let ⟨m, a⟩ := S.frame; ⟨m, ns_ a⟩
    fixL := by
      obtain ⟨m, o, _, _, e, _⟩ := S.frame
      rw [ext_old e]; exact S.fixL
    cells := fun n c hc => by rw [hcl] at hc; cases hc
    apart := S.apart
    imm := fun i x d hx hd => let ⟨v, a, b⟩ := S.imm i x d hx hd; ⟨v, Is.mono (ext_sub (S.gfix.trans S.sub)) d a, holds x v b⟩
    mtd := fun i x l hx hd => by
      obtain ⟨a, b⟩ := S.mtd i x l hx hd
      obtain ⟨vs, n, h1, h2⟩ := b.obj
      exact ⟨holds x _ a, ⟨⟨vs, n, at_ _ _ b.loc h1, IsL.mono (ext_sub (S.gfix.trans S.sub)) l h2⟩, by rw [ext_old h1]; exact b.off, b.loc, b.cel⟩⟩
    inj := S.inj }

/-- as RunG, in the outermost activation -/
noncomputable def RunL (I : GI) (k : Nat) (sc : Scope) (ns : List Str) (t : Env → Sem Flow) (F : Run) : Prop :=
  ∀ (env : Env) (A : Around) (own : Nat → Addr) (g fix : G) (σ : St) (s : Shared) (fuel : Nat) (σ' : St) (fl : Fl) (Q : Flow → Shared → Prop) (E : Value → Shared → Prop),
    EnvS sc env → AOK k A → A.frames = some [env] → env.frame = some env.locals → env.cells = [] → SR I env ns own g fix σ s.heap → AllBare s.gens → F fuel σ = some (σ', fl) →
    (∀ own' g' fix' h' tk gs f, SR I env ns own' g' fix' σ' h' → After g fix g' fix' → FlOK g' fix' h' fl f → AllBare gs → Q f { s with heap := h', toks := tk, gens := gs }) → wpAny (model I.prog I.w) A (t env) Q E s
theorem RunL.of {t : Env → Sem Flow} {F : Run} (h : RunOK I k sc ns t F) : RunL I k sc ns t F := fun env A own g fix σ s fuel σ' fl Q E hS hA _ _ _ S hb hF P =>
  h env A own g fix σ s fuel σ' fl Q E hS hA S hF fun own' g' fix' h' tk f S' A' hf => P own' g' fix' h' tk s.gens f S' A' hf hb
theorem RunL.cons {st : Stmt} {rest : List Stmt} {F Fs : Run} (h : RunL I k sc ns (exec st) F) (hs : RunL I k sc ns (execs rest) Fs) : RunL I k sc ns (execs (st :: rest)) (rSeq F Fs) := by
  intro env A own g fix σ s fuel σ' fl Q E hS hA h1 h2 h3 S hb hF P
  unfold rSeq at hF
  refine wpAny_execs_cons ?_
  split at hF
  · rename_i σ₁ e1
    refine h env A own g fix σ s fuel σ₁ .next _ E hS hA h1 h2 h3 S hb e1 fun own₁ g₁ fix₁ h₁ tk₁ gs₁ f S₁ A₁ hf hb₁ => ?_
    rw [show f = .next from hf]
    exact hs env A own₁ g₁ fix₁ σ₁ _ fuel σ' fl Q E hS hA h1 h2 h3 S₁ hb₁ hF fun own₂ g₂ fix₂ h₂ tk₂ gs₂ f₂ S₂ A₂ hf₂ hb₂ => P own₂ g₂ fix₂ h₂ tk₂ gs₂ f₂ S₂ (A₁.trans A₂) hf₂ hb₂
  · rename_i hne
    refine h env A own g fix σ s fuel σ' fl _ E hS hA h1 h2 h3 S hb hF fun own₁ g₁ fix₁ h₁ tk₁ gs₁ f S₁ A₁ hf hb₁ => ?_
    have q := P own₁ g₁ fix₁ h₁ tk₁ gs₁ f S₁ A₁ hf hb₁
    cases fl with
    | next => exact absurd hF (hne σ')
    | cont => rw [show f = .cont from hf] at q ⊢; exact q
    | ret d => obtain ⟨v, gR, rfl, _⟩ := hf; exact q
    | exc c => exact hf.elim

/-- told(..) op r -/
theorem told_cmp {x : Str} {px pos : Pos} {args : List Expr} {r : Expr} {op : CmpOp} {F : List D → Option D} {Fs : Evs} {Fr : Ev} {f : D → D → Option D} (hx : sc.names.lookup x = some .globalImplicit) (hk : sc.kind = .function) (hd : (x == ("__debug__" : Str)) = false)
    (hp : ∀ env, (backTo pos (starEach args env)).any (·.1) = false) (hs : ∀ env, ∃ t rest, backTo pos (starEach args env) = (false, t) :: rest) (hT : FunT I k x F) (ha : EvsOK I k sc ns args Fs) (hr : EvOK I k sc ns r Fr) (ho : OpOK I k (compareOp op) f)
    {env : Env} {A : Around} {own : Nat → Addr} {g fix : G} {σ : St} {s : Shared} {z : D} {K : Value → Shared → Prop} {E : Value → Shared → Prop} (hS : EnvS sc env) (hA : AOK k A) (hfr : A.frames = some [env]) (hef : env.frame = some env.locals) (hcl : env.cells = []) (S : SR I env ns own g fix σ s.heap) (hb : AllBare s.gens)
    (hF : e2 f (eCall F Fs) Fr (rdH σ) = some z)
    (hK : ∀ g' fix' v h' tk gs, SR I env ns own g' fix' σ h' → After g fix g' fix' → Is g' z v → AllBare gs → K v { s with heap := h', toks := tk, gens := gs }) :
    wpAny (model I.prog I.w) A (eval (.Call (.Name x px) args [] pos) env) (fun a s₁ => wpAny (model I.prog I.w) A (eval r env) (fun b s₂ => wpAny (model I.prog I.w) A (compareOp op a b) K E s₂) E s₁) E s := by
  obtain ⟨d, y, hd1, hy, hf⟩ := e2_some hF
  unfold eCall at hd1
  split at hd1
  case h_2 => cases hd1
  rename_i ds hds
  obtain ⟨fv, hn, hkp, hcall⟩ := hT.ok
  refine call_name (I := I) hS hk hx hd S.gl (.inl hn) hkp (hp env) (hs env) (ha env A g (rdH σ) s ds pos _ E hS hA S.viewH hds fun vs h₁ tk₁ k₁ hvs => ⟨I.grow S.gl k₁, ?_⟩)
  have S₁ := S.grow k₁
  have fr1 : FrOK h₁ [env] := fun e2 he2 => by
    rw [List.mem_singleton.mp he2]
    obtain ⟨m, hm⟩ := S₁.frame
    obtain ⟨o, q1, q2⟩ := ns_notFields hm
    exact ⟨by rw [hS.scope, hk]; exact fun q => (nomatch q), env.locals, o, hef, q1, q2⟩
  have efr : frAt [env] = [env.locals] := by unfold frAt; rw [List.filterMap_cons, hef]; rfl
  refine hcall A [env] _ { s with heap := h₁, toks := tk₁ } ds vs d _ E hA hfr fr1 (S₁.gfix.trans S₁.sub) ?_ hb hd1 hvs fun v h₂ tk₂ gs kS hb₂ hv => ?_
  · obtain ⟨h₀, a, b⟩ := S₁.base
    refine ⟨h₀, a, b.trans S₁.sub, fun c hc => ?_⟩
    rw [efr, List.mem_singleton] at hc
    rw [hc]; exact b.none S₁.fixL
  rw [efr] at kS
  have S₂ := S₁.keepS hcl kS
  have A₁ : After g fix (ext g s.heap h₁) (ext fix s.heap h₁) := After.grow (S.gfix.trans S.sub) S.sub
  have A₂ : After (ext g s.heap h₁) (ext fix s.heap h₁) (ext (ext g s.heap h₁) h₁ h₂) (ext (ext fix s.heap h₁) h₁ h₂) := After.grow (S₁.gfix.trans S₁.sub) S₁.sub
  refine hr env A _ (rdH σ) { s with heap := h₂, toks := tk₂, gens := gs } y _ E hS hA S₂.viewH hy fun u h₃ tk₃ k₃ hu => ?_
  have S₃ := S₂.grow k₃
  have A₃ := (A₁.trans A₂).trans (After.grow (h := h₂) (h' := h₃) (S₂.gfix.trans S₂.sub) S₂.sub)
  refine ho A _ { s with heap := h₃, toks := tk₃, gens := gs } d y z v u K E hA (S₃.gfix.trans S₃.sub) S₃.gl (Is.mono (ext_sub (S₂.gfix.trans S₂.sub)) d hv) hu hf fun w h₄ tk₄ k₄ hw => ?_
  have S₄ := S₃.grow k₄
  exact hK _ _ w h₄ tk₄ gs S₄ (A₃.trans (After.grow (h := h₃) (h' := h₄) (S₃.gfix.trans S₃.sub) S₃.sub)) hw hb₂

noncomputable def rIfH (T : Tr) (F F' : Run) : Run := fun fuel σ => match T (rdH σ) with
  | some true => F fuel σ
  | some false => F' fuel σ
  | none => none
theorem RunL.ifTold {x : Str} {px pos cpos ipos : Pos} {args : List Expr} {r : Expr} {op : CmpOp} {body orelse : List Stmt} {F : List D → Option D} {Fs : Evs} {Fr : Ev} {f : D → D → Option D} {B O : Run} (hx : sc.names.lookup x = some .globalImplicit) (hk : sc.kind = .function) (hd : (x == ("__debug__" : Str)) = false)
    (hp : ∀ env, (backTo pos (starEach args env)).any (·.1) = false) (hs : ∀ env, ∃ t rest, backTo pos (starEach args env) = (false, t) :: rest) (hm : behindInMarks op r = false) (hT : FunT I k x F) (ha : EvsOK I k sc ns args Fs) (hr : EvOK I k sc ns r Fr) (ho : OpOK I k (compareOp op) f)
    (hb : RunL I k sc ns (execs body) B) (hoe : RunL I k sc ns (execs orelse) O) : RunL I k sc ns (exec (.If (.Compare (.Call (.Name x px) args [] pos) [op] [r] cpos) body orelse ipos)) (rIfH (tOf (e2 f (eCall F Fs) Fr)) B O) := by
  intro env A own g fix σ s fuel σ' fl Q E hS hA h1 h2 h3 S hbr hF P
  unfold rIfH at hF
  have go : ∀ b z, e2 f (eCall F Fs) Fr (rdH σ) = some z → fTruth z = some b → (∀ g' fix' h' tk gs, SR I env ns own g' fix' σ h' → After g fix g' fix' → AllBare gs → (if b then wpAny (model I.prog I.w) A (execs body env) Q E else wpAny (model I.prog I.w) A (execs orelse env) Q E) { s with heap := h', toks := tk, gens := gs }) → wpAny (model I.prog I.w) A (exec (.If (.Compare (.Call (.Name x px) args [] pos) [op] [r] cpos) body orelse ipos) env) Q E s := fun b z hz hb1 hgo => by
    refine wpAny_If (wpAny_isTrue_Compare1 (told_cmp hx hk hd hp hs hT ha hr ho hS hA h1 h2 h3 S hbr hz fun g' fix' v h' tk gs S' A' hv hb' => ?_) hm)
    refine truth_ok (s := { s with heap := h', toks := tk, gens := gs }) (S'.gfix.trans S'.sub) hv hb1 fun tk' => ?_
    have q := hgo g' fix' h' tk' gs S' A' hb'
    cases b <;> exact q
  unfold tOf at hF
  cases hz : e2 f (eCall F Fs) Fr (rdH σ) with
  | none => simp only [hz] at hF; cases hF
  | some z =>
    simp only [hz] at hF
    cases hb1 : fTruth z with
    | none => simp only [hb1] at hF; cases hF
    | some b =>
      simp only [hb1] at hF
      refine go b z hz hb1 fun g' fix' h' tk gs S' A' hb' => ?_
      cases b with
      | true => exact hb env A own g' fix' σ _ fuel σ' fl Q E hS hA h1 h2 h3 S' hb' hF fun own₂ g₂ fix₂ h₂ tk₂ gs₂ f₂ S₂ A₂ hf₂ hb₂ => P own₂ g₂ fix₂ h₂ tk₂ gs₂ f₂ S₂ (A'.trans A₂) hf₂ hb₂
      | false => exact hoe env A own g' fix' σ _ fuel σ' fl Q E hS hA h1 h2 h3 S' hb' hF fun own₂ g₂ fix₂ h₂ tk₂ gs₂ f₂ S₂ A₂ hf₂ hb₂ => P own₂ g₂ fix₂ h₂ tk₂ gs₂ f₂ S₂ (A'.trans A₂) hf₂ hb₂
theorem RunL.retTold {x : Str} {px pos cpos ipos : Pos} {args : List Expr} {r : Expr} {op : CmpOp} {F : List D → Option D} {Fs : Evs} {Fr : Ev} {f : D → D → Option D} (hx : sc.names.lookup x = some .globalImplicit) (hk : sc.kind = .function) (hd : (x == ("__debug__" : Str)) = false)
    (hp : ∀ env, (backTo pos (starEach args env)).any (·.1) = false) (hs : ∀ env, ∃ t rest, backTo pos (starEach args env) = (false, t) :: rest) (hm : behindInMarks op r = false) (hT : FunT I k x F) (ha : EvsOK I k sc ns args Fs) (hr : EvOK I k sc ns r Fr) (ho : OpOK I k (compareOp op) f) :
    RunL I k sc ns (exec (.Return (some (.Compare (.Call (.Name x px) args [] pos) [op] [r] cpos)) ipos)) (rRetG (e2 f (eCall F Fs) Fr)) := by
  intro env A own g fix σ s fuel σ' fl Q E hS hA h1 h2 h3 S hbr hF P
  unfold rRetG at hF
  split at hF
  · rename_i z hz
    cases hF
    refine wpAny_Return_some (wpAny_Compare1 (told_cmp hx hk hd hp hs hT ha hr ho hS hA h1 h2 h3 S hbr hz fun g' fix' v h' tk gs S' A' hv hb' => ?_) hm)
    exact P own g' fix' h' tk gs _ S' A' ⟨v, g', rfl, hv, S'.gfix.trans S'.sub, fun b o e => .inl e⟩ hb'
  · cases hF

/-- a changed list is from here on not changed any more -/
noncomputable def rFrz (n i : Nat) (F : Run) : Run := fun fuel σ => if σ.length = n then (match σ[i]? with
  | some (.mt l) => F fuel (σ.set i (.imm (.lst l)))
  | _ => none) else none
theorem RunL.frz {t : Env → Sem Flow} {F : Run} {x : Str} {i : Nat} (hx : idx ns x = some i) (h : RunL I k sc ns t F) : RunL I k sc ns t (rFrz ns.length i F) := by
  intro env A own g fix σ s fuel σ' fl Q E hS hA h1 h2 h3 S hb hF P
  unfold rFrz at hF
  split at hF
  · rename_i hlen
    split at hF
    · rename_i l hl
      obtain ⟨g', fix', S', A', _, _⟩ := S.freeze (Nat.le_of_eq hlen) (idx_get hx) hl
      exact h env A own g' fix' _ s fuel σ' fl Q E hS hA h1 h2 h3 S' hb hF fun own₂ g₂ fix₂ h₂ tk₂ gs₂ f₂ S₂ A₂ hf₂ hb₂ => P own₂ g₂ fix₂ h₂ tk₂ gs₂ f₂ S₂ (A'.trans A₂) hf₂ hb₂
    · cases hF
  · cases hF
end

/-- the law's own call -/
theorem law_endL {prog : Program} {w : World} {mg mb : Str → Option Value} {p : Program} {loose : List Str} {mean : ExcName → Option Value} {K : Frag} {hboot : ∀ x : Str, x ≠ "__name__" → mb x = bootBuiltins x} {s₁ : Shared} {x : Str} {fa l : Addr} {vs : List Value} {ns : List Int}
    {k N : Nat} {nm : List Str} {params : Arguments} {body : List Stmt} {sc : Scope} {F : Run} {Q E : Value → Shared → Prop} (T : Top p loose mean mg mb s₁.heap) (X : K.In s₁.heap) (hmg : mg x = some (.ref fa)) (hat : FnAt (giOf prog w mg mb p loose mean K hboot) x params body sc) (hc : ScS sc nm) (hm : 1 ≤ nm.length)
    (hbind : ∀ pm cd doc vs, vs.length = 1 → bindArgs (Calls.docDef x params body sc pm cd doc) ⟨vs, []⟩ = pure ((nm.take 1).zip vs)) (hco : sc.isCoroutine = false) (hgen : sc.isGenerator = false) (hcl : ∀ n, cellsFrom n sc.names [] = [])
    (hF : RunL (giOf prog w mg mb p loose mean K hboot) k sc nm (execs body) F) (hk : k + 1 ≤ 20) (hb : s₁.gens = #[]) (hl : s₁.heap.IsList l vs.toArray) (hi : IntsAre vs ns)
    (hr : RW F N (startSt [.lst (intsD ns)] nm.length) fun _ fl => fl = .ret (.bool true)) (hQ : ∀ h' tk gs, Grow s₁.heap h' → AllBare gs → Q (.bool true) { s₁ with heap := h', toks := tk, gens := gs }) : wpAny (model prog w) callerA (call (.ref fa) [.ref l]) Q E s₁ := by
  obtain ⟨σ', fl, hr, rfl⟩ := hr
  obtain ⟨a, ha, _, hcall⟩ := callsTo hat hc hm hbind hco hgen
  have ef : a = fa := by
    have : mg x = some (.ref a) := ha
    rw [hmg] at this; cases this; rfl
  subst ef
  obtain ⟨o, ho, hcls, n, hd⟩ := hl
  refine hcall callerA s₁.heap.get? s₁.heap.get? s₁ [.lst (intsD ns)] [.ref l] Q E (by decide) ⟨T, X⟩ (Sub.refl _) (Sub.refl _) ⟨s₁.heap, ⟨T, X⟩, Sub.refl _⟩ ⟨_, [], rfl, ⟨l, o, vs.toArray, n, rfl, ho, hcls, hd, by simpa using isL_ints hi⟩, rfl⟩ rfl fun env h₁ tk₁ E' hS hef eloc hecl hkeep S => ?_
  have hA : AOK (k + 1) callerA := AOK.le ⟨rfl, by decide, by decide⟩ hk
  refine hF env _ _ _ _ _ { s₁ with heap := h₁, toks := tk₁ } N σ' (.ret (.bool true)) _ E' hS hA.deeper (Around.frames_deeper rfl) hef (by rw [hecl]; exact hcl _) S (.of_eq hb) hr fun own' g' fix' h' tk gs f S' A' hf hb' => ?_
  obtain ⟨v, gR, rfl, hI, _, _⟩ := hf
  rw [show v = .bool true from hI]
  exact hQ h' tk gs (fun b o e => S'.sub b o (A'.ff b o e)) hb'
theorem RW.ifH {F F' : Run} {N : Nat} {σ : St} {P : St → Fl → Prop} {T : Tr} (h : TW T (rdH σ) fun b => IfK b (RW F N σ P) (RW F' N σ P)) : RW (rIfH T F F') N σ P := by
  obtain ⟨b, e, p⟩ := h
  unfold RW rIfH
  rw [e]
  cases b <;> exact p
theorem RW.frz {F : Run} {N n i : Nat} {σ σ₁ : St} {l : List D} {P : St → Fl → Prop} (hl : σ.length = n) (hi : σ[i]? = some (.mt l)) (hs : SetR σ i (.imm (.lst l)) σ₁) (h : RW F N σ₁ P) : RW (rFrz n i F) N σ P := by
  obtain ⟨σ', fl, e, p⟩ := h
  refine ⟨σ', fl, ?_, p⟩
  unfold rFrz
  rw [if_pos hl, hi]
  show F N (σ.set i _) = _
  rw [hs.2]; exact e
end Mine
end
section
open PySem PySem.W PyProof.Rows PySem.Spec
set_option linter.unusedVariables false
set_option Elab.async false
set_option maxRecDepth 100000
namespace Mine

/-! a list that a callee changes: at one address, its items beside the state -/
structure GrowX (a : Addr) (h h' : Heap) : Prop where
  keep : ∀ b o, b ≠ a → h.get? b = some o → h'.get? b = some o
  live : (h'.get? a).isSome = true
noncomputable def LAt (h : Heap) (a : Addr) (l : List D) : Prop := ∃ vs n, h.get? a = some (lobj vs n) ∧ IsL g0 l vs.toList
theorem LAt.grow {h h' : Heap} {a : Addr} {l : List D} (x : LAt h a l) (k : Grow h h') : LAt h' a l := let ⟨vs, n, e, i⟩ := x; ⟨vs, n, k _ _ e, i⟩
theorem LAt.live {h : Heap} {a : Addr} {l : List D} (x : LAt h a l) : ∃ o, h.get? a = some o := let ⟨vs, n, e, i⟩ := x; ⟨_, e⟩
theorem LAt.growX {h h' : Heap} {a : Addr} {l : List D} (x : LAt h a l) (k : Grow h h') : GrowX a h h' := ⟨fun b o _ e => k b o e, let ⟨o, e⟩ := x.live; some_live (k _ _ e)⟩
theorem GrowX.trans {a : Addr} {h h₁ h₂ : Heap} (x : GrowX a h h₁) (y : GrowX a h₁ h₂) : GrowX a h h₂ := ⟨fun b o hb e => y.keep b o hb (x.keep b o hb e), y.live⟩
theorem ext_inX {g : G} {h h' : Heap} {a : Addr} (s : Sub g h.get?) (ga : g a = none) (k : GrowX a h h') : Sub (ext g h h') h'.get? := fun b o e => by
  cases q : h.get? b with
  | none => rw [ext_new q] at e; exact e
  | some o' => rw [ext_old q] at e; exact k.keep b o (fun z => by rw [z, ga] at e; cases e) (s b o e)
theorem ext_extX {g : G} {h h₁ h₂ : Heap} {a : Addr} (lv : ∃ o, h.get? a = some o) (k : GrowX a h h₁) (k' : GrowX a h₁ h₂) : ext (ext g h h₁) h₁ h₂ = ext g h h₂ := by
  funext b
  cases q : h.get? b with
  | some o =>
    have : ∃ o', h₁.get? b = some o' := by
      by_cases hb : b = a
      · rw [hb]; exact Option.isSome_iff_exists.mp k.live
      · exact ⟨o, k.keep b o hb q⟩
    obtain ⟨o', q'⟩ := this
    rw [ext_old q', ext_old q, ext_old q]
  | none =>
    have hb : b ≠ a := fun z => by obtain ⟨o, e⟩ := lv; rw [← z, q] at e; cases e
    rw [ext_new q]
    cases q' : h₁.get? b with
    | some o => rw [ext_old q', ext_new q, q', k'.keep b o hb q']
    | none => rw [ext_new q']
noncomputable def PostX (a : Addr) (g : G) (s : Shared) (d : D) (l' : List D) (Q : Value → Shared → Prop) : Prop :=
  ∀ v h' tk, GrowX a s.heap h' → LAt h' a l' → Is (ext g s.heap h') d v → Q v { s with heap := h', toks := tk }

/-- what holds of the address -/
structure XS (I : GI) (env : Env) (a : Addr) (g : G) (h : Heap) : Prop where
  ga : g a = none
  base : ∃ h₀, I.Gl h₀ ∧ Sub h₀.get? h.get? ∧ h₀.get? a = none
  loc : a ≠ env.locals
  cel : env.cells = []
section
variable {I : GI} {k : Nat} {sc : Scope} {ns : List Str}
theorem XS.grow {env : Env} {a : Addr} {g : G} {h h' : Heap} (X : XS I env a g h) (lv : ∃ o, h.get? a = some o) (kk : GrowX a h h') : XS I env a (ext g h h') h' :=
  ⟨by obtain ⟨o, e⟩ := lv; rw [ext_old e]; exact X.ga, let ⟨h₀, p, q, r⟩ := X.base; ⟨h₀, p, fun b o e => kk.keep b o (fun z => by rw [z, r] at e; cases e) (q b o e), r⟩, X.loc, X.cel⟩
theorem XS.gl {env : Env} {a : Addr} {g : G} {h : Heap} (X : XS I env a g h) : I.Gl h := let ⟨h₀, p, q, r⟩ := X.base; I.grow p q
theorem Holds.growX {env : Env} {a : Addr} {h h' : Heap} {x : Str} {v : Value} (hl : a ≠ env.locals) (hc : env.cells = []) (kk : GrowX a h h') (hv : Holds env h x v) : Holds env h' x v := by
  rcases hv with ⟨p, m, ⟨o, es, ep, e, r⟩, q⟩ | ⟨p, c, hc2, _⟩
  · exact .inl ⟨p, m, ⟨o, es, ep, kk.keep _ _ (Ne.symm hl) e, r⟩, q⟩
  · rw [hc] at hc2; cases hc2
theorem View.growX {env : Env} {a : Addr} {g : G} {r : R} {h h' : Heap} (V : View I env ns g r h) (X : XS I env a g h) (lv : ∃ o, h.get? a = some o) (kk : GrowX a h h') : View I env ns (ext g h h') r h' where
  sub := ext_inX V.sub X.ga kk
  gl := (X.grow lv kk).gl
  var := fun i x d e ek e' => let ⟨v, p, q⟩ := V.var i x d e ek e'; ⟨v, Is.mono (ext_sub V.sub) d p, q.growX X.loc X.cel kk⟩

noncomputable abbrev EvXF := Addr → R → List D → Option (D × List D)
noncomputable abbrev EvsXF := Addr → R → List D → Option (List D × List D)
noncomputable def EvX (I : GI) (k : Nat) (sc : Scope) (ns : List Str) (e : Expr) (F : EvXF) : Prop :=
  ∀ (env : Env) (A : Around) (a : Addr) (g : G) (r : R) (s : Shared) (l : List D) (d : D) (l' : List D) (Q : Value → Shared → Prop) (E : Value → Shared → Prop),
    EnvS sc env → AOK k A → View I env ns g r s.heap → XS I env a g s.heap → LAt s.heap a l → F a r l = some (d, l') → PostX a g s d l' Q → wpAny (model I.prog I.w) A (eval e env) Q E s
noncomputable def EvsX (I : GI) (k : Nat) (sc : Scope) (ns : List Str) (es : List Expr) (F : EvsXF) : Prop :=
  ∀ (env : Env) (A : Around) (a : Addr) (g : G) (r : R) (s : Shared) (l : List D) (ds l' : List D) (pos : Pos) (Q : List Value → Shared → Prop) (E : Value → Shared → Prop),
    EnvS sc env → AOK k A → View I env ns g r s.heap → XS I env a g s.heap → LAt s.heap a l → F a r l = some (ds, l') →
    (∀ vs h' tk, GrowX a s.heap h' → LAt h' a l' → IsL (ext g s.heap h') ds vs → Q vs { s with heap := h', toks := tk }) → wpAny (model I.prog I.w) A (spliced (backTo pos (starEach es env))) Q E s
noncomputable def xOfE (F : Ev) : EvXF := fun _ r l => match F r with
  | some d => some (d, l)
  | none => none
theorem EvX.of {e : Expr} {F : Ev} (h : EvOK I k sc ns e F) : EvX I k sc ns e (xOfE F) := by
  intro env A a g r s l d l' Q E hS hA V X L hF P
  unfold xOfE at hF
  split at hF
  · rename_i d' hd
    cases hF
    exact h env A g r s _ Q E hS hA V hd fun v h' tk kk hv => P v h' tk (L.growX kk) (L.grow kk) hv
  · cases hF
noncomputable def xs0 : EvsXF := fun _ _ l => some ([], l)
noncomputable def xsC (F : EvXF) (Fs : EvsXF) : EvsXF := fun a r l => match F a r l with
  | some (d, l₁) => (match Fs a r l₁ with
    | some (ds, l₂) => some (d :: ds, l₂)
    | none => none)
  | none => none
theorem GrowX.refl {h : Heap} {a : Addr} {l : List D} (L : LAt h a l) : GrowX a h h := L.growX (Grow.refl _)
theorem EvsX.nil : EvsX I k sc ns [] xs0 := by
  intro env A a g r s l ds l' pos Q E hS hA V X L hF P
  cases hF
  exact args_nil (P [] s.heap s.toks (GrowX.refl L) L rfl)
theorem EvsX.cons {e : Expr} {es : List Expr} {F : EvXF} {Fs : EvsXF} (h : EvX I k sc ns e F) (hs : EvsX I k sc ns es Fs) (he : ∀ env, starEach (e :: es) env = (false, eval e env) :: starEach es env) :
    EvsX I k sc ns (e :: es) (xsC F Fs) := by
  intro env A a g r s l ds l' pos Q E hS hA V X L hF P
  unfold xsC at hF
  split at hF
  · rename_i d l₁ hd
    split at hF
    · rename_i ds' l₂ hds
      cases hF
      refine args_cons (h env A a g r s l d l₁ _ E hS hA V X L hd fun v h₁ tk₁ k₁ L₁ hv => ?_) (he env)
      have V₁ := V.growX X L.live k₁
      have X₁ := X.grow L.live k₁
      refine hs env A a _ r _ l₁ ds' _ pos _ E hS hA V₁ X₁ L₁ hds fun vs h₂ tk₂ k₂ L₂ hvs => ?_
      refine P _ _ _ (k₁.trans k₂) L₂ ⟨v, vs, rfl, ?_, ?_⟩
      · rw [← ext_extX L.live k₁ k₂]; exact Is.mono (ext_sub V₁.sub) d hv
      · rw [← ext_extX L.live k₁ k₂]; exact hvs
    · cases hF
  · cases hF

noncomputable abbrev FunXF := Addr → List D → List D → Option (D × List D)
noncomputable def PrimX (I : GI) (k : Nat) (f : Value) (F : FunXF) : Prop :=
  ∀ (A : Around) (a : Addr) (g : G) (s : Shared) (ds : List D) (vs : List Value) (l : List D) (d : D) (l' : List D) (Q : Value → Shared → Prop) (E : Value → Shared → Prop),
    AOK k A → Sub g s.heap.get? → g a = none → (∃ h₀, I.Gl h₀ ∧ Sub h₀.get? s.heap.get? ∧ h₀.get? a = none) → LAt s.heap a l → F a ds l = some (d, l') → IsL g ds vs → PostX a g s d l' Q → wpAny (model I.prog I.w) A (call f vs) Q E s
structure FunX (I : GI) (k : Nat) (x : Str) (F : FunXF) : Prop where
  ok : ∃ f, I.mg x = some f ∧ (∀ h, I.Gl h → ∃ kp, (kp = Keeper.frame ∨ kp = Keeper.machine ∨ kp = Keeper.boundFrame) ∧ Looks (model I.prog I.w) h (keeperOf f) kp) ∧ PrimX I k f F
theorem FunX.le {k' : Nat} {x : Str} {F : FunXF} (h : FunX I k x F) (hk : k ≤ k') : FunX I k' x F :=
  let ⟨f, a, b, c⟩ := h.ok
  ⟨f, a, b, fun A x g s ds vs l d l' Q E hA => c A x g s ds vs l d l' Q E (hA.le hk)⟩
noncomputable def xCall (F : FunXF) (Fs : EvsXF) : EvXF := fun a r l => match Fs a r l with
  | some (ds, l₁) => F a ds l₁
  | none => none
theorem EvX.call {x : Str} {px pos : Pos} {args : List Expr} {F : FunXF} {Fs : EvsXF} (hx : sc.names.lookup x = some .globalImplicit) (hk : sc.kind = .function) (hd : (x == ("__debug__" : Str)) = false) (hp : ∀ env, (backTo pos (starEach args env)).any (·.1) = false)
    (hs : ∀ env, ∃ t rest, backTo pos (starEach args env) = (false, t) :: rest) (hf : FunX I k x F) (ha : EvsX I k sc ns args Fs) : EvX I k sc ns (.Call (.Name x px) args [] pos) (xCall F Fs) := by
  intro env A a g r s l d l' Q E hS hA V X L hF P
  unfold xCall at hF
  split at hF
  · rename_i ds l₁ hds
    obtain ⟨f, hn, hkp, hcall⟩ := hf.ok
    refine call_name (I := I) hS hk hx hd V.gl (.inl hn) hkp (hp env) (hs env) (ha env A a g r s l ds l₁ pos _ E hS hA V X L hds fun vs h₁ tk₁ k₁ L₁ hvs => ⟨(X.grow L.live k₁).gl, ?_⟩)
    have X₁ := X.grow L.live k₁
    refine hcall A a _ { s with heap := h₁, toks := tk₁ } ds vs l₁ d l' Q E hA (V.growX X L.live k₁).sub X₁.ga X₁.base L₁ hF hvs fun v h₂ tk₂ k₂ L₂ hv => ?_
    exact P v h₂ tk₂ (k₁.trans k₂) L₂ (by rw [← ext_extX L.live k₁ k₂]; exact hv)
  · cases hF

noncomputable def noMt (σ : St) : Bool := σ.all fun s => match s with
  | .mt _ => false
  | _ => true
theorem noMt_no {σ : St} (h : noMt σ = true) : ∀ (i : Nat) (l : List D), σ[i]? ≠ some (.mt l) := fun i l q => by
  have := List.all_eq_true.mp h _ (List.mem_of_getElem? q)
  cases this
theorem noMt_start {ds : List D} {n : Nat} : noMt (startSt ds n) = true := List.all_eq_true.mpr fun s hs => by
  obtain ⟨i, hi⟩ := List.getElem?_of_mem hs
  rcases startSt_get hi with rfl | ⟨d, _, rfl⟩ <;> rfl
theorem noMt_set {σ : St} {i : Nat} {d : D} (h : noMt σ = true) : noMt (σ.set i (.imm d)) = true := List.all_eq_true.mpr fun s hs => by
  rcases List.mem_or_eq_of_mem_set hs with hs | rfl
  · exact List.all_eq_true.mp h s hs
  · rfl
noncomputable def FlX (a : Addr) (g fix : G) (h : Heap) : Fl → Flow → Prop
  | .ret d, f => ∃ v gR, f = .ret v ∧ Is gR d v ∧ Sub gR h.get? ∧ (∀ b o, gR b = some o → g b = some o ∨ fix b = none) ∧ gR a = none
  | .exc _, _ => False
  | .next, f => f = .next
  | .cont, f => f = .cont
structure XR (env : Env) (fix : G) (σ : St) (a : Addr) : Prop where
  fa : fix a = none
  loc : a ≠ env.locals
  cel : env.cells = []
  no : noMt σ = true
noncomputable abbrev RunXF := Addr → Nat → St → List D → Option (St × Fl × List D)
noncomputable def RunX (I : GI) (k : Nat) (sc : Scope) (ns : List Str) (t : Env → Sem Flow) (F : RunXF) : Prop :=
  ∀ (env : Env) (A : Around) (a : Addr) (own : Nat → Addr) (g fix : G) (σ : St) (s : Shared) (fuel : Nat) (l : List D) (σ' : St) (fl : Fl) (l' : List D) (Q : Flow → Shared → Prop) (E : Value → Shared → Prop),
    EnvS sc env → AOK k A → SR I env ns own g fix σ s.heap → XR env fix σ a → LAt s.heap a l → F a fuel σ l = some (σ', fl, l') →
    (∀ own' g' fix' h' tk f, SR I env ns own' g' fix' σ' h' → After g fix g' fix' → XR env fix' σ' a → LAt h' a l' → FlX a g' fix' h' fl f → Q f { s with heap := h', toks := tk }) → wpAny (model I.prog I.w) A (t env) Q E s

noncomputable def xOf (F : Run) : RunXF := fun _ fuel σ l => match F fuel σ with
  | some (σ', fl) => if noMt σ' = true then some (σ', fl, l) else none
  | none => none
theorem RunX.of {t : Env → Sem Flow} {F : Run} (h : RunOK I k sc ns t F) : RunX I k sc ns t (xOf F) := by
  intro env A a own g fix σ s fuel l σ' fl l' Q E hS hA S X L hF P
  unfold xOf at hF
  split at hF
  · rename_i σ₁ fl₁ e1
    split at hF
    · rename_i hno
      cases hF
      have S1 : SR I env ns own g (fixI fix s.heap a) σ s.heap := S.iterstep (fun b o _ e => e) X.fa (Ne.symm X.loc) (fun n c hc => by rw [X.cel] at hc; cases hc) (fun j x l _ q => absurd q (noMt_no X.no j l))
      have sf : Sub fix (fixI fix s.heap a) := fun b o e => by
        unfold fixI
        split
        · rename_i q; rw [q, X.fa] at e; cases e
        · exact e
      obtain ⟨oa, ha⟩ := L.live
      have fa1 : fixI fix s.heap a a = some oa := by unfold fixI; rw [if_pos rfl]; exact ha
      refine h env A own g _ σ s fuel _ _ Q E hS hA S1 e1 fun own' g' fix' h' tk f S' A' hf => ?_
      have ga : g' a = none := by
        cases q : g' a with
        | none => rfl
        | some o =>
          rcases A'.new a o q with p | p
          · have := S.gfix a o p; rw [X.fa] at this; cases this
          · rw [fa1] at p; cases p
      have dn : ∀ {b}, fix' b = none → dropI fix' a b = none := fun {b} e => by
        unfold dropI; split
        · rfl
        · exact e
      have S2 := S'.drop ga S.base (sf.trans A'.ff) X.fa
      have hla := A'.ff a oa fa1
      refine P own' g' (dropI fix' a) h' tk f S2 ⟨A'.gg, fun b o e => ?_, fun b o e => ?_⟩ ⟨by unfold dropI; rw [if_pos rfl], X.loc, X.cel, hno⟩ ?_ ?_
      · unfold dropI
        split
        · rename_i q; rw [q, X.fa] at e; cases e
        · exact A'.ff b o (sf b o e)
      · rcases A'.new b o e with p | p
        · exact .inl p
        · exact .inr (sf.none p)
      · obtain ⟨vs, n, q1, q2⟩ := L
        rw [ha] at q1; cases q1
        exact ⟨vs, n, S'.sub a _ hla, q2⟩
      · cases fl with
        | next => exact hf
        | cont => exact hf
        | exc c => exact hf
        | ret d =>
          obtain ⟨v, gR, q1, q2, q3, q4⟩ := hf
          refine ⟨v, gR, q1, q2, q3, fun b o q => ?_, ?_⟩
          · rcases q4 b o q with p | p
            · exact .inl p
            · exact .inr (dn p)
          · cases q : gR a with
            | none => rfl
            | some o =>
              rcases q4 a o q with p | p
              · rw [ga] at p; cases p
              · rw [hla] at p; cases p
    · cases hF
  · cases hF
noncomputable def xSeq (F Fs : RunXF) : RunXF := fun a fuel σ l => match F a fuel σ l with
  | some (σ₁, .next, l₁) => Fs a fuel σ₁ l₁
  | r => r
theorem RunX.cons {st : Stmt} {rest : List Stmt} {F Fs : RunXF} (h : RunX I k sc ns (exec st) F) (hs : RunX I k sc ns (execs rest) Fs) : RunX I k sc ns (execs (st :: rest)) (xSeq F Fs) := by
  intro env A a own g fix σ s fuel l σ' fl l' Q E hS hA S X L hF P
  unfold xSeq at hF
  refine wpAny_execs_cons ?_
  by_cases hn : ∃ σ₁ l₁, F a fuel σ l = some (σ₁, .next, l₁)
  · obtain ⟨σ₁, l₁, h1⟩ := hn
    rw [h1] at hF
    refine h env A a own g fix σ s fuel l σ₁ .next l₁ _ E hS hA S X L h1 fun own₁ g₁ fix₁ h₁ tk₁ f S₁ A₁ X₁ L₁ hf => ?_
    rw [show f = .next from hf]
    exact hs env A a own₁ g₁ fix₁ σ₁ _ fuel l₁ σ' fl l' Q E hS hA S₁ X₁ L₁ hF fun own₂ g₂ fix₂ h₂ tk₂ f₂ S₂ A₂ => P own₂ g₂ fix₂ h₂ tk₂ f₂ S₂ (A₁.trans A₂)
  · have hF : F a fuel σ l = some (σ', fl, l') := by
      cases q : F a fuel σ l with
      | none => rw [q] at hF; exact hF
      | some p =>
        obtain ⟨σ₁, f, l₁⟩ := p
        rw [q] at hF
        cases f with
        | next => exact absurd ⟨_, _, q⟩ hn
        | _ => exact hF
    refine h env A a own g fix σ s fuel l σ' fl l' _ E hS hA S X L hF fun own₁ g₁ fix₁ h₁ tk₁ f S₁ A₁ X₁ L₁ hf => ?_
    have q := P own₁ g₁ fix₁ h₁ tk₁ f S₁ A₁ X₁ L₁ hf
    cases fl with
    | next => exact absurd ⟨σ', l', hF⟩ hn
    | cont => rw [show f = .cont from hf] at q ⊢; exact q
    | ret d => obtain ⟨v, gR, rfl, _⟩ := hf; exact q
    | exc c => exact hf.elim
noncomputable def xIf (T : Tr) (F F' : RunXF) : RunXF := fun a fuel σ l => match T (rdF σ) with
  | some true => F a fuel σ l
  | some false => F' a fuel σ l
  | none => none
theorem XR.grow {env : Env} {fix : G} {σ : St} {a : Addr} {h h' : Heap} (X : XR env fix σ a) (lv : ∃ o, h.get? a = some o) : XR env (ext fix h h') σ a :=
  ⟨by obtain ⟨o, e⟩ := lv; rw [ext_old e]; exact X.fa, X.loc, X.cel, X.no⟩
theorem RunX.ifS {test : Expr} {body orelse : List Stmt} {pos : Pos} {T : Tr} {F F' : RunXF} (ht : TrOK I k sc ns test T) (hb : RunX I k sc ns (execs body) F) (ho : RunX I k sc ns (execs orelse) F') :
    RunX I k sc ns (exec (.If test body orelse pos)) (xIf T F F') := by
  intro env A a own g fix σ s fuel l σ' fl l' Q E hS hA S X L hF P
  unfold xIf at hF
  split at hF
  · rename_i hT
    refine wpAny_If (ht env A _ (rdF σ) s true _ E hS hA S.viewF hT fun h₁ tk₁ kk => ?_)
    exact hb env A a own _ _ σ _ fuel l σ' fl l' Q E hS hA (S.grow kk) (X.grow L.live) (L.grow kk) hF fun own₂ g₂ fix₂ h₂ tk₂ f₂ S₂ A₂ => P own₂ g₂ fix₂ h₂ tk₂ f₂ S₂ ((After.grow (S.gfix.trans S.sub) S.sub).trans A₂)
  · rename_i hT
    refine wpAny_If (ht env A _ (rdF σ) s false _ E hS hA S.viewF hT fun h₁ tk₁ kk => ?_)
    exact ho env A a own _ _ σ _ fuel l σ' fl l' Q E hS hA (S.grow kk) (X.grow L.live) (L.grow kk) hF fun own₂ g₂ fix₂ h₂ tk₂ f₂ S₂ A₂ => P own₂ g₂ fix₂ h₂ tk₂ f₂ S₂ ((After.grow (S.gfix.trans S.sub) S.sub).trans A₂)
  · cases hF
end
end Mine
end
section
open PySem PySem.W PyProof.Rows PySem.Spec
set_option linter.unusedVariables false
set_option Elab.async false
set_option maxRecDepth 100000
namespace Mine
section
variable {I : GI} {k : Nat} {sc : Scope} {ns : List Str}

/-- the frame at hand behind a change of the list -/
theorem SR.growX {env : Env} {own : Nat → Addr} {g fix : G} {σ : St} {h h' : Heap} {a : Addr} (S : SR I env ns own g fix σ h) (X : XR env fix σ a) (lv : ∃ o, h.get? a = some o) (kk : GrowX a h h') : SR I env ns own (ext g h h') (ext fix h h') σ h' where
  gfix := ext_mono S.gfix
  sub := ext_inX S.sub X.fa kk
  base := let ⟨h₀, p, q⟩ := S.base; ⟨h₀, p, q.trans (ext_sub S.sub)⟩
  frame := let ⟨m, o, es, ep, e, r⟩ := S.frame; ⟨m, o, es, ep, kk.keep _ _ (Ne.symm X.loc) e, r⟩
  fixL := by
    obtain ⟨m, o, _, _, e, _⟩ := S.frame
    rw [ext_old e]; exact S.fixL
  cells := fun n c hc => by rw [X.cel] at hc; cases hc
  apart := S.apart
  imm := fun i x d hx hd => let ⟨v, p, q⟩ := S.imm i x d hx hd; ⟨v, Is.mono (ext_sub (S.gfix.trans S.sub)) d p, q.growX X.loc X.cel kk⟩
  mtd := fun i x l _ hd => absurd hd (noMt_no X.no i l)
  inj := S.inj
theorem XR.xs {env : Env} {own : Nat → Addr} {g fix : G} {σ : St} {h : Heap} {a : Addr} (S : SR I env ns own g fix σ h) (X : XR env fix σ a) : XS I env a g h :=
  ⟨S.gfix.none X.fa, let ⟨h₀, p, q⟩ := S.base; ⟨h₀, p, q.trans S.sub, q.none X.fa⟩, X.loc, X.cel⟩
noncomputable def xAsg (i : Nat) (F : EvXF) : RunXF := fun a _ σ l => if σ.length ≤ i then none else match F a (rdH σ) l with
  | some (d, l') => some (σ.set i (.imm d), .next, l')
  | none => none
theorem RunX.asgX {x : Str} {px pos : Pos} {e : Expr} {i : Nat} {F : EvXF} (hx : idx ns x = some i) (hs : ∀ env, swapsWith e (some (.Name x px)) pos.line env = pure false) (hc : ScS sc ns) (hlo : sc.names.lookup x = some .local) (h : EvX I k sc ns e F) :
    RunX I k sc ns (exec (.Assign [.Name x px] e pos)) (fun a fuel σ l => if σ.length = ns.length then xAsg i F a fuel σ l else none) := by
  intro env A a own g fix σ s fuel l σ' fl l' Q E hS hA S X L hF P
  dsimp only at hF
  split at hF
  · rename_i hlen
    unfold xAsg at hF
    split at hF
    · cases hF
    · split at hF
      · rename_i d l₁ hd
        cases hF
        refine wpAny_Assign_Name (h env A a g (rdH σ) s l d _ _ E hS hA S.viewH (X.xs S) L hd fun v h₁ tk₁ k₁ L₁ hv => ?_) (hs env)
        have S₁ := S.growX X L.live k₁
        have X₁ : XR env (ext fix s.heap h₁) σ a := X.grow L.live
        refine S₁.storeL (s := { s with heap := h₁, toks := tk₁ }) hc hS X.cel (Nat.le_of_eq hlen) (idx_get hx) hlo hv fun h₂ tk₂ S₂ hs₂ => ?_
        exact P own _ _ h₂ tk₂ _ S₂ (After.grow (S.gfix.trans S.sub) S.sub) ⟨X₁.fa, X₁.loc, X₁.cel, noMt_set X.no⟩ (let ⟨vs, n, q1, q2⟩ := L₁; ⟨vs, n, (hs₂.2 a X.loc).trans q1, q2⟩) rfl
      · cases hF
  · cases hF
noncomputable def xRet (F : EvXF) : RunXF := fun a _ σ l => match F a (rdH σ) l with
  | some (d, l') => some (σ, .ret d, l')
  | none => none
theorem RunX.retX {e : Expr} {pos : Pos} {F : EvXF} (h : EvX I k sc ns e F) : RunX I k sc ns (exec (.Return (some e) pos)) (xRet F) := by
  intro env A a own g fix σ s fuel l σ' fl l' Q E hS hA S X L hF P
  unfold xRet at hF
  split at hF
  · rename_i d l₁ hd
    cases hF
    refine wpAny_Return_some (h env A a g (rdH σ) s l d _ _ E hS hA S.viewH (X.xs S) L hd fun v h₁ tk₁ k₁ L₁ hv => ?_)
    have S₁ := S.growX X L.live k₁
    have X₁ : XR env (ext fix s.heap h₁) σ a := X.grow L.live
    exact P own _ _ h₁ tk₁ _ S₁ (After.grow (S.gfix.trans S.sub) S.sub) X₁ L₁ ⟨v, _, rfl, hv, S₁.gfix.trans S₁.sub, fun b o q => .inl q, S₁.gfix.none X₁.fa⟩
  · cases hF
noncomputable def xApp (i : Nat) (F : Ev) : RunXF := fun a _ σ l => match σ[i]? with
  | some (.imm (.adr b)) => if b = a ∧ l.length ≤ sizeLine then (match F (rdH σ) with
    | some d => if flat d = true then some (σ, .next, l ++ [d]) else none
    | none => none) else none
  | _ => none
theorem RunX.app {x : Str} {px apos cpos pos : Pos} {i : Nat} {e : Expr} {F : Ev} {pl : Env → Sem Bool} (hx : idx ns x = some i) (hd : (x == ("__debug__" : Str)) = false)
    (hst : ∀ env, starEach [e] env = (false, eval e env) :: starEach [] env)
    (he : ∀ env, eval (.Call (.Attribute (.Name x px) "append" apos) [e] [] cpos) env = (do
      let ov ← eval (.Name x px) env
      standAt apos.atName
      let (f, first) ← holding [ov] (getMethod ov "append" (pl env))
      callWith cpos f first (backTo cpos (starEach [e] env)) []))
    (hs : ∀ env, swapsWith (.Call (.Attribute (.Name x px) "append" apos) [e] [] cpos) none pos.line env = pure false) (hc : ScS sc ns) (h : EvOK I k sc ns e F) :
    RunX I k sc ns (exec (.Expr (.Call (.Attribute (.Name x px) "append" apos) [e] [] cpos) pos)) (xApp i F) := by
  intro env A a own g fix σ s fuel l σ' fl l' Q E hS hA S X L hF P
  unfold xApp at hF
  obtain ⟨b, hi⟩ : ∃ b, σ[i]? = some (.imm (.adr b)) := by
    cases q : σ[i]? with
    | none => rw [q] at hF; exact no_some hF
    | some sl =>
      rw [q] at hF
      cases sl with
      | imm d =>
        cases d with
        | adr b => exact ⟨b, rfl⟩
        | _ => exact no_some hF
      | _ => exact no_some hF
  rw [hi] at hF
  · replace hF : (if b = a ∧ l.length ≤ sizeLine then (match F (rdH σ) with | some d => if flat d = true then some (σ, Fl.next, l ++ [d]) else none | none => none) else none) = some (σ', fl, l') := hF
    split at hF
    · rename_i hb
      obtain ⟨rfl, hz⟩ := hb
      split at hF
      · rename_i d hdd
        split at hF
        · rename_i hfl
          cases hF
          obtain ⟨v0, hv0, hh⟩ := S.imm i x _ (idx_get hx) hi
          cases hv0
          obtain ⟨vs, n, p1, p2⟩ := L
          refine wpAny_Expr ?_ (interactive_fun hS hc.kind) (hs env)
          refine MethodCall_ (pl := pl env) (wpAny_Name (loadName_ok hS hc.kind hh ?_) hd) (he env)
          refine Calls.getMethod_list_append p1 rfl rfl ?_
          refine callWith_method1 (args_cons (h env A g (rdH _) s d _ E hS hA S.viewH hdd fun v h₁ tk₁ kk hv => args_nil ?_) (hst env)) (hst env) rfl
          have S₁ := S.grow kk
          have X₁ : XR env (ext fix s.heap h₁) _ b := X.grow ⟨_, p1⟩
          have el := p2.length
          simp only [Array.length_toList] at el
          refine wpAny_list_append_plain (items := vs) ⟨n, kk _ _ p1⟩ (fun h₂ hp hsb => ?_) (by omega)
          obtain ⟨n₂, hp⟩ := hp
          have S₂ := S₁.kept X.cel (fun c o q => (hsb.2 c (fun z => by rw [z, X₁.fa] at q; cases q)).trans (S₁.sub c o q)) (fun o q => (hsb.2 _ (Ne.symm X.loc)).trans q) (fun j l q => absurd q (noMt_no X.no j l))
          exact P own _ _ h₂ tk₁ _ S₂ (After.grow (S.gfix.trans S.sub) S.sub) X₁ ⟨_, n₂, hp, by rw [Array.toList_push]; exact IsL.append p2 ⟨v, [], rfl, hv.flat hfl, rfl⟩⟩ rfl
        · cases hF
      · cases hF
    · cases hF

noncomputable def callX (m n : Nat) (F : RunXF) (N : Nat) : FunXF := fun a ds l => if ds.length = m then (match F a N (startSt ds n) l with
  | some (_, .ret d, l') => some (d, l')
  | _ => none) else none
theorem FunX.def {x : Str} {params : Arguments} {body : List Stmt} {m : Nat} (N : Nat) {F : RunXF} (hat : FnAt I x params body sc) (hc : ScS sc ns) (hm : m ≤ ns.length)
    (hbind : ∀ pm cd doc vs, vs.length = m → bindArgs (Calls.docDef x params body sc pm cd doc) ⟨vs, []⟩ = pure ((ns.take m).zip vs)) (hco : sc.isCoroutine = false) (hgen : sc.isGenerator = false) (hcl : ∀ n, cellsFrom n sc.names [] = [])
    (hr : RunX I k sc ns (execs body) F) : FunX I (k + 1) x (callX m ns.length F N) := by
  obtain ⟨f, hmg, hkp, hcall⟩ := callsTo hat hc hm hbind hco hgen
  refine ⟨.ref f, hmg, hkp, fun A a g s ds vs l d l' Q E hA sub ga hbase L hf hv P => ?_⟩
  obtain ⟨h₀, gl₀, sub₀, off₀⟩ := hbase
  unfold callX at hf
  split at hf
  case isFalse => cases hf
  rename_i hlen
  cases hrun : F a N (startSt ds ns.length) l with
  | none => rw [hrun] at hf; exact no_some hf
  | some p =>
  rw [hrun] at hf
  obtain ⟨σ', fl, l₁⟩ := p
  cases fl with
  | ret d' =>
  cases hf
  have sf : Sub (dropI s.heap.get? a) s.heap.get? := fun b o e => by
    unfold dropI at e
    split at e
    · cases e
    · exact e
  have sd : ∀ {g' : G}, g' a = none → Sub g' s.heap.get? → Sub g' (dropI s.heap.get? a) := fun {g'} h1 h2 b o e => by
    unfold dropI
    split
    · rename_i q; rw [q, h1] at e; cases e
    · exact h2 b o e
  have fa : dropI s.heap.get? a a = none := by unfold dropI; rw [if_pos rfl]
  refine hcall A g (dropI s.heap.get? a) s ds vs Q E hA.room (I.grow gl₀ sub₀) (sd ga sub) sf ⟨h₀, gl₀, sd off₀ sub₀⟩ hv hlen fun env h₁ tk₁ E' hS _ eloc hecl hkeep S => ?_
  obtain ⟨oa, ha⟩ := L.live
  refine hr env _ a _ g _ _ { s with heap := h₁, toks := tk₁ } N l σ' (.ret _) _ _ E' hS hA.deeper S ⟨fa, fun z => ?_, by rw [hecl]; exact hcl _, noMt_start⟩ (L.grow hkeep) hrun fun own' g' fix' h' tk f S' A' X' L' hf => ?_
  · rw [z, eloc, fresh_none] at ha; cases ha
  · obtain ⟨v, gR, rfl, hI, hsub, hnew, hgR⟩ := hf
    refine P v h' tk ⟨fun b o hb e => S'.sub b o (A'.ff b o (by unfold dropI; rw [if_neg hb]; exact e)), let ⟨o, e⟩ := L'.live; some_live e⟩ L' (Is.mono (fun b o e => ?_) _ hI)
    have hba : b ≠ a := fun z => by rw [z, hgR] at e; cases e
    have drop : ∀ {b}, b ≠ a → dropI s.heap.get? a b = none → s.heap.get? b = none := fun {b} hb q => by unfold dropI at q; rw [if_neg hb] at q; exact q
    have old : s.heap.get? b = none → ext g s.heap h' b = some o := fun q => by rw [ext_new q]; exact hsub b o e
    rcases hnew b o e with p | p
    · rcases A'.new b o p with r | r
      · rw [ext_old (sub b o r)]; exact r
      · exact old (drop hba r)
    · exact old (drop hba (A'.ff.none p))
  | _ => exact no_some hf

theorem SR.growM {env : Env} {own : Nat → Addr} {g fix : G} {σ : St} {h h' : Heap} {i : Nat} {x : Str} {l l' : List D} {vs' : Array Value} {n' : Nat} (S : SR I env ns own g fix σ h) (hx : ns[i]? = some x) (hi : σ[i]? = some (.mt l))
    (kk : GrowX (own i) h h') (ho : h'.get? (own i) = some (lobj vs' n')) (hL : IsL g0 l' vs'.toList) : SR I env ns own (ext g h h') (ext fix h h') (σ.set i (.mt l')) h' := by
  obtain ⟨hh, hO⟩ := S.mtd i x l hx hi
  have holds : ∀ z v, Holds env h z v → Holds env h' z v := fun z v hv => by
    rcases hv with ⟨p, m, ⟨o, es, ep, e, r⟩, q⟩ | ⟨p, c, hc, o, e, q⟩
    · exact .inl ⟨p, m, ⟨o, es, ep, kk.keep _ _ (Ne.symm hO.loc) e, r⟩, q⟩
    · exact .inr ⟨p, c, hc, o, kk.keep _ _ (Ne.symm (hO.cel z c hc)) e, q⟩
  have set_ne : ∀ (j : Nat) (s' : Slot), j ≠ i → (σ.set i (.mt l'))[j]? = some s' → σ[j]? = some s' := fun j s' hj e => by rwa [List.getElem?_set_ne (Ne.symm hj)] at e
  have set_eq : ∀ (s' : Slot), (σ.set i (.mt l'))[i]? = some s' → s' = .mt l' := fun s' e => by
    have hlt : i < σ.length := (List.getElem?_eq_some_iff.mp hi).1
    rw [List.getElem?_set_self hlt] at e
    exact (Option.some.inj e).symm
  have back : ∀ (j : Nat) (l1 : List D), (σ.set i (.mt l'))[j]? = some (.mt l1) → ∃ l2, σ[j]? = some (.mt l2) := fun j l1 e => by
    by_cases hj : j = i
    · exact ⟨l, by rw [hj]; exact hi⟩
    · exact ⟨l1, set_ne j _ hj e⟩
  obtain ⟨vs0, n0, p0, _⟩ := hO.obj
  exact {
    gfix := ext_mono S.gfix
    sub := ext_inX S.sub hO.off kk
    base := let ⟨h₀, p, q⟩ := S.base; ⟨h₀, p, q.trans (ext_sub S.sub)⟩
    frame := let ⟨m, o, es, ep, e, r⟩ := S.frame; ⟨m, o, es, ep, kk.keep _ _ (Ne.symm hO.loc) e, r⟩
    fixL := by
      obtain ⟨m, o, _, _, e, _⟩ := S.frame
      rw [ext_old e]; exact S.fixL
    cells := fun n c hc => by
      obtain ⟨⟨v, o, e, q⟩, p, r⟩ := S.cells n c hc
      exact ⟨⟨v, o, kk.keep _ _ (Ne.symm (hO.cel n c hc)) e, q⟩, by rw [ext_old e]; exact p, r⟩
    apart := S.apart
    imm := fun j z d hz hd => by
      by_cases hj : j = i
      · subst hj; have := set_eq _ hd; cases this
      · obtain ⟨v, p, q⟩ := S.imm j z d hz (set_ne j _ hj hd)
        exact ⟨v, Is.mono (ext_sub (S.gfix.trans S.sub)) d p, holds z v q⟩
    mtd := fun j z l1 hz hd => by
      by_cases hj : j = i
      · subst hj
        rw [hx] at hz; cases hz
        have := set_eq _ hd; cases this
        exact ⟨holds _ _ hh, ⟨⟨vs', n', ho, IsL.mono (g0_sub _) _ hL⟩, by rw [ext_old p0]; exact hO.off, hO.loc, hO.cel⟩⟩
      · have hd' := set_ne j _ hj hd
        obtain ⟨p, b⟩ := S.mtd j z l1 hz hd'
        obtain ⟨vs, n, p1, p2⟩ := b.obj
        exact ⟨holds _ _ p, ⟨⟨vs, n, kk.keep _ _ (fun q => hj (S.inj j i l1 l hd' hi q)) p1, IsL.mono (ext_sub (S.gfix.trans S.sub)) _ p2⟩, by rw [ext_old p1]; exact b.off, b.loc, b.cel⟩⟩
    inj := fun j j' l1 l2 p p' e => by
      obtain ⟨m1, q1⟩ := back j l1 p
      obtain ⟨m2, q2⟩ := back j' l2 p'
      exact S.inj j j' m1 m2 q1 q2 e }

/-- y = f(e1, x, e3), x a list of this frame that f changes -/
noncomputable def rAsgM (iy ix : Nat) (F1 F3 : Ev) (M : D → List D → D → Option (D × List D)) : Run := fun _ σ => match σ[ix]? with
  | some (.mt l) => if l.all flat = true ∧ iy < σ.length ∧ iy ≠ ix then (match F1 (rdH σ), F3 (rdH σ) with
    | some d1, some d3 => (match M d1 l d3 with
      | some (d, l') => if l'.all flat = true then some ((σ.set ix (.mt l')).set iy (.imm d), .next) else none
      | none => none)
    | _, _ => none) else none
  | _ => none
theorem IsL.g0 {g : G} : ∀ {l : List D} {vs : List Value}, l.all flat = true → IsL g l vs → IsL Mine.g0 l vs
  | [], _, _, h => h
  | d :: ds, _, hf, ⟨v, vs', e, hv, h⟩ => by
    simp only [List.all_cons, Bool.and_eq_true] at hf
    exact ⟨v, vs', e, hv.flat hf.1, IsL.g0 hf.2 h⟩
theorem RunOK.asgM {y x fn : Str} {py pf px cpos pos : Pos} {e1 e3 : Expr} {iy ix : Nat} {F1 F3 : Ev} {Fx : FunXF} {M : D → List D → D → Option (D × List D)} (hy : idx ns y = some iy) (hx : idx ns x = some ix) (hxd : (x == ("__debug__" : Str)) = false) (hc : ScS sc ns)
    (hfn : sc.names.lookup fn = some .globalImplicit) (hfd : (fn == ("__debug__" : Str)) = false) (hp : ∀ env, (backTo cpos (starEach [e1, .Name x px, e3] env)).any (·.1) = false) (hs : ∀ env, ∃ t rest, backTo cpos (starEach [e1, .Name x px, e3] env) = (false, t) :: rest)
    (s1 : ∀ env, starEach [e1, .Name x px, e3] env = (false, eval e1 env) :: starEach [.Name x px, e3] env) (s2 : ∀ env, starEach [.Name x px, e3] env = (false, eval (.Name x px) env) :: starEach [e3] env) (s3 : ∀ env, starEach [e3] env = (false, eval e3 env) :: starEach [] env)
    (hsw : ∀ env, swapsWith (.Call (.Name fn pf) [e1, .Name x px, e3] [] cpos) (some (.Name y py)) pos.line env = pure false) (h1 : EvOK I k sc ns e1 F1) (h3 : EvOK I k sc ns e3 F3) (hf : FunX I k fn Fx) (hM : ∀ a d1 l d3 d l', M d1 l d3 = some (d, l') → Fx a [d1, .adr a, d3] l = some (d, l')) :
    RunOK I k sc ns (exec (.Assign [.Name y py] (.Call (.Name fn pf) [e1, .Name x px, e3] [] cpos) pos)) (lenOk ns.length (rAsgM iy ix F1 F3 M)) := by
  intro env A own g fix σ s fuel σ' fl Q E hS hA S hF P
  unfold lenOk at hF
  split at hF
  case isFalse => cases hF
  rename_i hlen
  unfold rAsgM at hF
  split at hF
  case h_2 => cases hF
  rename_i l hl
  split at hF
  case isFalse => cases hF
  rename_i hcond
  split at hF
  case h_2 => cases hF
  rename_i d1 d3 hd1 hd3
  split at hF
  case h_2 => cases hF
  rename_i d l' hMl
  split at hF
  case isFalse => cases hF
  rename_i hfl'
  cases hF
  obtain ⟨fv, hn, hkp, hcall⟩ := hf.ok
  refine wpAny_Assign_Name (call_name (I := I) hS hc.kind hfn hfd S.gl (.inl hn) hkp (hp env) (hs env) (args_cons (h1 env A g (rdH σ) s d1 _ E hS hA S.viewH hd1 fun v1 h₁ tk₁ k₁ hv1 => ?_) (s1 env))) (hsw env)
  have S₁ := S.grow k₁
  obtain ⟨hh1, _⟩ := S₁.mtd ix x l (idx_get hx) hl
  refine args_cons (wpAny_Name (loadName_ok (s := { s with heap := h₁, toks := tk₁ }) hS hc.kind hh1 ?_) hxd) (s2 env)
  refine args_cons (h3 env A _ (rdH σ) { s with heap := h₁, toks := tk₁ } d3 _ E hS hA S₁.viewH hd3 fun v3 h₂ tk₂ k₂ hv3 => args_nil ?_) (s3 env)
  have S₂ := S₁.grow k₂
  refine ⟨S₂.gl, ?_⟩
  obtain ⟨hh2, hO2⟩ := S₂.mtd ix x l (idx_get hx) hl
  obtain ⟨vs, n, p1, p2⟩ := hO2.obj
  have hv1' := Is.mono (ext_sub (h := h₁) (h' := h₂) (S₁.gfix.trans S₁.sub)) d1 hv1
  have A₂ := (After.grow (h' := h₁) (S.gfix.trans S.sub) S.sub).trans (After.grow (h := h₁) (h' := h₂) (S₁.gfix.trans S₁.sub) S₁.sub)
  obtain ⟨h₀, gl₀, sub₀⟩ := S₂.base
  refine hcall A (own ix) _ { s with heap := h₂, toks := tk₂ } [d1, .adr (own ix), d3] _ l d l' _ E hA (S₂.gfix.trans S₂.sub) (S₂.gfix.none hO2.off) ⟨h₀, gl₀, sub₀.trans S₂.sub, sub₀.none hO2.off⟩ ⟨vs, n, p1, p2.g0 hcond.1⟩ (hM _ _ _ _ _ _ hMl) ⟨v1, _, rfl, hv1', _, _, rfl, rfl, v3, _, rfl, hv3, rfl⟩ fun v h₃ tk₃ k₃ L₃ hv => ?_
  obtain ⟨vs3, n3, q1, q2⟩ := L₃
  have S₃ := S₂.growM (idx_get hx) hl k₃ q1 q2
  have hl3 : (σ.set ix (.mt l')).length ≤ ns.length := by rw [List.length_set]; exact Nat.le_of_eq hlen
  exact store_imm (s := { s with heap := h₃, toks := tk₃ }) hc hS S₃ hl3 (idx_get hy) hv fun h₄ tk₄ S₄ => P own _ _ h₄ tk₄ _ S₄ (A₂.trans (After.grow (h := h₂) (h' := h₃) (S₂.gfix.trans S₂.sub) S₂.sub)) rfl
end
end Mine
end
section
open PySem PySem.W PyProof.Rows PySem.Spec
set_option linter.unusedVariables false
set_option Elab.async false
set_option maxRecDepth 100000
namespace Mine
/-! backwards, with the list beside the state -/
noncomputable def XW (F : RunXF) (a : Addr) (N : Nat) (σ : St) (l : List D) (P : St → Fl → List D → Prop) : Prop := ∃ σ' fl l', F a N σ l = some (σ', fl, l') ∧ P σ' fl l'
noncomputable def XE (F : EvXF) (a : Addr) (r : R) (l : List D) (Q : D → List D → Prop) : Prop := ∃ d l', F a r l = some (d, l') ∧ Q d l'
noncomputable def XEs (F : EvsXF) (a : Addr) (r : R) (l : List D) (Q : List D → List D → Prop) : Prop := ∃ ds l', F a r l = some (ds, l') ∧ Q ds l'
noncomputable def XC (F : FunXF) (a : Addr) (ds l : List D) (Q : D → List D → Prop) : Prop := ∃ d l', F a ds l = some (d, l') ∧ Q d l'
noncomputable def XSK (Fs : RunXF) (a : Addr) (N : Nat) (P : St → Fl → List D → Prop) (σ : St) : Fl → List D → Prop
  | .next, l => XW Fs a N σ l P
  | fl, l => P σ fl l
noncomputable def XCK (Q : D → List D → Prop) (σ : St) : Fl → List D → Prop
  | .ret d, l => Q d l
  | _, _ => False
section
variable {F Fs F' : RunXF} {a : Addr} {N n i m : Nat} {σ : St} {l : List D} {P : St → Fl → List D → Prop} {E : EvXF} {Es : EvsXF} {r : R} {Q : D → List D → Prop} {d : D} {ds : List D}
theorem XC.fn (hs : StartsAt ds n σ) (hl : ds.length = m) (h : XW F a N σ l (XCK Q)) : XC (callX m n F N) a ds l Q := by
  obtain ⟨σ', fl, l', e, p⟩ := h
  rw [← show startSt ds n = σ from hs] at e
  unfold XC callX
  rw [if_pos hl, e]
  cases fl with
  | ret d => exact ⟨_, _, rfl, p⟩
  | next => exact p.elim
  | cont => exact p.elim
  | exc c => exact p.elim
theorem XC.of {f : FunXF} {l' : List D} (h : f a ds l = some (d, l')) (k : Q d l') : XC f a ds l Q := ⟨d, l', h, k⟩
theorem XC.eq {f : FunXF} {l' : List D} (h : XC f a ds l fun z w => z = d ∧ w = l') : f a ds l = some (d, l') := by
  obtain ⟨z, w, e, rfl, rfl⟩ := h; exact e
theorem XW.of {F : Run} (h : RW F N σ fun σ' fl => noMt σ' = true ∧ P σ' fl l) : XW (xOf F) a N σ l P := by
  obtain ⟨σ', fl, e, hn, p⟩ := h
  exact ⟨σ', fl, l, by unfold xOf; rw [e]; simp only [hn, if_true], p⟩
theorem XW.seq (h : XW F a N σ l (XSK Fs a N P)) : XW (xSeq F Fs) a N σ l P := by
  obtain ⟨σ', fl, l', e, p⟩ := h
  unfold XW xSeq
  rw [e]
  cases fl with
  | next => exact p
  | ret d => exact ⟨_, _, _, rfl, p⟩
  | cont => exact ⟨_, _, _, rfl, p⟩
  | exc c => exact ⟨_, _, _, rfl, p⟩
theorem XSK.next (h : XW Fs a N σ l P) : XSK Fs a N P σ .next l := h
theorem XSK.ret (h : P σ (.ret d) l) : XSK Fs a N P σ (.ret d) l := h
theorem XCK.ret (h : Q d l) : XCK Q σ (.ret d) l := h
theorem XW.if {T : Tr} (h : TW T (rdF σ) fun b => IfK b (XW F a N σ l P) (XW F' a N σ l P)) : XW (xIf T F F') a N σ l P := by
  obtain ⟨b, e, p⟩ := h
  unfold XW xIf
  rw [e]
  cases b <;> exact p
theorem XW.app {F : Ev} (hi : σ[i]? = some (.imm (.adr a))) (hz : l.length ≤ 10000) (h : EW F (rdH σ) fun d => flat d = true ∧ P σ .next (l ++ [d])) : XW (xApp i F) a N σ l P := by
  obtain ⟨d, e, hf, p⟩ := h
  refine ⟨_, _, _, ?_, p⟩
  unfold xApp
  rw [hi]
  simp only [Nat.le_trans hz sizeLine_ge, and_self, if_true, e, hf]
theorem XW.asg (hl : σ.length = n) (h : XE E a (rdH σ) l fun d l' => PutAt σ i (.imm d) fun σ' => P σ' .next l') : XW (fun a fuel σ l => if σ.length = n then xAsg i E a fuel σ l else none) a N σ l P := by
  obtain ⟨d, l', e, hi, p⟩ := h
  refine ⟨_, _, _, ?_, p⟩
  dsimp only
  rw [if_pos hl]
  unfold xAsg
  rw [if_neg (by omega), e]
theorem XW.ret (h : XE E a (rdH σ) l fun d l' => P σ (.ret d) l') : XW (xRet E) a N σ l P := by
  obtain ⟨d, l', e, p⟩ := h
  exact ⟨_, _, _, by unfold xRet; rw [e], p⟩
theorem XE.of {F : Ev} (h : EW F r fun d => Q d l) : XE (xOfE F) a r l Q := by
  obtain ⟨d, e, q⟩ := h
  exact ⟨d, l, by unfold xOfE; rw [e], q⟩
theorem XE.call {f : FunXF} (h : XEs Es a r l fun ds l₁ => XC f a ds l₁ Q) : XE (xCall f Es) a r l Q := by
  obtain ⟨ds, l₁, e, d, l', e', q⟩ := h
  exact ⟨d, l', by unfold xCall; rw [e]; exact e', q⟩
theorem XEs.nil {Q : List D → List D → Prop} (k : Q [] l) : XEs xs0 a r l Q := ⟨[], l, rfl, k⟩
theorem XEs.cons {Q : List D → List D → Prop} (h : XE E a r l fun d l₁ => XEs Es a r l₁ fun ds l₂ => Q (d :: ds) l₂) : XEs (xsC E Es) a r l Q := by
  obtain ⟨d, l₁, e, ds, l₂, e', q⟩ := h
  exact ⟨_, _, by unfold xsC; rw [e]; simp only [e'], q⟩
theorem RW.asgM {iy ix : Nat} {F1 F3 : Ev} {M : D → List D → D → Option (D × List D)} {P : St → Fl → Prop} (hi : σ[ix]? = some (.mt l)) (hf : l.all flat = true) (hlt : iy < σ.length) (hne : iy ≠ ix) (h : EW F1 (rdH σ) fun d1 => EW F3 (rdH σ) fun d3 => ∃ d l', M d1 l d3 = some (d, l') ∧ l'.all flat = true ∧ PutAt σ ix (.mt l') fun σ' => PutAt σ' iy (.imm d) fun σ'' => P σ'' .next) : RW (rAsgM iy ix F1 F3 M) N σ P := by
  obtain ⟨d1, e1, d3, e3, d, l', e, hf', h1, h2, p⟩ := h
  refine ⟨_, _, ?_, p⟩
  unfold rAsgM
  rw [hi]
  simp only [hf, hlt, e1, e3, e, hf', if_true, ne_eq, hne, not_false_eq_true, and_self]
end
theorem FunX.of {I : GI} {p : Program} {k m i : Nat} (N : Nat) {d : DefRec} {ns : List Str} {F : RunXF} (hat : HatI I p) (hd : (recsOf p)[i]? = some d) (hc : ScS d.scope ns) (hm : m ≤ ns.length)
    (hbind : ∀ pm cd doc vs, vs.length = m → bindArgs (Calls.docDef d.name d.params d.body d.scope pm cd doc) ⟨vs, []⟩ = pure ((ns.take m).zip vs)) (hco : d.scope.isCoroutine = false) (hgen : d.scope.isGenerator = false) (hcl : ∀ n, cellsFrom n d.scope.names [] = [])
    (hr : RunX I k d.scope ns (execs d.body) F) : FunX I (k + 1) d.name (callX m ns.length F N) := FunX.def N (hat i d hd) hc hm hbind hco hgen hcl hr
theorem GenE.of {I : GI} {p : Program} {k m i : Nat} {ns : List Str} {d : DefRec} {xv y : Str} {px py ypos epos fpos : Pos} {e : Expr} {ix iy : Nat} (N : Nat) {Fe : Ev} {F1 F2 : Run} {st1 st2 : Stmt} (hat : HatI I p) (hd : (recsOf p)[i]? = some d)
    (hbody : d.body = [st1, st2, .For (.Name xv px) (.Name y py) [.Expr (.Yield (some e) ypos) epos] [] fpos]) (hc : ScS d.scope ns) (hm : m ≤ ns.length)
    (hbind : ∀ pm cd doc vs, vs.length = m → bindArgs (Calls.docDef d.name d.params d.body d.scope pm cd doc) ⟨vs, []⟩ = pure ((ns.take m).zip vs)) (hco : d.scope.isCoroutine = false) (hgen : d.scope.isGenerator = true) (hcl : ∀ n, cellsFrom n d.scope.names [] = []) (hlo : ∀ y ∈ ns, d.scope.names.lookup y = some .local)
    (hx : idx ns xv = some ix) (hy : idx ns y = some iy) (hyd : (y == ("__debug__" : Str)) = false) (hfold : ∀ env v, foldedSetIterable (.Name y py) env v = pure v)
    (he : EvOK I k d.scope ns e Fe) (hF : ∀ a, Fe (xr ns.length ix a) = some (.int a))
    (h1 : RunOK I k d.scope ns (exec st1) F1) (h2 : RunE I k d.scope ns (exec st2) F2) : GenE I k d.name (genXF m ns.length iy F1 F2 N) :=
  GenE.def N hbody (hat i d hd) hc hm hbind hco hgen hcl hlo hx hy hyd hfold he hF h1 h2
theorem genXF_of {m n iy N : Nat} {F1 F2 : Run} {ds : List D} {σ0 : St} {o : List Int ⊕ String} (hs : StartsAt ds n σ0) (hl : ds.length = m) (h : RW F1 N σ0 fun σ1 fl => fl = .next ∧ RW F2 N σ1 fun σ2 fl2 => match o with
      | .inl vals => fl2 = .next ∧ σ2[iy]? = some (.mt (intsD vals)) ∧ vals.length ≤ 10000
      | .inr c => fl2 = .exc c) :
    genXF m n iy F1 F2 N ds = some o := by
  obtain ⟨σ1, fl, e1, rfl, σ2, fl2, e2, hk⟩ := h
  rw [← show startSt ds n = σ0 from hs] at e1
  unfold genXF
  rw [if_pos hl, e1]
  cases o with
  | inl vals =>
    obtain ⟨rfl, e3, hz⟩ := hk
    simp only [e2, e3]
    rw [if_pos (by rw [intsD_length]; exact Nat.le_trans hz sizeLine_ge), asIntL_ints]
    rfl
  | inr c =>
    have : fl2 = .exc c := hk
    subst this
    simp only [e2]
end Mine
end
section
open PySem PySem.W PyProof.Rows PySem.Spec
set_option linter.unusedVariables false
set_option Elab.async false
set_option maxRecDepth 100000
namespace Mine
/-! rpn's signs, with faults -/
noncomputable def ops2D : D := .tup [.str "+", .str "-", .str "*", .str "/", .str "//", .str "%", .str "**", .str "x", .str "xx"]
noncomputable def ops1D : D := .tup [.str "!", .str "f", .str "#", .str "p"]
/-- neither a '-' with figures behind it -/
noncomputable def NotNeg (t : List Nat) : Prop := t.length ≤ 1 ∨ (∃ c r, t = c :: r ∧ fEq (.str (mkS [c])) (.str "-") = some (.bool false)) ∨ ∃ r, t = 45 :: r ∧ r.all isDg = false
/-- a sign that rpn does not know -/
structure Unk (t : List Nat) : Prop where
  len : t.length ≤ 100
  asc : ∀ c ∈ t, c < 128
  nod : t.all isDg = false
  two : fIn false (.str (mkS t)) ops2D = some (.bool false)
  one : fIn false (.str (mkS t)) ops1D = some (.bool false)
  neg : NotNeg t
structure Known2 (t : List Nat) : Prop where
  len : t.length ≤ 100
  asc : ∀ c ∈ t, c < 128
  nod : t.all isDg = false
  two : fIn false (.str (mkS t)) ops2D = some (.bool true)
  neg : NotNeg t
structure Known1 (t : List Nat) : Prop where
  len : t.length ≤ 100
  asc : ∀ c ∈ t, c < 128
  nod : t.all isDg = false
  two : fIn false (.str (mkS t)) ops2D = some (.bool false)
  one : fIn false (.str (mkS t)) ops1D = some (.bool true)
  neg : NotNeg t
theorem bool_eq {o : Option D} {b : Bool} (h : (match o with | some (.bool c) => c == b | _ => false) = true) : o = some (.bool b) := by
  cases o with
  | none => exact no_tf h
  | some x =>
    cases x with
    | bool c => rw [eq_of_beq (show (c == b) = true from h)]
    | _ => exact no_tf h
theorem known2 (o : Op2) : Known2 (op2S o) := by
  cases o <;> exact ⟨by decide, by decide, by decide, bool_eq (by decide +kernel), by first | exact .inl (by decide) | exact .inr (.inl ⟨_, _, rfl, bool_eq (by decide +kernel)⟩)⟩
theorem known1 (o : Op1) : Known1 (op1S o) := by
  cases o <;> exact ⟨by decide, by decide, by decide, bool_eq (by decide +kernel), bool_eq (by decide +kernel), .inl (by decide)⟩
inductive FailT : List Nat → List Int → String → Prop
  | two0 {o : Op2} : FailT (op2S o) [] "IndexError"
  | two1 {o : Op2} {a : Int} : FailT (op2S o) [a] "IndexError"
  | zero {o : Op2} {a : Int} {st : List Int} (h : o = .div ∨ o = .divv ∨ o = .mod) : FailT (op2S o) (st ++ [a] ++ [0]) "ZeroDivisionError"
  | one0 {o : Op1} : FailT (op1S o) [] "IndexError"
  | unk {t : List Nat} {st : List Int} (h : Unk t) : FailT t st "Exception"
inductive RunsE : List (List Nat) → List Int → List Int ⊕ String → Prop
  | nil {st : List Int} : RunsE [] st (.inl st)
  | cons {t : List Nat} {ts : List (List Nat)} {st st' : List Int} {o : List Int ⊕ String} (h : StepT t st st') (r : RunsE ts st' o) : RunsE (t :: ts) st o
  | fail {t : List Nat} {ts : List (List Nat)} {st : List Int} {c : String} (h : FailT t st c) : RunsE (t :: ts) st (.inr c)
theorem runsE_nil {st : List Int} {o : List Int ⊕ String} (h : RunsE [] st o) : o = .inl st := by
  cases h; rfl
section
variable {B : Run} {N n i j p q : Nat} {σ : St} {P : St → Fl → Prop} {ds : List D} {c : String}
theorem LEW.inv (Inv : List D → St → Prop) (h0 : Inv ds σ) (hs : ∀ d ds σ, Inv (d :: ds) σ → σ.length = n ∧ PutAt σ j (.imm d) fun σ₁ => RW B N σ₁ (LEK P (Inv ds))) (hP : ∀ σ', Inv [] σ' → P σ' .next) : LEW n j B N ds σ P := by
  induction ds generalizing σ with
  | nil => exact LEW.nil (hP _ h0)
  | cons d ds ih =>
    obtain ⟨hl, hj, σ', fl, e, p⟩ := hs d ds σ h0
    refine LEW.cons hl ⟨hj, σ', fl, e, ?_⟩
    cases fl with
    | next => exact ih p
    | cont => exact ih p
    | ret d => exact p
    | exc c => exact p
theorem RW.popZ {l : List D} {d : D} (h : σ[i]? = some (.mt (l ++ [d]))) (hl : l.length ≤ 9999) (k : PutAt σ i (.mt l) fun σ' => PutAt σ' j (.imm d) fun σ'' => P σ'' .next) : RW (rPopZ i j) N σ P :=
  RW.popZ1 h (by simp) (RW.pop h hl k)
theorem RW.asgZ1v {f : D → D → Option D} {a b : Int} (hx : (rdH σ)[p]? = some (some (.int a))) (hy : (rdH σ)[q]? = some (some (.int b))) (hb : b ≠ 0) (k : RW (rAsg i (Mine.e2 f (eVar p) (eVar q))) N σ P) : RW (rAsgZ i f (eVar p) (eVar q)) N σ P :=
  RW.asgZ1 hb (EW.var hx rfl) (EW.var hy rfl) k
theorem RW.asgZ0v {f : D → D → Option D} {a : Int} (hx : (rdH σ)[p]? = some (some (.int a))) (hy : (rdH σ)[q]? = some (some (.int 0))) (k : P σ (.exc "ZeroDivisionError")) : RW (rAsgZ i f (eVar p) (eVar q)) N σ P :=
  RW.asgZ0 (EW.var hx rfl) (EW.var hy rfl) k
theorem TW.negF {t : List Nat} {r : R} {C : Tr} {Q : Bool → Prop} (hn : NotNeg t) (hl : t.length ≤ 100) (ha : ∀ c ∈ t, c < 128) (hr : r[i]? = some (some (.str (mkS t)))) (k : Q false) :
    TW (tAnd (Mine.tOf (Mine.e2 (fOrd fun a b => decide (b < a)) (eCall fLen (esC (eVar i) es0)) (eCst (.int 1)))) (tAnd (Mine.tOf (Mine.e2 fEq (Mine.e2 fSubs (eVar i) (eCst (.int 0))) (eCst (.str (Str.ofString "-")))))
      (tAnd (Mine.tOf (Mine.e2 fEq (eComp (eVar 0) (Mine.tOf (Mine.e2 (fInS true) (eVar 0) (eCst (.str (Str.ofString "1234567890"))))) (Mine.e2 fSloS (eVar i) (eCst (.int 1)))) (eLst es0))) C))) r Q := by
  refine TW.and (TW.tOf (EW.e2 (EW.call (EsW.cons (EW.var hr (EsW.nil (CW.lenS (Nat.le_trans hl (by decide)) (EW.cst (OW.ord (TruthK.bool ?_)))))))))) 
  rcases Nat.lt_or_ge 1 t.length with h1 | h1
  · refine IfK.decT (by omega) ?_
    refine TW.and (TW.tOf (EW.e2 (EW.e2 (EW.var hr (EW.cst ?_)))))
    rcases hn with h | ⟨c, r2, rfl, h⟩ | ⟨r2, rfl, h⟩
    · omega
    · exact OW.of (rfl : fSubs (.str (mkS (c :: r2))) (.int 0) = some (.str (mkS [c]))) (EW.cst (OW.of h (TruthK.bool (IfK.f k))))
    · have e1 : fSubs (.str (mkS (45 :: r2))) (.int 0) = some (.str (mkS [45])) := rfl
      have e2 : fEq (.str (mkS [45])) (.str (Str.ofString "-")) = some (.bool true) := bool_eq (by decide +kernel)
      refine OW.of e1 (EW.cst (OW.of e2 (TruthK.bool (IfK.t ?_))))
      refine TW.and (TW.tOf (EW.e2 (EW.dgsTail hr (by rw [List.length_cons] at hl; omega) (EW.lst (EsW.nil (LsK.mk (by decide) (OW.eqNil (fun c hc => ha c (.tail _ hc)) (TruthK.bool ?_))))))))
      rw [h]
      exact IfK.f k
  · exact IfK.decF (by omega) k
theorem RW.raise (k : P σ (.exc c)) : RW (fun _ σ => some (σ, .exc c)) N σ P := ⟨σ, _, rfl, k⟩
end
end Mine
end
section
open PySem PySem.W PyProof.Rows PySem.Spec
set_option linter.unusedVariables false
set_option Elab.async false
set_option maxRecDepth 100000
namespace Mine
/-! the law's own machine: a stack, its top first, or a fault -/
inductive Mst | ok (r : List Int) | err (c : String)
noncomputable def AfterM (us : List (List Nat)) : Mst → List Int ⊕ String → Prop
  | .ok r, o => RunsE us r.reverse o
  | .err c, o => o = .inr c
/-- what the signs ts do with the machine -/
noncomputable def Goes (ts : List (List Nat)) (m m' : Mst) : Prop := ∀ us o, AfterM us m' o → AfterM (ts ++ us) m o
theorem Goes.nil {m : Mst} : Goes [] m m := fun _ _ h => h
theorem Goes.trans {ts us : List (List Nat)} {m m' m'' : Mst} (h : Goes ts m m') (h' : Goes us m' m'') : Goes (ts ++ us) m m'' := fun vs o q => by
  rw [List.append_assoc]; exact h _ _ (h' _ _ q)
theorem Goes.err {ts : List (List Nat)} {c : String} : Goes ts (.err c) (.err c) := fun _ _ h => h
theorem Goes.put {t : List Nat} {n : Int} {r : List Int} (h : NumTok t n) : Goes [t] (.ok r) (.ok (n :: r)) := fun us o q => by
  have q' : RunsE us (n :: r).reverse o := q
  rw [List.reverse_cons] at q'
  exact RunsE.cons (StepT.num h) q'
theorem Goes.two {o : Op2} {a b c : Int} {r : List Int} (h : op2 a b o = some c) : Goes [op2S o] (.ok (b :: a :: r)) (.ok (c :: r)) := fun us o' q => by
  have q' : RunsE us (c :: r).reverse o' := q
  rw [List.reverse_cons] at q'
  show RunsE _ (b :: a :: r).reverse o'
  rw [List.reverse_cons, List.reverse_cons]
  exact RunsE.cons (StepT.two h) q'
theorem Goes.one {o : Op1} {a c : Int} {r : List Int} (h : op1 a o = some c) : Goes [op1S o] (.ok (a :: r)) (.ok (c :: r)) := fun us o' q => by
  have q' : RunsE us (c :: r).reverse o' := q
  rw [List.reverse_cons] at q'
  show RunsE _ (a :: r).reverse o'
  rw [List.reverse_cons]
  exact RunsE.cons (StepT.one h) q'
theorem Goes.fail {t : List Nat} {r : List Int} {c : String} (h : FailT t r.reverse c) : Goes [t] (.ok r) (.err c) := fun us o q => by
  have q' : o = .inr c := q
  subst q'
  exact RunsE.fail h
theorem Goes.two0 {o : Op2} : Goes [op2S o] (.ok []) (.err "IndexError") := Goes.fail FailT.two0
theorem Goes.two1 {o : Op2} {a : Int} : Goes [op2S o] (.ok [a]) (.err "IndexError") := Goes.fail FailT.two1
theorem Goes.one0 {o : Op1} : Goes [op1S o] (.ok []) (.err "IndexError") := Goes.fail FailT.one0
theorem Goes.zero {o : Op2} {a : Int} {r : List Int} (h : o = .div ∨ o = .divv ∨ o = .mod) : Goes [op2S o] (.ok (0 :: a :: r)) (.err "ZeroDivisionError") := Goes.fail (by
  rw [List.reverse_cons, List.reverse_cons]; exact FailT.zero h)
theorem Goes.unk {t : List Nat} {r : List Int} (h : Unk t) : Goes [t] (.ok r) (.err "Exception") := Goes.fail (FailT.unk h)

/-- as the law's text holds it -/
noncomputable def stkD : List Int → D
  | [] => .tup []
  | a :: r => .tup [.int a, stkD r]
noncomputable def fltS (c : String) : Str := if c = "IndexError" then "short" else if c = "ZeroDivisionError" then "nought" else "unknown"
noncomputable def mstD : Mst → D
  | .ok r => .tup [.str "", stkD r]
  | .err c => .tup [.str (fltS c), .tup []]
noncomputable def toksD (ts : List (List Nat)) : List D := ts.map strT
theorem toksD_append (ts us : List (List Nat)) : toksD (ts ++ us) = toksD ts ++ toksD us := List.map_append ..
theorem toksD_flat (ts : List (List Nat)) : (toksD ts).all flat = true := List.all_eq_true.mpr fun d hd => by
  obtain ⟨t, _, rfl⟩ := List.mem_map.mp hd; rfl
end Mine
end
section
open PySem PySem.W PyProof.Rows PySem.Spec
set_option linter.unusedVariables false
set_option linter.unusedSimpArgs false
set_option Elab.async false
set_option maxRecDepth 100000
namespace Mine
/-! law 03's numbers -/
theorem lpr_key : (List.range 23).all (fun u => decide (prodI (natI (lpr u)) = prodI (natI (pgR u)))) = true := by decide +kernel
theorem lpr_prm {a : Int} (h : a ≤ 22) : prodI (natI (lpr (a.toNat - 1))) = prmI a :=
  of_decide_eq_true (List.all_eq_true.mp lpr_key (a.toNat - 1) (List.mem_range.mpr (Nat.lt_of_le_of_lt (Nat.sub_le _ _) (Nat.lt_succ_of_le (Int.toNat_le.mpr (show a ≤ ((22 : Nat) : Int) from h))))))
theorem facI_low {a : Int} (h : a ≤ 1) : facI a = 1 := by
  unfold facI
  have h1 : a.toNat ≤ 1 := Int.toNat_le.mpr (show a ≤ ((1 : Nat) : Int) from h)
  generalize a.toNat = n at h1
  match n, h1 with
  | 0, _ => rfl
  | 1, _ => rfl
theorem facI_step {a : Int} (h : 1 < a) : facI a = a * facI (a - 1) := by
  unfold facI
  have h0 : 0 ≤ a - 1 := Int.sub_nonneg_of_le (Int.le_of_lt h)
  obtain ⟨j, hj⟩ := Int.eq_ofNat_of_zero_le h0
  have e : a = ((j + 1 : Nat) : Int) := by rw [Int.natCast_add, ← hj]; exact (Int.sub_add_cancel a 1).symm
  rw [hj, e, Int.toNat_natCast, Int.toNat_natCast, upI_last, prodI_append, prodI_cons, prodI_nil, Int.mul_one, Int.mul_comm, Int.add_comm 1]; rfl
theorem bd_key : (List.range 23).all (fun n => decide ((prodI (upI 1 n)).natAbs < 2 ^ 300) && decide ((prodI (natI (pgR (n - 1)))).natAbs < 2 ^ 300)) = true := by decide +kernel
theorem le22 {a : Int} (h : a ≤ 22) : a.toNat ∈ List.range 23 := List.mem_range.mpr (Nat.lt_succ_of_le (Int.toNat_le.mpr (show a ≤ ((22 : Nat) : Int) from h)))
theorem facI_bd {a : Int} (h : a ≤ 22) : Bd 300 (facI a) := of_decide_eq_true (p := (prodI (upI 1 a.toNat)).natAbs < 2 ^ 300) (Bool.and_eq_true_iff.mp (List.all_eq_true.mp bd_key _ (le22 h))).1
theorem prmI_bd {a : Int} (h : a ≤ 22) : Bd 300 (prmI a) := of_decide_eq_true (p := (prodI (natI (pgR (a.toNat - 1)))).natAbs < 2 ^ 300) (Bool.and_eq_true_iff.mp (List.all_eq_true.mp bd_key _ (le22 h))).2
theorem mulOk_sm2 {a b : Int} (h1 : -(2:Int)^60 < b) (h2 : b < 2^60) : mulOk a b = true := by
  have := mulOk_sm (a := b) (b := a) h1 h2
  unfold mulOk at this ⊢
  rw [Bool.and_comm (decide (Builtin.Int.intBits a > _))]
  rw [show ((Builtin.Int.intBits a : Int) + (Builtin.Int.intBits b : Int)) = (Builtin.Int.intBits b : Int) + (Builtin.Int.intBits a : Int) from Int.add_comm ..]
  exact this
theorem mulOk_22 {w z : Int} (h : 1 < z) (h' : z ≤ 22) : mulOk w z = true := mulOk_sm2 (Int.lt_trans (by decide) h) (Int.lt_of_le_of_lt h' (by decide))
theorem mulOk_nat {w : Int} {n : Nat} (h : n ≤ 1000) : mulOk w (n : Int) = true := mulOk_sm2 (Int.lt_of_lt_of_le (by decide) (Int.natCast_nonneg n)) (Int.lt_of_le_of_lt (Int.ofNat_le.mpr h) (by decide))
theorem up2 (m : Int) : (m + 1 - 2).toNat = m.toNat - 1 := by
  rw [← Int.pred_toNat, Int.add_sub_assoc]; rfl
theorem step_k {k j n : Nat} (h : k + j = n) (hj : j < n) : k - 1 < k ∧ k - 1 + (j + 1) = n := by
  cases k with
  | zero => rw [Nat.zero_add] at h; exact absurd hj (by rw [h]; exact Nat.lt_irrefl n)
  | succ k => exact ⟨Nat.lt_succ_self k, (Nat.succ_add_eq_add_succ k j).symm.trans h⟩
theorem down_k {z : Int} {k : Nat} (c : 1 < z) (hk : z ≤ (k : Int)) (hz : z ≤ 22) : k - 1 < k ∧ z - 1 ≤ ((k - 1 : Nat) : Int) ∧ z - 1 ≤ 22 :=
  have h0 : 0 < k := Int.natCast_pos.mp (Int.lt_of_lt_of_le (Int.lt_trans (by decide) c) hk)
  ⟨Nat.sub_lt h0 Nat.one_pos, by rw [Int.natCast_sub (n := 1) h0]; exact Int.sub_le_sub_right hk 1, Int.le_trans (Int.sub_le_self z (by decide)) hz⟩
theorem neg_abs {a : Int} (h : a < 0) : a = -(a.natAbs : Int) := by omega
theorem pos_abs {a : Int} (h : ¬ a < 0) : a = (a.natAbs : Int) := by omega
/-- the floor quotient of the law -/
noncomputable def quoI (a b : Int) : Int := if decide (a < 0) = decide (b < 0) then ((a.natAbs / b.natAbs : Nat) : Int) else if ((a.natAbs / b.natAbs : Nat) : Int) * (b.natAbs : Int) = (a.natAbs : Int) then -((a.natAbs / b.natAbs : Nat) : Int) else -((a.natAbs / b.natAbs : Nat) : Int) - 1
theorem quo_nat (m n : Nat) (h : 0 < n) : (-(m : Int)).fdiv (n : Int) = if ((m / n : Nat) : Int) * (n : Int) = (m : Int) then -((m / n : Nat) : Int) else -((m / n : Nat) : Int) - 1 := by
  rw [Int.fdiv_eq_ediv_of_nonneg _ (by omega), Int.neg_ediv]
  have e : ((m : Int) / (n : Int)) = ((m / n : Nat) : Int) := rfl
  have s : (n : Int).sign = 1 := Int.sign_eq_one_of_pos (by omega)
  rw [e, s]
  have d : ((n : Int) ∣ (m : Int)) ↔ ((m / n : Nat) : Int) * (n : Int) = (m : Int) := by
    rw [Int.natCast_dvd_natCast]
    constructor
    · intro hd
      rw [← Int.natCast_mul, Nat.div_mul_cancel hd]
    · intro hd
      rw [← Int.natCast_mul] at hd
      exact ⟨m / n, by rw [Nat.mul_comm]; exact (Int.ofNat.inj hd).symm⟩
  by_cases q : ((m / n : Nat) : Int) * (n : Int) = (m : Int)
  · rw [if_pos (d.mpr q), if_pos q, Int.sub_zero]
  · rw [if_neg (fun h => q (d.mp h)), if_neg q]
theorem quoI_eq {a b : Int} (hb : b ≠ 0) : quoI a b = a.fdiv b := by
  unfold quoI
  have key : ∀ m n : Nat, 0 < n → (m : Int).fdiv (n : Int) = ((m / n : Nat) : Int) := fun m n h => by
    rw [Int.fdiv_eq_ediv_of_nonneg _ (by omega)]; rfl
  have hn : 0 < b.natAbs := Int.natAbs_pos.mpr hb
  by_cases ha : a < 0 <;> by_cases hc : b < 0
  · have ea := neg_abs ha
    have eb := neg_abs hc
    simp only [ha, hc, decide_true, if_true]
    conv => rhs; rw [ea, eb]
    rw [Int.neg_fdiv_neg, key _ _ hn]
  · have ea := neg_abs ha
    have eb := pos_abs hc
    simp only [ha, hc, decide_true, decide_false, Bool.true_eq_false, if_false]
    conv => rhs; rw [ea, eb]
    rw [quo_nat _ _ hn]
  · have ea := pos_abs ha
    have eb := neg_abs hc
    simp only [ha, hc, decide_true, decide_false, Bool.false_eq_true, if_false]
    conv => rhs; rw [ea, eb]
    rw [← quo_nat _ _ hn, ← Int.neg_fdiv_neg, Int.neg_neg]
  · have ea := pos_abs ha
    have eb := pos_abs hc
    simp only [ha, hc, decide_false, if_true]
    conv => rhs; rw [ea, eb]
    rw [key _ _ hn]
theorem quo_le (a b : Int) : (quoI a b).natAbs ≤ a.natAbs + 1 := by
  have h : a.natAbs / b.natAbs ≤ a.natAbs := Nat.div_le_self ..
  have key : ∀ q n : Nat, q ≤ n → (q : Int).natAbs ≤ n + 1 ∧ (-(q : Int)).natAbs ≤ n + 1 ∧ (-(q : Int) - 1).natAbs ≤ n + 1 := fun q n h => by
    rw [show -(q : Int) - 1 = -((q + 1 : Nat) : Int) from by rw [Int.natCast_add, Int.neg_add]; rfl, Int.natAbs_neg, Int.natAbs_neg]
    exact ⟨Nat.le_succ_of_le h, Nat.le_succ_of_le h, Nat.succ_le_succ h⟩
  obtain ⟨h1, h2, h3⟩ := key _ _ h
  unfold quoI
  split
  · exact h1
  · split
    · exact h2
    · exact h3
theorem quo_bd {n : Nat} {a b : Int} (h : Bd n a) : Bd (n + 1) (quoI a b) := by
  have h1 := quo_le a b
  have h2 : a.natAbs + 1 ≤ 2 ^ n := h
  refine Nat.lt_of_le_of_lt (Nat.le_trans h1 h2) ?_
  exact Nat.pow_lt_pow_right (by decide) (Nat.lt_succ_self n)
theorem fmod_quo {a b : Int} (hb : b ≠ 0) : a - b * quoI a b = a.fmod b := by
  rw [quoI_eq hb, Int.fmod_def]

theorem eqB (p q : Bool) : fEq (.bool p) (.bool q) = some (.bool (p == q)) := by
  cases p <;> cases q <;> rfl
theorem quo_ways (a b : Int) : (fEq (.bool (decide (a < 0))) (.bool (decide (b < 0))) = some (.bool true) ∧ quoI a b = ((a.natAbs / b.natAbs : Nat) : Int)) ∨
    (fEq (.bool (decide (a < 0))) (.bool (decide (b < 0))) = some (.bool false) ∧ ((a.natAbs / b.natAbs : Nat) : Int) * (b.natAbs : Int) = (a.natAbs : Int) ∧ quoI a b = -((a.natAbs / b.natAbs : Nat) : Int)) ∨
    (fEq (.bool (decide (a < 0))) (.bool (decide (b < 0))) = some (.bool false) ∧ ¬ ((a.natAbs / b.natAbs : Nat) : Int) * (b.natAbs : Int) = (a.natAbs : Int) ∧ quoI a b = -((a.natAbs / b.natAbs : Nat) : Int) - 1) := by
  unfold quoI
  rw [eqB]
  by_cases c : decide (a < 0) = decide (b < 0)
  · rw [if_pos c, beq_iff_eq.mpr c]
    exact .inl ⟨rfl, rfl⟩
  · rw [if_neg c, beq_eq_false_iff_ne.mpr c]
    by_cases d : ((a.natAbs / b.natAbs : Nat) : Int) * (b.natAbs : Int) = (a.natAbs : Int)
    · rw [if_pos d]
      exact .inr (.inl ⟨rfl, d, rfl⟩)
    · rw [if_neg d]
      exact .inr (.inr ⟨rfl, d, rfl⟩)

theorem bd_nat {n : Nat} (h : n ≤ 1000) : Bd 10 (n : Int) := Nat.lt_of_le_of_lt h (by decide)
theorem bd_up {n : Nat} {x : Int} (hn : n ≤ 100) (h : x ∈ upI 1 n) : Bd 10 x := by
  unfold upI at h
  obtain ⟨i, hi, rfl⟩ := List.mem_map.mp h
  have e : (1 : Int) + (i : Int) = ((1 + i : Nat) : Int) := rfl
  rw [e]
  exact bd_nat (Nat.le_trans (Nat.add_le_add_left (Nat.le_trans (Nat.le_of_lt (List.mem_range.mp hi)) hn) 1) (by decide))
theorem st_len1 {st : List Int} {a : Int} {n : Nat} (h : (st ++ [a]).length + n ≤ 5000) : (intsD st).length ≤ 10000 ∧ (intsD st).length ≤ 9999 := by
  rw [List.length_append] at h
  rw [intsD_length]
  have h1 : st.length ≤ 5000 := Nat.le_trans (Nat.le_trans (Nat.le_add_right _ 1) (Nat.le_add_right _ n)) h
  exact ⟨Nat.le_trans h1 (by decide), Nat.le_trans h1 (by decide)⟩
theorem st_len2 {st : List Int} {a b : Int} {n : Nat} (h : (st ++ [a] ++ [b]).length + n ≤ 5000) : (intsD st).length ≤ 10000 ∧ (intsD st).length ≤ 9999 ∧ (intsD st ++ [D.int a]).length ≤ 9999 := by
  rw [List.length_append, List.length_append] at h
  rw [List.length_append, intsD_length]
  have h2 : st.length + 1 ≤ 5000 := Nat.le_trans (Nat.le_trans (Nat.le_add_right _ 1) (Nat.le_add_right _ n)) h
  have h1 : st.length ≤ 5000 := Nat.le_of_succ_le h2
  exact ⟨Nat.le_trans h1 (by decide), Nat.le_trans h1 (by decide), Nat.le_trans h2 (by decide)⟩
section
variable {f0 f1 : List D → Option D} {a : Int}
theorem fac_of (s1 : ∀ (d : D) (l : List Int) (m : Nat), isStr d = false → itemsOf d = some (intsD l) → (∀ x ∈ l, Bd m x) → m * l.length + 1 + m ≤ 100000000 → f1 [d] = some (.int (prodI l))) (h : a ≤ 100) : f1 [.rng 1 (a + 1) 1] = some (.int (facI a)) := by
  have hn : (a + 1 - 1).toNat ≤ 100 := by rw [Int.add_sub_cancel]; exact Int.toNat_le.mpr h
  have e := s1 (.rng 1 (a + 1) 1) (upI 1 (a + 1 - 1).toNat) 10 rfl (items_rngB (Nat.le_trans hn (by decide))) (fun x hx => by
    exact bd_up hn hx) (by rw [upI_length]; exact Nat.le_trans (Nat.add_le_add_right (Nat.succ_le_succ (Nat.mul_le_mul_left 10 hn)) 10) (by decide))
  rw [e]
  unfold facI
  rw [Int.add_sub_cancel]
theorem prm_of (s0 : ∀ (L : Int), L ≤ 200 → f0 [.int L] = some (.lst (intsD (natI (pgR (L.toNat - 2)))))) (h : a ≤ 100) : f0 [.int (a + 1)] = some (.lst (intsD (natI (pgR (a.toNat - 1))))) := by
  have e : (a + 1).toNat - 2 = a.toNat - 1 := by
    rw [show (a + 1).toNat - 2 = (a + 1).toNat - 1 - 1 from rfl, ← Int.pred_toNat, Int.add_sub_cancel]
  rw [s0 (a + 1) (Int.le_trans (Int.add_le_add_right h 1) (by decide)), e]
theorem prd_of (s1 : ∀ (d : D) (l : List Int) (m : Nat), isStr d = false → itemsOf d = some (intsD l) → (∀ x ∈ l, Bd m x) → m * l.length + 1 + m ≤ 100000000 → f1 [d] = some (.int (prodI l))) (h : a ≤ 100) : f1 [.lst (intsD (natI (pgR (a.toNat - 1))))] = some (.int (prmI a)) := by
  have hk : a.toNat - 1 ≤ 99 := Nat.sub_le_sub_right (Int.toNat_le.mpr (show a ≤ ((100 : Nat) : Int) from h)) 1
  have pl := Nat.le_trans (pgR_length (a.toNat - 1)) hk
  exact s1 _ _ 10 rfl (items_lst (by rw [intsD_length, natI_length]; exact Nat.le_trans pl (by decide))) (fun x hx => by
    obtain ⟨n, hn, rfl⟩ := mem_natI.mp hx
    exact bd_nat (Nat.le_trans (pgR_mem hn).2 (Nat.le_trans (Nat.succ_le_succ hk) (by decide)))) (by rw [natI_length]; exact Nat.le_trans (Nat.add_le_add_right (Nat.succ_le_succ (Nat.mul_le_mul_left 10 pl)) 10) (by decide))
end
/-- the ways of a sign -/
theorem tok_ways {u : List Nat} {us : List (List Nat)} {st : List Int} {o : List Int ⊕ String} (h : RunsE (u :: us) st o) :
    (∃ n, NumTok u n ∧ RunsE us (st ++ [n]) o) ∨
    (∃ o2, op2S o2 = u ∧ ((st = [] ∧ o = .inr "IndexError") ∨ (∃ a, st = [a] ∧ o = .inr "IndexError") ∨ (∃ a s, st = s ++ [a] ++ [0] ∧ (o2 = .div ∨ o2 = .divv ∨ o2 = .mod) ∧ o = .inr "ZeroDivisionError") ∨ ∃ a b c s, st = s ++ [a] ++ [b] ∧ op2 a b o2 = some c ∧ RunsE us (s ++ [c]) o)) ∨
    (∃ o1, op1S o1 = u ∧ ((st = [] ∧ o = .inr "IndexError") ∨ ∃ a c s, st = s ++ [a] ∧ op1 a o1 = some c ∧ RunsE us (s ++ [c]) o)) ∨
    (Unk u ∧ o = .inr "Exception") := by
  cases h with
  | cons s r =>
    cases s with
    | num h => exact .inl ⟨_, h, r⟩
    | two h => exact .inr (.inl ⟨_, rfl, .inr (.inr (.inr ⟨_, _, _, _, rfl, h, r⟩))⟩)
    | one h => exact .inr (.inr (.inl ⟨_, rfl, .inr ⟨_, _, _, rfl, h, r⟩⟩))
  | fail h =>
    cases h with
    | two0 => exact .inr (.inl ⟨_, rfl, .inl ⟨rfl, rfl⟩⟩)
    | two1 => exact .inr (.inl ⟨_, rfl, .inr (.inl ⟨_, rfl, rfl⟩)⟩)
    | zero h => exact .inr (.inl ⟨_, rfl, .inr (.inr (.inl ⟨_, _, rfl, h, rfl⟩))⟩)
    | one0 => exact .inr (.inr (.inl ⟨_, rfl, .inl ⟨rfl, rfl⟩⟩))
    | unk h => exact .inr (.inr (.inr ⟨h, rfl⟩))
theorem st_nxn {st : List Int} {n : Int} {us : List (List Nat)} {u : List Nat} (h : st.length + (u :: us).length ≤ 5000) : (st ++ [n]).length + us.length ≤ 5000 ∧ (intsD st).length ≤ 10000 := by
  rw [List.length_append, intsD_length]
  rw [List.length_cons, ← Nat.add_assoc, Nat.add_right_comm] at h
  exact ⟨h, Nat.le_trans (Nat.le_trans (Nat.le_add_right _ _) (Nat.le_trans (Nat.le_add_right _ _) h)) (by decide)⟩
theorem st_nx1 {s : List Int} {a c : Int} {us : List (List Nat)} {u : List Nat} (h : (s ++ [a]).length + (u :: us).length ≤ 5000) : (s ++ [c]).length + us.length ≤ 5000 := by
  rw [List.length_append] at h ⊢
  exact Nat.le_trans (Nat.add_le_add_left (Nat.le_succ _) _) h
theorem st_nx2 {s : List Int} {a b c : Int} {us : List (List Nat)} {u : List Nat} (h : (s ++ [a] ++ [b]).length + (u :: us).length ≤ 5000) : (s ++ [c]).length + us.length ≤ 5000 := by
  rw [List.length_append] at h
  exact st_nx1 (a := a) (u := u) (Nat.le_trans (Nat.add_le_add_right (Nat.le_add_right _ _) _) h)
/-! tests -/
section
variable {Q : D → Prop} {x y : D}
theorem OW.fst (k : Q x) : OW fSubs (.tup [x, y]) (.int 0) Q := ⟨x, rfl, k⟩
theorem OW.snd (k : Q y) : OW fSubs (.tup [x, y]) (.int 1) Q := ⟨y, rfl, k⟩
theorem CW.len2 (k : Q (.int 2)) : CW fLen [.tup [x, y]] Q := ⟨.int 2, by
  show (if [x, y].length ≤ sizeLine then some (D.int (([x, y].length : Nat) : Int)) else none) = _
  exact if_pos (Nat.le_trans (show 2 ≤ 10000 by decide) sizeLine_ge), k⟩
theorem CW.len0 (k : Q (.int 0)) : CW fLen [.tup []] Q := ⟨.int 0, by
  show (if ([] : List D).length ≤ sizeLine then some (D.int ((([] : List D).length : Nat) : Int)) else none) = _
  exact if_pos (Nat.zero_le _), k⟩
end
theorem noMt_and {σ : St} {p : Prop} (h : noMt σ = true) (k : p) : noMt σ = true ∧ p := ⟨h, k⟩
theorem flat_and {d : D} {p : Prop} (h : flat d = true) (k : p) : flat d = true ∧ p := ⟨h, k⟩

/-- what does not hang on the address -/
noncomputable def anyA (Fx : FunXF) (d1 : D) (l : List D) (d3 : D) : Option (D × List D) := by
  classical
  exact if h : ∃ p : D × List D, ∀ a, Fx a [d1, .adr a, d3] l = some p then some h.choose else none
theorem anyA_spec {Fx : FunXF} (a : Addr) (d1 : D) (l : List D) (d3 d : D) (l' : List D) (h : anyA Fx d1 l d3 = some (d, l')) : Fx a [d1, .adr a, d3] l = some (d, l') := by
  unfold anyA at h
  split at h
  · rename_i hp
    rw [hp.choose_spec a]; exact h
  · cases h
theorem anyA_eq {Fx : FunXF} {d1 : D} {l : List D} {d3 : D} {p : D × List D} (h : ∀ a, Fx a [d1, .adr a, d3] l = some p) : anyA Fx d1 l d3 = some p := by
  have hp : ∃ p : D × List D, ∀ a, Fx a [d1, .adr a, d3] l = some p := ⟨p, h⟩
  unfold anyA
  rw [dif_pos hp]
  have e := hp.choose_spec 0
  rw [h 0] at e
  exact e.symm

/-! bounds on the machine -/
noncomputable def ErrC (c : String) : Prop := c = "IndexError" ∨ c = "ZeroDivisionError" ∨ c = "Exception"
noncomputable def lenM : Mst → Nat
  | .ok r => r.length
  | .err _ => 0
noncomputable def BdM : Mst → Prop
  | .ok r => ∀ x ∈ r, Bd 200 x
  | .err c => ErrC c
noncomputable def TopB : Mst → Prop
  | .ok [] => True
  | .ok (x :: r) => Bd 1600 x ∧ ∀ y ∈ r, Bd 200 y
  | .err c => ErrC c
theorem BdM.top {m : Mst} (h : BdM m) : TopB m := by
  cases m with
  | err c => exact h
  | ok r =>
    cases r with
    | nil => trivial
    | cons x r => exact ⟨(h x (.head _)).mono (by decide), fun y hy => h y (.tail _ hy)⟩
noncomputable def putM (v : Int) : Mst → Mst
  | .ok r => .ok (v :: r)
  | .err c => .err c
theorem Goes.errT {t : List Nat} {c : String} : Goes [t] (.err c) (.err c) := Goes.err
theorem Goes.putM {t : List Nat} {v : Int} {m : Mst} (h : NumTok t v) : Goes [t] m (putM v m) := by
  cases m with
  | ok r => exact Goes.put h
  | err c => exact Goes.err
theorem BdM.putM {v : Int} {m : Mst} (h : BdM m) (hv : Bd 200 v) : BdM (Mine.putM v m) := by
  cases m with
  | err c => exact h
  | ok r =>
    intro x hx
    rcases List.mem_cons.mp hx with rfl | hx
    · exact hv
    · exact h x hx
theorem lenM_putM (v : Int) (m : Mst) : lenM (putM v m) ≤ lenM m + 1 := by
  cases m with
  | ok r => exact Nat.le_refl _
  | err c => exact Nat.zero_le _
noncomputable def isPw : Op2 → Bool
  | .pow | .powx => true
  | _ => false
noncomputable def isDv : Op2 → Bool
  | .div | .divv | .mod => true
  | _ => false
noncomputable def twoI (a b : Int) : Op2 → Int
  | .add => a + b
  | .sub => a - b
  | .mul | .mulx => a * b
  | .div | .divv => quoI a b
  | .mod => a - b * quoI a b
  | .pow | .powx => a ^ b.toNat
theorem two_ok {a b : Int} {o : Op2} (ha : Bd 1600 a) (hb : Bd 200 b) (hd : isDv o = true → b ≠ 0) (hp : isPw o = true → 0 ≤ b ∧ b ≤ 6 ∧ Bd 200 a) : op2 a b o = some (twoI a b o) ∧ (Bd 200 a → Bd 1600 (twoI a b o)) := by
  have m1 : mulOk a b = true := mulOk_bd ha hb (by decide)
  have dv : b ≠ 0 → (if divOk a b = true then some (a.fdiv b) else none) = some (quoI a b) ∧ (Bd 200 a → Bd 1600 (quoI a b)) := fun h0 => by
    rw [quoI_eq h0]
    exact ⟨if_pos (divOk_bd h0 hb (by decide)), fun h => by rw [← quoI_eq h0]; exact (quo_bd h).mono (by decide)⟩
  have pw : (0 ≤ b ∧ b ≤ 6 ∧ Bd 200 a) → (if powOk a b = true then some (a ^ b.toNat) else none) = some (a ^ b.toNat) ∧ (Bd 200 a → Bd 1600 (a ^ b.toNat)) := fun ⟨c1, c2, c3⟩ => by
    have h6 : b.toNat ≤ 6 := Int.toNat_le.mpr c2
    have pk := powOk_bd (k := b.toNat) c3 (Nat.le_trans (Nat.mul_le_mul_left 200 h6) (by decide))
    rw [Int.toNat_of_nonneg c1] at pk
    exact ⟨if_pos pk, fun h => (c3.pow b.toNat).mono (Nat.le_trans (Nat.succ_le_succ (Nat.mul_le_mul_left 200 h6)) (by decide))⟩
  cases o with
  | add => exact ⟨rfl, fun h => (h.add hb).mono (by decide)⟩
  | sub => exact ⟨rfl, fun h => (h.sub hb).mono (by decide)⟩
  | mul => exact ⟨if_pos m1, fun h => (h.mul hb).mono (by decide)⟩
  | mulx => exact ⟨if_pos m1, fun h => (h.mul hb).mono (by decide)⟩
  | div => exact dv (hd rfl)
  | divv => exact dv (hd rfl)
  | mod =>
    have b0 := hd rfl
    show (if b ≠ 0 then some (a.fmod b) else none) = some (a - b * quoI a b) ∧ (Bd 200 a → Bd 1600 (a - b * quoI a b))
    rw [if_pos b0, fmod_quo b0]
    exact ⟨rfl, fun h => by rw [← fmod_quo b0]; exact (Bd.sub (n := 402) (h.mono (by decide)) ((hb.mul (quo_bd h)).mono (by decide))).mono (by decide)⟩
  | pow => exact pw (hp rfl)
  | powx => exact pw (hp rfl)
/-- what a sign of two may be met with -/
noncomputable def Pre2 (o : Op2) : Mst → Prop
  | .ok (b :: a :: r) => Bd 1600 a ∧ Bd 200 b ∧ (isPw o = true → 0 ≤ b ∧ b ≤ 6 ∧ Bd 200 a)
  | _ => True
noncomputable def Pre1 : Mst → Prop
  | .ok (a :: r) => a ≤ 22
  | _ => True
noncomputable def TopIn (low high : Int) : Mst → Prop
  | .ok (x :: r) => low ≤ x ∧ x < high ∧ ∀ y ∈ r, Bd 200 y
  | .ok [] => True
  | .err c => ErrC c
theorem TopIn.bd {low high : Int} {m : Mst} (h : TopIn low high m) (h1 : -(2:Int)^200 < low) (h2 : high ≤ (2:Int)^200) : BdM m := by
  cases m with
  | err c => exact h
  | ok r =>
    cases r with
    | nil => intro x hx; cases hx
    | cons x r =>
      obtain ⟨a, b, c⟩ := h
      intro y hy
      rcases List.mem_cons.mp hy with rfl | hy
      · unfold Bd
        have : ((2:Nat)^200 : Nat) = ((2:Int)^200).toNat := by decide
        omega
      · exact c y hy
noncomputable def TokT (t : List Nat) : Prop := t ≠ [] ∧ noSp t ∧ t.length ≤ 62
theorem TokT.num {a : Int} (h : a.natAbs < 10 ^ 61) : TokT (numL a) := ⟨numL_ne a, numL_noSp a, numL_len (k := 60) h⟩
theorem TokT.op2 (o : Op2) : TokT (op2S o) := by
  cases o <;> exact ⟨by decide, by unfold noSp; decide +kernel, by decide⟩
theorem TokT.op1 (o : Op1) : TokT (op1S o) := by
  cases o <;> exact ⟨by decide, by unfold noSp; decide +kernel, by decide⟩

/-! the law's text -/
noncomputable def WordsTo (s : List Nat) (ts : List (List Nat)) : Prop := ∀ r, wordsL [] (s ++ r) = ts ++ wordsL [] r
theorem WordsTo.start {b : List Nat} (h : allSp b) : WordsTo b [] := fun r => wordsL_sp0 h r
theorem WordsTo.step {s t b : List Nat} {ts : List (List Nat)} (h : WordsTo s ts) (ht : TokT t) (hb : allSp b) (hn : b ≠ []) : WordsTo (s ++ t ++ b) (ts ++ [t]) := fun r => by
  rw [List.append_assoc, List.append_assoc, h, wordsL_tok ht.2.1, List.nil_append, wordsL_sp hb hn ht.1, List.append_assoc]; rfl
theorem WordsTo.end {s : List Nat} {ts : List (List Nat)} (h : WordsTo s ts) : wordsL [] s = ts := by
  have := h []
  rw [List.append_nil] at this
  rw [this]
  show ts ++ [] = ts
  rw [List.append_nil]
noncomputable def blN : Nat → List Nat
  | 0 => [32]
  | 1 => [10]
  | 2 => [9]
  | _ => [32, 32, 32]
theorem blN_all {P : List Nat → Prop} (a : P [32]) (b : P [10]) (c : P [9]) (d : P [32, 32, 32]) (n : Nat) : P (blN n) := by
  rcases n with _ | _ | _ | n
  · exact a
  · exact b
  · exact c
  · exact d
theorem blN_sp (n : Nat) : allSp (blN n) := blN_all (P := allSp) (by unfold allSp; decide +kernel) (by unfold allSp; decide +kernel) (by unfold allSp; decide +kernel) (by unfold allSp; decide +kernel) n
theorem blN_ne (n : Nat) : blN n ≠ [] := blN_all (P := fun l => l ≠ []) (by decide) (by decide) (by decide) (by decide) n
theorem blN_len (n : Nat) : (blN n).length ≤ 3 := blN_all (P := fun l => l.length ≤ 3) (by decide) (by decide) (by decide) (by decide) n

/-! what is told -/
theorem flats_pair {s : Str} {l : List Int} (hs : PyData.strOk s = true) : eqOk (.tup [.str s, .lst (intsD l)]) (.tup [.str s, .lst (intsD l)]) = true := by
  obtain ⟨a1, a2, a3⟩ := flats (intsD_flatO (l := l))
  show ((true && (noRngL (intsD l) && true)) && (true && (noRngL (intsD l) && true)) && ((PyData.strOk s && (PyData.canLayAll0 (pyL (intsD l)) && true)) && decide (max 0 (max (PyData.depthAll (pyL (intsD l)) + 1) 0) + 1 ≤ 64)) && ((PyData.strOk s && (PyData.canLayAll0 (pyL (intsD l)) && true)) && decide (max 0 (max (PyData.depthAll (pyL (intsD l)) + 1) 0) + 1 ≤ 64))) = true
  rw [a1, a2, a3, hs]; rfl
theorem eqv_pair {s : Str} {l : List Int} : PyData.eqv (py (.tup [.str s, .lst (intsD l)])) (py (.tup [.str s, .lst (intsD l)])) = true := by
  show (s == s && (PyData.eqvAll (pyL (intsD l)) (pyL (intsD l)) && true)) = true
  rw [eqv_ints]
  simp
theorem ne_pair {s : Str} {l : List Int} (hs : PyData.strOk s = true) : fNe (.tup [.str s, .lst (intsD l)]) (.tup [.str s, .lst (intsD l)]) = some (.bool false) := by
  show (if eqOk _ _ = true then some (D.bool (!PyData.eqv _ _)) else none) = _
  rw [if_pos (flats_pair hs), eqv_pair]; rfl
theorem eq_pair {s : Str} {l : List Int} (hs : PyData.strOk s = true) : fEq (.tup [.str s, .lst (intsD l)]) (.tup [.str s, .lst (intsD l)]) = some (.bool true) := by
  show (if eqOk _ _ = true then some (D.bool (PyData.eqv _ _)) else none) = _
  rw [if_pos (flats_pair hs), eqv_pair]
end Mine
end
section
open PySem PySem.W PyProof.Rows PySem.Spec
set_option linter.unusedVariables false
set_option linter.unusedSimpArgs false
set_option Elab.async false
set_option maxRecDepth 100000
namespace Mine
theorem XW.mid {F : RunXF} {a : Addr} {N : Nat} {σ : St} {l : List D} {P : St → Fl → List D → Prop} (M : St → List D → Prop) (h : XW F a N σ l fun σ' fl l' => fl = .next ∧ M σ' l') (k : ∀ σ' l', M σ' l' → P σ' .next l') : XW F a N σ l P := by
  obtain ⟨σ', fl, l', e, rfl, hm⟩ := h
  exact ⟨σ', _, l', e, k _ _ hm⟩
theorem EW.cstS {x : Str} {t : List Nat} {r : R} {Q : D → Prop} (h : x = mkS t) (k : Q (.str (mkS t))) : EW (eCst (.str x)) r Q := EW.cst (by rw [h]; exact k)
theorem fSubsT_at {l : List D} {n : Nat} {x : D} (h : l[n]? = some x) (hn : n ≤ 10000) : fSubs (.tup l) (.int (n : Int)) = some x := by
  have : (2:Int)^63 = 9223372036854775808 := by decide
  have c : 0 ≤ (n : Int) ∧ (n : Int) < 2 ^ 63 := ⟨by omega, by omega⟩
  unfold fSubs
  simp only [c, and_self, if_true, Int.toNat_natCast, h]
theorem fltS_ne (c : String) : fNe (.str (fltS c)) (.str (Str.ofString "")) = some (.bool true) := by
  unfold fltS
  split
  · exact asB_eq (by decide +kernel)
  · split
    · exact asB_eq (by decide +kernel)
    · exact asB_eq (by decide +kernel)
/-- the law's rows of signs -/
noncomputable def lop2D : D := .tup [.str "+", .str "-", .str "*", .str "x", .str "/", .str "//", .str "%", .str "**", .str "xx"]
noncomputable def ldvD : D := .tup [.str "/", .str "//", .str "%"]
theorem lop2_in (o : Op2) : fIn false (.str (mkS (op2S o))) lop2D = some (.bool true) := by
  cases o <;> exact asB_eq (by decide +kernel)
theorem lop2_dv (o : Op2) : fIn false (.str (mkS (op2S o))) ldvD = some (.bool (isDv o)) := by
  cases o <;> exact asB_eq (by decide +kernel)
theorem lop2_one (o : Op2) : fIn false (.str (mkS (op2S o))) ops1D = some (.bool false) := by
  cases o <;> exact asB_eq (by decide +kernel)
noncomputable def isFc : Op1 → Bool
  | .fac | .fct => true
  | _ => false
theorem op1_eq {o : Op1} {a : Int} (h : a ≤ 22) : op1 a o = some (if isFc o = true then facI a else prmI a) := by
  cases o <;> exact if_pos (show a ≤ 100 by omega)
theorem op1_bd {o : Op1} {a : Int} (h : a ≤ 22) : Bd 1600 (if isFc o = true then facI a else prmI a) := by
  split
  · exact (facI_bd h).mono (by decide)
  · exact (prmI_bd h).mono (by decide)
theorem Goes.oneI {o : Op1} {a : Int} {r : List Int} (h : a ≤ 22) : Goes [op1S o] (.ok (a :: r)) (.ok ((if isFc o = true then facI a else prmI a) :: r)) := Goes.one (op1_eq h)

/-- the signs at their places -/
inductive Sg | two (o : Op2) | one (o : Op1)
noncomputable def sgS : Sg → List Nat
  | .two o => op2S o
  | .one o => op1S o
noncomputable def sgL : List Sg := [.two .add, .two .sub, .two .mul, .two .mulx, .two .div, .two .divv, .two .mod, .two .pow, .two .powx, .one .fac, .one .fct, .one .prm, .one .prp]
theorem sgs_at {k : Int} (h1 : 8 ≤ k) (h2 : k ≤ 20) : ∃ s : Sg, fSubs (.tup (sgL.map fun s => strT (sgS s))) (.int (k - 8)) = some (strT (sgS s)) := by
  obtain ⟨j, hj⟩ := Int.eq_ofNat_of_zero_le (Int.sub_nonneg_of_le h1)
  have hle : (j : Int) ≤ ((12 : Nat) : Int) := hj ▸ Int.sub_le_sub_right h2 8
  have hlt : j < sgL.length := Nat.lt_succ_of_le (Int.ofNat_le.mp hle)
  refine ⟨sgL[j], ?_⟩
  rw [hj]
  exact fSubsT_at (by rw [List.getElem?_map, List.getElem?_eq_getElem hlt]; rfl) (Nat.le_of_lt (Nat.lt_trans hlt (by decide)))
noncomputable def unkL : List (List Nat) := [[45, 45, 53], [43, 53], [49, 46, 53], [53, 45], [120, 120, 120], [45, 120], [61], [49, 101, 51], [42, 42, 45]]
noncomputable def negB : List Nat → Bool
  | [] => true
  | [_] => true
  | c :: r => (asB (fEq (.str (mkS [c])) (.str "-")) == some false) || (c == 45 && !r.all isDg)
theorem negB_ok : ∀ {t : List Nat}, negB t = true → NotNeg t
  | [], _ => .inl (by decide)
  | [_], _ => .inl (Nat.le_refl _)
  | c :: d :: r, h => by
    rcases Bool.or_eq_true_iff.mp h with q | q
    · exact .inr (.inl ⟨c, d :: r, rfl, asB_eq (eq_of_beq q)⟩)
    · obtain ⟨q1, q2⟩ := Bool.and_eq_true_iff.mp q
      have : c = 45 := eq_of_beq q1
      subst this
      exact .inr (.inr ⟨d :: r, rfl, (Bool.not_eq_true' _).mp q2⟩)
noncomputable def unkB (t : List Nat) : Bool := decide (t.length ≤ 62) && t.all (fun c => decide (c < 128)) && !t.all isDg && (asB (fIn false (.str (mkS t)) ops2D) == some false) && (asB (fIn false (.str (mkS t)) ops1D) == some false) && (asB (fIn false (.str (mkS t)) lop2D) == some false) && !t.isEmpty && t.all (fun c => !Unicode.isSpace c) && negB t
theorem unkB_ok {t : List Nat} (h : unkB t = true) : Unk t ∧ fIn false (.str (mkS t)) lop2D = some (.bool false) ∧ TokT t := by
  simp only [unkB, Bool.and_eq_true, decide_eq_true_eq, Bool.not_eq_true', beq_iff_eq, List.all_eq_true] at h
  obtain ⟨⟨⟨⟨⟨⟨⟨⟨h1, h2⟩, h3⟩, h4⟩, h5⟩, h6⟩, h7⟩, h8⟩, h9⟩ := h
  exact ⟨⟨Nat.le_trans h1 (by decide), h2, h3, asB_eq h4, asB_eq h5, negB_ok h9⟩, asB_eq h6, List.isEmpty_eq_false_iff.mp h7, h8, h1⟩
theorem unk_key : unkL.all unkB = true := by decide +kernel
theorem unk_all (t : List Nat) (h : t ∈ unkL) : Unk t ∧ fIn false (.str (mkS t)) lop2D = some (.bool false) ∧ TokT t := unkB_ok (List.all_eq_true.mp unk_key t h)
theorem unk_at (w : Int) : ∃ t, fSubs (.tup (unkL.map strT)) (.int (w.fmod 9)) = some (strT t) ∧ Unk t ∧ fIn false (.str (mkS t)) lop2D = some (.bool false) ∧ TokT t := by
  have a := Int.fmod_nonneg_of_pos w (show (0 : Int) < 9 by decide)
  have b := Int.fmod_lt_of_pos w (show (0 : Int) < 9 by decide)
  generalize w.fmod 9 = k at *
  obtain ⟨j, hj⟩ := Int.eq_ofNat_of_zero_le a
  have hlt : j < unkL.length := Int.ofNat_lt.mp (show (j : Int) < ((9 : Nat) : Int) from hj ▸ b)
  refine ⟨unkL[j], ?_, unk_all _ (List.getElem_mem hlt)⟩
  rw [hj]
  exact fSubsT_at (by rw [List.getElem?_map, List.getElem?_eq_getElem hlt]; rfl) (Nat.le_of_lt (Nat.lt_trans hlt (by decide)))
/-- noughts before the figures -/
theorem NumTok.z3 {a : Nat} (h : a < 10 ^ 22) : NumTok ([48, 48, 48] ++ numL (a : Int)) (a : Int) ∧ TokT ([48, 48, 48] ++ numL (a : Int)) := by
  rw [numL_nat]
  have hl := dgs_len 21 a h
  have hv : NumText.digitsVal ([48, 48, 48] ++ dgs a) = a := by
    have : NumText.digitsVal ([48, 48, 48] ++ dgs a) = NumText.digitsVal (dgs a) := rfl
    rw [this, dgs_val]
  have hd : ∀ c ∈ [48, 48, 48] ++ dgs a, 48 ≤ c ∧ c ≤ 57 := fun c hc => by
    rcases List.mem_append.mp hc with hc | hc
    · exact (by decide : ∀ c ∈ [48, 48, 48], 48 ≤ c ∧ c ≤ 57) c hc
    · exact dgs_all a c hc
  have hL : ([48, 48, 48] ++ dgs a).length ≤ 25 := by
    rw [List.length_append]; exact Nat.add_le_add_left hl 3
  exact ⟨⟨Nat.le_trans hL (by decide), .inl ⟨(fun q => nomatch q), hd, by rw [hv]⟩⟩, (fun q => nomatch q), fun c hc => dg_noSp (hd c hc), Nat.le_trans hL (by decide)⟩
theorem NumTok.m2 {a : Nat} (h : a < 10 ^ 22) : NumTok ([45, 48, 48] ++ numL (a : Int)) (-(a : Int)) ∧ TokT ([45, 48, 48] ++ numL (a : Int)) := by
  rw [numL_nat]
  have hl := dgs_len 21 a h
  have hv : NumText.digitsVal ([48, 48] ++ dgs a) = a := by
    have : NumText.digitsVal ([48, 48] ++ dgs a) = NumText.digitsVal (dgs a) := rfl
    rw [this, dgs_val]
  have hd : ∀ c ∈ [48, 48] ++ dgs a, 48 ≤ c ∧ c ≤ 57 := fun c hc => by
    rcases List.mem_append.mp hc with hc | hc
    · exact (by decide : ∀ c ∈ [48, 48], 48 ≤ c ∧ c ≤ 57) c hc
    · exact dgs_all a c hc
  have hL : ([45, 48, 48] ++ dgs a).length ≤ 25 := by
    rw [List.length_append]; exact Nat.add_le_add_left hl 3
  refine ⟨⟨Nat.le_trans hL (by decide), .inr ⟨[48, 48] ++ dgs a, rfl, (fun q => nomatch q), hd, by rw [hv]⟩⟩, (fun q => nomatch q), fun c hc => ?_, Nat.le_trans hL (by decide)⟩
  rcases List.mem_cons.mp hc with rfl | hc
  · decide +kernel
  · exact dg_noSp (hd c hc)
theorem cutI_abs {v t : Int} (h : 0 < t) : (cutI v t).natAbs < t.toNat := by
  have key : ∀ u : Int, (u.fmod t).natAbs < t.toNat := fun u => by
    have a1 := Int.fmod_nonneg_of_pos u h
    exact Int.ofNat_lt.mp (by rw [Int.natAbs_of_nonneg a1, Int.toNat_of_nonneg (Int.le_of_lt h)]; exact Int.fmod_lt_of_pos u h)
  unfold cutI
  split
  · rw [Int.natAbs_neg]; exact key _
  · exact key _
end Mine
end
section
open PySem PySem.W PyProof.Rows PySem.Spec
set_option linter.unusedVariables false
set_option linter.unusedSimpArgs false
set_option Elab.async false
set_option maxRecDepth 100000
namespace Mine
/-! what law 03's functions give -/
noncomputable def SpecPut (G : FunXF) : Prop := ∀ (t : List Nat) (v : Int) (m : Mst) (l : List D), l.length ≤ 9999 → ∀ a, G a [.str (mkS t), .int v, .adr a, mstD m] l = some (mstD (putM v m), l ++ [strT t])
noncomputable def SpecSign (G : FunXF) : Prop := (∀ (t : List Nat) (c : String) (l : List D), l.length ≤ 9999 → ∀ a, G a [.str (mkS t), .adr a, mstD (.err c)] l = some (mstD (.err c), l ++ [strT t])) ∧ (∀ (o : Op2) (m : Mst) (l : List D), l.length ≤ 9999 → Pre2 o m → ∃ m', (∀ a, G a [.str (mkS (op2S o)), .adr a, mstD m] l = some (mstD m', l ++ [strT (op2S o)])) ∧ Goes [op2S o] m m' ∧ lenM m' ≤ lenM m ∧ (BdM m → TopB m') ∧ (o = .mod → ∀ b a r, m = .ok (b :: a :: r) → b ≠ 0 → m' = .ok (a.fmod b :: r))) ∧ (∀ (o : Op1) (m : Mst) (l : List D), l.length ≤ 9999 → Pre1 m → ∃ m', (∀ a, G a [.str (mkS (op1S o)), .adr a, mstD m] l = some (mstD m', l ++ [strT (op1S o)])) ∧ Goes [op1S o] m m' ∧ lenM m' ≤ lenM m ∧ (BdM m → TopB m')) ∧ (∀ (t : List Nat) (m : Mst) (l : List D), l.length ≤ 9999 → Unk t → fIn false (.str (mkS t)) lop2D = some (.bool false) → ∃ m', (∀ a, G a [.str (mkS t), .adr a, mstD m] l = some (mstD m', l ++ [strT t])) ∧ Goes [t] m m' ∧ lenM m' ≤ lenM m ∧ (BdM m → BdM m'))
noncomputable def SpecWithin (G : FunXF) : Prop := ∀ (low high : Int) (m : Mst) (l : List D), l.length ≤ 9990 → low ≤ 0 → 0 < high → high.natAbs < 10 ^ 61 → Bd 200 high → TopB m → ∃ m' ts, (∀ a, G a [.int low, .int high, .adr a, mstD m] l = some (mstD m', l ++ toksD ts)) ∧ Goes ts m m' ∧ lenM m' ≤ lenM m ∧ ts.length ≤ 2 ∧ (∀ t ∈ ts, TokT t) ∧ TopIn low high m'
/-- the ways of a sign in the law's machine -/
noncomputable def SignW (f6 f7 f8 : List D → Option D) (t : List Nat) (m m' : Mst) : Prop :=
  (∃ c, m = .err c ∧ m' = .err c) ∨ ∃ r, m = .ok r ∧
    ((fIn false (.str (mkS t)) (.tup [.str "!", .str "f", .str "#", .str "p"]) = some (.bool true) ∧
      ((r = [] ∧ m' = .err "IndexError") ∨ ∃ x r' y, r = x :: r' ∧ m' = .ok (y :: r') ∧
        ((fEq (.str (mkS t)) (.str "!") = some (.bool true) ∧ f6 [.int x] = some (.int y)) ∨
         (fEq (.str (mkS t)) (.str "!") = some (.bool false) ∧ fEq (.str (mkS t)) (.str "f") = some (.bool true) ∧ f6 [.int x] = some (.int y)) ∨
         (fEq (.str (mkS t)) (.str "!") = some (.bool false) ∧ fEq (.str (mkS t)) (.str "f") = some (.bool false) ∧ f7 [.int x] = some (.int y))))) ∨
     (fIn false (.str (mkS t)) (.tup [.str "!", .str "f", .str "#", .str "p"]) = some (.bool false) ∧ fIn false (.str (mkS t)) (.tup [.str "+", .str "-", .str "*", .str "x", .str "/", .str "//", .str "%", .str "**", .str "xx"]) = some (.bool true) ∧
      ((r = [] ∧ m' = .err "IndexError") ∨ (∃ b, r = [b] ∧ m' = .err "IndexError") ∨ ∃ b x r', r = b :: x :: r' ∧
        ((b = 0 ∧ fIn false (.str (mkS t)) (.tup [.str "/", .str "//", .str "%"]) = some (.bool true) ∧ m' = .err "ZeroDivisionError") ∨
         (b = 0 ∧ fIn false (.str (mkS t)) (.tup [.str "/", .str "//", .str "%"]) = some (.bool false) ∧ ∃ c, f8 [.str (mkS t), .int x, .int b] = some (.int c) ∧ m' = .ok (c :: r')) ∨
         (¬ b = 0 ∧ ∃ c, f8 [.str (mkS t), .int x, .int b] = some (.int c) ∧ m' = .ok (c :: r'))))) ∨
     (fIn false (.str (mkS t)) (.tup [.str "!", .str "f", .str "#", .str "p"]) = some (.bool false) ∧ fIn false (.str (mkS t)) (.tup [.str "+", .str "-", .str "*", .str "x", .str "/", .str "//", .str "%", .str "**", .str "xx"]) = some (.bool false) ∧ m' = .err "Exception"))
theorem op1_ways (o : Op1) : (isFc o = true ∧ fEq (.str (mkS (op1S o))) (.str "!") = some (.bool true)) ∨ (isFc o = true ∧ fEq (.str (mkS (op1S o))) (.str "!") = some (.bool false) ∧ fEq (.str (mkS (op1S o))) (.str "f") = some (.bool true)) ∨ (isFc o = false ∧ fEq (.str (mkS (op1S o))) (.str "!") = some (.bool false) ∧ fEq (.str (mkS (op1S o))) (.str "f") = some (.bool false)) := by
  cases o with
  | fac => exact .inl ⟨rfl, asB_eq (by decide +kernel)⟩
  | fct => exact .inr (.inl ⟨rfl, asB_eq (by decide +kernel), asB_eq (by decide +kernel)⟩)
  | prm => exact .inr (.inr ⟨rfl, asB_eq (by decide +kernel), asB_eq (by decide +kernel)⟩)
  | prp => exact .inr (.inr ⟨rfl, asB_eq (by decide +kernel), asB_eq (by decide +kernel)⟩)
theorem isDv_cases {o : Op2} (h : isDv o = true) : o = .div ∨ o = .divv ∨ o = .mod := by
  cases o <;> first | exact .inl rfl | exact .inr (.inl rfl) | exact .inr (.inr rfl) | cases h
theorem sign_all {G : FunXF} {f6 f7 f8 : List D → Option D} (s6 : ∀ (a : Int), a ≤ 22 → f6 [.int a] = some (.int (facI a))) (s7 : ∀ (m : Int), m ≤ 22 → f7 [.int m] = some (.int (prmI m))) (s8 : ∀ (o : Op2) (a b : Int), Bd 1600 a → Bd 200 b → (isDv o = true → b ≠ 0) → (isPw o = true → 0 ≤ b ∧ b ≤ 6 ∧ Bd 200 a) → ∃ c, op2 a b o = some c ∧ f8 [.str (mkS (op2S o)), .int a, .int b] = some (.int c) ∧ (Bd 200 a → Bd 1600 c))
    (core : ∀ t m m' l a, l.length ≤ 9999 → SignW f6 f7 f8 t m m' → G a [.str (mkS t), .adr a, mstD m] l = some (mstD m', l ++ [strT t])) : SpecSign G := by
  refine ⟨fun t c l hl a => core t _ _ l a hl (.inl ⟨c, rfl, rfl⟩), fun o m l hl hp => ?_, fun o m l hl hp => ?_, fun t m l hl hu q2 => ?_⟩
  · cases m with
    | err c => exact ⟨.err c, fun a => core _ _ _ l a hl (.inl ⟨c, rfl, rfl⟩), Goes.errT, Nat.le_refl _, id, fun _ b a r e => nomatch e⟩
    | ok r =>
      cases r with
      | nil => exact ⟨.err "IndexError", fun a => core _ _ _ l a hl (.inr ⟨_, rfl, .inr (.inl ⟨lop2_one o, lop2_in o, .inl ⟨rfl, rfl⟩⟩)⟩), Goes.two0, Nat.le_refl _, fun _ => .inl rfl, fun _ b a r e => nomatch e⟩
      | cons b r =>
        cases r with
        | nil => exact ⟨.err "IndexError", fun a => core _ _ _ l a hl (.inr ⟨_, rfl, .inr (.inl ⟨lop2_one o, lop2_in o, .inr (.inl ⟨_, rfl, rfl⟩)⟩)⟩), Goes.two1, Nat.zero_le _, fun _ => .inl rfl, fun _ b a r e => nomatch e⟩
        | cons x r =>
          obtain ⟨p1, p2, p3⟩ := hp
          by_cases hz : b = 0 ∧ isDv o = true
          · obtain ⟨rfl, hd⟩ := hz
            exact ⟨.err "ZeroDivisionError", fun a => core _ _ _ l a hl (.inr ⟨_, rfl, .inr (.inl ⟨lop2_one o, lop2_in o, .inr (.inr ⟨_, _, _, rfl, .inl ⟨rfl, (lop2_dv o).trans (by rw [hd]), rfl⟩⟩)⟩)⟩), Goes.zero (isDv_cases hd), Nat.zero_le _, fun _ => .inr (.inl rfl), fun _ b' a r' e hb' => by cases e; exact absurd rfl hb'⟩
          · have hd : isDv o = true → b ≠ 0 := fun h e => hz ⟨e, h⟩
            obtain ⟨c, e1, w, e2⟩ := s8 o x b p1 p2 hd p3
            refine ⟨.ok (c :: r), fun a => core _ _ _ l a hl (.inr ⟨_, rfl, .inr (.inl ⟨lop2_one o, lop2_in o, .inr (.inr ⟨_, _, _, rfl, .inr ?_⟩)⟩)⟩), Goes.two e1, Nat.le_succ _, fun h => ⟨e2 (h x (.tail _ (.head _))), fun y hy => h y (.tail _ (.tail _ hy))⟩, ?_⟩
            · by_cases hb : b = 0
              · refine .inl ⟨hb, (lop2_dv o).trans ?_, c, w, rfl⟩
                cases q : isDv o with
                | false => rfl
                | true => exact absurd hb (hd q)
              · exact .inr ⟨hb, c, w, rfl⟩
            · intro ho b' a r' e hb'
              subst ho
              cases e
              have e3 : (if b ≠ 0 then some (x.fmod b) else none) = some c := e1
              rw [if_pos hb'] at e3
              cases e3
              rfl
  · cases m with
    | err c => exact ⟨.err c, fun a => core _ _ _ l a hl (.inl ⟨c, rfl, rfl⟩), Goes.errT, Nat.le_refl _, id⟩
    | ok r =>
      cases r with
      | nil => exact ⟨.err "IndexError", fun a => core _ _ _ l a hl (.inr ⟨_, rfl, .inl ⟨(known1 o).one, .inl ⟨rfl, rfl⟩⟩⟩), Goes.one0, Nat.le_refl _, fun _ => .inl rfl⟩
      | cons x r =>
        have hx : x ≤ 22 := hp
        refine ⟨_, fun a => core _ _ _ l a hl (.inr ⟨_, rfl, .inl ⟨(known1 o).one, .inr ⟨x, r, _, rfl, rfl, ?_⟩⟩⟩), Goes.oneI hx, Nat.le_refl _, fun h => ⟨op1_bd hx, fun y hy => h y (.tail _ hy)⟩⟩
        rcases op1_ways o with ⟨e, e1⟩ | ⟨e, e1, e2⟩ | ⟨e, e1, e2⟩
        · exact .inl ⟨e1, by rw [e]; exact s6 x hx⟩
        · exact .inr (.inl ⟨e1, e2, by rw [e]; exact s6 x hx⟩)
        · exact .inr (.inr ⟨e1, e2, by rw [e]; exact s7 x hx⟩)
  · cases m with
    | err c => exact ⟨.err c, fun a => core _ _ _ l a hl (.inl ⟨c, rfl, rfl⟩), Goes.errT, Nat.le_refl _, id⟩
    | ok r => exact ⟨.err "Exception", fun a => core _ _ _ l a hl (.inr ⟨_, rfl, .inr (.inr ⟨hu.one, q2, rfl⟩)⟩), Goes.unk hu, Nat.zero_le _, fun _ => .inr (.inr rfl)⟩
/-- from a machine to another one by at most n signs, at most k deeper -/
structure Part (m m' : Mst) (ts : List (List Nat)) (n k : Nat) : Prop where
  goes : Goes ts m m'
  len : lenM m' ≤ lenM m + k
  cnt : ts.length ≤ n
  tok : ∀ t ∈ ts, TokT t
theorem Part.nil {m : Mst} : Part m m [] 0 0 := ⟨Goes.nil, Nat.le_refl _, Nat.le_refl _, fun _ h => nomatch h⟩
theorem Part.trans {m m' m'' : Mst} {ts us : List (List Nat)} {n k n' k' : Nat} (h : Part m m' ts n k) (h' : Part m' m'' us n' k') : Part m m'' (ts ++ us) (n + n') (k + k') := by
  refine ⟨h.goes.trans h'.goes, ?_, ?_, fun t ht => ?_⟩
  · have := h.len; have := h'.len; omega
  · rw [List.length_append]; exact Nat.add_le_add h.cnt h'.cnt
  · rcases List.mem_append.mp ht with q | q
    · exact h.tok t q
    · exact h'.tok t q
theorem Part.le {m m' : Mst} {ts : List (List Nat)} {n k n' k' : Nat} (h : Part m m' ts n k) (a : n ≤ n') (b : k ≤ k') : Part m m' ts n' k' := ⟨h.goes, by have := h.len; omega, Nat.le_trans h.cnt a, h.tok⟩
theorem Part.one {m m' : Mst} {t : List Nat} {k : Nat} (g : Goes [t] m m') (l : lenM m' ≤ lenM m + k) (h : TokT t) : Part m m' [t] 1 k := ⟨g, l, Nat.le_refl _, fun u hu => by rw [List.mem_singleton.mp hu]; exact h⟩
noncomputable def SpecPlace (G : FunXF) : Prop := ∀ (v : Int) (m : Mst) (l : List D), l.length ≤ 9900 → BdM m → ∃ m' ts, (∀ a, G a [.int v, .adr a, mstD m] l = some (mstD m', l ++ toksD ts)) ∧ Part m m' ts 6 1 ∧ BdM m'
noncomputable def isP : Sg → Bool
  | .two o => isPw o
  | .one _ => false
noncomputable def isO : Sg → Bool
  | .two _ => false
  | .one _ => true
theorem toksD_len (ts : List (List Nat)) : (toksD ts).length = ts.length := List.length_map ..
theorem Pre2.of {o : Op2} {m : Mst} (h : BdM m) (h' : isPw o = true → TopIn 0 7 m) : Pre2 o m := by
  cases m with
  | ok l =>
    cases l with
    | nil => exact trivial
    | cons b l =>
    cases l with
    | nil => exact trivial
    | cons a r =>
    show Bd 1600 a ∧ Bd 200 b ∧ (isPw o = true → 0 ≤ b ∧ b ≤ 6 ∧ Bd 200 a)
    refine ⟨(h a (.tail _ (.head _))).mono (by decide), h b (.head _), fun q => ?_⟩
    obtain ⟨p1, p2, _⟩ := h' q
    exact ⟨p1, by omega, h a (.tail _ (.head _))⟩
  | _ => exact trivial
theorem Pre1.of {low : Int} {m : Mst} (h : TopIn low 23 m) : Pre1 m := by
  cases m with
  | ok l =>
    cases l with
    | nil => exact trivial
    | cons a r => exact Int.le_of_lt_add_one h.2.1
  | _ => exact trivial
theorem within_part {G : FunXF} (s : SpecWithin G) {low high : Int} {m : Mst} (l : List D) (hl : l.length ≤ 9990) (h0 : low ≤ 0) (hl2 : -(2:Int)^200 < low) (h1 : 0 < high) (h2 : high.natAbs < 10 ^ 61) (h3 : high < (2:Int)^200) (ht : TopB m) :
    ∃ m' ts, (∀ a, G a [.int low, .int high, .adr a, mstD m] l = some (mstD m', l ++ toksD ts)) ∧ Part m m' ts 2 0 ∧ TopIn low high m' ∧ BdM m' := by
  obtain ⟨m', ts, a, b, c, d, e, f⟩ := s low high m l hl h0 h1 h2 (Bd.ofNat (Int.le_of_lt h1) h3) ht
  exact ⟨m', ts, a, ⟨b, c, d, e⟩, f, f.bd hl2 (Int.le_of_lt h3)⟩
theorem sign_part {G : FunXF} (h9 : SpecSign G) {s : Sg} {m : Mst} (l : List D) (hl : l.length ≤ 9999) (hb : BdM m) (h2 : isP s = true → TopIn 0 7 m) (h1 : isO s = true → ∃ low, TopIn low 23 m) :
    ∃ m', (∀ a, G a [.str (mkS (sgS s)), .adr a, mstD m] l = some (mstD m', l ++ [strT (sgS s)])) ∧ Part m m' [sgS s] 1 0 ∧ TopB m' := by
  cases s with
  | two o =>
    obtain ⟨m', a, b, c, d, _⟩ := h9.2.1 o m l hl (Pre2.of hb h2)
    exact ⟨m', a, Part.one b c (TokT.op2 o), d hb⟩
  | one o =>
    obtain ⟨low, h⟩ := h1 rfl
    obtain ⟨m', a, b, c, d⟩ := h9.2.2.1 o m l hl (Pre1.of h)
    exact ⟨m', a, Part.one b c (TokT.op1 o), d hb⟩
theorem le_app {l : List D} {ts : List (List Nat)} {a b c : Nat} (h : l.length ≤ a) (h' : ts.length ≤ b) (hc : a + b ≤ c) : (l ++ toksD ts).length ≤ c := by
  rw [List.length_append, toksD_len]; exact Nat.le_trans (Nat.add_le_add h h') hc
theorem q3_lt {w : Int} (hw : w.natAbs < 10 ^ 21) : (w.fdiv 3).natAbs < 10 ^ 22 :=
  Nat.lt_of_le_of_lt (quoI_eq (a := w) (b := 3) (by decide) ▸ quo_le w 3) (Nat.lt_of_le_of_lt (Nat.succ_le_of_lt hw) (by decide))
theorem lt600 {n k : Nat} (h : n < 10 ^ k) (hk : k < 600) : n < 10 ^ 600 := Nat.lt_trans h (Nat.pow_lt_pow_right (by decide) hk)
theorem lt61 {n k : Nat} (h : n < 10 ^ k) (hk : k < 61) : n < 10 ^ 61 := Nat.lt_trans h (Nat.pow_lt_pow_right (by decide) hk)
theorem bd200 {w : Int} {k : Nat} (h : w.natAbs < 10 ^ k) (hk : k ≤ 60) : Bd 200 w := Nat.lt_of_lt_of_le h (Nat.le_trans (Nat.pow_le_pow_right (by decide) hk) (by decide))
noncomputable def Mid1 (w : Int) (m : Mst) (l : List D) (m1 : Mst) (l1 : List D) : Prop := (w.fmod 3 ≠ 0 → m1 = putM (w.fdiv 3) m ∧ l1 = l ++ [strT (numL (w.fdiv 3))]) ∧ (¬ w.fmod 3 ≠ 0 → m1 = m ∧ l1 = l)
noncomputable def Mid2 (f11 : FunXF) (s : Sg) (W : Int) (m1 : Mst) (l1 : List D) (m2 : Mst) (l2 : List D) (m3 : Mst) (l3 : List D) : Prop := (isP s = true → ∀ a, f11 a [.int 0, .int 7, .adr a, mstD m1] l1 = some (mstD m2, l2)) ∧ (isP s = false → m2 = m1 ∧ l2 = l1) ∧
  (isO s = true → ∀ a, f11 a [.int (-W), .int 23, .adr a, mstD m2] l2 = some (mstD m3, l3)) ∧ (isO s = false → m3 = m2 ∧ l3 = l2)
theorem mid1 {w : Int} (hw : w.natAbs < 10 ^ 21) {m : Mst} (l : List D) (hb : BdM m) : ∃ m1 ts, Mid1 w m l m1 (l ++ toksD ts) ∧ Part m m1 ts 1 1 ∧ BdM m1 := by
  by_cases c : w.fmod 3 ≠ 0
  · exact ⟨_, [_], ⟨fun _ => ⟨rfl, rfl⟩, fun h => absurd c h⟩, Part.one (Goes.putM (NumTok.num (lt600 (q3_lt hw) (by decide)))) (lenM_putM _ _) (TokT.num (lt61 (q3_lt hw) (by decide))), hb.putM (bd200 (q3_lt hw) (by decide))⟩
  · exact ⟨m, [], ⟨fun h => absurd h c, fun _ => ⟨rfl, List.append_nil _⟩⟩, Part.nil.le (by decide) (by decide), hb⟩
theorem no_b {b : Bool} {p : Prop} (h : b = false) (q : b = true) : p := by rw [h] at q; cases q
theorem no_f {b : Bool} {p : Prop} (h : b = true) (q : b = false) : p := by rw [h] at q; cases q
theorem mid2 {f11 : FunXF} (s11 : SpecWithin f11) (s : Sg) {W : Int} (hW0 : 0 < W) (hW1 : W < (2:Int)^200) {m1 : Mst} {l1 : List D} (hl : l1.length ≤ 9901) (B1 : BdM m1) :
    ∃ m2 l2 m3 ts, Mid2 f11 s W m1 l1 m2 l2 m3 (l1 ++ toksD ts) ∧ Part m1 m3 ts 2 0 ∧ BdM m3 ∧ (isP s = true → TopIn 0 7 m3) ∧ (isO s = true → ∃ low, TopIn low 23 m3) := by
  have hl' := Nat.le_trans hl (show 9901 ≤ 9990 by decide)
  cases hp : isP s with
  | true =>
    have ho : isO s = false := by
      cases s with
      | two o => rfl
      | one o => cases hp
    obtain ⟨m3, ts3, c1, c2, c3, c4⟩ := within_part s11 (low := 0) (high := 7) (m := m1) l1 hl' (Int.le_refl _) (by decide) (by decide) (by decide) (by decide) B1.top
    exact ⟨m3, _, m3, ts3, ⟨fun _ => c1, no_f hp, no_b ho, fun _ => ⟨rfl, rfl⟩⟩, c2, c4, fun _ => c3, no_b ho⟩
  | false =>
    cases ho : isO s with
    | true =>
      obtain ⟨m3, ts3, c1, c2, c3, c4⟩ := within_part s11 (low := -W) (high := 23) (m := m1) l1 hl' (Int.neg_nonpos_of_nonneg (Int.le_of_lt hW0)) (Int.neg_lt_neg hW1) (by decide) (by decide) (by decide) B1.top
      exact ⟨m1, l1, m3, ts3, ⟨no_b hp, fun _ => ⟨rfl, rfl⟩, fun _ => c1, no_f ho⟩, c2, c4, no_b rfl, fun _ => ⟨_, c3⟩⟩
    | false => exact ⟨m1, l1, m1, [], ⟨no_b hp, fun _ => ⟨rfl, rfl⟩, no_b ho, fun _ => ⟨rfl, List.append_nil _⟩⟩, Part.nil.le (by decide) (by decide), B1, no_b rfl, no_b rfl⟩
theorem w_low {W : Int} (h : W < (2:Int)^200) : -(2:Int)^200 < 1 - W := by omega
noncomputable def MidOK (f9 f11 : FunXF) (s : Sg) (w W : Int) (m : Mst) (l : List D) (m5 : Mst) (l5 : List D) : Prop := ∃ m1 l1 m2 l2 m3 l3 m4 l4, Mid1 w m l m1 l1 ∧ Mid2 f11 s W m1 l1 m2 l2 m3 l3 ∧ (∀ a, f9 a [.str (mkS (sgS s)), .adr a, mstD m3] l3 = some (mstD m4, l4)) ∧ (∀ a, f11 a [.int (1 - W), .int W, .adr a, mstD m4] l4 = some (mstD m5, l5))
theorem place_main {f9 f11 : FunXF} (s9 : SpecSign f9) (s11 : SpecWithin f11) (s : Sg) {w W : Int} (hw : w.natAbs < 10 ^ 21) (hW0 : 0 < W) (hW1 : W < (2:Int)^200) (hW2 : W.natAbs < 10 ^ 61) {m : Mst} {l : List D} (hl : l.length ≤ 9900) (hb : BdM m) :
    ∃ m5 ts, MidOK f9 f11 s w W m l m5 (l ++ toksD ts) ∧ Part m m5 ts 6 1 ∧ BdM m5 := by
  obtain ⟨m1, ts1, b1, P1, B1⟩ := mid1 hw l hb
  have hl1 := le_app hl P1.cnt (Nat.le_refl 9901)
  obtain ⟨m2, l2, m3, ts3, b2, P3, B3, c5, c6⟩ := mid2 s11 s hW0 hW1 hl1 B1
  have hl3 := le_app hl1 P3.cnt (Nat.le_refl 9903)
  obtain ⟨m4, d1, P4, T4⟩ := sign_part s9 _ (Nat.le_trans hl3 (by decide)) B3 c5 c6
  have hl4 := le_app (ts := [sgS s]) hl3 (Nat.le_refl 1) (show _ ≤ 9990 by decide)
  obtain ⟨m5, ts5, e1, P5, _, B5⟩ := within_part s11 (low := 1 - W) (high := W) (m := m4) _ hl4 (Int.sub_nonpos_of_le hW0) (w_low hW1) hW0 hW2 hW1 T4
  refine ⟨m5, ts1 ++ ts3 ++ [sgS s] ++ ts5, ⟨m1, _, m2, l2, m3, _, m4, _, b1, b2, d1, fun a => ?_⟩, ((P1.trans P3).trans P4).trans P5, B5⟩
  rw [toksD_append, toksD_append, toksD_append, ← List.append_assoc, ← List.append_assoc, ← List.append_assoc]
  exact e1 a
noncomputable def isP1 : Sg → Bool
  | .two .pow => true
  | _ => false
noncomputable def isP2 : Sg → Bool
  | .two .powx => true
  | _ => false
theorem sg_eq1 (s : Sg) : fEq (.str (mkS (sgS s))) (.str (mkS [42, 42])) = some (.bool (isP1 s)) := by
  cases s with
  | two o => cases o <;> exact asB_eq (by decide +kernel)
  | one o => cases o <;> exact asB_eq (by decide +kernel)
theorem sg_eq2 (s : Sg) : fEq (.str (mkS (sgS s))) (.str (mkS [120, 120])) = some (.bool (isP2 s)) := by
  cases s with
  | two o => cases o <;> exact asB_eq (by decide +kernel)
  | one o => cases o <;> exact asB_eq (by decide +kernel)
theorem sg_p (s : Sg) : isP s = (isP1 s || isP2 s) := by
  cases s with
  | two o => cases o <;> rfl
  | one o => rfl
theorem sg_ways (s : Sg) : (isP s = true ∧ fEq (.str (mkS (sgS s))) (.str (mkS [42, 42])) = some (.bool true)) ∨ (isP s = true ∧ fEq (.str (mkS (sgS s))) (.str (mkS [42, 42])) = some (.bool false) ∧ fEq (.str (mkS (sgS s))) (.str (mkS [120, 120])) = some (.bool true)) ∨
    (isP s = false ∧ fEq (.str (mkS (sgS s))) (.str (mkS [42, 42])) = some (.bool false) ∧ fEq (.str (mkS (sgS s))) (.str (mkS [120, 120])) = some (.bool false)) := by
  rw [sg_eq1, sg_eq2, sg_p]
  cases isP1 s <;> cases isP2 s <;> simp
theorem sg_in (s : Sg) : fIn false (.str (mkS (sgS s))) ops1D = some (.bool (isO s)) := by
  cases s with
  | two o => exact lop2_one o
  | one o => exact (known1 o).one
theorem k_mid {k : Int} (a : ¬ k < 6) (b : ¬ k = 6) (c : ¬ k = 7) (d : ¬ k = 21) (e : k < 22) : 8 ≤ k ∧ k ≤ 20 :=
  have h7 : 7 ≤ k := Int.lt_iff_le_and_ne.mpr ⟨Int.not_lt.mp a, Ne.symm b⟩
  ⟨Int.lt_iff_le_and_ne.mpr ⟨h7, Ne.symm c⟩, Int.le_of_lt_add_one (Int.lt_iff_le_and_ne.mpr ⟨Int.le_of_lt_add_one e, d⟩)⟩
/-- the ways of a place -/
noncomputable def PlaceW (f9 f10 f11 : FunXF) (k w W : Int) (m : Mst) (l : List D) (m' : Mst) (l' : List D) : Prop :=
  (k < 6 ∧ ∀ a, f10 a [.str (mkS (numL w)), .int w, .adr a, mstD m] l = some (mstD m', l')) ∨
  (¬ k < 6 ∧ k = 6 ∧ ∀ a, f10 a [.str (mkS ([48, 48, 48] ++ numL (w.natAbs : Int))), .int (w.natAbs : Int), .adr a, mstD m] l = some (mstD m', l')) ∨
  (¬ k < 6 ∧ ¬ k = 6 ∧ k = 7 ∧ ∀ a, f10 a [.str (mkS ([45, 48, 48] ++ numL (w.natAbs : Int))), .int (-(w.natAbs : Int)), .adr a, mstD m] l = some (mstD m', l')) ∨
  (¬ k < 6 ∧ ¬ k = 6 ∧ ¬ k = 7 ∧ k = 21 ∧ ∃ t, fSubs (.tup (unkL.map strT)) (.int (w.fmod 9)) = some (strT t) ∧ ∀ a, f9 a [.str (mkS t), .adr a, mstD m] l = some (mstD m', l')) ∨
  (¬ k < 6 ∧ ¬ k = 6 ∧ ¬ k = 7 ∧ ¬ k = 21 ∧ ∃ s, fSubs (.tup (sgL.map fun s => strT (sgS s))) (.int (k - 8)) = some (strT (sgS s)) ∧ MidOK f9 f11 s w W m l m' l')
theorem place_all {f9 f10 f11 : FunXF} (s9 : SpecSign f9) (s10 : SpecPut f10) (s11 : SpecWithin f11) {w W k : Int} (hw : w.natAbs < 10 ^ 21) (hW0 : 0 < W) (hW1 : W < (2:Int)^200) (hW2 : W.natAbs < 10 ^ 61) {m : Mst} {l : List D} (hl : l.length ≤ 9900) (hb : BdM m) (hk : k < 22) :
    ∃ m' ts, PlaceW f9 f10 f11 k w W m l m' (l ++ toksD ts) ∧ Part m m' ts 6 1 ∧ BdM m' := by
  have hl9 := Nat.le_trans hl (show 9900 ≤ 9999 by decide)
  have hw2 : w.natAbs < 10 ^ 22 := Nat.lt_trans hw (by decide)
  have hwb := bd200 hw (by decide)
  have ha : Bd 200 (w.natAbs : Int) := hwb
  by_cases c6 : k < 6
  · exact ⟨putM w m, [numL w], .inl ⟨c6, s10 _ _ m l hl9⟩, (Part.one (Goes.putM (NumTok.num (lt600 hw (by decide)))) (lenM_putM _ _) (TokT.num (lt61 hw (by decide)))).le (by decide) (by decide), hb.putM hwb⟩
  · by_cases e6 : k = 6
    · exact ⟨putM (w.natAbs : Int) m, [_], .inr (.inl ⟨c6, e6, s10 _ _ m l hl9⟩), (Part.one (Goes.putM (NumTok.z3 hw2).1) (lenM_putM _ _) (NumTok.z3 hw2).2).le (by decide) (by decide), hb.putM ha⟩
    · by_cases e7 : k = 7
      · exact ⟨putM (-(w.natAbs : Int)) m, [_], .inr (.inr (.inl ⟨c6, e6, e7, s10 _ _ m l hl9⟩)), (Part.one (Goes.putM (NumTok.m2 hw2).1) (lenM_putM _ _) (NumTok.m2 hw2).2).le (by decide) (by decide), hb.putM ha.neg⟩
      · by_cases e21 : k = 21
        · obtain ⟨t, h1, h2, h3, h4⟩ := unk_at w
          obtain ⟨m', g1, g2, g3, g4⟩ := s9.2.2.2 t m l hl9 h2 h3
          exact ⟨m', [t], .inr (.inr (.inr (.inl ⟨c6, e6, e7, e21, t, h1, g1⟩))), (Part.one (k := 0) g2 g3 h4).le (by decide) (by decide), g4 hb⟩
        · have hk8 := k_mid c6 e6 e7 e21 hk
          obtain ⟨s, hs⟩ := sgs_at hk8.1 hk8.2
          obtain ⟨m5, ts, h, h9, h10⟩ := place_main s9 s11 s hw hW0 hW1 hW2 hl hb
          exact ⟨m5, ts, .inr (.inr (.inr (.inr ⟨c6, e6, e7, e21, s, hs, h⟩))), h9, h10⟩
theorem add_lit {b r : List Nat} {n : Nat} (hb : b.length = 3) (hr : r.length ≤ n) (hn : n ≤ 9000) : fAdd (.str (mkS b)) (.str (mkS r)) = some (.str (mkS (b ++ r))) := by
  obtain ⟨d, e, q⟩ := OW.addS (l := b) (r := r) (Q := fun z => z = .str (mkS (b ++ r))) (by omega) rfl
  rw [e, q]
theorem place_nums {w : Int} (hw : w.natAbs < 10 ^ 21) : fAbs [.int w] = some (.int (w.natAbs : Int)) ∧ w.natAbs < 10 ^ 600 ∧ (w.natAbs : Int).natAbs < 10 ^ 600 ∧ (w.fdiv 3).natAbs < 10 ^ 600 ∧
    fAdd (.str (mkS [48, 48, 48])) (.str (mkS (numL (w.natAbs : Int)))) = some (.str (mkS ([48, 48, 48] ++ numL (w.natAbs : Int)))) ∧ fAdd (.str (mkS [45, 48, 48])) (.str (mkS (numL (w.natAbs : Int)))) = some (.str (mkS ([45, 48, 48] ++ numL (w.natAbs : Int)))) := by
  have nl : (numL (w.natAbs : Int)).length ≤ 22 := numL_len (k := 20) hw
  have w6 := lt600 hw (by decide)
  exact ⟨fAbs_nat w, w6, w6, lt600 (q3_lt hw) (by decide), add_lit rfl nl (by decide), add_lit rfl nl (by decide)⟩
end Mine
end
section
open PySem PySem.W PyProof.Rows PySem.Spec
set_option linter.unusedVariables false
set_option linter.unusedSimpArgs false
set_option Elab.async false
set_option maxRecDepth 100000
namespace Mine
theorem FunT.le {I : GI} {k k' : Nat} {x : Str} {F : List D → Option D} (h : FunT I k x F) (hk : k ≤ k') : FunT I k' x F :=
  let ⟨f, a, b, c⟩ := h.ok
  ⟨f, a, b, fun A outer g s ds vs d Q E hA => c A outer g s ds vs d Q E (hA.le hk)⟩
theorem RW.start {F : Run} {N n : Nat} {ds : List D} {σ : St} {P : St → Fl → Prop} (hs : StartsAt ds n σ) (h : RW F N σ P) : RW F N (startSt ds n) P := by
  rw [show startSt ds n = σ from hs]; exact h
theorem rng_le {n m : Nat} (h : n ≤ m) (hm : m ≤ 10000) : ((n : Int) - 0).toNat ≤ 10000 := by
  rw [Int.sub_zero, Int.toNat_natCast]; exact Nat.le_trans h hm
theorem text_len {s t b k : Nat} (hs : s ≤ 3 + 65 * k) (ht : t ≤ 62) (hb : b ≤ 3) : s + t + b ≤ 3 + 65 * (k + 1) := by
  rw [Nat.mul_succ, ← Nat.add_assoc]
  exact Nat.le_trans (Nat.add_le_add (Nat.add_le_add hs ht) hb) (Nat.le_of_eq (Nat.add_assoc (3 + 65 * k) 62 3))
/-! the machine at the end -/
noncomputable def fSM : Mst → Str
  | .ok _ => ""
  | .err c => fltS c
noncomputable def stkM : Mst → List Int
  | .ok r => r
  | .err _ => []
noncomputable def outM : Mst → List Int ⊕ String
  | .ok r => .inl r.reverse
  | .err c => .inr c
theorem mst_fst (m : Mst) : fSubs (mstD m) (.int 0) = some (.str (fSM m)) := by
  cases m <;> rfl
theorem mst_snd (m : Mst) : fSubs (mstD m) (.int 1) = some (stkD (stkM m)) := by
  cases m <;> rfl
theorem fSM_ok (m : Mst) : PyData.strOk (fSM m) = true := by
  cases m with
  | ok r =>
    show PyData.strOk (Str.ofString "") = true
    decide +kernel
  | err c =>
    show PyData.strOk (fltS c) = true
    unfold fltS
    split
    · decide +kernel
    · split
      · decide +kernel
      · decide +kernel
theorem runs_out {ts : List (List Nat)} {m : Mst} (h : Goes ts (.ok []) m) : RunsE ts [] (outM m) := by
  have q : AfterM (ts ++ []) (.ok []) (outM m) := h [] (outM m) (by
    cases m with
    | ok r => exact RunsE.nil
    | err c => rfl)
  rw [List.append_nil] at q
  exact q
theorem tell_ok {fR : List D → Option (List Int ⊕ String)} {x : Str} {m : Mst} (h : fR [.str x] = some (outM m)) (hb : BdM m) (hl : lenM m ≤ 10000) : tellF fR [.str x] = some (.tup [.str (fSM m), .lst (intsD (stkM m).reverse)]) := by
  show tellO (fR [.str x]) = _
  rw [h]
  cases m with
  | ok r => exact if_pos (by rw [List.length_reverse]; exact Nat.le_trans hl sizeLine_ge)
  | err c =>
    rcases (hb : ErrC c) with rfl | rfl | rfl <;> rfl
theorem len_stkM {m : Mst} : (stkM m).length = lenM m := by
  cases m <;> rfl
theorem len_toks {ts : List (List Nat)} (h : ts.length ≤ 10000) : fLen [.lst (toksD ts)] = some (.int (ts.length : Int)) := by
  show (if (toksD ts).length ≤ sizeLine then some (D.int (((toksD ts).length : Nat) : Int)) else none) = _
  rw [toksD_len]
  exact if_pos (Nat.le_trans h sizeLine_ge)
theorem tok_at {ts : List (List Nat)} {k : Nat} {t : List Nat} (h : ts[k]? = some t) (hk : k ≤ 10000) : fSubs (.lst (toksD ts)) (.int (k : Int)) = some (.str (mkS t)) :=
  fSubs_at (by unfold toksD; rw [List.getElem?_map, h]; rfl) hk
theorem bl_at (n : Nat) : fSubs (.tup [.str (mkS [32]), .str (mkS [10]), .str (mkS [9]), .str (mkS [32, 32, 32])]) (.int ((n : Int).fmod 4)) = some (.str (mkS (blN (n % 4)))) := by
  rw [show (n : Int).fmod 4 = ((n % 4 : Nat) : Int) from fmod_nat n 4]
  have hlt : n % 4 < 4 := Nat.mod_lt _ (by decide)
  generalize n % 4 = j at hlt
  refine fSubsT_at ?_ (by omega)
  rcases j with _ | _ | _ | _ | j
  · rfl
  · rfl
  · rfl
  · rfl
  · exact absurd hlt (Nat.not_lt.mpr (Nat.le_add_left 4 j))
theorem add_str {a b : List Nat} (h : a.length + b.length ≤ 10000) : fAdd (.str (mkS a)) (.str (mkS b)) = some (.str (mkS (a ++ b))) := by
  obtain ⟨d, e, q⟩ := OW.addS (Q := fun z => z = .str (mkS (a ++ b))) h rfl
  rw [e, q]
theorem add_due {x : Int} {p : List Int} (h : p.length ≤ 9999) : fAdd (.lst [.int x]) (.lst (intsD p.reverse)) = some (.lst (intsD (p ++ [x]).reverse)) := by
  obtain ⟨d, e, q⟩ := OW.addL (l := [.int x]) (l' := intsD p.reverse) (Q := fun z => z = .lst (intsD (p ++ [x]).reverse)) (by rw [intsD_length, List.length_reverse]; show 1 + _ ≤ _; omega) (by
    rw [List.reverse_append]; rfl)
  rw [e, q]
/-- one more token in the text -/
theorem WordsTo.next {s t : List Nat} {ts : List (List Nat)} {k : Nat} (h : WordsTo s (ts.take k)) (ht : ts[k]? = some t) (hk : TokT t) (n : Nat) : WordsTo (s ++ t ++ blN n) (ts.take (k + 1)) := by
  rw [List.take_add_one, ht]
  exact h.step hk (blN_sp _) (blN_ne _)
theorem sp_blank : allSp [32, 10, 9, 32] := by unfold allSp; decide +kernel
theorem tell_blank {fR : List D → Option (List Int ⊕ String)} (h : fR [.str (mkS [32, 10, 9, 32])] = some (.inl [])) : tellF fR [.str (mkS [32, 10, 9, 32])] = some (.tup [.str "", .lst []]) :=
  tell_ok (m := .ok []) h (fun x hx => nomatch hx) (Nat.zero_le _)
theorem blank_words : wordsL [] [32, 10, 9, 32] = [] := by
  have := wordsL_sp0 sp_blank []
  rw [List.append_nil] at this
  exact this
end Mine
end

open PySem PySem.W PyProof.Rows PySem.Spec
set_option linter.unusedVariables false
set_option linter.unusedSimpArgs false
set_option Elab.async false
set_option maxRecDepth 100000
open_top Mine.hd for PySem.Challenge.rw_yt0001_03
namespace Mine
set_option maxHeartbeats 4000000

theorem ok_primegen {I : GI} (hat : HatI I hd.view_39)  : ∃ d, (recsOf hd.view_39)[0]? = some d ∧ d.name = ("primegen" : Str) ∧ ∃ G, FunOK I 1 d.name G ∧
    ∀ (L : Int), L ≤ 200 → G [.int L] = some (.lst (intsD (natI (pgR (L.toNat - 2))))) := by
  refine' ⟨_, rfl, rfl, _, FunOK.of 1000 (i := 0) (ns := ["limit", "found", "n"]) (m := 1) hat rfl ⟨rfl, by decide, by decide⟩ (by decide) (fun pm cd doc => vs1 fun a => rfl) rfl rfl ?h, ?g⟩
  case h =>
    dsimp only
    repeat' ((show (_ : Prop)); first | (with_reducible first | exact OpOK.mul | exact OpOK.mod | exact OpOK.lt | exact OpOK.le | exact OpOK.eq | exact IOpOK.add | exact IOpOK.mul | exact EvOK.cint | refine' EvOK.v (by with_unfolding_all exact rfl) (by with_unfolding_all exact rfl) (by with_unfolding_all exact rfl) (by with_unfolding_all exact rfl) | refine' EvOK.bin ?_ ?_ ?_ | refine' EvOK.comp (by with_unfolding_all exact ⟨by decide, rfl, rfl, by decide, rfl, by decide, by decide⟩) ?_ ?_ ?_ (by with_unfolding_all exact fun _ _ => rfl) | exact EvsOK.nil | refine' TestsOK.one ?_ | refine' TrOK.cmp ?_ ?_ ?_ (by with_unfolding_all exact rfl) | refine' TrOK.not ?_ | exact TrOK.and0 | refine' TrOK.and ?_ ?_ | refine' TrOK.plain ?_ (by with_unfolding_all exact fun _ _ => rfl) | exact RunOK.nil | refine' RunOK.cons ?_ ?_ | refine' RunOK.ret ?_ | refine' RunOK.ifS ?_ ?_ ?_ | refine' RunOK.whileS ?_ ?_ | refine' RunOK.new' (by with_unfolding_all exact rfl) (by with_unfolding_all exact fun _ => rfl) (by with_unfolding_all exact ⟨rfl, by decide, by decide⟩) ?_ | refine' RunOK.asg' (by with_unfolding_all exact rfl) (by with_unfolding_all exact fun _ => rfl) (by with_unfolding_all exact ⟨rfl, by decide, by decide⟩) ?_ | refine' RunOK.aug' (by with_unfolding_all exact rfl) (by with_unfolding_all exact ⟨rfl, by decide, by decide⟩) ?_ ?_ | refine' RunOK.for' (by with_unfolding_all exact rfl) (by with_unfolding_all exact fun _ _ => rfl) (by with_unfolding_all exact ⟨rfl, by decide, by decide⟩) ?_ ?_ | refine' RunOK.app' (by with_unfolding_all exact rfl) (by with_unfolding_all exact rfl) (by with_unfolding_all exact fun _ => rfl) (by with_unfolding_all exact fun _ => rfl) (by with_unfolding_all exact fun _ => rfl) (by with_unfolding_all exact ⟨rfl, by decide, by decide⟩) ?_))
  case g =>
    intro L hL
    refine CW.eq ?_
    repeat' ((fail_if_success (with_reducible refine (?_ : @Eq _ _ _))); first | ((with_reducible refine (?_ : IfK (@decide ((1:Int) < (List.length _ : Int)) _) _ _)); with_reducible first | refine' IfK.decT (by first | with_reducible assumption | decide) ?_ | refine' IfK.decF (by first | with_reducible assumption | decide) ?_) | (with_reducible first | refine' CK.ret ?_ | refine' SK.next ?_ | refine' SK.ret ?_ | refine' LK.next ?_ | refine' RW.nil ?_ | refine' RW.seq ?_) | ((with_reducible refine (?_ : RW _ _ _ _)); with_reducible refine' RW.lenOk (by with_unfolding_all exact rfl) ?_) | (with_reducible first | refine' SW.of ?_ | refine' PutAt.of ?_ ?_) | (with_reducible first | exact SetR.z) | (with_reducible first | refine' SetR.s ?_) | (with_reducible refine (?_ : SetR _ (0 + 1) _ _)); refine SetR.s ?_ | ((with_reducible refine (?_ : RW _ _ _ _)); with_reducible refine' RW.retF (E := eVar _) (by with_unfolding_all exact rfl) ?_) | (with_reducible first | refine' RW.asg ?_ | refine' RW.ret ?_ | refine' RW.if ?_ | refine' RW.for ?_ | refine' RW.while ?_ | refine' RW.new ?_) | ((with_reducible refine (?_ : RW _ _ _ _)); with_reducible refine' RW.app (by with_unfolding_all exact rfl) (by first | with_reducible assumption | with_unfolding_all exact Nat.le_of_ble_eq_true rfl) ?_) | ((with_reducible refine (?_ : RW _ _ _ _)); with_reducible refine' RW.aug (by with_unfolding_all exact rfl) ?_) | (with_reducible first | refine' IfK.t ?_ | refine' IfK.f ?_ | refine' IfK.decT (by first | with_reducible assumption | with_unfolding_all omega) ?_ | refine' IfK.decF (by first | with_reducible assumption | with_unfolding_all omega) ?_ | refine' NotK.t ?_ | refine' NotK.f ?_ | refine' TruthK.bool ?_) | ((with_reducible refine (?_ : EW (eVar _) _ _)); with_reducible refine' EW.var (by with_unfolding_all exact rfl) ?_) | (with_reducible first | refine' EW.cst ?_ | refine' EW.e2 ?_ | refine' EW.comp ?_ | refine' EsW.nil ?_ | refine' TW.c ?_) | (with_reducible first | refine' TW.tOf ?_ | refine' TW.not ?_ | refine' TW.and ?_) | (with_reducible first | refine' OW.addI ?_ | refine' OW.ord ?_ | refine' OW.eq ?_) | ((with_reducible refine (?_ : OW fMul _ _ _)); with_reducible refine' OW.mul (by first | with_reducible assumption | with_unfolding_all exact mulOk_sm (by omega) (by omega)) ?_) | ((with_reducible refine (?_ : OW fMod _ _ _)); with_reducible refine' OW.mod (by first | with_reducible assumption | with_unfolding_all omega) ?_) | ((with_reducible refine (?_ : CW _ _ _)); with_reducible refine' CW.fn (by with_unfolding_all (repeat (first | exact StartsAt.nil | apply StartsAt.cons | apply StartsAt.unb))) (by with_unfolding_all exact rfl) ?_))
    refine ⟨by decide, ?_⟩
    repeat' ((fail_if_success (with_reducible refine (?_ : @Eq _ _ _))); first | ((with_reducible refine (?_ : IfK (@decide ((1:Int) < (List.length _ : Int)) _) _ _)); with_reducible first | refine' IfK.decT (by first | with_reducible assumption | decide) ?_ | refine' IfK.decF (by first | with_reducible assumption | decide) ?_) | (with_reducible first | refine' CK.ret ?_ | refine' SK.next ?_ | refine' SK.ret ?_ | refine' LK.next ?_ | refine' RW.nil ?_ | refine' RW.seq ?_) | ((with_reducible refine (?_ : RW _ _ _ _)); with_reducible refine' RW.lenOk (by with_unfolding_all exact rfl) ?_) | (with_reducible first | refine' SW.of ?_ | refine' PutAt.of ?_ ?_) | (with_reducible first | exact SetR.z) | (with_reducible first | refine' SetR.s ?_) | (with_reducible refine (?_ : SetR _ (0 + 1) _ _)); refine SetR.s ?_ | ((with_reducible refine (?_ : RW _ _ _ _)); with_reducible refine' RW.retF (E := eVar _) (by with_unfolding_all exact rfl) ?_) | (with_reducible first | refine' RW.asg ?_ | refine' RW.ret ?_ | refine' RW.if ?_ | refine' RW.for ?_ | refine' RW.while ?_ | refine' RW.new ?_) | ((with_reducible refine (?_ : RW _ _ _ _)); with_reducible refine' RW.app (by with_unfolding_all exact rfl) (by first | with_reducible assumption | with_unfolding_all exact Nat.le_of_ble_eq_true rfl) ?_) | ((with_reducible refine (?_ : RW _ _ _ _)); with_reducible refine' RW.aug (by with_unfolding_all exact rfl) ?_) | (with_reducible first | refine' IfK.t ?_ | refine' IfK.f ?_ | refine' IfK.decT (by first | with_reducible assumption | with_unfolding_all omega) ?_ | refine' IfK.decF (by first | with_reducible assumption | with_unfolding_all omega) ?_ | refine' NotK.t ?_ | refine' NotK.f ?_ | refine' TruthK.bool ?_) | ((with_reducible refine (?_ : EW (eVar _) _ _)); with_reducible refine' EW.var (by with_unfolding_all exact rfl) ?_) | (with_reducible first | refine' EW.cst ?_ | refine' EW.e2 ?_ | refine' EW.comp ?_ | refine' EsW.nil ?_ | refine' TW.c ?_) | (with_reducible first | refine' TW.tOf ?_ | refine' TW.not ?_ | refine' TW.and ?_) | (with_reducible first | refine' OW.addI ?_ | refine' OW.ord ?_ | refine' OW.eq ?_) | ((with_reducible refine (?_ : OW fMul _ _ _)); with_reducible refine' OW.mul (by first | with_reducible assumption | with_unfolding_all exact mulOk_sm (by omega) (by omega)) ?_) | ((with_reducible refine (?_ : OW fMod _ _ _)); with_reducible refine' OW.mod (by first | with_reducible assumption | with_unfolding_all omega) ?_) | ((with_reducible refine (?_ : CW _ _ _)); with_reducible refine' CW.fn (by with_unfolding_all (repeat (first | exact StartsAt.nil | apply StartsAt.cons | apply StartsAt.unb))) (by with_unfolding_all exact rfl) ?_))
    refine WW.inv (fun k σ => ∃ t : Nat, σ = [.imm (.int L), .mt (intsD (natI (pgR t))), .imm (.int ((t : Int) + 2))] ∧ t + k = L.toNat - 2) (k := L.toNat - 2) ⟨0, rfl, by omega⟩ ?_ ?_
    · omega
    rintro k σ ⟨t, rfl, ht⟩
    have pl := pgR_length t
    have el : (intsD (natI (pgR t))).length ≤ 10000 := by rw [intsD_length, natI_length]; omega
    by_cases c : (t : Int) + 2 < L
    · repeat' ((fail_if_success (with_reducible refine (?_ : @Eq _ _ _))); first | ((with_reducible refine (?_ : IfK (@decide ((1:Int) < (List.length _ : Int)) _) _ _)); with_reducible first | refine' IfK.decT (by first | with_reducible assumption | decide) ?_ | refine' IfK.decF (by first | with_reducible assumption | decide) ?_) | (with_reducible first | refine' CK.ret ?_ | refine' SK.next ?_ | refine' SK.ret ?_ | refine' LK.next ?_ | refine' RW.nil ?_ | refine' RW.seq ?_) | ((with_reducible refine (?_ : RW _ _ _ _)); with_reducible refine' RW.lenOk (by with_unfolding_all exact rfl) ?_) | (with_reducible first | refine' SW.of ?_ | refine' PutAt.of ?_ ?_) | (with_reducible first | exact SetR.z) | (with_reducible first | refine' SetR.s ?_) | (with_reducible refine (?_ : SetR _ (0 + 1) _ _)); refine SetR.s ?_ | ((with_reducible refine (?_ : RW _ _ _ _)); with_reducible refine' RW.retF (E := eVar _) (by with_unfolding_all exact rfl) ?_) | (with_reducible first | refine' RW.asg ?_ | refine' RW.ret ?_ | refine' RW.if ?_ | refine' RW.for ?_ | refine' RW.while ?_ | refine' RW.new ?_) | ((with_reducible refine (?_ : RW _ _ _ _)); with_reducible refine' RW.app (by with_unfolding_all exact rfl) (by first | with_reducible assumption | with_unfolding_all exact Nat.le_of_ble_eq_true rfl) ?_) | ((with_reducible refine (?_ : RW _ _ _ _)); with_reducible refine' RW.aug (by with_unfolding_all exact rfl) ?_) | (with_reducible first | refine' IfK.t ?_ | refine' IfK.f ?_ | refine' IfK.decT (by first | with_reducible assumption | with_unfolding_all omega) ?_ | refine' IfK.decF (by first | with_reducible assumption | with_unfolding_all omega) ?_ | refine' NotK.t ?_ | refine' NotK.f ?_ | refine' TruthK.bool ?_) | ((with_reducible refine (?_ : EW (eVar _) _ _)); with_reducible refine' EW.var (by with_unfolding_all exact rfl) ?_) | (with_reducible first | refine' EW.cst ?_ | refine' EW.e2 ?_ | refine' EW.comp ?_ | refine' EsW.nil ?_ | refine' TW.c ?_) | (with_reducible first | refine' TW.tOf ?_ | refine' TW.not ?_ | refine' TW.and ?_) | (with_reducible first | refine' OW.addI ?_ | refine' OW.ord ?_ | refine' OW.eq ?_) | ((with_reducible refine (?_ : OW fMul _ _ _)); with_reducible refine' OW.mul (by first | with_reducible assumption | with_unfolding_all exact mulOk_sm (by omega) (by omega)) ?_) | ((with_reducible refine (?_ : OW fMod _ _ _)); with_reducible refine' OW.mod (by first | with_reducible assumption | with_unfolding_all omega) ?_) | ((with_reducible refine (?_ : CW _ _ _)); with_reducible refine' CW.fn (by with_unfolding_all (repeat (first | exact StartsAt.nil | apply StartsAt.cons | apply StartsAt.unb))) (by with_unfolding_all exact rfl) ?_))
      refine CompK.ints (p := fun x => decide (x * x ≤ (t : Int) + 2) && decide (((t : Int) + 2).fmod x = 0)) (g := fun x => x) (items_lst (by rw [intsD_length, natI_length]; omega)) ?_ ?_
      · intro x hx
        obtain ⟨n, hn, rfl⟩ := mem_natI.mp hx
        have hm := pgR_mem hn
        have x0 : (n : Int) ≠ 0 := by omega
        refine ⟨?_, fun _ => by repeat' ((fail_if_success (with_reducible refine (?_ : @Eq _ _ _))); first | ((with_reducible refine (?_ : IfK (@decide ((1:Int) < (List.length _ : Int)) _) _ _)); with_reducible first | refine' IfK.decT (by first | with_reducible assumption | decide) ?_ | refine' IfK.decF (by first | with_reducible assumption | decide) ?_) | (with_reducible first | refine' CK.ret ?_ | refine' SK.next ?_ | refine' SK.ret ?_ | refine' LK.next ?_ | refine' RW.nil ?_ | refine' RW.seq ?_) | ((with_reducible refine (?_ : RW _ _ _ _)); with_reducible refine' RW.lenOk (by with_unfolding_all exact rfl) ?_) | (with_reducible first | refine' SW.of ?_ | refine' PutAt.of ?_ ?_) | (with_reducible first | exact SetR.z) | (with_reducible first | refine' SetR.s ?_) | (with_reducible refine (?_ : SetR _ (0 + 1) _ _)); refine SetR.s ?_ | ((with_reducible refine (?_ : RW _ _ _ _)); with_reducible refine' RW.retF (E := eVar _) (by with_unfolding_all exact rfl) ?_) | (with_reducible first | refine' RW.asg ?_ | refine' RW.ret ?_ | refine' RW.if ?_ | refine' RW.for ?_ | refine' RW.while ?_ | refine' RW.new ?_) | ((with_reducible refine (?_ : RW _ _ _ _)); with_reducible refine' RW.app (by with_unfolding_all exact rfl) (by first | with_reducible assumption | with_unfolding_all exact Nat.le_of_ble_eq_true rfl) ?_) | ((with_reducible refine (?_ : RW _ _ _ _)); with_reducible refine' RW.aug (by with_unfolding_all exact rfl) ?_) | (with_reducible first | refine' IfK.t ?_ | refine' IfK.f ?_ | refine' IfK.decT (by first | with_reducible assumption | with_unfolding_all omega) ?_ | refine' IfK.decF (by first | with_reducible assumption | with_unfolding_all omega) ?_ | refine' NotK.t ?_ | refine' NotK.f ?_ | refine' TruthK.bool ?_) | ((with_reducible refine (?_ : EW (eVar _) _ _)); with_reducible refine' EW.var (by with_unfolding_all exact rfl) ?_) | (with_reducible first | refine' EW.cst ?_ | refine' EW.e2 ?_ | refine' EW.comp ?_ | refine' EsW.nil ?_ | refine' TW.c ?_) | (with_reducible first | refine' TW.tOf ?_ | refine' TW.not ?_ | refine' TW.and ?_) | (with_reducible first | refine' OW.addI ?_ | refine' OW.ord ?_ | refine' OW.eq ?_) | ((with_reducible refine (?_ : OW fMul _ _ _)); with_reducible refine' OW.mul (by first | with_reducible assumption | with_unfolding_all exact mulOk_sm (by omega) (by omega)) ?_) | ((with_reducible refine (?_ : OW fMod _ _ _)); with_reducible refine' OW.mod (by first | with_reducible assumption | with_unfolding_all omega) ?_) | ((with_reducible refine (?_ : CW _ _ _)); with_reducible refine' CW.fn (by with_unfolding_all (repeat (first | exact StartsAt.nil | apply StartsAt.cons | apply StartsAt.unb))) (by with_unfolding_all exact rfl) ?_))
                                rfl⟩
        by_cases c1 : (n : Int) * (n : Int) ≤ (t : Int) + 2 <;> by_cases c2 : ((t : Int) + 2).fmod (n : Int) = 0 <;>
        · repeat' ((fail_if_success (with_reducible refine (?_ : @Eq _ _ _))); first | ((with_reducible refine (?_ : IfK (@decide ((1:Int) < (List.length _ : Int)) _) _ _)); with_reducible first | refine' IfK.decT (by first | with_reducible assumption | decide) ?_ | refine' IfK.decF (by first | with_reducible assumption | decide) ?_) | (with_reducible first | refine' CK.ret ?_ | refine' SK.next ?_ | refine' SK.ret ?_ | refine' LK.next ?_ | refine' RW.nil ?_ | refine' RW.seq ?_) | ((with_reducible refine (?_ : RW _ _ _ _)); with_reducible refine' RW.lenOk (by with_unfolding_all exact rfl) ?_) | (with_reducible first | refine' SW.of ?_ | refine' PutAt.of ?_ ?_) | (with_reducible first | exact SetR.z) | (with_reducible first | refine' SetR.s ?_) | (with_reducible refine (?_ : SetR _ (0 + 1) _ _)); refine SetR.s ?_ | ((with_reducible refine (?_ : RW _ _ _ _)); with_reducible refine' RW.retF (E := eVar _) (by with_unfolding_all exact rfl) ?_) | (with_reducible first | refine' RW.asg ?_ | refine' RW.ret ?_ | refine' RW.if ?_ | refine' RW.for ?_ | refine' RW.while ?_ | refine' RW.new ?_) | ((with_reducible refine (?_ : RW _ _ _ _)); with_reducible refine' RW.app (by with_unfolding_all exact rfl) (by first | with_reducible assumption | with_unfolding_all exact Nat.le_of_ble_eq_true rfl) ?_) | ((with_reducible refine (?_ : RW _ _ _ _)); with_reducible refine' RW.aug (by with_unfolding_all exact rfl) ?_) | (with_reducible first | refine' IfK.t ?_ | refine' IfK.f ?_ | refine' IfK.decT (by first | with_reducible assumption | with_unfolding_all omega) ?_ | refine' IfK.decF (by first | with_reducible assumption | with_unfolding_all omega) ?_ | refine' NotK.t ?_ | refine' NotK.f ?_ | refine' TruthK.bool ?_) | ((with_reducible refine (?_ : EW (eVar _) _ _)); with_reducible refine' EW.var (by with_unfolding_all exact rfl) ?_) | (with_reducible first | refine' EW.cst ?_ | refine' EW.e2 ?_ | refine' EW.comp ?_ | refine' EsW.nil ?_ | refine' TW.c ?_) | (with_reducible first | refine' TW.tOf ?_ | refine' TW.not ?_ | refine' TW.and ?_) | (with_reducible first | refine' OW.addI ?_ | refine' OW.ord ?_ | refine' OW.eq ?_) | ((with_reducible refine (?_ : OW fMul _ _ _)); with_reducible refine' OW.mul (by first | with_reducible assumption | with_unfolding_all exact mulOk_sm (by omega) (by omega)) ?_) | ((with_reducible refine (?_ : OW fMod _ _ _)); with_reducible refine' OW.mod (by first | with_reducible assumption | with_unfolding_all omega) ?_) | ((with_reducible refine (?_ : CW _ _ _)); with_reducible refine' CW.fn (by with_unfolding_all (repeat (first | exact StartsAt.nil | apply StartsAt.cons | apply StartsAt.unb))) (by with_unfolding_all exact rfl) ?_))
          simp only [c1, c2, decide_true, decide_false]; rfl
      · rw [List.map_id'', filter_natI]
        · have e : (pgR t).filter (fun (n : Nat) => decide ((n : Int) * (n : Int) ≤ (t : Int) + 2) && decide (((t : Int) + 2).fmod (n : Int) = 0)) = (pgR t).filter (pgT (t + 2)) := by
            refine List.filter_congr fun n hn => ?_
            have hm := pgR_mem hn
            unfold pgT
            have e1 : decide ((n : Int) * (n : Int) ≤ (t : Int) + 2) = decide (n * n ≤ t + 2) := by
              rw [← Int.natCast_mul]; congr 1; apply propext; omega
            have e2 : decide (((t : Int) + 2).fmod (n : Int) = 0) = decide ((t + 2) % n = 0) := by
              rw [show (t : Int) + 2 = ((t + 2 : Nat) : Int) by omega, fmod_nat]; congr 1; apply propext; omega
            rw [e1, e2]
          rw [e]
          by_cases hf : ((pgR t).filter (pgT (t + 2))).isEmpty = true
          · refine TruthK.lstE (by rw [List.isEmpty_iff.mp hf]; rfl) ?_
            repeat' ((fail_if_success (with_reducible refine (?_ : @Eq _ _ _))); first | ((with_reducible refine (?_ : IfK (@decide ((1:Int) < (List.length _ : Int)) _) _ _)); with_reducible first | refine' IfK.decT (by first | with_reducible assumption | decide) ?_ | refine' IfK.decF (by first | with_reducible assumption | decide) ?_) | (with_reducible first | refine' CK.ret ?_ | refine' SK.next ?_ | refine' SK.ret ?_ | refine' LK.next ?_ | refine' RW.nil ?_ | refine' RW.seq ?_) | ((with_reducible refine (?_ : RW _ _ _ _)); with_reducible refine' RW.lenOk (by with_unfolding_all exact rfl) ?_) | (with_reducible first | refine' SW.of ?_ | refine' PutAt.of ?_ ?_) | (with_reducible first | exact SetR.z) | (with_reducible first | refine' SetR.s ?_) | (with_reducible refine (?_ : SetR _ (0 + 1) _ _)); refine SetR.s ?_ | ((with_reducible refine (?_ : RW _ _ _ _)); with_reducible refine' RW.retF (E := eVar _) (by with_unfolding_all exact rfl) ?_) | (with_reducible first | refine' RW.asg ?_ | refine' RW.ret ?_ | refine' RW.if ?_ | refine' RW.for ?_ | refine' RW.while ?_ | refine' RW.new ?_) | ((with_reducible refine (?_ : RW _ _ _ _)); with_reducible refine' RW.app (by with_unfolding_all exact rfl) (by first | with_reducible assumption | with_unfolding_all exact Nat.le_of_ble_eq_true rfl) ?_) | ((with_reducible refine (?_ : RW _ _ _ _)); with_reducible refine' RW.aug (by with_unfolding_all exact rfl) ?_) | (with_reducible first | refine' IfK.t ?_ | refine' IfK.f ?_ | refine' IfK.decT (by first | with_reducible assumption | with_unfolding_all omega) ?_ | refine' IfK.decF (by first | with_reducible assumption | with_unfolding_all omega) ?_ | refine' NotK.t ?_ | refine' NotK.f ?_ | refine' TruthK.bool ?_) | ((with_reducible refine (?_ : EW (eVar _) _ _)); with_reducible refine' EW.var (by with_unfolding_all exact rfl) ?_) | (with_reducible first | refine' EW.cst ?_ | refine' EW.e2 ?_ | refine' EW.comp ?_ | refine' EsW.nil ?_ | refine' TW.c ?_) | (with_reducible first | refine' TW.tOf ?_ | refine' TW.not ?_ | refine' TW.and ?_) | (with_reducible first | refine' OW.addI ?_ | refine' OW.ord ?_ | refine' OW.eq ?_) | ((with_reducible refine (?_ : OW fMul _ _ _)); with_reducible refine' OW.mul (by first | with_reducible assumption | with_unfolding_all exact mulOk_sm (by omega) (by omega)) ?_) | ((with_reducible refine (?_ : OW fMod _ _ _)); with_reducible refine' OW.mod (by first | with_reducible assumption | with_unfolding_all omega) ?_) | ((with_reducible refine (?_ : CW _ _ _)); with_reducible refine' CW.fn (by with_unfolding_all (repeat (first | exact StartsAt.nil | apply StartsAt.cons | apply StartsAt.unb))) (by with_unfolding_all exact rfl) ?_))
            refine ⟨k - 1, by omega, t + 1, ?_, by omega⟩
            have : pgR (t + 1) = pgR t ++ [t + 2] := by rw [pgR, pgS, if_pos hf]
            rw [this]
            simp [natI, intsD]
            first | omega | exact congrArg (fun (z : Int) => Slot.imm (D.int z)) (by omega)
          · refine TruthK.lstN (fun h => hf (by simpa [intsD, natI] using h)) (by rw [intsD_length, natI_length]; exact Nat.le_trans (List.length_filter_le _ _) (by omega)) ?_
            repeat' ((fail_if_success (with_reducible refine (?_ : @Eq _ _ _))); first | ((with_reducible refine (?_ : IfK (@decide ((1:Int) < (List.length _ : Int)) _) _ _)); with_reducible first | refine' IfK.decT (by first | with_reducible assumption | decide) ?_ | refine' IfK.decF (by first | with_reducible assumption | decide) ?_) | (with_reducible first | refine' CK.ret ?_ | refine' SK.next ?_ | refine' SK.ret ?_ | refine' LK.next ?_ | refine' RW.nil ?_ | refine' RW.seq ?_) | ((with_reducible refine (?_ : RW _ _ _ _)); with_reducible refine' RW.lenOk (by with_unfolding_all exact rfl) ?_) | (with_reducible first | refine' SW.of ?_ | refine' PutAt.of ?_ ?_) | (with_reducible first | exact SetR.z) | (with_reducible first | refine' SetR.s ?_) | (with_reducible refine (?_ : SetR _ (0 + 1) _ _)); refine SetR.s ?_ | ((with_reducible refine (?_ : RW _ _ _ _)); with_reducible refine' RW.retF (E := eVar _) (by with_unfolding_all exact rfl) ?_) | (with_reducible first | refine' RW.asg ?_ | refine' RW.ret ?_ | refine' RW.if ?_ | refine' RW.for ?_ | refine' RW.while ?_ | refine' RW.new ?_) | ((with_reducible refine (?_ : RW _ _ _ _)); with_reducible refine' RW.app (by with_unfolding_all exact rfl) (by first | with_reducible assumption | with_unfolding_all exact Nat.le_of_ble_eq_true rfl) ?_) | ((with_reducible refine (?_ : RW _ _ _ _)); with_reducible refine' RW.aug (by with_unfolding_all exact rfl) ?_) | (with_reducible first | refine' IfK.t ?_ | refine' IfK.f ?_ | refine' IfK.decT (by first | with_reducible assumption | with_unfolding_all omega) ?_ | refine' IfK.decF (by first | with_reducible assumption | with_unfolding_all omega) ?_ | refine' NotK.t ?_ | refine' NotK.f ?_ | refine' TruthK.bool ?_) | ((with_reducible refine (?_ : EW (eVar _) _ _)); with_reducible refine' EW.var (by with_unfolding_all exact rfl) ?_) | (with_reducible first | refine' EW.cst ?_ | refine' EW.e2 ?_ | refine' EW.comp ?_ | refine' EsW.nil ?_ | refine' TW.c ?_) | (with_reducible first | refine' TW.tOf ?_ | refine' TW.not ?_ | refine' TW.and ?_) | (with_reducible first | refine' OW.addI ?_ | refine' OW.ord ?_ | refine' OW.eq ?_) | ((with_reducible refine (?_ : OW fMul _ _ _)); with_reducible refine' OW.mul (by first | with_reducible assumption | with_unfolding_all exact mulOk_sm (by omega) (by omega)) ?_) | ((with_reducible refine (?_ : OW fMod _ _ _)); with_reducible refine' OW.mod (by first | with_reducible assumption | with_unfolding_all omega) ?_) | ((with_reducible refine (?_ : CW _ _ _)); with_reducible refine' CW.fn (by with_unfolding_all (repeat (first | exact StartsAt.nil | apply StartsAt.cons | apply StartsAt.unb))) (by with_unfolding_all exact rfl) ?_))
            refine ⟨k - 1, by omega, t + 1, ?_, by omega⟩
            have : pgR (t + 1) = pgR t := by rw [pgR, pgS, if_neg hf]
            rw [this, show (((t + 1 : Nat) : Int) + 2) = (t : Int) + 2 + 1 by omega]
        · intro x; rfl
    · have : t = L.toNat - 2 := by omega
      repeat' ((fail_if_success (with_reducible refine (?_ : @Eq _ _ _))); first | ((with_reducible refine (?_ : IfK (@decide ((1:Int) < (List.length _ : Int)) _) _ _)); with_reducible first | refine' IfK.decT (by first | with_reducible assumption | decide) ?_ | refine' IfK.decF (by first | with_reducible assumption | decide) ?_) | (with_reducible first | refine' CK.ret ?_ | refine' SK.next ?_ | refine' SK.ret ?_ | refine' LK.next ?_ | refine' RW.nil ?_ | refine' RW.seq ?_) | ((with_reducible refine (?_ : RW _ _ _ _)); with_reducible refine' RW.lenOk (by with_unfolding_all exact rfl) ?_) | (with_reducible first | refine' SW.of ?_ | refine' PutAt.of ?_ ?_) | (with_reducible first | exact SetR.z) | (with_reducible first | refine' SetR.s ?_) | (with_reducible refine (?_ : SetR _ (0 + 1) _ _)); refine SetR.s ?_ | ((with_reducible refine (?_ : RW _ _ _ _)); with_reducible refine' RW.retF (E := eVar _) (by with_unfolding_all exact rfl) ?_) | (with_reducible first | refine' RW.asg ?_ | refine' RW.ret ?_ | refine' RW.if ?_ | refine' RW.for ?_ | refine' RW.while ?_ | refine' RW.new ?_) | ((with_reducible refine (?_ : RW _ _ _ _)); with_reducible refine' RW.app (by with_unfolding_all exact rfl) (by first | with_reducible assumption | with_unfolding_all exact Nat.le_of_ble_eq_true rfl) ?_) | ((with_reducible refine (?_ : RW _ _ _ _)); with_reducible refine' RW.aug (by with_unfolding_all exact rfl) ?_) | (with_reducible first | refine' IfK.t ?_ | refine' IfK.f ?_ | refine' IfK.decT (by first | with_reducible assumption | with_unfolding_all omega) ?_ | refine' IfK.decF (by first | with_reducible assumption | with_unfolding_all omega) ?_ | refine' NotK.t ?_ | refine' NotK.f ?_ | refine' TruthK.bool ?_) | ((with_reducible refine (?_ : EW (eVar _) _ _)); with_reducible refine' EW.var (by with_unfolding_all exact rfl) ?_) | (with_reducible first | refine' EW.cst ?_ | refine' EW.e2 ?_ | refine' EW.comp ?_ | refine' EsW.nil ?_ | refine' TW.c ?_) | (with_reducible first | refine' TW.tOf ?_ | refine' TW.not ?_ | refine' TW.and ?_) | (with_reducible first | refine' OW.addI ?_ | refine' OW.ord ?_ | refine' OW.eq ?_) | ((with_reducible refine (?_ : OW fMul _ _ _)); with_reducible refine' OW.mul (by first | with_reducible assumption | with_unfolding_all exact mulOk_sm (by omega) (by omega)) ?_) | ((with_reducible refine (?_ : OW fMod _ _ _)); with_reducible refine' OW.mod (by first | with_reducible assumption | with_unfolding_all omega) ?_) | ((with_reducible refine (?_ : CW _ _ _)); with_reducible refine' CW.fn (by with_unfolding_all (repeat (first | exact StartsAt.nil | apply StartsAt.cons | apply StartsAt.unb))) (by with_unfolding_all exact rfl) ?_))
      rw [this]

theorem ok_iterprod {I : GI} (hat : HatI I hd.view_39)  : ∃ d, (recsOf hd.view_39)[1]? = some d ∧ d.name = ("iterprod" : Str) ∧ ∃ G, FunOK I 1 d.name G ∧
    ∀ (d : D) (l : List Int) (m : Nat), isStr d = false → itemsOf d = some (intsD l) → (∀ x ∈ l, Bd m x) → m * l.length + 1 + m ≤ 100000000 → G [d] = some (.int (prodI l)) := by
  refine' ⟨_, rfl, rfl, _, FunOK.of 1000 (i := 1) (ns := ["l", "z", "x"]) (m := 1) hat rfl ⟨rfl, by decide, by decide⟩ (by decide) (fun pm cd doc => vs1 fun a => rfl) rfl rfl ?h, ?g⟩
  case h =>
    dsimp only
    repeat' ((show (_ : Prop)); first | (with_reducible first | exact OpOK.mul | exact OpOK.mod | exact OpOK.lt | exact OpOK.le | exact OpOK.eq | exact IOpOK.add | exact IOpOK.mul | exact EvOK.cint | refine' EvOK.v (by with_unfolding_all exact rfl) (by with_unfolding_all exact rfl) (by with_unfolding_all exact rfl) (by with_unfolding_all exact rfl) | refine' EvOK.bin ?_ ?_ ?_ | refine' EvOK.comp (by with_unfolding_all exact ⟨by decide, rfl, rfl, by decide, rfl, by decide, by decide⟩) ?_ ?_ ?_ (by with_unfolding_all exact fun _ _ => rfl) | exact EvsOK.nil | refine' TestsOK.one ?_ | refine' TrOK.cmp ?_ ?_ ?_ (by with_unfolding_all exact rfl) | refine' TrOK.not ?_ | exact TrOK.and0 | refine' TrOK.and ?_ ?_ | refine' TrOK.plain ?_ (by with_unfolding_all exact fun _ _ => rfl) | exact RunOK.nil | refine' RunOK.cons ?_ ?_ | refine' RunOK.ret ?_ | refine' RunOK.ifS ?_ ?_ ?_ | refine' RunOK.whileS ?_ ?_ | refine' RunOK.asg' (by with_unfolding_all exact rfl) (by with_unfolding_all exact fun _ => rfl) (by with_unfolding_all exact ⟨rfl, by decide, by decide⟩) ?_ | refine' RunOK.aug' (by with_unfolding_all exact rfl) (by with_unfolding_all exact ⟨rfl, by decide, by decide⟩) ?_ ?_ | refine' RunOK.for' (by with_unfolding_all exact rfl) (by with_unfolding_all exact fun _ _ => rfl) (by with_unfolding_all exact ⟨rfl, by decide, by decide⟩) ?_ ?_ | refine' RunOK.app' (by with_unfolding_all exact rfl) (by with_unfolding_all exact rfl) (by with_unfolding_all exact fun _ => rfl) (by with_unfolding_all exact fun _ => rfl) (by with_unfolding_all exact fun _ => rfl) (by with_unfolding_all exact ⟨rfl, by decide, by decide⟩) ?_))
  case g =>
    intro d l m hd hl hm hs
    refine CW.eq ?_
    repeat' ((fail_if_success (with_reducible refine (?_ : @Eq _ _ _))); first | ((with_reducible refine (?_ : IfK (@decide ((1:Int) < (List.length _ : Int)) _) _ _)); with_reducible first | refine' IfK.decT (by first | with_reducible assumption | decide) ?_ | refine' IfK.decF (by first | with_reducible assumption | decide) ?_) | (with_reducible first | refine' CK.ret ?_ | refine' SK.next ?_ | refine' SK.ret ?_ | refine' LK.next ?_ | refine' RW.nil ?_ | refine' RW.seq ?_) | ((with_reducible refine (?_ : RW _ _ _ _)); with_reducible refine' RW.lenOk (by with_unfolding_all exact rfl) ?_) | (with_reducible first | refine' SW.of ?_ | refine' PutAt.of ?_ ?_) | (with_reducible first | exact SetR.z) | (with_reducible first | refine' SetR.s ?_) | (with_reducible refine (?_ : SetR _ (0 + 1) _ _)); refine SetR.s ?_ | ((with_reducible refine (?_ : RW _ _ _ _)); with_reducible refine' RW.retF (E := eVar _) (by with_unfolding_all exact rfl) ?_) | (with_reducible first | refine' RW.asg ?_ | refine' RW.ret ?_ | refine' RW.if ?_ | refine' RW.for ?_ | refine' RW.while ?_ | refine' RW.new ?_) | ((with_reducible refine (?_ : RW _ _ _ _)); with_reducible refine' RW.app (by with_unfolding_all exact rfl) (by first | with_reducible assumption | with_unfolding_all exact Nat.le_of_ble_eq_true rfl) ?_) | ((with_reducible refine (?_ : RW _ _ _ _)); with_reducible refine' RW.aug (by with_unfolding_all exact rfl) ?_) | (with_reducible first | refine' IfK.t ?_ | refine' IfK.f ?_ | refine' IfK.decT (by first | with_reducible assumption | with_unfolding_all omega) ?_ | refine' IfK.decF (by first | with_reducible assumption | with_unfolding_all omega) ?_ | refine' NotK.t ?_ | refine' NotK.f ?_ | refine' TruthK.bool ?_) | ((with_reducible refine (?_ : EW (eVar _) _ _)); with_reducible refine' EW.var (by with_unfolding_all exact rfl) ?_) | (with_reducible first | refine' EW.cst ?_ | refine' EW.e2 ?_ | refine' EW.comp ?_ | refine' EsW.nil ?_ | refine' TW.c ?_) | (with_reducible first | refine' TW.tOf ?_ | refine' TW.not ?_ | refine' TW.and ?_) | (with_reducible first | refine' OW.addI ?_ | refine' OW.ord ?_ | refine' OW.eq ?_) | ((with_reducible refine (?_ : OW fMul _ _ _)); with_reducible refine' OW.mul (by first | with_reducible assumption | with_unfolding_all exact mulOk_sm (by omega) (by omega)) ?_) | ((with_reducible refine (?_ : OW fMod _ _ _)); with_reducible refine' OW.mod (by first | with_reducible assumption | with_unfolding_all omega) ?_) | ((with_reducible refine (?_ : CW _ _ _)); with_reducible refine' CW.fn (by with_unfolding_all (repeat (first | exact StartsAt.nil | apply StartsAt.cons | apply StartsAt.unb))) (by with_unfolding_all exact rfl) ?_))
    refine ForK.of hd hl (LW.inv (fun ds σ => ∃ (r : List Int) (n : Nat) (z : Int) (sl : Slot), ds = intsD r ∧ σ = [.imm d, .imm (.int z), sl] ∧ z * prodI r = prodI l ∧ Bd n z ∧ (∀ x ∈ r, Bd m x) ∧ n + m * r.length + m ≤ 100000000) ⟨l, 1, 1, _, rfl, rfl, Int.one_mul _, Bd.one, hm, by omega⟩ ?_ ?_)
    · rintro d' ds σ ⟨r, n, z, sl, e, rfl, hz, hn, hr, hb⟩
      cases r with
      | nil => cases e
      | cons x r =>
        cases e
        rw [List.length_cons, Nat.mul_succ] at hb
        have hm := mulOk_bd hn (hr x (.head _)) (by omega)
        refine ⟨rfl, ?_⟩
        repeat' ((fail_if_success (with_reducible refine (?_ : @Eq _ _ _))); first | ((with_reducible refine (?_ : IfK (@decide ((1:Int) < (List.length _ : Int)) _) _ _)); with_reducible first | refine' IfK.decT (by first | with_reducible assumption | decide) ?_ | refine' IfK.decF (by first | with_reducible assumption | decide) ?_) | (with_reducible first | refine' CK.ret ?_ | refine' SK.next ?_ | refine' SK.ret ?_ | refine' LK.next ?_ | refine' RW.nil ?_ | refine' RW.seq ?_) | ((with_reducible refine (?_ : RW _ _ _ _)); with_reducible refine' RW.lenOk (by with_unfolding_all exact rfl) ?_) | (with_reducible first | refine' SW.of ?_ | refine' PutAt.of ?_ ?_) | (with_reducible first | exact SetR.z) | (with_reducible first | refine' SetR.s ?_) | (with_reducible refine (?_ : SetR _ (0 + 1) _ _)); refine SetR.s ?_ | ((with_reducible refine (?_ : RW _ _ _ _)); with_reducible refine' RW.retF (E := eVar _) (by with_unfolding_all exact rfl) ?_) | (with_reducible first | refine' RW.asg ?_ | refine' RW.ret ?_ | refine' RW.if ?_ | refine' RW.for ?_ | refine' RW.while ?_ | refine' RW.new ?_) | ((with_reducible refine (?_ : RW _ _ _ _)); with_reducible refine' RW.app (by with_unfolding_all exact rfl) (by first | with_reducible assumption | with_unfolding_all exact Nat.le_of_ble_eq_true rfl) ?_) | ((with_reducible refine (?_ : RW _ _ _ _)); with_reducible refine' RW.aug (by with_unfolding_all exact rfl) ?_) | (with_reducible first | refine' IfK.t ?_ | refine' IfK.f ?_ | refine' IfK.decT (by first | with_reducible assumption | with_unfolding_all omega) ?_ | refine' IfK.decF (by first | with_reducible assumption | with_unfolding_all omega) ?_ | refine' NotK.t ?_ | refine' NotK.f ?_ | refine' TruthK.bool ?_) | ((with_reducible refine (?_ : EW (eVar _) _ _)); with_reducible refine' EW.var (by with_unfolding_all exact rfl) ?_) | (with_reducible first | refine' EW.cst ?_ | refine' EW.e2 ?_ | refine' EW.comp ?_ | refine' EsW.nil ?_ | refine' TW.c ?_) | (with_reducible first | refine' TW.tOf ?_ | refine' TW.not ?_ | refine' TW.and ?_) | (with_reducible first | refine' OW.addI ?_ | refine' OW.ord ?_ | refine' OW.eq ?_) | ((with_reducible refine (?_ : OW fMul _ _ _)); with_reducible refine' OW.mul (by first | with_reducible assumption | with_unfolding_all exact mulOk_sm (by omega) (by omega)) ?_) | ((with_reducible refine (?_ : OW fMod _ _ _)); with_reducible refine' OW.mod (by first | with_reducible assumption | with_unfolding_all omega) ?_) | ((with_reducible refine (?_ : CW _ _ _)); with_reducible refine' CW.fn (by with_unfolding_all (repeat (first | exact StartsAt.nil | apply StartsAt.cons | apply StartsAt.unb))) (by with_unfolding_all exact rfl) ?_))
        exact ⟨r, n + m, z * x, _, rfl, rfl, by rw [← hz, prodI_cons, Int.mul_assoc], hn.mul (hr x (.head _)), fun y hy => hr y (.tail _ hy), by omega⟩
    · rintro σ ⟨r, n, z, sl, e, rfl, hz, hn, hr, hb⟩
      cases r with
      | cons x r => cases e
      | nil =>
        repeat' ((fail_if_success (with_reducible refine (?_ : @Eq _ _ _))); first | ((with_reducible refine (?_ : IfK (@decide ((1:Int) < (List.length _ : Int)) _) _ _)); with_reducible first | refine' IfK.decT (by first | with_reducible assumption | decide) ?_ | refine' IfK.decF (by first | with_reducible assumption | decide) ?_) | (with_reducible first | refine' CK.ret ?_ | refine' SK.next ?_ | refine' SK.ret ?_ | refine' LK.next ?_ | refine' RW.nil ?_ | refine' RW.seq ?_) | ((with_reducible refine (?_ : RW _ _ _ _)); with_reducible refine' RW.lenOk (by with_unfolding_all exact rfl) ?_) | (with_reducible first | refine' SW.of ?_ | refine' PutAt.of ?_ ?_) | (with_reducible first | exact SetR.z) | (with_reducible first | refine' SetR.s ?_) | (with_reducible refine (?_ : SetR _ (0 + 1) _ _)); refine SetR.s ?_ | ((with_reducible refine (?_ : RW _ _ _ _)); with_reducible refine' RW.retF (E := eVar _) (by with_unfolding_all exact rfl) ?_) | (with_reducible first | refine' RW.asg ?_ | refine' RW.ret ?_ | refine' RW.if ?_ | refine' RW.for ?_ | refine' RW.while ?_ | refine' RW.new ?_) | ((with_reducible refine (?_ : RW _ _ _ _)); with_reducible refine' RW.app (by with_unfolding_all exact rfl) (by first | with_reducible assumption | with_unfolding_all exact Nat.le_of_ble_eq_true rfl) ?_) | ((with_reducible refine (?_ : RW _ _ _ _)); with_reducible refine' RW.aug (by with_unfolding_all exact rfl) ?_) | (with_reducible first | refine' IfK.t ?_ | refine' IfK.f ?_ | refine' IfK.decT (by first | with_reducible assumption | with_unfolding_all omega) ?_ | refine' IfK.decF (by first | with_reducible assumption | with_unfolding_all omega) ?_ | refine' NotK.t ?_ | refine' NotK.f ?_ | refine' TruthK.bool ?_) | ((with_reducible refine (?_ : EW (eVar _) _ _)); with_reducible refine' EW.var (by with_unfolding_all exact rfl) ?_) | (with_reducible first | refine' EW.cst ?_ | refine' EW.e2 ?_ | refine' EW.comp ?_ | refine' EsW.nil ?_ | refine' TW.c ?_) | (with_reducible first | refine' TW.tOf ?_ | refine' TW.not ?_ | refine' TW.and ?_) | (with_reducible first | refine' OW.addI ?_ | refine' OW.ord ?_ | refine' OW.eq ?_) | ((with_reducible refine (?_ : OW fMul _ _ _)); with_reducible refine' OW.mul (by first | with_reducible assumption | with_unfolding_all exact mulOk_sm (by omega) (by omega)) ?_) | ((with_reducible refine (?_ : OW fMod _ _ _)); with_reducible refine' OW.mod (by first | with_reducible assumption | with_unfolding_all omega) ?_) | ((with_reducible refine (?_ : CW _ _ _)); with_reducible refine' CW.fn (by with_unfolding_all (repeat (first | exact StartsAt.nil | apply StartsAt.cons | apply StartsAt.unb))) (by with_unfolding_all exact rfl) ?_))
        rw [← hz, prodI_nil, Int.mul_one]

theorem ok__law_at {I : GI} (hat : HatI I hd.view_39) (hlen : FunOK I 0 ("len" : Str) fLen) : ∃ d, (recsOf hd.view_39)[3]? = some d ∧ d.name = ("_law_at" : Str) ∧ ∃ G, FunOK I 1 d.name G ∧
    ∀ (ns : List Int) (p : Nat), ns.length ≤ 63 → p ≤ 100 → G [.lst (intsD ns), .int (p : Nat)] = some (.int (atI [154, (-263), 10, 364, 204, 235, 19, 9, 6636, 457, 8, 469] ns p)) := by
  refine' ⟨_, rfl, rfl, _, FunOK.of 1000 (i := 3) (ns := ["script", "place", "row"]) (m := 2) hat rfl ⟨rfl, by decide, by decide⟩ (by decide) (fun pm cd doc => vs2 fun a b => rfl) rfl rfl ?h, ?g⟩
  case h =>
    dsimp only
    repeat' ((show (_ : Prop)); first | (with_reducible first | exact OpOK.add | exact OpOK.sub | exact OpOK.mul | exact OpOK.div | exact OpOK.mod | exact OpOK.lt | exact OpOK.gt | exact OpOK.eq | exact OpOK.ne | exact EvOK.cint | exact EvOK.cstr | refine' EvOK.v (by with_unfolding_all exact rfl) (by with_unfolding_all exact rfl) (by with_unfolding_all exact rfl) (by with_unfolding_all exact rfl) | refine' EvOK.bin ?_ ?_ ?_ | refine' EvOK.cmp ?_ ?_ ?_ (by with_unfolding_all exact rfl) | refine' EvOK.neg ?_ | refine' EvOK.tup ?_ | refine' EvOK.call' (by with_unfolding_all exact rfl) (by with_unfolding_all exact rfl) (by with_unfolding_all exact rfl) (by with_unfolding_all exact fun _ => rfl) (by with_unfolding_all exact rfl) (by with_unfolding_all exact fun _ => ⟨_, _, rfl⟩) (by with_unfolding_all first | assumption | exact FunOK.le (by assumption) (by decide)) ?_ | refine' EvOK.subs ?_ ?_ (by with_unfolding_all exact fun _ _ => rfl) | exact EvsOK.nil | refine' EvsOK.cons ?_ ?_ (by with_unfolding_all exact fun _ => rfl) | refine' TrOK.cmp ?_ ?_ ?_ (by with_unfolding_all exact rfl) | exact TrOK.or0 | refine' TrOK.or ?_ ?_ | exact RunOK.nil | refine' RunOK.cons ?_ ?_ | refine' RunOK.ret ?_ | refine' RunOK.ifS ?_ ?_ ?_ | refine' RunOK.whileS ?_ ?_ | refine' RunOK.asg' (by with_unfolding_all exact rfl) (by with_unfolding_all exact fun _ => rfl) (by with_unfolding_all exact ⟨rfl, by decide, by decide⟩) ?_ | refine' RunOK.for' (by with_unfolding_all exact rfl) (by with_unfolding_all exact fun _ _ => rfl) (by with_unfolding_all exact ⟨rfl, by decide, by decide⟩) ?_ ?_))
  case g =>
    intro ns p h1 h2
    have w1 := fLen_ints (l := ns) (by omega)
    refine CW.eq ?_
    cases q : ns[p]? with
    | some x =>
      have lt : (p : Int) < (ns.length : Int) := by have := (List.getElem?_eq_some_iff.mp q).1; omega
      have w2 := fSubs_ints q (by omega)
      have e : atI [154, (-263), 10, 364, 204, 235, 19, 9, 6636, 457, 8, 469] ns p = x := by unfold atI; rw [q]
      repeat' ((fail_if_success (with_reducible refine (?_ : @Eq _ _ _))); first | ((with_reducible refine (?_ : OW fEq (D.str _) (D.str _) _)); with_reducible first | refine' OW.clT (by decide +kernel) ?_ | refine' OW.clF (by decide +kernel) ?_) | ((with_reducible refine (?_ : OW (fIn false) (D.str _) (D.tup _) _)); with_reducible first | refine' OW.clT (by decide +kernel) ?_ | refine' OW.clF (by decide +kernel) ?_) | ((with_reducible refine (?_ : IfK (@decide ((1:Int) < (List.length _ : Int)) _) _ _)); with_reducible first | refine' IfK.decT (by first | with_reducible assumption | decide) ?_ | refine' IfK.decF (by first | with_reducible assumption | decide) ?_) | (with_reducible first | refine' CK.ret ?_ | refine' SK.next ?_ | refine' SK.ret ?_ | refine' LK.next ?_ | refine' RW.nil ?_ | refine' RW.seq ?_) | ((with_reducible refine (?_ : RW _ _ _ _)); with_reducible refine' RW.lenOk (by with_unfolding_all exact rfl) ?_) | (with_reducible first | refine' SW.of ?_ | refine' PutAt.of ?_ ?_) | (with_reducible first | exact SetR.z) | (with_reducible first | refine' SetR.s3 ?_ | refine' SetR.s ?_) | (with_reducible refine (?_ : SetR _ (0 + 1) _ _)); refine SetR.s ?_ | (with_reducible first | refine' RW.asg ?_ | refine' RW.ret ?_ | refine' RW.if ?_ | refine' RW.for ?_ | refine' RW.while ?_) | (with_reducible first | refine' IfK.t ?_ | refine' IfK.f ?_ | refine' IfK.decT (by first | with_reducible assumption | with_unfolding_all omega) ?_ | refine' IfK.decF (by first | with_reducible assumption | with_unfolding_all omega) ?_ | refine' TruthK.bool ?_) | ((with_reducible refine (?_ : EW (eVar _) _ _)); with_reducible refine' EW.var (by with_unfolding_all exact rfl) ?_) | (with_reducible first | refine' EW.cst ?_ | refine' EW.e1 ?_ | refine' EW.e2 ?_ | refine' EW.call ?_ | refine' EW.tup ?_ | refine' EsW.nil ?_ | refine' EsW.cons ?_ | refine' TW.c ?_) | ((with_reducible refine (?_ : TpK _ _)); with_reducible refine' TpK.mk (by with_unfolding_all exact Nat.le_of_ble_eq_true rfl) ?_) | (with_reducible first | refine' TW.tOf ?_ | refine' TW.or ?_) | ((with_reducible refine (?_ : CW _ _ _)); with_reducible refine' CW.of (by with_reducible assumption) ?_) | ((with_reducible refine (?_ : OW _ _ _ _)); with_reducible refine' OW.of (by with_reducible assumption) ?_) | (with_reducible first | refine' OW.add ?_ | refine' OW.sub ?_ | refine' OW.ord ?_ | refine' OW.eq ?_ | refine' OW.ne ?_) | ((with_reducible refine (?_ : OW fMul _ _ _)); with_reducible refine' OW.mul (by first | with_reducible assumption | with_unfolding_all exact mulOk_sm (by omega) (by omega)) ?_) | ((with_reducible refine (?_ : OW fMod _ _ _)); with_reducible refine' OW.mod (by first | with_reducible assumption | with_unfolding_all omega) ?_) | (with_reducible first | refine' UW.neg ?_ | refine' CW.range1 ?_ | refine' CW.range2 ?_) | ((with_reducible refine (?_ : CW _ _ _)); with_reducible refine' CW.fn (by with_unfolding_all (repeat (first | exact StartsAt.nil | apply StartsAt.cons | apply StartsAt.unb))) (by with_unfolding_all exact rfl) ?_))
      rw [e]
    | none =>
      have lt : ¬ (p : Int) < (ns.length : Int) := by have := List.getElem?_eq_none_iff.mp q; omega
      have e : atI [154, (-263), 10, 364, 204, 235, 19, 9, 6636, 457, 8, 469] ns p = ([154, (-263), 10, 364, 204, 235, 19, 9, 6636, 457, 8, 469] : List Int).getD (p % 12) 0 := by unfold atI; rw [q]; rfl
      have w2 : fLen [.tup [D.int 154, D.int (-263), D.int 10, D.int 364, D.int 204, D.int 235, D.int 19, D.int 9, D.int 6636, D.int 457, D.int 8, D.int 469]] = some (.int 12) := rfl
      have w3 : fSubs (.tup [D.int 154, D.int (-263), D.int 10, D.int 364, D.int 204, D.int 235, D.int 19, D.int 9, D.int 6636, D.int 457, D.int 8, D.int 469]) (.int ((p : Int).fmod 12)) = some (.int (([154, (-263), 10, 364, 204, 235, 19, 9, 6636, 457, 8, 469] : List Int).getD (p % 12) 0)) := by
        rw [show (p : Int).fmod 12 = ((p % 12 : Nat) : Int) from fmod_nat p 12]
        have hlt : p % 12 < 12 := Nat.mod_lt _ (by decide)
        generalize p % 12 = j at hlt
        refine asInt_eq ?_
        revert j
        decide
      repeat' ((fail_if_success (with_reducible refine (?_ : @Eq _ _ _))); first | ((with_reducible refine (?_ : OW fEq (D.str _) (D.str _) _)); with_reducible first | refine' OW.clT (by decide +kernel) ?_ | refine' OW.clF (by decide +kernel) ?_) | ((with_reducible refine (?_ : OW (fIn false) (D.str _) (D.tup _) _)); with_reducible first | refine' OW.clT (by decide +kernel) ?_ | refine' OW.clF (by decide +kernel) ?_) | ((with_reducible refine (?_ : IfK (@decide ((1:Int) < (List.length _ : Int)) _) _ _)); with_reducible first | refine' IfK.decT (by first | with_reducible assumption | decide) ?_ | refine' IfK.decF (by first | with_reducible assumption | decide) ?_) | (with_reducible first | refine' CK.ret ?_ | refine' SK.next ?_ | refine' SK.ret ?_ | refine' LK.next ?_ | refine' RW.nil ?_ | refine' RW.seq ?_) | ((with_reducible refine (?_ : RW _ _ _ _)); with_reducible refine' RW.lenOk (by with_unfolding_all exact rfl) ?_) | (with_reducible first | refine' SW.of ?_ | refine' PutAt.of ?_ ?_) | (with_reducible first | exact SetR.z) | (with_reducible first | refine' SetR.s3 ?_ | refine' SetR.s ?_) | (with_reducible refine (?_ : SetR _ (0 + 1) _ _)); refine SetR.s ?_ | (with_reducible first | refine' RW.asg ?_ | refine' RW.ret ?_ | refine' RW.if ?_ | refine' RW.for ?_ | refine' RW.while ?_) | (with_reducible first | refine' IfK.t ?_ | refine' IfK.f ?_ | refine' IfK.decT (by first | with_reducible assumption | with_unfolding_all omega) ?_ | refine' IfK.decF (by first | with_reducible assumption | with_unfolding_all omega) ?_ | refine' TruthK.bool ?_) | ((with_reducible refine (?_ : EW (eVar _) _ _)); with_reducible refine' EW.var (by with_unfolding_all exact rfl) ?_) | (with_reducible first | refine' EW.cst ?_ | refine' EW.e1 ?_ | refine' EW.e2 ?_ | refine' EW.call ?_ | refine' EW.tup ?_ | refine' EsW.nil ?_ | refine' EsW.cons ?_ | refine' TW.c ?_) | ((with_reducible refine (?_ : TpK _ _)); with_reducible refine' TpK.mk (by with_unfolding_all exact Nat.le_of_ble_eq_true rfl) ?_) | (with_reducible first | refine' TW.tOf ?_ | refine' TW.or ?_) | ((with_reducible refine (?_ : CW _ _ _)); with_reducible refine' CW.of (by with_reducible assumption) ?_) | ((with_reducible refine (?_ : OW _ _ _ _)); with_reducible refine' OW.of (by with_reducible assumption) ?_) | (with_reducible first | refine' OW.add ?_ | refine' OW.sub ?_ | refine' OW.ord ?_ | refine' OW.eq ?_ | refine' OW.ne ?_) | ((with_reducible refine (?_ : OW fMul _ _ _)); with_reducible refine' OW.mul (by first | with_reducible assumption | with_unfolding_all exact mulOk_sm (by omega) (by omega)) ?_) | ((with_reducible refine (?_ : OW fMod _ _ _)); with_reducible refine' OW.mod (by first | with_reducible assumption | with_unfolding_all omega) ?_) | (with_reducible first | refine' UW.neg ?_ | refine' CW.range1 ?_ | refine' CW.range2 ?_) | ((with_reducible refine (?_ : CW _ _ _)); with_reducible refine' CW.fn (by with_unfolding_all (repeat (first | exact StartsAt.nil | apply StartsAt.cons | apply StartsAt.unb))) (by with_unfolding_all exact rfl) ?_))
      rw [e]

theorem ok__law_quotient {I : GI} (hat : HatI I hd.view_39) (habs : FunOK I 0 ("abs" : Str) fAbs) : ∃ d, (recsOf hd.view_39)[4]? = some d ∧ d.name = ("_law_quotient" : Str) ∧ ∃ G, FunOK I 1 d.name G ∧
    ∀ (a b : Int), Bd 2000 a → Bd 2000 b → b ≠ 0 → G [.int a, .int b] = some (.int (quoI a b)) := by
  refine' ⟨_, rfl, rfl, _, FunOK.of 1000 (i := 4) (ns := ["a", "b", "size"]) (m := 2) hat rfl ⟨rfl, by decide, by decide⟩ (by decide) (fun pm cd doc => vs2 fun a b => rfl) rfl rfl ?h, ?g⟩
  case h =>
    dsimp only
    repeat' ((show (_ : Prop)); first | (with_reducible first | exact OpOK.add | exact OpOK.sub | exact OpOK.mul | exact OpOK.div | exact OpOK.mod | exact OpOK.lt | exact OpOK.gt | exact OpOK.eq | exact OpOK.ne | exact EvOK.cint | exact EvOK.cstr | refine' EvOK.v (by with_unfolding_all exact rfl) (by with_unfolding_all exact rfl) (by with_unfolding_all exact rfl) (by with_unfolding_all exact rfl) | refine' EvOK.bin ?_ ?_ ?_ | refine' EvOK.cmp ?_ ?_ ?_ (by with_unfolding_all exact rfl) | refine' EvOK.neg ?_ | refine' EvOK.tup ?_ | refine' EvOK.call' (by with_unfolding_all exact rfl) (by with_unfolding_all exact rfl) (by with_unfolding_all exact rfl) (by with_unfolding_all exact fun _ => rfl) (by with_unfolding_all exact rfl) (by with_unfolding_all exact fun _ => ⟨_, _, rfl⟩) (by with_unfolding_all first | assumption | exact FunOK.le (by assumption) (by decide)) ?_ | refine' EvOK.subs ?_ ?_ (by with_unfolding_all exact fun _ _ => rfl) | exact EvsOK.nil | refine' EvsOK.cons ?_ ?_ (by with_unfolding_all exact fun _ => rfl) | refine' TrOK.cmp ?_ ?_ ?_ (by with_unfolding_all exact rfl) | exact TrOK.or0 | refine' TrOK.or ?_ ?_ | exact RunOK.nil | refine' RunOK.cons ?_ ?_ | refine' RunOK.ret ?_ | refine' RunOK.ifS ?_ ?_ ?_ | refine' RunOK.whileS ?_ ?_ | refine' RunOK.asg' (by with_unfolding_all exact rfl) (by with_unfolding_all exact fun _ => rfl) (by with_unfolding_all exact ⟨rfl, by decide, by decide⟩) ?_ | refine' RunOK.for' (by with_unfolding_all exact rfl) (by with_unfolding_all exact fun _ _ => rfl) (by with_unfolding_all exact ⟨rfl, by decide, by decide⟩) ?_ ?_))
  case g =>
    intro a b ha hb h0
    have n0 : (b.natAbs : Int) ≠ 0 := Int.natCast_ne_zero.mpr (Int.natAbs_ne_zero.mpr h0)
    have w1 := fAbs_nat a
    have w2 := fAbs_nat b
    have b1 : Bd 2000 (a.natAbs : Int) := ha
    have b2 : Bd 2000 (b.natAbs : Int) := hb
    have b3 : Bd 2000 ((a.natAbs / b.natAbs : Nat) : Int) := Nat.lt_of_le_of_lt (Nat.div_le_self a.natAbs b.natAbs) ha
    have d1 : divOk (a.natAbs : Int) (b.natAbs : Int) = true := divOk_bd n0 b2 (by decide)
    have w3 : fDiv (.int (a.natAbs : Int)) (.int (b.natAbs : Int)) = some (.int ((a.natAbs / b.natAbs : Nat) : Int)) := by
      show (if divOk (a.natAbs : Int) (b.natAbs : Int) = true then some (D.int ((a.natAbs : Int).fdiv (b.natAbs : Int))) else none) = _
      rw [if_pos d1, Int.fdiv_eq_ediv_of_nonneg _ (Int.natCast_nonneg _)]; rfl
    have m1 : mulOk ((a.natAbs / b.natAbs : Nat) : Int) (b.natAbs : Int) = true := mulOk_bd b3 b2 (by decide)
    refine CW.eq ?_
    have qw := quo_ways a b
    clear ha hb b1 b2 b3 n0 d1
    rcases qw with ⟨w4, e⟩ | ⟨w4, c2, e⟩ | ⟨w4, c2, e⟩ <;> rw [e] <;> (repeat' ((fail_if_success (with_reducible refine (?_ : @Eq _ _ _))); first | ((with_reducible refine (?_ : OW fEq (D.str _) (D.str _) _)); with_reducible first | refine' OW.clT (by decide +kernel) ?_ | refine' OW.clF (by decide +kernel) ?_) | ((with_reducible refine (?_ : OW (fIn false) (D.str _) (D.tup _) _)); with_reducible first | refine' OW.clT (by decide +kernel) ?_ | refine' OW.clF (by decide +kernel) ?_) | ((with_reducible refine (?_ : IfK (@decide ((1:Int) < (List.length _ : Int)) _) _ _)); with_reducible first | refine' IfK.decT (by first | with_reducible assumption | decide) ?_ | refine' IfK.decF (by first | with_reducible assumption | decide) ?_) | (with_reducible first | refine' CK.ret ?_ | refine' SK.next ?_ | refine' SK.ret ?_ | refine' LK.next ?_ | refine' RW.nil ?_ | refine' RW.seq ?_) | ((with_reducible refine (?_ : RW _ _ _ _)); with_reducible refine' RW.lenOk (by with_unfolding_all exact rfl) ?_) | (with_reducible first | refine' SW.of ?_ | refine' PutAt.of ?_ ?_) | (with_reducible first | exact SetR.z) | (with_reducible first | refine' SetR.s3 ?_ | refine' SetR.s ?_) | (with_reducible refine (?_ : SetR _ (0 + 1) _ _)); refine SetR.s ?_ | (with_reducible first | refine' RW.asg ?_ | refine' RW.ret ?_ | refine' RW.if ?_ | refine' RW.for ?_ | refine' RW.while ?_) | (with_reducible first | refine' IfK.t ?_ | refine' IfK.f ?_ | refine' IfK.decT (by first | with_reducible assumption | with_unfolding_all omega) ?_ | refine' IfK.decF (by first | with_reducible assumption | with_unfolding_all omega) ?_ | refine' TruthK.bool ?_) | ((with_reducible refine (?_ : EW (eVar _) _ _)); with_reducible refine' EW.var (by with_unfolding_all exact rfl) ?_) | (with_reducible first | refine' EW.cst ?_ | refine' EW.e1 ?_ | refine' EW.e2 ?_ | refine' EW.call ?_ | refine' EW.tup ?_ | refine' EsW.nil ?_ | refine' EsW.cons ?_ | refine' TW.c ?_) | ((with_reducible refine (?_ : TpK _ _)); with_reducible refine' TpK.mk (by with_unfolding_all exact Nat.le_of_ble_eq_true rfl) ?_) | (with_reducible first | refine' TW.tOf ?_ | refine' TW.or ?_) | ((with_reducible refine (?_ : CW _ _ _)); with_reducible refine' CW.of (by with_reducible assumption) ?_) | ((with_reducible refine (?_ : OW _ _ _ _)); with_reducible refine' OW.of (by with_reducible assumption) ?_) | (with_reducible first | refine' OW.add ?_ | refine' OW.sub ?_ | refine' OW.ord ?_ | refine' OW.eq ?_ | refine' OW.ne ?_) | ((with_reducible refine (?_ : OW fMul _ _ _)); with_reducible refine' OW.mul (by first | with_reducible assumption | with_unfolding_all exact mulOk_sm (by omega) (by omega)) ?_) | ((with_reducible refine (?_ : OW fMod _ _ _)); with_reducible refine' OW.mod (by first | with_reducible assumption | with_unfolding_all omega) ?_) | (with_reducible first | refine' UW.neg ?_ | refine' CW.range1 ?_ | refine' CW.range2 ?_) | ((with_reducible refine (?_ : CW _ _ _)); with_reducible refine' CW.fn (by with_unfolding_all (repeat (first | exact StartsAt.nil | apply StartsAt.cons | apply StartsAt.unb))) (by with_unfolding_all exact rfl) ?_))) <;> rfl

theorem ok__law_power {I : GI} (hat : HatI I hd.view_39) (hrange : FunOK I 0 ("range" : Str) fRange) : ∃ d, (recsOf hd.view_39)[5]? = some d ∧ d.name = ("_law_power" : Str) ∧ ∃ G, FunOK I 1 d.name G ∧
    ∀ (a b : Int), Bd 200 a → 0 ≤ b → b ≤ 6 → G [.int a, .int b] = some (.int (a ^ b.toNat)) := by
  refine' ⟨_, rfl, rfl, _, FunOK.of 1000 (i := 5) (ns := ["a", "count", "whole", "turn"]) (m := 2) hat rfl ⟨rfl, by decide, by decide⟩ (by decide) (fun pm cd doc => vs2 fun a b => rfl) rfl rfl ?h, ?g⟩
  case h =>
    dsimp only
    repeat' ((show (_ : Prop)); first | (with_reducible first | exact OpOK.add | exact OpOK.sub | exact OpOK.mul | exact OpOK.div | exact OpOK.mod | exact OpOK.lt | exact OpOK.gt | exact OpOK.eq | exact OpOK.ne | exact EvOK.cint | exact EvOK.cstr | refine' EvOK.v (by with_unfolding_all exact rfl) (by with_unfolding_all exact rfl) (by with_unfolding_all exact rfl) (by with_unfolding_all exact rfl) | refine' EvOK.bin ?_ ?_ ?_ | refine' EvOK.cmp ?_ ?_ ?_ (by with_unfolding_all exact rfl) | refine' EvOK.neg ?_ | refine' EvOK.tup ?_ | refine' EvOK.call' (by with_unfolding_all exact rfl) (by with_unfolding_all exact rfl) (by with_unfolding_all exact rfl) (by with_unfolding_all exact fun _ => rfl) (by with_unfolding_all exact rfl) (by with_unfolding_all exact fun _ => ⟨_, _, rfl⟩) (by with_unfolding_all first | assumption | exact FunOK.le (by assumption) (by decide)) ?_ | refine' EvOK.subs ?_ ?_ (by with_unfolding_all exact fun _ _ => rfl) | exact EvsOK.nil | refine' EvsOK.cons ?_ ?_ (by with_unfolding_all exact fun _ => rfl) | refine' TrOK.cmp ?_ ?_ ?_ (by with_unfolding_all exact rfl) | exact TrOK.or0 | refine' TrOK.or ?_ ?_ | exact RunOK.nil | refine' RunOK.cons ?_ ?_ | refine' RunOK.ret ?_ | refine' RunOK.ifS ?_ ?_ ?_ | refine' RunOK.whileS ?_ ?_ | refine' RunOK.asg' (by with_unfolding_all exact rfl) (by with_unfolding_all exact fun _ => rfl) (by with_unfolding_all exact ⟨rfl, by decide, by decide⟩) ?_ | refine' RunOK.for' (by with_unfolding_all exact rfl) (by with_unfolding_all exact fun _ _ => rfl) (by with_unfolding_all exact ⟨rfl, by decide, by decide⟩) ?_ ?_))
  case g =>
    intro a b ha h0 h6
    refine CW.eq ?_
    repeat' ((fail_if_success (with_reducible refine (?_ : @Eq _ _ _))); first | ((with_reducible refine (?_ : OW fEq (D.str _) (D.str _) _)); with_reducible first | refine' OW.clT (by decide +kernel) ?_ | refine' OW.clF (by decide +kernel) ?_) | ((with_reducible refine (?_ : OW (fIn false) (D.str _) (D.tup _) _)); with_reducible first | refine' OW.clT (by decide +kernel) ?_ | refine' OW.clF (by decide +kernel) ?_) | ((with_reducible refine (?_ : IfK (@decide ((1:Int) < (List.length _ : Int)) _) _ _)); with_reducible first | refine' IfK.decT (by first | with_reducible assumption | decide) ?_ | refine' IfK.decF (by first | with_reducible assumption | decide) ?_) | (with_reducible first | refine' CK.ret ?_ | refine' SK.next ?_ | refine' SK.ret ?_ | refine' LK.next ?_ | refine' RW.nil ?_ | refine' RW.seq ?_) | ((with_reducible refine (?_ : RW _ _ _ _)); with_reducible refine' RW.lenOk (by with_unfolding_all exact rfl) ?_) | (with_reducible first | refine' SW.of ?_ | refine' PutAt.of ?_ ?_) | (with_reducible first | exact SetR.z) | (with_reducible first | refine' SetR.s3 ?_ | refine' SetR.s ?_) | (with_reducible refine (?_ : SetR _ (0 + 1) _ _)); refine SetR.s ?_ | (with_reducible first | refine' RW.asg ?_ | refine' RW.ret ?_ | refine' RW.if ?_ | refine' RW.for ?_ | refine' RW.while ?_) | (with_reducible first | refine' IfK.t ?_ | refine' IfK.f ?_ | refine' IfK.decT (by first | with_reducible assumption | with_unfolding_all omega) ?_ | refine' IfK.decF (by first | with_reducible assumption | with_unfolding_all omega) ?_ | refine' TruthK.bool ?_) | ((with_reducible refine (?_ : EW (eVar _) _ _)); with_reducible refine' EW.var (by with_unfolding_all exact rfl) ?_) | (with_reducible first | refine' EW.cst ?_ | refine' EW.e1 ?_ | refine' EW.e2 ?_ | refine' EW.call ?_ | refine' EW.tup ?_ | refine' EsW.nil ?_ | refine' EsW.cons ?_ | refine' TW.c ?_) | ((with_reducible refine (?_ : TpK _ _)); with_reducible refine' TpK.mk (by with_unfolding_all exact Nat.le_of_ble_eq_true rfl) ?_) | (with_reducible first | refine' TW.tOf ?_ | refine' TW.or ?_) | ((with_reducible refine (?_ : CW _ _ _)); with_reducible refine' CW.of (by with_reducible assumption) ?_) | ((with_reducible refine (?_ : OW _ _ _ _)); with_reducible refine' OW.of (by with_reducible assumption) ?_) | (with_reducible first | refine' OW.add ?_ | refine' OW.sub ?_ | refine' OW.ord ?_ | refine' OW.eq ?_ | refine' OW.ne ?_) | ((with_reducible refine (?_ : OW fMul _ _ _)); with_reducible refine' OW.mul (by first | with_reducible assumption | with_unfolding_all exact mulOk_sm (by omega) (by omega)) ?_) | ((with_reducible refine (?_ : OW fMod _ _ _)); with_reducible refine' OW.mod (by first | with_reducible assumption | with_unfolding_all omega) ?_) | (with_reducible first | refine' UW.neg ?_ | refine' CW.range1 ?_ | refine' CW.range2 ?_) | ((with_reducible refine (?_ : CW _ _ _)); with_reducible refine' CW.fn (by with_unfolding_all (repeat (first | exact StartsAt.nil | apply StartsAt.cons | apply StartsAt.unb))) (by with_unfolding_all exact rfl) ?_))
    refine ForK.of rfl (items_rngB (a := 0) (b := b) (by rw [Int.sub_zero]; exact Nat.le_trans (Int.toNat_le.mpr (show b ≤ ((6 : Nat) : Int) from h6)) (by decide))) (LW.inv (fun ds σ => ∃ (j : Nat) (t : Slot), j ≤ b.toNat ∧ ds = intsD (upI (j : Int) (b.toNat - j)) ∧ σ = [.imm (.int a), .imm (.int b), .imm (.int (a ^ j)), t]) ⟨0, _, Nat.zero_le _, by rw [Int.sub_zero]; rfl, by rw [Int.pow_zero]⟩ ?_ ?_)
    · rintro d' ds σ ⟨j, t, hj, e, rfl⟩
      rcases Nat.lt_or_ge j b.toNat with ht | ht
      · obtain ⟨u, hu, hu2⟩ := sub_next ht
        rw [hu, upI_succ, intsD_cons] at e
        cases e
        clear hu
        have m1 : mulOk (a ^ j) a = true := mulOk_bd (ha.pow j) ha (Nat.le_trans (Nat.add_le_add_right (Nat.succ_le_succ (Nat.mul_le_mul_left 200 (Nat.le_trans hj (Int.toNat_le.mpr (show b ≤ ((6 : Nat) : Int) from h6))))) 200) (by decide))
        refine ⟨rfl, ?_⟩
        repeat' ((fail_if_success (with_reducible refine (?_ : @Eq _ _ _))); first | ((with_reducible refine (?_ : OW fEq (D.str _) (D.str _) _)); with_reducible first | refine' OW.clT (by decide +kernel) ?_ | refine' OW.clF (by decide +kernel) ?_) | ((with_reducible refine (?_ : OW (fIn false) (D.str _) (D.tup _) _)); with_reducible first | refine' OW.clT (by decide +kernel) ?_ | refine' OW.clF (by decide +kernel) ?_) | ((with_reducible refine (?_ : IfK (@decide ((1:Int) < (List.length _ : Int)) _) _ _)); with_reducible first | refine' IfK.decT (by first | with_reducible assumption | decide) ?_ | refine' IfK.decF (by first | with_reducible assumption | decide) ?_) | (with_reducible first | refine' CK.ret ?_ | refine' SK.next ?_ | refine' SK.ret ?_ | refine' LK.next ?_ | refine' RW.nil ?_ | refine' RW.seq ?_) | ((with_reducible refine (?_ : RW _ _ _ _)); with_reducible refine' RW.lenOk (by with_unfolding_all exact rfl) ?_) | (with_reducible first | refine' SW.of ?_ | refine' PutAt.of ?_ ?_) | (with_reducible first | exact SetR.z) | (with_reducible first | refine' SetR.s3 ?_ | refine' SetR.s ?_) | (with_reducible refine (?_ : SetR _ (0 + 1) _ _)); refine SetR.s ?_ | (with_reducible first | refine' RW.asg ?_ | refine' RW.ret ?_ | refine' RW.if ?_ | refine' RW.for ?_ | refine' RW.while ?_) | (with_reducible first | refine' IfK.t ?_ | refine' IfK.f ?_ | refine' IfK.decT (by first | with_reducible assumption | with_unfolding_all omega) ?_ | refine' IfK.decF (by first | with_reducible assumption | with_unfolding_all omega) ?_ | refine' TruthK.bool ?_) | ((with_reducible refine (?_ : EW (eVar _) _ _)); with_reducible refine' EW.var (by with_unfolding_all exact rfl) ?_) | (with_reducible first | refine' EW.cst ?_ | refine' EW.e1 ?_ | refine' EW.e2 ?_ | refine' EW.call ?_ | refine' EW.tup ?_ | refine' EsW.nil ?_ | refine' EsW.cons ?_ | refine' TW.c ?_) | ((with_reducible refine (?_ : TpK _ _)); with_reducible refine' TpK.mk (by with_unfolding_all exact Nat.le_of_ble_eq_true rfl) ?_) | (with_reducible first | refine' TW.tOf ?_ | refine' TW.or ?_) | ((with_reducible refine (?_ : CW _ _ _)); with_reducible refine' CW.of (by with_reducible assumption) ?_) | ((with_reducible refine (?_ : OW _ _ _ _)); with_reducible refine' OW.of (by with_reducible assumption) ?_) | (with_reducible first | refine' OW.add ?_ | refine' OW.sub ?_ | refine' OW.ord ?_ | refine' OW.eq ?_ | refine' OW.ne ?_) | ((with_reducible refine (?_ : OW fMul _ _ _)); with_reducible refine' OW.mul (by first | with_reducible assumption | with_unfolding_all exact mulOk_sm (by omega) (by omega)) ?_) | ((with_reducible refine (?_ : OW fMod _ _ _)); with_reducible refine' OW.mod (by first | with_reducible assumption | with_unfolding_all omega) ?_) | (with_reducible first | refine' UW.neg ?_ | refine' CW.range1 ?_ | refine' CW.range2 ?_) | ((with_reducible refine (?_ : CW _ _ _)); with_reducible refine' CW.fn (by with_unfolding_all (repeat (first | exact StartsAt.nil | apply StartsAt.cons | apply StartsAt.unb))) (by with_unfolding_all exact rfl) ?_))
        exact ⟨j + 1, _, ht, by rw [hu2]; rfl, by rw [Int.pow_succ]⟩
      · rw [Nat.sub_eq_zero_of_le ht] at e
        cases e
    rintro σ ⟨j, t, hj, e, rfl⟩
    rcases Nat.lt_or_ge j b.toNat with ht | ht
    · obtain ⟨u, hu, _⟩ := sub_next ht
      rw [hu, upI_succ, intsD_cons] at e
      cases e
    · have ej : j = b.toNat := Nat.le_antisymm hj ht
      rw [← ej]
      repeat' ((fail_if_success (with_reducible refine (?_ : @Eq _ _ _))); first | ((with_reducible refine (?_ : OW fEq (D.str _) (D.str _) _)); with_reducible first | refine' OW.clT (by decide +kernel) ?_ | refine' OW.clF (by decide +kernel) ?_) | ((with_reducible refine (?_ : OW (fIn false) (D.str _) (D.tup _) _)); with_reducible first | refine' OW.clT (by decide +kernel) ?_ | refine' OW.clF (by decide +kernel) ?_) | ((with_reducible refine (?_ : IfK (@decide ((1:Int) < (List.length _ : Int)) _) _ _)); with_reducible first | refine' IfK.decT (by first | with_reducible assumption | decide) ?_ | refine' IfK.decF (by first | with_reducible assumption | decide) ?_) | (with_reducible first | refine' CK.ret ?_ | refine' SK.next ?_ | refine' SK.ret ?_ | refine' LK.next ?_ | refine' RW.nil ?_ | refine' RW.seq ?_) | ((with_reducible refine (?_ : RW _ _ _ _)); with_reducible refine' RW.lenOk (by with_unfolding_all exact rfl) ?_) | (with_reducible first | refine' SW.of ?_ | refine' PutAt.of ?_ ?_) | (with_reducible first | exact SetR.z) | (with_reducible first | refine' SetR.s3 ?_ | refine' SetR.s ?_) | (with_reducible refine (?_ : SetR _ (0 + 1) _ _)); refine SetR.s ?_ | (with_reducible first | refine' RW.asg ?_ | refine' RW.ret ?_ | refine' RW.if ?_ | refine' RW.for ?_ | refine' RW.while ?_) | (with_reducible first | refine' IfK.t ?_ | refine' IfK.f ?_ | refine' IfK.decT (by first | with_reducible assumption | with_unfolding_all omega) ?_ | refine' IfK.decF (by first | with_reducible assumption | with_unfolding_all omega) ?_ | refine' TruthK.bool ?_) | ((with_reducible refine (?_ : EW (eVar _) _ _)); with_reducible refine' EW.var (by with_unfolding_all exact rfl) ?_) | (with_reducible first | refine' EW.cst ?_ | refine' EW.e1 ?_ | refine' EW.e2 ?_ | refine' EW.call ?_ | refine' EW.tup ?_ | refine' EsW.nil ?_ | refine' EsW.cons ?_ | refine' TW.c ?_) | ((with_reducible refine (?_ : TpK _ _)); with_reducible refine' TpK.mk (by with_unfolding_all exact Nat.le_of_ble_eq_true rfl) ?_) | (with_reducible first | refine' TW.tOf ?_ | refine' TW.or ?_) | ((with_reducible refine (?_ : CW _ _ _)); with_reducible refine' CW.of (by with_reducible assumption) ?_) | ((with_reducible refine (?_ : OW _ _ _ _)); with_reducible refine' OW.of (by with_reducible assumption) ?_) | (with_reducible first | refine' OW.add ?_ | refine' OW.sub ?_ | refine' OW.ord ?_ | refine' OW.eq ?_ | refine' OW.ne ?_) | ((with_reducible refine (?_ : OW fMul _ _ _)); with_reducible refine' OW.mul (by first | with_reducible assumption | with_unfolding_all exact mulOk_sm (by omega) (by omega)) ?_) | ((with_reducible refine (?_ : OW fMod _ _ _)); with_reducible refine' OW.mod (by first | with_reducible assumption | with_unfolding_all omega) ?_) | (with_reducible first | refine' UW.neg ?_ | refine' CW.range1 ?_ | refine' CW.range2 ?_) | ((with_reducible refine (?_ : CW _ _ _)); with_reducible refine' CW.fn (by with_unfolding_all (repeat (first | exact StartsAt.nil | apply StartsAt.cons | apply StartsAt.unb))) (by with_unfolding_all exact rfl) ?_))
      rfl

theorem ok__law_down {I : GI} (hat : HatI I hd.view_39)  : ∃ d, (recsOf hd.view_39)[6]? = some d ∧ d.name = ("_law_down" : Str) ∧ ∃ G, FunOK I 1 d.name G ∧
    ∀ (a : Int), a ≤ 22 → G [.int a] = some (.int (facI a)) := by
  refine' ⟨_, rfl, rfl, _, FunOK.of 1000 (i := 6) (ns := ["a", "whole"]) (m := 1) hat rfl ⟨rfl, by decide, by decide⟩ (by decide) (fun pm cd doc => vs1 fun a => rfl) rfl rfl ?h, ?g⟩
  case h =>
    dsimp only
    repeat' ((show (_ : Prop)); first | (with_reducible first | exact OpOK.add | exact OpOK.sub | exact OpOK.mul | exact OpOK.div | exact OpOK.mod | exact OpOK.lt | exact OpOK.gt | exact OpOK.eq | exact OpOK.ne | exact EvOK.cint | exact EvOK.cstr | refine' EvOK.v (by with_unfolding_all exact rfl) (by with_unfolding_all exact rfl) (by with_unfolding_all exact rfl) (by with_unfolding_all exact rfl) | refine' EvOK.bin ?_ ?_ ?_ | refine' EvOK.cmp ?_ ?_ ?_ (by with_unfolding_all exact rfl) | refine' EvOK.neg ?_ | refine' EvOK.tup ?_ | refine' EvOK.call' (by with_unfolding_all exact rfl) (by with_unfolding_all exact rfl) (by with_unfolding_all exact rfl) (by with_unfolding_all exact fun _ => rfl) (by with_unfolding_all exact rfl) (by with_unfolding_all exact fun _ => ⟨_, _, rfl⟩) (by with_unfolding_all first | assumption | exact FunOK.le (by assumption) (by decide)) ?_ | refine' EvOK.subs ?_ ?_ (by with_unfolding_all exact fun _ _ => rfl) | exact EvsOK.nil | refine' EvsOK.cons ?_ ?_ (by with_unfolding_all exact fun _ => rfl) | refine' TrOK.cmp ?_ ?_ ?_ (by with_unfolding_all exact rfl) | exact TrOK.or0 | refine' TrOK.or ?_ ?_ | exact RunOK.nil | refine' RunOK.cons ?_ ?_ | refine' RunOK.ret ?_ | refine' RunOK.ifS ?_ ?_ ?_ | refine' RunOK.whileS ?_ ?_ | refine' RunOK.asg' (by with_unfolding_all exact rfl) (by with_unfolding_all exact fun _ => rfl) (by with_unfolding_all exact ⟨rfl, by decide, by decide⟩) ?_ | refine' RunOK.for' (by with_unfolding_all exact rfl) (by with_unfolding_all exact fun _ _ => rfl) (by with_unfolding_all exact ⟨rfl, by decide, by decide⟩) ?_ ?_))
  case g =>
    intro a ha
    refine CW.eq ?_
    repeat' ((fail_if_success (with_reducible refine (?_ : @Eq _ _ _))); first | ((with_reducible refine (?_ : OW fEq (D.str _) (D.str _) _)); with_reducible first | refine' OW.clT (by decide +kernel) ?_ | refine' OW.clF (by decide +kernel) ?_) | ((with_reducible refine (?_ : OW (fIn false) (D.str _) (D.tup _) _)); with_reducible first | refine' OW.clT (by decide +kernel) ?_ | refine' OW.clF (by decide +kernel) ?_) | ((with_reducible refine (?_ : IfK (@decide ((1:Int) < (List.length _ : Int)) _) _ _)); with_reducible first | refine' IfK.decT (by first | with_reducible assumption | decide) ?_ | refine' IfK.decF (by first | with_reducible assumption | decide) ?_) | (with_reducible first | refine' CK.ret ?_ | refine' SK.next ?_ | refine' SK.ret ?_ | refine' LK.next ?_ | refine' RW.nil ?_ | refine' RW.seq ?_) | ((with_reducible refine (?_ : RW _ _ _ _)); with_reducible refine' RW.lenOk (by with_unfolding_all exact rfl) ?_) | (with_reducible first | refine' SW.of ?_ | refine' PutAt.of ?_ ?_) | (with_reducible first | exact SetR.z) | (with_reducible first | refine' SetR.s3 ?_ | refine' SetR.s ?_) | (with_reducible refine (?_ : SetR _ (0 + 1) _ _)); refine SetR.s ?_ | (with_reducible first | refine' RW.asg ?_ | refine' RW.ret ?_ | refine' RW.if ?_ | refine' RW.for ?_ | refine' RW.while ?_) | (with_reducible first | refine' IfK.t ?_ | refine' IfK.f ?_ | refine' IfK.decT (by first | with_reducible assumption | with_unfolding_all omega) ?_ | refine' IfK.decF (by first | with_reducible assumption | with_unfolding_all omega) ?_ | refine' TruthK.bool ?_) | ((with_reducible refine (?_ : EW (eVar _) _ _)); with_reducible refine' EW.var (by with_unfolding_all exact rfl) ?_) | (with_reducible first | refine' EW.cst ?_ | refine' EW.e1 ?_ | refine' EW.e2 ?_ | refine' EW.call ?_ | refine' EW.tup ?_ | refine' EsW.nil ?_ | refine' EsW.cons ?_ | refine' TW.c ?_) | ((with_reducible refine (?_ : TpK _ _)); with_reducible refine' TpK.mk (by with_unfolding_all exact Nat.le_of_ble_eq_true rfl) ?_) | (with_reducible first | refine' TW.tOf ?_ | refine' TW.or ?_) | ((with_reducible refine (?_ : CW _ _ _)); with_reducible refine' CW.of (by with_reducible assumption) ?_) | ((with_reducible refine (?_ : OW _ _ _ _)); with_reducible refine' OW.of (by with_reducible assumption) ?_) | (with_reducible first | refine' OW.add ?_ | refine' OW.sub ?_ | refine' OW.ord ?_ | refine' OW.eq ?_ | refine' OW.ne ?_) | ((with_reducible refine (?_ : OW fMul _ _ _)); with_reducible refine' OW.mul (by first | with_reducible assumption | with_unfolding_all exact mulOk_sm (by omega) (by omega)) ?_) | ((with_reducible refine (?_ : OW fMod _ _ _)); with_reducible refine' OW.mod (by first | with_reducible assumption | with_unfolding_all omega) ?_) | (with_reducible first | refine' UW.neg ?_ | refine' CW.range1 ?_ | refine' CW.range2 ?_) | ((with_reducible refine (?_ : CW _ _ _)); with_reducible refine' CW.fn (by with_unfolding_all (repeat (first | exact StartsAt.nil | apply StartsAt.cons | apply StartsAt.unb))) (by with_unfolding_all exact rfl) ?_))
    refine WW.inv (fun k σ => ∃ z w : Int, z ≤ (k : Int) ∧ z ≤ 22 ∧ w * facI z = facI a ∧ σ = [.imm (.int z), .imm (.int w)]) (k := 22) ⟨a, 1, ha, ha, by rw [Int.one_mul], rfl⟩ (by decide) ?_
    rintro k σ ⟨z, w, hk, hz, hv, rfl⟩
    by_cases c : 1 < z
    · have m1 : mulOk w z = true := mulOk_22 c hz
      have dn := down_k c hk hz
      rw [facI_step c, ← Int.mul_assoc] at hv
      repeat' ((fail_if_success (with_reducible refine (?_ : @Eq _ _ _))); first | ((with_reducible refine (?_ : OW fEq (D.str _) (D.str _) _)); with_reducible first | refine' OW.clT (by decide +kernel) ?_ | refine' OW.clF (by decide +kernel) ?_) | ((with_reducible refine (?_ : OW (fIn false) (D.str _) (D.tup _) _)); with_reducible first | refine' OW.clT (by decide +kernel) ?_ | refine' OW.clF (by decide +kernel) ?_) | ((with_reducible refine (?_ : IfK (@decide ((1:Int) < (List.length _ : Int)) _) _ _)); with_reducible first | refine' IfK.decT (by first | with_reducible assumption | decide) ?_ | refine' IfK.decF (by first | with_reducible assumption | decide) ?_) | (with_reducible first | refine' CK.ret ?_ | refine' SK.next ?_ | refine' SK.ret ?_ | refine' LK.next ?_ | refine' RW.nil ?_ | refine' RW.seq ?_) | ((with_reducible refine (?_ : RW _ _ _ _)); with_reducible refine' RW.lenOk (by with_unfolding_all exact rfl) ?_) | (with_reducible first | refine' SW.of ?_ | refine' PutAt.of ?_ ?_) | (with_reducible first | exact SetR.z) | (with_reducible first | refine' SetR.s3 ?_ | refine' SetR.s ?_) | (with_reducible refine (?_ : SetR _ (0 + 1) _ _)); refine SetR.s ?_ | (with_reducible first | refine' RW.asg ?_ | refine' RW.ret ?_ | refine' RW.if ?_ | refine' RW.for ?_ | refine' RW.while ?_) | (with_reducible first | refine' IfK.t ?_ | refine' IfK.f ?_ | refine' IfK.decT (by first | with_reducible assumption | with_unfolding_all omega) ?_ | refine' IfK.decF (by first | with_reducible assumption | with_unfolding_all omega) ?_ | refine' TruthK.bool ?_) | ((with_reducible refine (?_ : EW (eVar _) _ _)); with_reducible refine' EW.var (by with_unfolding_all exact rfl) ?_) | (with_reducible first | refine' EW.cst ?_ | refine' EW.e1 ?_ | refine' EW.e2 ?_ | refine' EW.call ?_ | refine' EW.tup ?_ | refine' EsW.nil ?_ | refine' EsW.cons ?_ | refine' TW.c ?_) | ((with_reducible refine (?_ : TpK _ _)); with_reducible refine' TpK.mk (by with_unfolding_all exact Nat.le_of_ble_eq_true rfl) ?_) | (with_reducible first | refine' TW.tOf ?_ | refine' TW.or ?_) | ((with_reducible refine (?_ : CW _ _ _)); with_reducible refine' CW.of (by with_reducible assumption) ?_) | ((with_reducible refine (?_ : OW _ _ _ _)); with_reducible refine' OW.of (by with_reducible assumption) ?_) | (with_reducible first | refine' OW.add ?_ | refine' OW.sub ?_ | refine' OW.ord ?_ | refine' OW.eq ?_ | refine' OW.ne ?_) | ((with_reducible refine (?_ : OW fMul _ _ _)); with_reducible refine' OW.mul (by first | with_reducible assumption | with_unfolding_all exact mulOk_sm (by omega) (by omega)) ?_) | ((with_reducible refine (?_ : OW fMod _ _ _)); with_reducible refine' OW.mod (by first | with_reducible assumption | with_unfolding_all omega) ?_) | (with_reducible first | refine' UW.neg ?_ | refine' CW.range1 ?_ | refine' CW.range2 ?_) | ((with_reducible refine (?_ : CW _ _ _)); with_reducible refine' CW.fn (by with_unfolding_all (repeat (first | exact StartsAt.nil | apply StartsAt.cons | apply StartsAt.unb))) (by with_unfolding_all exact rfl) ?_))
      exact ⟨k - 1, dn.1, z - 1, w * z, dn.2.1, dn.2.2, hv, rfl⟩
    · rw [facI_low (Int.not_lt.mp c), Int.mul_one] at hv
      repeat' ((fail_if_success (with_reducible refine (?_ : @Eq _ _ _))); first | ((with_reducible refine (?_ : OW fEq (D.str _) (D.str _) _)); with_reducible first | refine' OW.clT (by decide +kernel) ?_ | refine' OW.clF (by decide +kernel) ?_) | ((with_reducible refine (?_ : OW (fIn false) (D.str _) (D.tup _) _)); with_reducible first | refine' OW.clT (by decide +kernel) ?_ | refine' OW.clF (by decide +kernel) ?_) | ((with_reducible refine (?_ : IfK (@decide ((1:Int) < (List.length _ : Int)) _) _ _)); with_reducible first | refine' IfK.decT (by first | with_reducible assumption | decide) ?_ | refine' IfK.decF (by first | with_reducible assumption | decide) ?_) | (with_reducible first | refine' CK.ret ?_ | refine' SK.next ?_ | refine' SK.ret ?_ | refine' LK.next ?_ | refine' RW.nil ?_ | refine' RW.seq ?_) | ((with_reducible refine (?_ : RW _ _ _ _)); with_reducible refine' RW.lenOk (by with_unfolding_all exact rfl) ?_) | (with_reducible first | refine' SW.of ?_ | refine' PutAt.of ?_ ?_) | (with_reducible first | exact SetR.z) | (with_reducible first | refine' SetR.s3 ?_ | refine' SetR.s ?_) | (with_reducible refine (?_ : SetR _ (0 + 1) _ _)); refine SetR.s ?_ | (with_reducible first | refine' RW.asg ?_ | refine' RW.ret ?_ | refine' RW.if ?_ | refine' RW.for ?_ | refine' RW.while ?_) | (with_reducible first | refine' IfK.t ?_ | refine' IfK.f ?_ | refine' IfK.decT (by first | with_reducible assumption | with_unfolding_all omega) ?_ | refine' IfK.decF (by first | with_reducible assumption | with_unfolding_all omega) ?_ | refine' TruthK.bool ?_) | ((with_reducible refine (?_ : EW (eVar _) _ _)); with_reducible refine' EW.var (by with_unfolding_all exact rfl) ?_) | (with_reducible first | refine' EW.cst ?_ | refine' EW.e1 ?_ | refine' EW.e2 ?_ | refine' EW.call ?_ | refine' EW.tup ?_ | refine' EsW.nil ?_ | refine' EsW.cons ?_ | refine' TW.c ?_) | ((with_reducible refine (?_ : TpK _ _)); with_reducible refine' TpK.mk (by with_unfolding_all exact Nat.le_of_ble_eq_true rfl) ?_) | (with_reducible first | refine' TW.tOf ?_ | refine' TW.or ?_) | ((with_reducible refine (?_ : CW _ _ _)); with_reducible refine' CW.of (by with_reducible assumption) ?_) | ((with_reducible refine (?_ : OW _ _ _ _)); with_reducible refine' OW.of (by with_reducible assumption) ?_) | (with_reducible first | refine' OW.add ?_ | refine' OW.sub ?_ | refine' OW.ord ?_ | refine' OW.eq ?_ | refine' OW.ne ?_) | ((with_reducible refine (?_ : OW fMul _ _ _)); with_reducible refine' OW.mul (by first | with_reducible assumption | with_unfolding_all exact mulOk_sm (by omega) (by omega)) ?_) | ((with_reducible refine (?_ : OW fMod _ _ _)); with_reducible refine' OW.mod (by first | with_reducible assumption | with_unfolding_all omega) ?_) | (with_reducible first | refine' UW.neg ?_ | refine' CW.range1 ?_ | refine' CW.range2 ?_) | ((with_reducible refine (?_ : CW _ _ _)); with_reducible refine' CW.fn (by with_unfolding_all (repeat (first | exact StartsAt.nil | apply StartsAt.cons | apply StartsAt.unb))) (by with_unfolding_all exact rfl) ?_))
      rw [hv]

theorem ok__law_primes {I : GI} (hat : HatI I hd.view_39) (hrange : FunOK I 0 ("range" : Str) fRange) : ∃ d, (recsOf hd.view_39)[7]? = some d ∧ d.name = ("_law_primes" : Str) ∧ ∃ G, FunOK I 1 d.name G ∧
    ∀ (m : Int), m ≤ 22 → G [.int m] = some (.int (prmI m)) := by
  refine' ⟨_, rfl, rfl, _, FunOK.of 1000 (i := 7) (ns := ["a", "whole", "n", "least"]) (m := 1) hat rfl ⟨rfl, by decide, by decide⟩ (by decide) (fun pm cd doc => vs1 fun a => rfl) rfl rfl ?h, ?g⟩
  case h =>
    dsimp only
    repeat' ((show (_ : Prop)); first | (with_reducible first | exact OpOK.add | exact OpOK.sub | exact OpOK.mul | exact OpOK.div | exact OpOK.mod | exact OpOK.lt | exact OpOK.gt | exact OpOK.eq | exact OpOK.ne | exact EvOK.cint | exact EvOK.cstr | refine' EvOK.v (by with_unfolding_all exact rfl) (by with_unfolding_all exact rfl) (by with_unfolding_all exact rfl) (by with_unfolding_all exact rfl) | refine' EvOK.bin ?_ ?_ ?_ | refine' EvOK.cmp ?_ ?_ ?_ (by with_unfolding_all exact rfl) | refine' EvOK.neg ?_ | refine' EvOK.tup ?_ | refine' EvOK.call' (by with_unfolding_all exact rfl) (by with_unfolding_all exact rfl) (by with_unfolding_all exact rfl) (by with_unfolding_all exact fun _ => rfl) (by with_unfolding_all exact rfl) (by with_unfolding_all exact fun _ => ⟨_, _, rfl⟩) (by with_unfolding_all first | assumption | exact FunOK.le (by assumption) (by decide)) ?_ | refine' EvOK.subs ?_ ?_ (by with_unfolding_all exact fun _ _ => rfl) | exact EvsOK.nil | refine' EvsOK.cons ?_ ?_ (by with_unfolding_all exact fun _ => rfl) | refine' TrOK.cmp ?_ ?_ ?_ (by with_unfolding_all exact rfl) | exact TrOK.or0 | refine' TrOK.or ?_ ?_ | exact RunOK.nil | refine' RunOK.cons ?_ ?_ | refine' RunOK.ret ?_ | refine' RunOK.ifS ?_ ?_ ?_ | refine' RunOK.whileS ?_ ?_ | refine' RunOK.asg' (by with_unfolding_all exact rfl) (by with_unfolding_all exact fun _ => rfl) (by with_unfolding_all exact ⟨rfl, by decide, by decide⟩) ?_ | refine' RunOK.for' (by with_unfolding_all exact rfl) (by with_unfolding_all exact fun _ _ => rfl) (by with_unfolding_all exact ⟨rfl, by decide, by decide⟩) ?_ ?_))
  case g =>
    intro m l2
    rw [← lpr_prm l2]
    refine CW.eq ?_
    obtain ⟨U, hU⟩ : ∃ U, m.toNat - 1 = U := ⟨_, rfl⟩
    have hU1 : (m + 1 - 2).toNat = U := (up2 m).trans hU
    have hU2 : U ≤ 21 := hU ▸ Nat.sub_le_sub_right (Int.toNat_le.mpr (show m ≤ ((22 : Nat) : Int) from l2)) 1
    rw [hU]
    repeat' ((fail_if_success (with_reducible refine (?_ : @Eq _ _ _))); first | ((with_reducible refine (?_ : OW fEq (D.str _) (D.str _) _)); with_reducible first | refine' OW.clT (by decide +kernel) ?_ | refine' OW.clF (by decide +kernel) ?_) | ((with_reducible refine (?_ : OW (fIn false) (D.str _) (D.tup _) _)); with_reducible first | refine' OW.clT (by decide +kernel) ?_ | refine' OW.clF (by decide +kernel) ?_) | ((with_reducible refine (?_ : IfK (@decide ((1:Int) < (List.length _ : Int)) _) _ _)); with_reducible first | refine' IfK.decT (by first | with_reducible assumption | decide) ?_ | refine' IfK.decF (by first | with_reducible assumption | decide) ?_) | (with_reducible first | refine' CK.ret ?_ | refine' SK.next ?_ | refine' SK.ret ?_ | refine' LK.next ?_ | refine' RW.nil ?_ | refine' RW.seq ?_) | ((with_reducible refine (?_ : RW _ _ _ _)); with_reducible refine' RW.lenOk (by with_unfolding_all exact rfl) ?_) | (with_reducible first | refine' SW.of ?_ | refine' PutAt.of ?_ ?_) | (with_reducible first | exact SetR.z) | (with_reducible first | refine' SetR.s3 ?_ | refine' SetR.s ?_) | (with_reducible refine (?_ : SetR _ (0 + 1) _ _)); refine SetR.s ?_ | (with_reducible first | refine' RW.asg ?_ | refine' RW.ret ?_ | refine' RW.if ?_ | refine' RW.for ?_ | refine' RW.while ?_) | (with_reducible first | refine' IfK.t ?_ | refine' IfK.f ?_ | refine' IfK.decT (by first | with_reducible assumption | with_unfolding_all omega) ?_ | refine' IfK.decF (by first | with_reducible assumption | with_unfolding_all omega) ?_ | refine' TruthK.bool ?_) | ((with_reducible refine (?_ : EW (eVar _) _ _)); with_reducible refine' EW.var (by with_unfolding_all exact rfl) ?_) | (with_reducible first | refine' EW.cst ?_ | refine' EW.e1 ?_ | refine' EW.e2 ?_ | refine' EW.call ?_ | refine' EW.tup ?_ | refine' EsW.nil ?_ | refine' EsW.cons ?_ | refine' TW.c ?_) | ((with_reducible refine (?_ : TpK _ _)); with_reducible refine' TpK.mk (by with_unfolding_all exact Nat.le_of_ble_eq_true rfl) ?_) | (with_reducible first | refine' TW.tOf ?_ | refine' TW.or ?_) | ((with_reducible refine (?_ : CW _ _ _)); with_reducible refine' CW.of (by with_reducible assumption) ?_) | ((with_reducible refine (?_ : OW _ _ _ _)); with_reducible refine' OW.of (by with_reducible assumption) ?_) | (with_reducible first | refine' OW.add ?_ | refine' OW.sub ?_ | refine' OW.ord ?_ | refine' OW.eq ?_ | refine' OW.ne ?_) | ((with_reducible refine (?_ : OW fMul _ _ _)); with_reducible refine' OW.mul (by first | with_reducible assumption | with_unfolding_all exact mulOk_sm (by omega) (by omega)) ?_) | ((with_reducible refine (?_ : OW fMod _ _ _)); with_reducible refine' OW.mod (by first | with_reducible assumption | with_unfolding_all omega) ?_) | (with_reducible first | refine' UW.neg ?_ | refine' CW.range1 ?_ | refine' CW.range2 ?_) | ((with_reducible refine (?_ : CW _ _ _)); with_reducible refine' CW.fn (by with_unfolding_all (repeat (first | exact StartsAt.nil | apply StartsAt.cons | apply StartsAt.unb))) (by with_unfolding_all exact rfl) ?_))
    refine ForK.of rfl (items_rngB (a := 2) (b := m + 1) (by rw [hU1]; exact Nat.le_trans hU2 (by decide))) (LW.inv (fun ds σ => ∃ (T : Nat) (s1 s2 : Slot), T ≤ U ∧ ds = intsD (upI ((T : Int) + 2) (U - T)) ∧ σ = [.imm (.int m), .imm (.int (prodI (natI (lpr T)))), s1, s2]) ⟨0, _, _, Nat.zero_le _, by rw [hU1]; rfl, rfl⟩ ?_ ?_)
    · rintro d' ds σ ⟨T, s1, s2, hT, e, rfl⟩
      clear hU hU1
      rcases Nat.lt_or_ge T U with ht | ht
      · obtain ⟨u, hu, hu2⟩ := sub_next ht
        rw [hu, upI_succ, intsD_cons] at e
        cases e
        clear hu
        have nx : (T : Int) + 2 + 1 = ((T + 1 : Nat) : Int) + 2 := Int.add_right_comm (T : Int) 2 1
        have nT : (T : Int) + 2 = ((T + 2 : Nat) : Int) := rfl
        have m1 : mulOk (prodI (natI (lpr T))) ((T : Int) + 2) = true := mulOk_nat (n := T + 2) (Nat.le_trans (Nat.add_le_add_right (Nat.le_trans hT hU2) 2) (by decide))
        refine ⟨rfl, ?_⟩
        repeat' ((fail_if_success (with_reducible refine (?_ : @Eq _ _ _))); first | ((with_reducible refine (?_ : OW fEq (D.str _) (D.str _) _)); with_reducible first | refine' OW.clT (by decide +kernel) ?_ | refine' OW.clF (by decide +kernel) ?_) | ((with_reducible refine (?_ : OW (fIn false) (D.str _) (D.tup _) _)); with_reducible first | refine' OW.clT (by decide +kernel) ?_ | refine' OW.clF (by decide +kernel) ?_) | ((with_reducible refine (?_ : IfK (@decide ((1:Int) < (List.length _ : Int)) _) _ _)); with_reducible first | refine' IfK.decT (by first | with_reducible assumption | decide) ?_ | refine' IfK.decF (by first | with_reducible assumption | decide) ?_) | (with_reducible first | refine' CK.ret ?_ | refine' SK.next ?_ | refine' SK.ret ?_ | refine' LK.next ?_ | refine' RW.nil ?_ | refine' RW.seq ?_) | ((with_reducible refine (?_ : RW _ _ _ _)); with_reducible refine' RW.lenOk (by with_unfolding_all exact rfl) ?_) | (with_reducible first | refine' SW.of ?_ | refine' PutAt.of ?_ ?_) | (with_reducible first | exact SetR.z) | (with_reducible first | refine' SetR.s3 ?_ | refine' SetR.s ?_) | (with_reducible refine (?_ : SetR _ (0 + 1) _ _)); refine SetR.s ?_ | (with_reducible first | refine' RW.asg ?_ | refine' RW.ret ?_ | refine' RW.if ?_ | refine' RW.for ?_ | refine' RW.while ?_) | (with_reducible first | refine' IfK.t ?_ | refine' IfK.f ?_ | refine' IfK.decT (by first | with_reducible assumption | with_unfolding_all omega) ?_ | refine' IfK.decF (by first | with_reducible assumption | with_unfolding_all omega) ?_ | refine' TruthK.bool ?_) | ((with_reducible refine (?_ : EW (eVar _) _ _)); with_reducible refine' EW.var (by with_unfolding_all exact rfl) ?_) | (with_reducible first | refine' EW.cst ?_ | refine' EW.e1 ?_ | refine' EW.e2 ?_ | refine' EW.call ?_ | refine' EW.tup ?_ | refine' EsW.nil ?_ | refine' EsW.cons ?_ | refine' TW.c ?_) | ((with_reducible refine (?_ : TpK _ _)); with_reducible refine' TpK.mk (by with_unfolding_all exact Nat.le_of_ble_eq_true rfl) ?_) | (with_reducible first | refine' TW.tOf ?_ | refine' TW.or ?_) | ((with_reducible refine (?_ : CW _ _ _)); with_reducible refine' CW.of (by with_reducible assumption) ?_) | ((with_reducible refine (?_ : OW _ _ _ _)); with_reducible refine' OW.of (by with_reducible assumption) ?_) | (with_reducible first | refine' OW.add ?_ | refine' OW.sub ?_ | refine' OW.ord ?_ | refine' OW.eq ?_ | refine' OW.ne ?_) | ((with_reducible refine (?_ : OW fMul _ _ _)); with_reducible refine' OW.mul (by first | with_reducible assumption | with_unfolding_all exact mulOk_sm (by omega) (by omega)) ?_) | ((with_reducible refine (?_ : OW fMod _ _ _)); with_reducible refine' OW.mod (by first | with_reducible assumption | with_unfolding_all omega) ?_) | (with_reducible first | refine' UW.neg ?_ | refine' CW.range1 ?_ | refine' CW.range2 ?_) | ((with_reducible refine (?_ : CW _ _ _)); with_reducible refine' CW.fn (by with_unfolding_all (repeat (first | exact StartsAt.nil | apply StartsAt.cons | apply StartsAt.unb))) (by with_unfolding_all exact rfl) ?_))
        refine WW.inv (fun k σ => ∃ j : Nat, 2 ≤ j ∧ j ≤ T + 2 ∧ k + j = T + 2 ∧ (∀ d, 2 ≤ d → d < j → (T + 2) % d ≠ 0) ∧ σ = [.imm (.int m), .imm (.int (prodI (natI (lpr T)))), .imm (.int ((T : Int) + 2)), .imm (.int (j : Nat))]) (k := T) ⟨2, by decide, Nat.le_add_left 2 T, rfl, fun d a b => absurd b (Nat.not_lt.mpr a), rfl⟩ (Nat.lt_of_le_of_lt (Nat.le_trans hT hU2) (by decide)) ?_
        rintro k σ ⟨j, j1, j2, jk, hj, rfl⟩
        have j0 : (j : Int) ≠ 0 := Int.natCast_ne_zero.mpr (Nat.ne_of_gt (Nat.lt_of_lt_of_le (by decide) j1))
        have em : ((T : Int) + 2).fmod (j : Int) = (((T + 2) % j : Nat) : Int) := by rw [nT, fmod_nat]
        by_cases c : (T + 2) % j = 0
        · have c' : ¬ ((T : Int) + 2).fmod (j : Int) ≠ 0 := by rw [em, c]; simp
          repeat' ((fail_if_success (with_reducible refine (?_ : @Eq _ _ _))); first | ((with_reducible refine (?_ : OW fEq (D.str _) (D.str _) _)); with_reducible first | refine' OW.clT (by decide +kernel) ?_ | refine' OW.clF (by decide +kernel) ?_) | ((with_reducible refine (?_ : OW (fIn false) (D.str _) (D.tup _) _)); with_reducible first | refine' OW.clT (by decide +kernel) ?_ | refine' OW.clF (by decide +kernel) ?_) | ((with_reducible refine (?_ : IfK (@decide ((1:Int) < (List.length _ : Int)) _) _ _)); with_reducible first | refine' IfK.decT (by first | with_reducible assumption | decide) ?_ | refine' IfK.decF (by first | with_reducible assumption | decide) ?_) | (with_reducible first | refine' CK.ret ?_ | refine' SK.next ?_ | refine' SK.ret ?_ | refine' LK.next ?_ | refine' RW.nil ?_ | refine' RW.seq ?_) | ((with_reducible refine (?_ : RW _ _ _ _)); with_reducible refine' RW.lenOk (by with_unfolding_all exact rfl) ?_) | (with_reducible first | refine' SW.of ?_ | refine' PutAt.of ?_ ?_) | (with_reducible first | exact SetR.z) | (with_reducible first | refine' SetR.s3 ?_ | refine' SetR.s ?_) | (with_reducible refine (?_ : SetR _ (0 + 1) _ _)); refine SetR.s ?_ | (with_reducible first | refine' RW.asg ?_ | refine' RW.ret ?_ | refine' RW.if ?_ | refine' RW.for ?_ | refine' RW.while ?_) | (with_reducible first | refine' IfK.t ?_ | refine' IfK.f ?_ | refine' IfK.decT (by first | with_reducible assumption | with_unfolding_all omega) ?_ | refine' IfK.decF (by first | with_reducible assumption | with_unfolding_all omega) ?_ | refine' TruthK.bool ?_) | ((with_reducible refine (?_ : EW (eVar _) _ _)); with_reducible refine' EW.var (by with_unfolding_all exact rfl) ?_) | (with_reducible first | refine' EW.cst ?_ | refine' EW.e1 ?_ | refine' EW.e2 ?_ | refine' EW.call ?_ | refine' EW.tup ?_ | refine' EsW.nil ?_ | refine' EsW.cons ?_ | refine' TW.c ?_) | ((with_reducible refine (?_ : TpK _ _)); with_reducible refine' TpK.mk (by with_unfolding_all exact Nat.le_of_ble_eq_true rfl) ?_) | (with_reducible first | refine' TW.tOf ?_ | refine' TW.or ?_) | ((with_reducible refine (?_ : CW _ _ _)); with_reducible refine' CW.of (by with_reducible assumption) ?_) | ((with_reducible refine (?_ : OW _ _ _ _)); with_reducible refine' OW.of (by with_reducible assumption) ?_) | (with_reducible first | refine' OW.add ?_ | refine' OW.sub ?_ | refine' OW.ord ?_ | refine' OW.eq ?_ | refine' OW.ne ?_) | ((with_reducible refine (?_ : OW fMul _ _ _)); with_reducible refine' OW.mul (by first | with_reducible assumption | with_unfolding_all exact mulOk_sm (by omega) (by omega)) ?_) | ((with_reducible refine (?_ : OW fMod _ _ _)); with_reducible refine' OW.mod (by first | with_reducible assumption | with_unfolding_all omega) ?_) | (with_reducible first | refine' UW.neg ?_ | refine' CW.range1 ?_ | refine' CW.range2 ?_) | ((with_reducible refine (?_ : CW _ _ _)); with_reducible refine' CW.fn (by with_unfolding_all (repeat (first | exact StartsAt.nil | apply StartsAt.cons | apply StartsAt.unb))) (by with_unfolding_all exact rfl) ?_))
          by_cases cj : (j : Int) = (T : Int) + 2
          · have hp : isPr (T + 2) = true := by
              unfold isPr
              rw [List.all_eq_true]
              intro d hd
              have hd' := List.mem_range.mp hd
              by_cases d2 : d < 2
              · simp [d2]
              · have := hj d (Nat.not_lt.mp d2) ((Int.ofNat.inj cj : j = T + 2) ▸ hd')
                simp [this]
            have el : prodI (natI (lpr (T + 1))) = prodI (natI (lpr T)) * ((T : Int) + 2) := by
              rw [lpr, lprS, if_pos hp]
              unfold natI
              rw [List.map_append, prodI_append]
              congr 1
              show prodI [((T + 2 : Nat) : Int)] = _
              rw [prodI_cons, prodI_nil, Int.mul_one]; rfl
            repeat' ((fail_if_success (with_reducible refine (?_ : @Eq _ _ _))); first | ((with_reducible refine (?_ : OW fEq (D.str _) (D.str _) _)); with_reducible first | refine' OW.clT (by decide +kernel) ?_ | refine' OW.clF (by decide +kernel) ?_) | ((with_reducible refine (?_ : OW (fIn false) (D.str _) (D.tup _) _)); with_reducible first | refine' OW.clT (by decide +kernel) ?_ | refine' OW.clF (by decide +kernel) ?_) | ((with_reducible refine (?_ : IfK (@decide ((1:Int) < (List.length _ : Int)) _) _ _)); with_reducible first | refine' IfK.decT (by first | with_reducible assumption | decide) ?_ | refine' IfK.decF (by first | with_reducible assumption | decide) ?_) | (with_reducible first | refine' CK.ret ?_ | refine' SK.next ?_ | refine' SK.ret ?_ | refine' LK.next ?_ | refine' RW.nil ?_ | refine' RW.seq ?_) | ((with_reducible refine (?_ : RW _ _ _ _)); with_reducible refine' RW.lenOk (by with_unfolding_all exact rfl) ?_) | (with_reducible first | refine' SW.of ?_ | refine' PutAt.of ?_ ?_) | (with_reducible first | exact SetR.z) | (with_reducible first | refine' SetR.s3 ?_ | refine' SetR.s ?_) | (with_reducible refine (?_ : SetR _ (0 + 1) _ _)); refine SetR.s ?_ | (with_reducible first | refine' RW.asg ?_ | refine' RW.ret ?_ | refine' RW.if ?_ | refine' RW.for ?_ | refine' RW.while ?_) | (with_reducible first | refine' IfK.t ?_ | refine' IfK.f ?_ | refine' IfK.decT (by first | with_reducible assumption | with_unfolding_all omega) ?_ | refine' IfK.decF (by first | with_reducible assumption | with_unfolding_all omega) ?_ | refine' TruthK.bool ?_) | ((with_reducible refine (?_ : EW (eVar _) _ _)); with_reducible refine' EW.var (by with_unfolding_all exact rfl) ?_) | (with_reducible first | refine' EW.cst ?_ | refine' EW.e1 ?_ | refine' EW.e2 ?_ | refine' EW.call ?_ | refine' EW.tup ?_ | refine' EsW.nil ?_ | refine' EsW.cons ?_ | refine' TW.c ?_) | ((with_reducible refine (?_ : TpK _ _)); with_reducible refine' TpK.mk (by with_unfolding_all exact Nat.le_of_ble_eq_true rfl) ?_) | (with_reducible first | refine' TW.tOf ?_ | refine' TW.or ?_) | ((with_reducible refine (?_ : CW _ _ _)); with_reducible refine' CW.of (by with_reducible assumption) ?_) | ((with_reducible refine (?_ : OW _ _ _ _)); with_reducible refine' OW.of (by with_reducible assumption) ?_) | (with_reducible first | refine' OW.add ?_ | refine' OW.sub ?_ | refine' OW.ord ?_ | refine' OW.eq ?_ | refine' OW.ne ?_) | ((with_reducible refine (?_ : OW fMul _ _ _)); with_reducible refine' OW.mul (by first | with_reducible assumption | with_unfolding_all exact mulOk_sm (by omega) (by omega)) ?_) | ((with_reducible refine (?_ : OW fMod _ _ _)); with_reducible refine' OW.mod (by first | with_reducible assumption | with_unfolding_all omega) ?_) | (with_reducible first | refine' UW.neg ?_ | refine' CW.range1 ?_ | refine' CW.range2 ?_) | ((with_reducible refine (?_ : CW _ _ _)); with_reducible refine' CW.fn (by with_unfolding_all (repeat (first | exact StartsAt.nil | apply StartsAt.cons | apply StartsAt.unb))) (by with_unfolding_all exact rfl) ?_))
            exact ⟨T + 1, .imm (.int ((T : Int) + 2)), .imm (.int (j : Nat)), ht, by rw [nx, hu2], by rw [el]⟩
          · have hp : ¬ isPr (T + 2) = true := by
              intro hp
              unfold isPr at hp
              rw [List.all_eq_true] at hp
              have := hp j (List.mem_range.mpr (Nat.lt_of_le_of_ne j2 fun q => cj (by rw [q]; rfl)))
              have d2 : ¬ j < 2 := Nat.not_lt.mpr j1
              simp [d2, c] at this
            have el : lpr (T + 1) = lpr T := by rw [lpr, lprS, if_neg hp]
            repeat' ((fail_if_success (with_reducible refine (?_ : @Eq _ _ _))); first | ((with_reducible refine (?_ : OW fEq (D.str _) (D.str _) _)); with_reducible first | refine' OW.clT (by decide +kernel) ?_ | refine' OW.clF (by decide +kernel) ?_) | ((with_reducible refine (?_ : OW (fIn false) (D.str _) (D.tup _) _)); with_reducible first | refine' OW.clT (by decide +kernel) ?_ | refine' OW.clF (by decide +kernel) ?_) | ((with_reducible refine (?_ : IfK (@decide ((1:Int) < (List.length _ : Int)) _) _ _)); with_reducible first | refine' IfK.decT (by first | with_reducible assumption | decide) ?_ | refine' IfK.decF (by first | with_reducible assumption | decide) ?_) | (with_reducible first | refine' CK.ret ?_ | refine' SK.next ?_ | refine' SK.ret ?_ | refine' LK.next ?_ | refine' RW.nil ?_ | refine' RW.seq ?_) | ((with_reducible refine (?_ : RW _ _ _ _)); with_reducible refine' RW.lenOk (by with_unfolding_all exact rfl) ?_) | (with_reducible first | refine' SW.of ?_ | refine' PutAt.of ?_ ?_) | (with_reducible first | exact SetR.z) | (with_reducible first | refine' SetR.s3 ?_ | refine' SetR.s ?_) | (with_reducible refine (?_ : SetR _ (0 + 1) _ _)); refine SetR.s ?_ | (with_reducible first | refine' RW.asg ?_ | refine' RW.ret ?_ | refine' RW.if ?_ | refine' RW.for ?_ | refine' RW.while ?_) | (with_reducible first | refine' IfK.t ?_ | refine' IfK.f ?_ | refine' IfK.decT (by first | with_reducible assumption | with_unfolding_all omega) ?_ | refine' IfK.decF (by first | with_reducible assumption | with_unfolding_all omega) ?_ | refine' TruthK.bool ?_) | ((with_reducible refine (?_ : EW (eVar _) _ _)); with_reducible refine' EW.var (by with_unfolding_all exact rfl) ?_) | (with_reducible first | refine' EW.cst ?_ | refine' EW.e1 ?_ | refine' EW.e2 ?_ | refine' EW.call ?_ | refine' EW.tup ?_ | refine' EsW.nil ?_ | refine' EsW.cons ?_ | refine' TW.c ?_) | ((with_reducible refine (?_ : TpK _ _)); with_reducible refine' TpK.mk (by with_unfolding_all exact Nat.le_of_ble_eq_true rfl) ?_) | (with_reducible first | refine' TW.tOf ?_ | refine' TW.or ?_) | ((with_reducible refine (?_ : CW _ _ _)); with_reducible refine' CW.of (by with_reducible assumption) ?_) | ((with_reducible refine (?_ : OW _ _ _ _)); with_reducible refine' OW.of (by with_reducible assumption) ?_) | (with_reducible first | refine' OW.add ?_ | refine' OW.sub ?_ | refine' OW.ord ?_ | refine' OW.eq ?_ | refine' OW.ne ?_) | ((with_reducible refine (?_ : OW fMul _ _ _)); with_reducible refine' OW.mul (by first | with_reducible assumption | with_unfolding_all exact mulOk_sm (by omega) (by omega)) ?_) | ((with_reducible refine (?_ : OW fMod _ _ _)); with_reducible refine' OW.mod (by first | with_reducible assumption | with_unfolding_all omega) ?_) | (with_reducible first | refine' UW.neg ?_ | refine' CW.range1 ?_ | refine' CW.range2 ?_) | ((with_reducible refine (?_ : CW _ _ _)); with_reducible refine' CW.fn (by with_unfolding_all (repeat (first | exact StartsAt.nil | apply StartsAt.cons | apply StartsAt.unb))) (by with_unfolding_all exact rfl) ?_))
            exact ⟨T + 1, .imm (.int ((T : Int) + 2)), .imm (.int (j : Nat)), ht, by rw [nx, hu2], by rw [el]⟩
        · have c' : ((T : Int) + 2).fmod (j : Int) ≠ 0 := by rw [em]; exact Int.natCast_ne_zero.mpr c
          have jn : j ≠ T + 2 := fun q => c (by rw [q]; exact Nat.mod_self _)
          repeat' ((fail_if_success (with_reducible refine (?_ : @Eq _ _ _))); first | ((with_reducible refine (?_ : OW fEq (D.str _) (D.str _) _)); with_reducible first | refine' OW.clT (by decide +kernel) ?_ | refine' OW.clF (by decide +kernel) ?_) | ((with_reducible refine (?_ : OW (fIn false) (D.str _) (D.tup _) _)); with_reducible first | refine' OW.clT (by decide +kernel) ?_ | refine' OW.clF (by decide +kernel) ?_) | ((with_reducible refine (?_ : IfK (@decide ((1:Int) < (List.length _ : Int)) _) _ _)); with_reducible first | refine' IfK.decT (by first | with_reducible assumption | decide) ?_ | refine' IfK.decF (by first | with_reducible assumption | decide) ?_) | (with_reducible first | refine' CK.ret ?_ | refine' SK.next ?_ | refine' SK.ret ?_ | refine' LK.next ?_ | refine' RW.nil ?_ | refine' RW.seq ?_) | ((with_reducible refine (?_ : RW _ _ _ _)); with_reducible refine' RW.lenOk (by with_unfolding_all exact rfl) ?_) | (with_reducible first | refine' SW.of ?_ | refine' PutAt.of ?_ ?_) | (with_reducible first | exact SetR.z) | (with_reducible first | refine' SetR.s3 ?_ | refine' SetR.s ?_) | (with_reducible refine (?_ : SetR _ (0 + 1) _ _)); refine SetR.s ?_ | (with_reducible first | refine' RW.asg ?_ | refine' RW.ret ?_ | refine' RW.if ?_ | refine' RW.for ?_ | refine' RW.while ?_) | (with_reducible first | refine' IfK.t ?_ | refine' IfK.f ?_ | refine' IfK.decT (by first | with_reducible assumption | with_unfolding_all omega) ?_ | refine' IfK.decF (by first | with_reducible assumption | with_unfolding_all omega) ?_ | refine' TruthK.bool ?_) | ((with_reducible refine (?_ : EW (eVar _) _ _)); with_reducible refine' EW.var (by with_unfolding_all exact rfl) ?_) | (with_reducible first | refine' EW.cst ?_ | refine' EW.e1 ?_ | refine' EW.e2 ?_ | refine' EW.call ?_ | refine' EW.tup ?_ | refine' EsW.nil ?_ | refine' EsW.cons ?_ | refine' TW.c ?_) | ((with_reducible refine (?_ : TpK _ _)); with_reducible refine' TpK.mk (by with_unfolding_all exact Nat.le_of_ble_eq_true rfl) ?_) | (with_reducible first | refine' TW.tOf ?_ | refine' TW.or ?_) | ((with_reducible refine (?_ : CW _ _ _)); with_reducible refine' CW.of (by with_reducible assumption) ?_) | ((with_reducible refine (?_ : OW _ _ _ _)); with_reducible refine' OW.of (by with_reducible assumption) ?_) | (with_reducible first | refine' OW.add ?_ | refine' OW.sub ?_ | refine' OW.ord ?_ | refine' OW.eq ?_ | refine' OW.ne ?_) | ((with_reducible refine (?_ : OW fMul _ _ _)); with_reducible refine' OW.mul (by first | with_reducible assumption | with_unfolding_all exact mulOk_sm (by omega) (by omega)) ?_) | ((with_reducible refine (?_ : OW fMod _ _ _)); with_reducible refine' OW.mod (by first | with_reducible assumption | with_unfolding_all omega) ?_) | (with_reducible first | refine' UW.neg ?_ | refine' CW.range1 ?_ | refine' CW.range2 ?_) | ((with_reducible refine (?_ : CW _ _ _)); with_reducible refine' CW.fn (by with_unfolding_all (repeat (first | exact StartsAt.nil | apply StartsAt.cons | apply StartsAt.unb))) (by with_unfolding_all exact rfl) ?_))
          refine ⟨k - 1, (step_k jk (Nat.lt_of_le_of_ne j2 jn)).1, j + 1, Nat.le_succ_of_le j1, Nat.lt_of_le_of_ne j2 jn, (step_k jk (Nat.lt_of_le_of_ne j2 jn)).2, ?_, rfl⟩
          intro d a b q
          by_cases dj : d = j
          · exact c (dj ▸ q)
          · exact hj d a (Nat.lt_of_le_of_ne (Nat.lt_succ_iff.mp b) dj) q
      · rw [Nat.sub_eq_zero_of_le ht] at e
        cases e
    rintro σ ⟨T, s1, s2, hT, e, rfl⟩
    rcases Nat.lt_or_ge T U with ht | ht
    · obtain ⟨u, hu, _⟩ := sub_next ht
      rw [hu, upI_succ, intsD_cons] at e
      cases e
    · have eT : T = U := Nat.le_antisymm hT ht
      rw [eT]
      repeat' ((fail_if_success (with_reducible refine (?_ : @Eq _ _ _))); first | ((with_reducible refine (?_ : OW fEq (D.str _) (D.str _) _)); with_reducible first | refine' OW.clT (by decide +kernel) ?_ | refine' OW.clF (by decide +kernel) ?_) | ((with_reducible refine (?_ : OW (fIn false) (D.str _) (D.tup _) _)); with_reducible first | refine' OW.clT (by decide +kernel) ?_ | refine' OW.clF (by decide +kernel) ?_) | ((with_reducible refine (?_ : IfK (@decide ((1:Int) < (List.length _ : Int)) _) _ _)); with_reducible first | refine' IfK.decT (by first | with_reducible assumption | decide) ?_ | refine' IfK.decF (by first | with_reducible assumption | decide) ?_) | (with_reducible first | refine' CK.ret ?_ | refine' SK.next ?_ | refine' SK.ret ?_ | refine' LK.next ?_ | refine' RW.nil ?_ | refine' RW.seq ?_) | ((with_reducible refine (?_ : RW _ _ _ _)); with_reducible refine' RW.lenOk (by with_unfolding_all exact rfl) ?_) | (with_reducible first | refine' SW.of ?_ | refine' PutAt.of ?_ ?_) | (with_reducible first | exact SetR.z) | (with_reducible first | refine' SetR.s3 ?_ | refine' SetR.s ?_) | (with_reducible refine (?_ : SetR _ (0 + 1) _ _)); refine SetR.s ?_ | (with_reducible first | refine' RW.asg ?_ | refine' RW.ret ?_ | refine' RW.if ?_ | refine' RW.for ?_ | refine' RW.while ?_) | (with_reducible first | refine' IfK.t ?_ | refine' IfK.f ?_ | refine' IfK.decT (by first | with_reducible assumption | with_unfolding_all omega) ?_ | refine' IfK.decF (by first | with_reducible assumption | with_unfolding_all omega) ?_ | refine' TruthK.bool ?_) | ((with_reducible refine (?_ : EW (eVar _) _ _)); with_reducible refine' EW.var (by with_unfolding_all exact rfl) ?_) | (with_reducible first | refine' EW.cst ?_ | refine' EW.e1 ?_ | refine' EW.e2 ?_ | refine' EW.call ?_ | refine' EW.tup ?_ | refine' EsW.nil ?_ | refine' EsW.cons ?_ | refine' TW.c ?_) | ((with_reducible refine (?_ : TpK _ _)); with_reducible refine' TpK.mk (by with_unfolding_all exact Nat.le_of_ble_eq_true rfl) ?_) | (with_reducible first | refine' TW.tOf ?_ | refine' TW.or ?_) | ((with_reducible refine (?_ : CW _ _ _)); with_reducible refine' CW.of (by with_reducible assumption) ?_) | ((with_reducible refine (?_ : OW _ _ _ _)); with_reducible refine' OW.of (by with_reducible assumption) ?_) | (with_reducible first | refine' OW.add ?_ | refine' OW.sub ?_ | refine' OW.ord ?_ | refine' OW.eq ?_ | refine' OW.ne ?_) | ((with_reducible refine (?_ : OW fMul _ _ _)); with_reducible refine' OW.mul (by first | with_reducible assumption | with_unfolding_all exact mulOk_sm (by omega) (by omega)) ?_) | ((with_reducible refine (?_ : OW fMod _ _ _)); with_reducible refine' OW.mod (by first | with_reducible assumption | with_unfolding_all omega) ?_) | (with_reducible first | refine' UW.neg ?_ | refine' CW.range1 ?_ | refine' CW.range2 ?_) | ((with_reducible refine (?_ : CW _ _ _)); with_reducible refine' CW.fn (by with_unfolding_all (repeat (first | exact StartsAt.nil | apply StartsAt.cons | apply StartsAt.unb))) (by with_unfolding_all exact rfl) ?_))
      rfl

theorem ok__law_two {I : GI} (hat : HatI I hd.view_39) {f4 f5 : List D → Option D} (h4 : FunOK I 1 ("_law_quotient" : Str) f4) (h5 : FunOK I 1 ("_law_power" : Str) f5) (s4 : ∀ (a b : Int), Bd 2000 a → Bd 2000 b → b ≠ 0 → f4 [.int a, .int b] = some (.int (quoI a b))) (s5 : ∀ (a b : Int), Bd 200 a → 0 ≤ b → b ≤ 6 → f5 [.int a, .int b] = some (.int (a ^ b.toNat))) : ∃ d, (recsOf hd.view_39)[8]? = some d ∧ d.name = ("_law_two" : Str) ∧ ∃ G, FunOK I 2 d.name G ∧
    ∀ (o : Op2) (a b : Int), Bd 1600 a → Bd 200 b → (isDv o = true → b ≠ 0) → (isPw o = true → 0 ≤ b ∧ b ≤ 6 ∧ Bd 200 a) → ∃ c, op2 a b o = some c ∧ G [.str (mkS (op2S o)), .int a, .int b] = some (.int c) ∧ (Bd 200 a → Bd 1600 c) := by
  refine' ⟨_, rfl, rfl, _, FunOK.of 1000 (i := 8) (ns := ["sign", "a", "b"]) (m := 3) hat rfl ⟨rfl, by decide, by decide⟩ (by decide) (fun pm cd doc => vs3 fun a b c => rfl) rfl rfl ?h, ?g⟩
  case h =>
    dsimp only
    repeat' ((show (_ : Prop)); first | (with_reducible first | exact OpOK.add | exact OpOK.sub | exact OpOK.mul | exact OpOK.div | exact OpOK.mod | exact OpOK.lt | exact OpOK.gt | exact OpOK.eq | exact OpOK.ne | exact EvOK.cint | exact EvOK.cstr | refine' EvOK.v (by with_unfolding_all exact rfl) (by with_unfolding_all exact rfl) (by with_unfolding_all exact rfl) (by with_unfolding_all exact rfl) | refine' EvOK.bin ?_ ?_ ?_ | refine' EvOK.cmp ?_ ?_ ?_ (by with_unfolding_all exact rfl) | refine' EvOK.neg ?_ | refine' EvOK.tup ?_ | refine' EvOK.call' (by with_unfolding_all exact rfl) (by with_unfolding_all exact rfl) (by with_unfolding_all exact rfl) (by with_unfolding_all exact fun _ => rfl) (by with_unfolding_all exact rfl) (by with_unfolding_all exact fun _ => ⟨_, _, rfl⟩) (by with_unfolding_all first | assumption | exact FunOK.le (by assumption) (by decide)) ?_ | refine' EvOK.subs ?_ ?_ (by with_unfolding_all exact fun _ _ => rfl) | exact EvsOK.nil | refine' EvsOK.cons ?_ ?_ (by with_unfolding_all exact fun _ => rfl) | refine' TrOK.cmp ?_ ?_ ?_ (by with_unfolding_all exact rfl) | exact TrOK.or0 | refine' TrOK.or ?_ ?_ | exact RunOK.nil | refine' RunOK.cons ?_ ?_ | refine' RunOK.ret ?_ | refine' RunOK.ifS ?_ ?_ ?_ | refine' RunOK.whileS ?_ ?_ | refine' RunOK.asg' (by with_unfolding_all exact rfl) (by with_unfolding_all exact fun _ => rfl) (by with_unfolding_all exact ⟨rfl, by decide, by decide⟩) ?_ | refine' RunOK.for' (by with_unfolding_all exact rfl) (by with_unfolding_all exact fun _ _ => rfl) (by with_unfolding_all exact ⟨rfl, by decide, by decide⟩) ?_ ?_))
  case g =>
    intro o a b ha hb hd hp
    obtain ⟨h1, h2⟩ := two_ok ha hb hd hp
    refine ⟨_, h1, CW.eq ?_, h2⟩
    have m1 : mulOk a b = true := mulOk_bd ha hb (by decide)
    have wq := fun h => s4 a b (ha.mono (by decide)) (hb.mono (by decide)) (hd h)
    have m2 : mulOk b (quoI a b) = true := mulOk_bd hb (quo_bd ha) (by decide)
    have wp := fun h => s5 a b (hp h).2.2 (hp h).1 (hp h).2.1
    clear ha hb hd hp h1 h2 s4 s5
    cases o <;> (try replace wq := wq rfl) <;> (try replace wp := wp rfl) <;> (repeat' ((fail_if_success (with_reducible refine (?_ : @Eq _ _ _))); first | ((with_reducible refine (?_ : OW fEq (D.str _) (D.str _) _)); with_reducible first | refine' OW.clT (by decide +kernel) ?_ | refine' OW.clF (by decide +kernel) ?_) | ((with_reducible refine (?_ : OW (fIn false) (D.str _) (D.tup _) _)); with_reducible first | refine' OW.clT (by decide +kernel) ?_ | refine' OW.clF (by decide +kernel) ?_) | ((with_reducible refine (?_ : IfK (@decide ((1:Int) < (List.length _ : Int)) _) _ _)); with_reducible first | refine' IfK.decT (by first | with_reducible assumption | decide) ?_ | refine' IfK.decF (by first | with_reducible assumption | decide) ?_) | (with_reducible first | refine' CK.ret ?_ | refine' SK.next ?_ | refine' SK.ret ?_ | refine' LK.next ?_ | refine' RW.nil ?_ | refine' RW.seq ?_) | ((with_reducible refine (?_ : RW _ _ _ _)); with_reducible refine' RW.lenOk (by with_unfolding_all exact rfl) ?_) | (with_reducible first | refine' SW.of ?_ | refine' PutAt.of ?_ ?_) | (with_reducible first | exact SetR.z) | (with_reducible first | refine' SetR.s3 ?_ | refine' SetR.s ?_) | (with_reducible refine (?_ : SetR _ (0 + 1) _ _)); refine SetR.s ?_ | (with_reducible first | refine' RW.asg ?_ | refine' RW.ret ?_ | refine' RW.if ?_ | refine' RW.for ?_ | refine' RW.while ?_) | (with_reducible first | refine' IfK.t ?_ | refine' IfK.f ?_ | refine' IfK.decT (by first | with_reducible assumption | with_unfolding_all omega) ?_ | refine' IfK.decF (by first | with_reducible assumption | with_unfolding_all omega) ?_ | refine' TruthK.bool ?_) | ((with_reducible refine (?_ : EW (eVar _) _ _)); with_reducible refine' EW.var (by with_unfolding_all exact rfl) ?_) | (with_reducible first | refine' EW.cst ?_ | refine' EW.e1 ?_ | refine' EW.e2 ?_ | refine' EW.call ?_ | refine' EW.tup ?_ | refine' EsW.nil ?_ | refine' EsW.cons ?_ | refine' TW.c ?_) | ((with_reducible refine (?_ : TpK _ _)); with_reducible refine' TpK.mk (by with_unfolding_all exact Nat.le_of_ble_eq_true rfl) ?_) | (with_reducible first | refine' TW.tOf ?_ | refine' TW.or ?_) | ((with_reducible refine (?_ : CW _ _ _)); with_reducible refine' CW.of (by with_reducible assumption) ?_) | ((with_reducible refine (?_ : OW _ _ _ _)); with_reducible refine' OW.of (by with_reducible assumption) ?_) | (with_reducible first | refine' OW.add ?_ | refine' OW.sub ?_ | refine' OW.ord ?_ | refine' OW.eq ?_ | refine' OW.ne ?_) | ((with_reducible refine (?_ : OW fMul _ _ _)); with_reducible refine' OW.mul (by first | with_reducible assumption | with_unfolding_all exact mulOk_sm (by omega) (by omega)) ?_) | ((with_reducible refine (?_ : OW fMod _ _ _)); with_reducible refine' OW.mod (by first | with_reducible assumption | with_unfolding_all omega) ?_) | (with_reducible first | refine' UW.neg ?_ | refine' CW.range1 ?_ | refine' CW.range2 ?_) | ((with_reducible refine (?_ : CW _ _ _)); with_reducible refine' CW.fn (by with_unfolding_all (repeat (first | exact StartsAt.nil | apply StartsAt.cons | apply StartsAt.unb))) (by with_unfolding_all exact rfl) ?_))) <;> rfl

theorem ok_rpn {I : GI} (hat : HatI I hd.view_39) (hexc : I.mg ("Exception" : Str) = none) (hrange : FunOK I 0 ("range" : Str) fRange) (hlen : FunOK I 0 ("len" : Str) fLen) (hint : FunOK I 0 ("int" : Str) fInt) {f0 f1 : List D → Option D} (h0 : FunOK I 1 ("primegen" : Str) f0) (h1 : FunOK I 1 ("iterprod" : Str) f1) (s0 : ∀ (L : Int), L ≤ 200 → f0 [.int L] = some (.lst (intsD (natI (pgR (L.toNat - 2)))))) (s1 : ∀ (d : D) (l : List Int) (m : Nat), isStr d = false → itemsOf d = some (intsD l) → (∀ x ∈ l, Bd m x) → m * l.length + 1 + m ≤ 100000000 → f1 [d] = some (.int (prodI l))) : ∃ d, (recsOf hd.view_39)[2]? = some d ∧ d.name = ("rpn" : Str) ∧ ∃ G, GenE I 1 d.name G ∧ ∀ (l : List Nat) (ts : List (List Nat)) (o : List Int ⊕ String), l.length ≤ 9999 → wordsL [] l = ts → ts.length ≤ 5000 → RunsE ts [] o → G [.str (mkS l)] = some o := by
  refine' ⟨_, rfl, rfl, _, GenE.of (k := 1) (i := 2) 1000 (ns := ["instr", "stack", "token", "b", "a", "res", "x"]) (m := 1) hat rfl rfl ⟨rfl, by decide, by decide⟩ (by decide) (fun pm cd doc => vs1 fun a => rfl) rfl rfl (fun _ => rfl) (by decide) rfl rfl rfl (fun _ _ => rfl) ?he ?hF ?h1 ?h2, ?g⟩
  case he =>
    dsimp only
    repeat' ((show (_ : Prop)); first | ((with_reducible refine (?_ : RunE _ _ _ _ _ _)); first | with_reducible exact RunE.nil | with_reducible refine' RunE.cons ?_ ?_ | with_reducible refine' RunE.ifS ?_ ?_ ?_ | ((with_reducible refine (?_ : RunE _ _ _ _ (exec (Stmt.For _ _ _ _ _)) _)); with_reducible refine' RunE.forS (by with_unfolding_all exact rfl) (by with_unfolding_all exact fun _ _ => rfl) (by with_unfolding_all exact ⟨rfl, by decide, by decide⟩) ?_ ?_) | ((with_reducible refine (?_ : RunE _ _ _ _ (exec (Stmt.Assign _ (Expr.Call (Expr.Attribute _ _ _) _ _ _) _)) _)); with_reducible refine' RunE.popZ (by with_unfolding_all exact rfl) (by with_unfolding_all exact rfl) (by with_unfolding_all exact rfl) (by with_unfolding_all exact fun _ => rfl) (by with_unfolding_all exact fun _ => rfl) (by with_unfolding_all exact ⟨rfl, by decide, by decide⟩)) | ((with_reducible refine (?_ : RunE _ _ _ _ (exec (Stmt.Assign _ (Expr.BinOp _ Operator.FloorDiv _ _) _)) _)); with_reducible refine' RunE.asgZ (by with_unfolding_all exact rfl) (by with_unfolding_all exact fun _ => rfl) (by with_unfolding_all exact ⟨rfl, by decide, by decide⟩) ?_ ?_ OpOK.div ZOp.div) | ((with_reducible refine (?_ : RunE _ _ _ _ (exec (Stmt.Assign _ (Expr.BinOp _ Operator.Mod _ _) _)) _)); with_reducible refine' RunE.asgZ (by with_unfolding_all exact rfl) (by with_unfolding_all exact fun _ => rfl) (by with_unfolding_all exact ⟨rfl, by decide, by decide⟩) ?_ ?_ OpOK.mod ZOp.mod) | ((with_reducible refine (?_ : RunE _ _ _ _ (exec (Stmt.Raise _ _ _)) _)); with_reducible exact RunE.raise (by with_unfolding_all exact rfl) (by with_unfolding_all assumption) (by with_unfolding_all exact rfl)) | with_reducible refine' RunE.of ?_) | (with_reducible first | refine' EvOK.split (by with_unfolding_all exact fun _ => rfl) ?_ | exact OpOK.add | exact OpOK.sub | exact OpOK.mul | exact OpOK.div | exact OpOK.mod | exact OpOK.pow | exact OpOK.gt | exact OpOK.eq | exact OpOK.isIn | exact OpOK.notInS | exact EvOK.cint | exact EvOK.cstr | refine' EvOK.v (by with_unfolding_all exact rfl) (by with_unfolding_all exact rfl) (by with_unfolding_all exact rfl) (by with_unfolding_all exact rfl) | refine' EvOK.bin ?_ ?_ ?_ | refine' EvOK.tup ?_ | refine' EvOK.lst ?_ | refine' EvOK.call' (by with_unfolding_all exact rfl) (by with_unfolding_all exact rfl) (by with_unfolding_all exact rfl) (by with_unfolding_all exact fun _ => rfl) (by with_unfolding_all exact rfl) (by with_unfolding_all exact fun _ => ⟨_, _, rfl⟩) (by with_unfolding_all first | assumption | exact FunOK.le (by assumption) (by decide)) ?_ | refine' EvOK.sliceLoS ?_ ?_ (by with_unfolding_all exact fun _ _ => rfl) | refine' EvOK.subs ?_ ?_ (by with_unfolding_all exact fun _ _ => rfl) | refine' EvOK.comp (by with_unfolding_all exact ⟨by decide, rfl, rfl, by decide, rfl, by decide, by decide⟩) ?_ ?_ ?_ (by with_unfolding_all exact fun _ _ => rfl) | exact EvsOK.nil | refine' EvsOK.cons ?_ ?_ (by with_unfolding_all exact fun _ => rfl) | refine' TestsOK.one ?_ | refine' TrOK.cmp ?_ ?_ ?_ (by with_unfolding_all exact rfl) | exact TrOK.and0 | refine' TrOK.and ?_ ?_ | refine' RunOK.new' (by with_unfolding_all exact rfl) (by with_unfolding_all exact fun _ => rfl) (by with_unfolding_all exact ⟨rfl, by decide, by decide⟩) ?_ | refine' RunOK.asg' (by with_unfolding_all exact rfl) (by with_unfolding_all exact fun _ => rfl) (by with_unfolding_all exact ⟨rfl, by decide, by decide⟩) ?_ | refine' RunOK.app' (by with_unfolding_all exact rfl) (by with_unfolding_all exact rfl) (by with_unfolding_all exact fun _ => rfl) (by with_unfolding_all exact fun _ => rfl) (by with_unfolding_all exact fun _ => rfl) (by with_unfolding_all exact ⟨rfl, by decide, by decide⟩) ?_))
  case hF => exact fun a => rfl
  case h1 =>
    dsimp only
    repeat' ((show (_ : Prop)); first | ((with_reducible refine (?_ : RunE _ _ _ _ _ _)); first | with_reducible exact RunE.nil | with_reducible refine' RunE.cons ?_ ?_ | with_reducible refine' RunE.ifS ?_ ?_ ?_ | ((with_reducible refine (?_ : RunE _ _ _ _ (exec (Stmt.For _ _ _ _ _)) _)); with_reducible refine' RunE.forS (by with_unfolding_all exact rfl) (by with_unfolding_all exact fun _ _ => rfl) (by with_unfolding_all exact ⟨rfl, by decide, by decide⟩) ?_ ?_) | ((with_reducible refine (?_ : RunE _ _ _ _ (exec (Stmt.Assign _ (Expr.Call (Expr.Attribute _ _ _) _ _ _) _)) _)); with_reducible refine' RunE.popZ (by with_unfolding_all exact rfl) (by with_unfolding_all exact rfl) (by with_unfolding_all exact rfl) (by with_unfolding_all exact fun _ => rfl) (by with_unfolding_all exact fun _ => rfl) (by with_unfolding_all exact ⟨rfl, by decide, by decide⟩)) | ((with_reducible refine (?_ : RunE _ _ _ _ (exec (Stmt.Assign _ (Expr.BinOp _ Operator.FloorDiv _ _) _)) _)); with_reducible refine' RunE.asgZ (by with_unfolding_all exact rfl) (by with_unfolding_all exact fun _ => rfl) (by with_unfolding_all exact ⟨rfl, by decide, by decide⟩) ?_ ?_ OpOK.div ZOp.div) | ((with_reducible refine (?_ : RunE _ _ _ _ (exec (Stmt.Assign _ (Expr.BinOp _ Operator.Mod _ _) _)) _)); with_reducible refine' RunE.asgZ (by with_unfolding_all exact rfl) (by with_unfolding_all exact fun _ => rfl) (by with_unfolding_all exact ⟨rfl, by decide, by decide⟩) ?_ ?_ OpOK.mod ZOp.mod) | ((with_reducible refine (?_ : RunE _ _ _ _ (exec (Stmt.Raise _ _ _)) _)); with_reducible exact RunE.raise (by with_unfolding_all exact rfl) (by with_unfolding_all assumption) (by with_unfolding_all exact rfl)) | with_reducible refine' RunE.of ?_) | (with_reducible first | refine' EvOK.split (by with_unfolding_all exact fun _ => rfl) ?_ | exact OpOK.add | exact OpOK.sub | exact OpOK.mul | exact OpOK.div | exact OpOK.mod | exact OpOK.pow | exact OpOK.gt | exact OpOK.eq | exact OpOK.isIn | exact OpOK.notInS | exact EvOK.cint | exact EvOK.cstr | refine' EvOK.v (by with_unfolding_all exact rfl) (by with_unfolding_all exact rfl) (by with_unfolding_all exact rfl) (by with_unfolding_all exact rfl) | refine' EvOK.bin ?_ ?_ ?_ | refine' EvOK.tup ?_ | refine' EvOK.lst ?_ | refine' EvOK.call' (by with_unfolding_all exact rfl) (by with_unfolding_all exact rfl) (by with_unfolding_all exact rfl) (by with_unfolding_all exact fun _ => rfl) (by with_unfolding_all exact rfl) (by with_unfolding_all exact fun _ => ⟨_, _, rfl⟩) (by with_unfolding_all first | assumption | exact FunOK.le (by assumption) (by decide)) ?_ | refine' EvOK.sliceLoS ?_ ?_ (by with_unfolding_all exact fun _ _ => rfl) | refine' EvOK.subs ?_ ?_ (by with_unfolding_all exact fun _ _ => rfl) | refine' EvOK.comp (by with_unfolding_all exact ⟨by decide, rfl, rfl, by decide, rfl, by decide, by decide⟩) ?_ ?_ ?_ (by with_unfolding_all exact fun _ _ => rfl) | exact EvsOK.nil | refine' EvsOK.cons ?_ ?_ (by with_unfolding_all exact fun _ => rfl) | refine' TestsOK.one ?_ | refine' TrOK.cmp ?_ ?_ ?_ (by with_unfolding_all exact rfl) | exact TrOK.and0 | refine' TrOK.and ?_ ?_ | refine' RunOK.new' (by with_unfolding_all exact rfl) (by with_unfolding_all exact fun _ => rfl) (by with_unfolding_all exact ⟨rfl, by decide, by decide⟩) ?_ | refine' RunOK.asg' (by with_unfolding_all exact rfl) (by with_unfolding_all exact fun _ => rfl) (by with_unfolding_all exact ⟨rfl, by decide, by decide⟩) ?_ | refine' RunOK.app' (by with_unfolding_all exact rfl) (by with_unfolding_all exact rfl) (by with_unfolding_all exact fun _ => rfl) (by with_unfolding_all exact fun _ => rfl) (by with_unfolding_all exact fun _ => rfl) (by with_unfolding_all exact ⟨rfl, by decide, by decide⟩) ?_))
  case h2 =>
    dsimp only
    repeat' ((show (_ : Prop)); first | ((with_reducible refine (?_ : RunE _ _ _ _ _ _)); first | with_reducible exact RunE.nil | with_reducible refine' RunE.cons ?_ ?_ | with_reducible refine' RunE.ifS ?_ ?_ ?_ | ((with_reducible refine (?_ : RunE _ _ _ _ (exec (Stmt.For _ _ _ _ _)) _)); with_reducible refine' RunE.forS (by with_unfolding_all exact rfl) (by with_unfolding_all exact fun _ _ => rfl) (by with_unfolding_all exact ⟨rfl, by decide, by decide⟩) ?_ ?_) | ((with_reducible refine (?_ : RunE _ _ _ _ (exec (Stmt.Assign _ (Expr.Call (Expr.Attribute _ _ _) _ _ _) _)) _)); with_reducible refine' RunE.popZ (by with_unfolding_all exact rfl) (by with_unfolding_all exact rfl) (by with_unfolding_all exact rfl) (by with_unfolding_all exact fun _ => rfl) (by with_unfolding_all exact fun _ => rfl) (by with_unfolding_all exact ⟨rfl, by decide, by decide⟩)) | ((with_reducible refine (?_ : RunE _ _ _ _ (exec (Stmt.Assign _ (Expr.BinOp _ Operator.FloorDiv _ _) _)) _)); with_reducible refine' RunE.asgZ (by with_unfolding_all exact rfl) (by with_unfolding_all exact fun _ => rfl) (by with_unfolding_all exact ⟨rfl, by decide, by decide⟩) ?_ ?_ OpOK.div ZOp.div) | ((with_reducible refine (?_ : RunE _ _ _ _ (exec (Stmt.Assign _ (Expr.BinOp _ Operator.Mod _ _) _)) _)); with_reducible refine' RunE.asgZ (by with_unfolding_all exact rfl) (by with_unfolding_all exact fun _ => rfl) (by with_unfolding_all exact ⟨rfl, by decide, by decide⟩) ?_ ?_ OpOK.mod ZOp.mod) | ((with_reducible refine (?_ : RunE _ _ _ _ (exec (Stmt.Raise _ _ _)) _)); with_reducible exact RunE.raise (by with_unfolding_all exact rfl) (by with_unfolding_all assumption) (by with_unfolding_all exact rfl)) | with_reducible refine' RunE.of ?_) | (with_reducible first | refine' EvOK.split (by with_unfolding_all exact fun _ => rfl) ?_ | exact OpOK.add | exact OpOK.sub | exact OpOK.mul | exact OpOK.div | exact OpOK.mod | exact OpOK.pow | exact OpOK.gt | exact OpOK.eq | exact OpOK.isIn | exact OpOK.notInS | exact EvOK.cint | exact EvOK.cstr | refine' EvOK.v (by with_unfolding_all exact rfl) (by with_unfolding_all exact rfl) (by with_unfolding_all exact rfl) (by with_unfolding_all exact rfl) | refine' EvOK.bin ?_ ?_ ?_ | refine' EvOK.tup ?_ | refine' EvOK.lst ?_ | refine' EvOK.call' (by with_unfolding_all exact rfl) (by with_unfolding_all exact rfl) (by with_unfolding_all exact rfl) (by with_unfolding_all exact fun _ => rfl) (by with_unfolding_all exact rfl) (by with_unfolding_all exact fun _ => ⟨_, _, rfl⟩) (by with_unfolding_all first | assumption | exact FunOK.le (by assumption) (by decide)) ?_ | refine' EvOK.sliceLoS ?_ ?_ (by with_unfolding_all exact fun _ _ => rfl) | refine' EvOK.subs ?_ ?_ (by with_unfolding_all exact fun _ _ => rfl) | refine' EvOK.comp (by with_unfolding_all exact ⟨by decide, rfl, rfl, by decide, rfl, by decide, by decide⟩) ?_ ?_ ?_ (by with_unfolding_all exact fun _ _ => rfl) | exact EvsOK.nil | refine' EvsOK.cons ?_ ?_ (by with_unfolding_all exact fun _ => rfl) | refine' TestsOK.one ?_ | refine' TrOK.cmp ?_ ?_ ?_ (by with_unfolding_all exact rfl) | exact TrOK.and0 | refine' TrOK.and ?_ ?_ | refine' RunOK.new' (by with_unfolding_all exact rfl) (by with_unfolding_all exact fun _ => rfl) (by with_unfolding_all exact ⟨rfl, by decide, by decide⟩) ?_ | refine' RunOK.asg' (by with_unfolding_all exact rfl) (by with_unfolding_all exact fun _ => rfl) (by with_unfolding_all exact ⟨rfl, by decide, by decide⟩) ?_ | refine' RunOK.app' (by with_unfolding_all exact rfl) (by with_unfolding_all exact rfl) (by with_unfolding_all exact fun _ => rfl) (by with_unfolding_all exact fun _ => rfl) (by with_unfolding_all exact fun _ => rfl) (by with_unfolding_all exact ⟨rfl, by decide, by decide⟩) ?_))
  case g =>
    intro l ts o hl hw hts hrun
    refine genXF_of (by with_unfolding_all (repeat (first | exact StartsAt.nil | apply StartsAt.cons | apply StartsAt.unb))) rfl ?_
    repeat' ((fail_if_success (with_reducible refine (?_ : @Eq _ _ _))); first | with_reducible refine' SK.exc ?_ | with_reducible refine' LEK.exc ?_ | with_reducible refine' LEK.next ?_ | ((with_reducible refine (?_ : TW (tAnd _ _) _ _)); with_reducible refine' TW.negF (by assumption) (by assumption) (by assumption) (by with_unfolding_all exact rfl) ?_) | ((with_reducible refine (?_ : RW (rPopZ _ _) _ _ _)); with_reducible first | refine' RW.popZ (by with_unfolding_all exact rfl) (by with_reducible assumption) ?_ | refine' RW.popZ0 (by with_unfolding_all exact rfl) ?_) | ((with_reducible refine (?_ : RW (rAsgZ _ _ _ _) _ _ _)); with_reducible first | refine' RW.asgZ1v (by with_unfolding_all exact rfl) (by with_unfolding_all exact rfl) (by with_reducible assumption) ?_ | refine' RW.asgZ0v (by with_unfolding_all exact rfl) (by with_unfolding_all exact rfl) ?_) | ((with_reducible refine (?_ : RW (fun _ _ => _) _ _ _)); with_reducible refine' RW.raise ?_) | ((with_reducible refine (?_ : OW (fIn false) (D.str _) (D.tup _) _)); refine' OW.of (by with_unfolding_all assumption) ?_) | ((with_reducible refine (?_ : EW (eComp _ _ (eVar _)) _ _)); with_reducible refine' EW.dgsVar (by with_unfolding_all exact rfl) (by first | with_reducible assumption | with_unfolding_all exact Nat.le_of_ble_eq_true rfl) ?_) | ((with_reducible refine (?_ : EW (eComp _ _ (Mine.e2 fSloS _ _)) _ _)); with_reducible refine' EW.dgsTail (by with_unfolding_all exact rfl) (by with_reducible assumption) ?_) | ((with_reducible refine (?_ : OW fEq (D.lst (List.map chD _)) (D.lst []) _)); with_reducible refine' OW.eqNil (by first | with_reducible assumption | decide) ?_) | ((with_reducible refine (?_ : IfK (List.all _ _) _ _)); with_reducible first | refine' IfK.hT (by first | with_reducible assumption | decide) ?_ | refine' IfK.hF (by first | with_reducible assumption | decide) ?_) | ((with_reducible refine (?_ : CW fInt [D.str _] _)); with_reducible refine' CW.intT (by with_reducible assumption) ?_) | ((with_reducible refine (?_ : CW fLen [D.str _] _)); with_reducible refine' CW.lenS (by first | with_reducible assumption | with_unfolding_all exact Nat.le_of_ble_eq_true rfl) ?_) | ((with_reducible refine (?_ : OW fEq (D.str _) (D.str _) _)); with_reducible first | refine' OW.clT (by decide +kernel) ?_ | refine' OW.clF (by decide +kernel) ?_) | ((with_reducible refine (?_ : OW (fIn false) (D.str _) (D.tup _) _)); with_reducible first | refine' OW.clT (by decide +kernel) ?_ | refine' OW.clF (by decide +kernel) ?_) | ((with_reducible refine (?_ : IfK (@decide ((1:Int) < (List.length _ : Int)) _) _ _)); with_reducible first | refine' IfK.decT (by first | with_reducible assumption | decide) ?_ | refine' IfK.decF (by first | with_reducible assumption | decide) ?_) | (with_reducible first | refine' SK.next ?_ | refine' RW.nil ?_ | refine' RW.seq ?_) | ((with_reducible refine (?_ : RW _ _ _ _)); with_reducible refine' RW.lenOk (by with_unfolding_all exact rfl) ?_) | (with_reducible first | refine' SW.of ?_ | refine' PutAt.of ?_ ?_) | (with_reducible first | exact SetR.z) | (with_reducible first | refine' SetR.s3 ?_ | refine' SetR.s ?_) | (with_reducible refine (?_ : SetR _ (0 + 1) _ _)); refine SetR.s ?_ | (with_reducible first | refine' RW.asg ?_ | refine' RW.if ?_ | refine' RW.new ?_) | ((with_reducible refine (?_ : RW _ _ _ _)); with_reducible refine' RW.app (by with_unfolding_all exact rfl) (by first | with_reducible assumption | with_unfolding_all exact Nat.le_of_ble_eq_true rfl) ?_) | (with_reducible first | refine' IfK.t ?_ | refine' IfK.f ?_ | refine' IfK.decT (by first | with_reducible assumption | with_unfolding_all omega) ?_ | refine' TruthK.bool ?_) | ((with_reducible refine (?_ : EW (eVar _) _ _)); with_reducible refine' EW.var (by with_unfolding_all exact rfl) ?_) | (with_reducible first | refine' EW.cst ?_ | refine' EW.e1 ?_ | refine' EW.e2 ?_ | refine' EW.call ?_ | refine' EW.tup ?_ | refine' EW.lst ?_ | refine' EsW.nil ?_ | refine' EsW.cons ?_ | refine' TW.c ?_) | ((with_reducible refine (?_ : TpK _ _)); with_reducible refine' TpK.mk (by with_unfolding_all exact Nat.le_of_ble_eq_true rfl) ?_) | ((with_reducible refine (?_ : LsK _ _)); with_reducible refine' LsK.mk (by with_unfolding_all exact Nat.le_of_ble_eq_true rfl) ?_) | (with_reducible first | refine' TW.tOf ?_ | refine' TW.and ?_) | ((with_reducible refine (?_ : CW _ _ _)); with_reducible refine' CW.of (by with_reducible assumption) ?_) | ((with_reducible refine (?_ : OW _ _ _ _)); with_reducible refine' OW.of (by with_reducible assumption) ?_) | (with_reducible first | refine' OW.add ?_ | refine' OW.sub ?_ | refine' OW.ord ?_) | ((with_reducible refine (?_ : OW fMul _ _ _)); with_reducible refine' OW.mul (by first | with_reducible assumption | with_unfolding_all exact mulOk_sm (by omega) (by omega)) ?_) | ((with_reducible refine (?_ : OW fDiv _ _ _)); with_reducible refine' OW.div (by with_reducible assumption) ?_) | ((with_reducible refine (?_ : OW fMod _ _ _)); with_reducible refine' OW.mod (by first | with_reducible assumption | with_unfolding_all omega) ?_) | ((with_reducible refine (?_ : OW fPow _ _ _)); with_reducible refine' OW.pow (by with_reducible assumption) ?_) | (with_reducible first | refine' CW.range2 ?_))
    refine ⟨by decide, ?_⟩
    repeat' ((fail_if_success (with_reducible refine (?_ : @Eq _ _ _))); first | with_reducible refine' SK.exc ?_ | with_reducible refine' LEK.exc ?_ | with_reducible refine' LEK.next ?_ | ((with_reducible refine (?_ : TW (tAnd _ _) _ _)); with_reducible refine' TW.negF (by assumption) (by assumption) (by assumption) (by with_unfolding_all exact rfl) ?_) | ((with_reducible refine (?_ : RW (rPopZ _ _) _ _ _)); with_reducible first | refine' RW.popZ (by with_unfolding_all exact rfl) (by with_reducible assumption) ?_ | refine' RW.popZ0 (by with_unfolding_all exact rfl) ?_) | ((with_reducible refine (?_ : RW (rAsgZ _ _ _ _) _ _ _)); with_reducible first | refine' RW.asgZ1v (by with_unfolding_all exact rfl) (by with_unfolding_all exact rfl) (by with_reducible assumption) ?_ | refine' RW.asgZ0v (by with_unfolding_all exact rfl) (by with_unfolding_all exact rfl) ?_) | ((with_reducible refine (?_ : RW (fun _ _ => _) _ _ _)); with_reducible refine' RW.raise ?_) | ((with_reducible refine (?_ : OW (fIn false) (D.str _) (D.tup _) _)); refine' OW.of (by with_unfolding_all assumption) ?_) | ((with_reducible refine (?_ : EW (eComp _ _ (eVar _)) _ _)); with_reducible refine' EW.dgsVar (by with_unfolding_all exact rfl) (by first | with_reducible assumption | with_unfolding_all exact Nat.le_of_ble_eq_true rfl) ?_) | ((with_reducible refine (?_ : EW (eComp _ _ (Mine.e2 fSloS _ _)) _ _)); with_reducible refine' EW.dgsTail (by with_unfolding_all exact rfl) (by with_reducible assumption) ?_) | ((with_reducible refine (?_ : OW fEq (D.lst (List.map chD _)) (D.lst []) _)); with_reducible refine' OW.eqNil (by first | with_reducible assumption | decide) ?_) | ((with_reducible refine (?_ : IfK (List.all _ _) _ _)); with_reducible first | refine' IfK.hT (by first | with_reducible assumption | decide) ?_ | refine' IfK.hF (by first | with_reducible assumption | decide) ?_) | ((with_reducible refine (?_ : CW fInt [D.str _] _)); with_reducible refine' CW.intT (by with_reducible assumption) ?_) | ((with_reducible refine (?_ : CW fLen [D.str _] _)); with_reducible refine' CW.lenS (by first | with_reducible assumption | with_unfolding_all exact Nat.le_of_ble_eq_true rfl) ?_) | ((with_reducible refine (?_ : OW fEq (D.str _) (D.str _) _)); with_reducible first | refine' OW.clT (by decide +kernel) ?_ | refine' OW.clF (by decide +kernel) ?_) | ((with_reducible refine (?_ : OW (fIn false) (D.str _) (D.tup _) _)); with_reducible first | refine' OW.clT (by decide +kernel) ?_ | refine' OW.clF (by decide +kernel) ?_) | ((with_reducible refine (?_ : IfK (@decide ((1:Int) < (List.length _ : Int)) _) _ _)); with_reducible first | refine' IfK.decT (by first | with_reducible assumption | decide) ?_ | refine' IfK.decF (by first | with_reducible assumption | decide) ?_) | (with_reducible first | refine' SK.next ?_ | refine' RW.nil ?_ | refine' RW.seq ?_) | ((with_reducible refine (?_ : RW _ _ _ _)); with_reducible refine' RW.lenOk (by with_unfolding_all exact rfl) ?_) | (with_reducible first | refine' SW.of ?_ | refine' PutAt.of ?_ ?_) | (with_reducible first | exact SetR.z) | (with_reducible first | refine' SetR.s3 ?_ | refine' SetR.s ?_) | (with_reducible refine (?_ : SetR _ (0 + 1) _ _)); refine SetR.s ?_ | (with_reducible first | refine' RW.asg ?_ | refine' RW.if ?_ | refine' RW.new ?_) | ((with_reducible refine (?_ : RW _ _ _ _)); with_reducible refine' RW.app (by with_unfolding_all exact rfl) (by first | with_reducible assumption | with_unfolding_all exact Nat.le_of_ble_eq_true rfl) ?_) | (with_reducible first | refine' IfK.t ?_ | refine' IfK.f ?_ | refine' IfK.decT (by first | with_reducible assumption | with_unfolding_all omega) ?_ | refine' TruthK.bool ?_) | ((with_reducible refine (?_ : EW (eVar _) _ _)); with_reducible refine' EW.var (by with_unfolding_all exact rfl) ?_) | (with_reducible first | refine' EW.cst ?_ | refine' EW.e1 ?_ | refine' EW.e2 ?_ | refine' EW.call ?_ | refine' EW.tup ?_ | refine' EW.lst ?_ | refine' EsW.nil ?_ | refine' EsW.cons ?_ | refine' TW.c ?_) | ((with_reducible refine (?_ : TpK _ _)); with_reducible refine' TpK.mk (by with_unfolding_all exact Nat.le_of_ble_eq_true rfl) ?_) | ((with_reducible refine (?_ : LsK _ _)); with_reducible refine' LsK.mk (by with_unfolding_all exact Nat.le_of_ble_eq_true rfl) ?_) | (with_reducible first | refine' TW.tOf ?_ | refine' TW.and ?_) | ((with_reducible refine (?_ : CW _ _ _)); with_reducible refine' CW.of (by with_reducible assumption) ?_) | ((with_reducible refine (?_ : OW _ _ _ _)); with_reducible refine' OW.of (by with_reducible assumption) ?_) | (with_reducible first | refine' OW.add ?_ | refine' OW.sub ?_ | refine' OW.ord ?_) | ((with_reducible refine (?_ : OW fMul _ _ _)); with_reducible refine' OW.mul (by first | with_reducible assumption | with_unfolding_all exact mulOk_sm (by omega) (by omega)) ?_) | ((with_reducible refine (?_ : OW fDiv _ _ _)); with_reducible refine' OW.div (by with_reducible assumption) ?_) | ((with_reducible refine (?_ : OW fMod _ _ _)); with_reducible refine' OW.mod (by first | with_reducible assumption | with_unfolding_all omega) ?_) | ((with_reducible refine (?_ : OW fPow _ _ _)); with_reducible refine' OW.pow (by with_reducible assumption) ?_) | (with_reducible first | refine' CW.range2 ?_))
    refine ⟨rfl, ?_⟩
    refine RW.forE (EW.e1 (EW.var rfl (UW.split hl hw ?_)))
    refine ⟨rfl, _, items_strs (by omega), LEW.inv (fun ds σ => ∃ (us : List (List Nat)) (st : List Int) (s1 s2 s3 s4 s5 : Slot), ds = us.map strT ∧ σ = [.imm (.str (mkS l)), .mt (intsD st), s1, s2, s3, s4, s5] ∧ RunsE us st o ∧ st.length + us.length ≤ 5000) ⟨ts, [], _, _, _, _, _, rfl, rfl, hrun, by rw [List.length_nil]; omega⟩ ?_ ?_⟩
    · rintro d' ds σ ⟨us, st, t1, t2, t3, t4, t5, e, rfl, hr, hn⟩
      cases us with
      | nil => cases e
      | cons u us =>
        cases e
        have hfin : ∀ st', RunsE us st' o → st'.length + us.length ≤ 5000 → ∀ s1 s2 s3 s4 s5, (fun ds σ => ∃ (us : List (List Nat)) (st : List Int) (s1 s2 s3 s4 s5 : Slot), ds = us.map strT ∧ σ = [.imm (.str (mkS l)), .mt (intsD st), s1, s2, s3, s4, s5] ∧ RunsE us st o ∧ st.length + us.length ≤ 5000) (us.map strT) [.imm (.str (mkS l)), .mt (intsD st'), s1, s2, s3, s4, s5] := fun st' a b s1 s2 s3 s4 s5 => ⟨us, st', s1, s2, s3, s4, s5, rfl, rfl, a, b⟩
        refine ⟨rfl, ?_⟩
        have hw := tok_ways hr
        clear hr hrun
        unfold strT at hfin ⊢
        rcases hw with ⟨n, h, hr'⟩ | ⟨o2, hu, hw⟩ | ⟨o2, hu, hw⟩ | ⟨hu, rfl⟩
        · have k1 : u.length ≤ 10000 := Nat.le_trans h.1 (by decide)
          have k2 := numTok_128 h
          obtain ⟨k0, k3⟩ := st_nxn (n := n) hn
          replace hfin := hfin _ hr' k0
          rw [intsD_snoc] at hfin
          rcases h.all with a1 | ⟨a1, ds, rfl, a2, a3⟩
          · repeat' ((fail_if_success (with_reducible refine (?_ : @Eq _ _ _))); first | with_reducible refine' SK.exc ?_ | with_reducible refine' LEK.exc ?_ | with_reducible refine' LEK.next ?_ | ((with_reducible refine (?_ : TW (tAnd _ _) _ _)); with_reducible refine' TW.negF (by assumption) (by assumption) (by assumption) (by with_unfolding_all exact rfl) ?_) | ((with_reducible refine (?_ : RW (rPopZ _ _) _ _ _)); with_reducible first | refine' RW.popZ (by with_unfolding_all exact rfl) (by with_reducible assumption) ?_ | refine' RW.popZ0 (by with_unfolding_all exact rfl) ?_) | ((with_reducible refine (?_ : RW (rAsgZ _ _ _ _) _ _ _)); with_reducible first | refine' RW.asgZ1v (by with_unfolding_all exact rfl) (by with_unfolding_all exact rfl) (by with_reducible assumption) ?_ | refine' RW.asgZ0v (by with_unfolding_all exact rfl) (by with_unfolding_all exact rfl) ?_) | ((with_reducible refine (?_ : RW (fun _ _ => _) _ _ _)); with_reducible refine' RW.raise ?_) | ((with_reducible refine (?_ : OW (fIn false) (D.str _) (D.tup _) _)); refine' OW.of (by with_unfolding_all assumption) ?_) | ((with_reducible refine (?_ : EW (eComp _ _ (eVar _)) _ _)); with_reducible refine' EW.dgsVar (by with_unfolding_all exact rfl) (by first | with_reducible assumption | with_unfolding_all exact Nat.le_of_ble_eq_true rfl) ?_) | ((with_reducible refine (?_ : EW (eComp _ _ (Mine.e2 fSloS _ _)) _ _)); with_reducible refine' EW.dgsTail (by with_unfolding_all exact rfl) (by with_reducible assumption) ?_) | ((with_reducible refine (?_ : OW fEq (D.lst (List.map chD _)) (D.lst []) _)); with_reducible refine' OW.eqNil (by first | with_reducible assumption | decide) ?_) | ((with_reducible refine (?_ : IfK (List.all _ _) _ _)); with_reducible first | refine' IfK.hT (by first | with_reducible assumption | decide) ?_ | refine' IfK.hF (by first | with_reducible assumption | decide) ?_) | ((with_reducible refine (?_ : CW fInt [D.str _] _)); with_reducible refine' CW.intT (by with_reducible assumption) ?_) | ((with_reducible refine (?_ : CW fLen [D.str _] _)); with_reducible refine' CW.lenS (by first | with_reducible assumption | with_unfolding_all exact Nat.le_of_ble_eq_true rfl) ?_) | ((with_reducible refine (?_ : OW fEq (D.str _) (D.str _) _)); with_reducible first | refine' OW.clT (by decide +kernel) ?_ | refine' OW.clF (by decide +kernel) ?_) | ((with_reducible refine (?_ : OW (fIn false) (D.str _) (D.tup _) _)); with_reducible first | refine' OW.clT (by decide +kernel) ?_ | refine' OW.clF (by decide +kernel) ?_) | ((with_reducible refine (?_ : IfK (@decide ((1:Int) < (List.length _ : Int)) _) _ _)); with_reducible first | refine' IfK.decT (by first | with_reducible assumption | decide) ?_ | refine' IfK.decF (by first | with_reducible assumption | decide) ?_) | (with_reducible first | refine' SK.next ?_ | refine' RW.nil ?_ | refine' RW.seq ?_) | ((with_reducible refine (?_ : RW _ _ _ _)); with_reducible refine' RW.lenOk (by with_unfolding_all exact rfl) ?_) | (with_reducible first | refine' SW.of ?_ | refine' PutAt.of ?_ ?_) | (with_reducible first | exact SetR.z) | (with_reducible first | refine' SetR.s3 ?_ | refine' SetR.s ?_) | (with_reducible refine (?_ : SetR _ (0 + 1) _ _)); refine SetR.s ?_ | (with_reducible first | refine' RW.asg ?_ | refine' RW.if ?_ | refine' RW.new ?_) | ((with_reducible refine (?_ : RW _ _ _ _)); with_reducible refine' RW.app (by with_unfolding_all exact rfl) (by first | with_reducible assumption | with_unfolding_all exact Nat.le_of_ble_eq_true rfl) ?_) | (with_reducible first | refine' IfK.t ?_ | refine' IfK.f ?_ | refine' IfK.decT (by first | with_reducible assumption | with_unfolding_all omega) ?_ | refine' TruthK.bool ?_) | ((with_reducible refine (?_ : EW (eVar _) _ _)); with_reducible refine' EW.var (by with_unfolding_all exact rfl) ?_) | (with_reducible first | refine' EW.cst ?_ | refine' EW.e1 ?_ | refine' EW.e2 ?_ | refine' EW.call ?_ | refine' EW.tup ?_ | refine' EW.lst ?_ | refine' EsW.nil ?_ | refine' EsW.cons ?_ | refine' TW.c ?_) | ((with_reducible refine (?_ : TpK _ _)); with_reducible refine' TpK.mk (by with_unfolding_all exact Nat.le_of_ble_eq_true rfl) ?_) | ((with_reducible refine (?_ : LsK _ _)); with_reducible refine' LsK.mk (by with_unfolding_all exact Nat.le_of_ble_eq_true rfl) ?_) | (with_reducible first | refine' TW.tOf ?_ | refine' TW.and ?_) | ((with_reducible refine (?_ : CW _ _ _)); with_reducible refine' CW.of (by with_reducible assumption) ?_) | ((with_reducible refine (?_ : OW _ _ _ _)); with_reducible refine' OW.of (by with_reducible assumption) ?_) | (with_reducible first | refine' OW.add ?_ | refine' OW.sub ?_ | refine' OW.ord ?_) | ((with_reducible refine (?_ : OW fMul _ _ _)); with_reducible refine' OW.mul (by first | with_reducible assumption | with_unfolding_all exact mulOk_sm (by omega) (by omega)) ?_) | ((with_reducible refine (?_ : OW fDiv _ _ _)); with_reducible refine' OW.div (by with_reducible assumption) ?_) | ((with_reducible refine (?_ : OW fMod _ _ _)); with_reducible refine' OW.mod (by first | with_reducible assumption | with_unfolding_all omega) ?_) | ((with_reducible refine (?_ : OW fPow _ _ _)); with_reducible refine' OW.pow (by with_reducible assumption) ?_) | (with_reducible first | refine' CW.range2 ?_))
            exact hfin _ _ _ _ _
          · have k4 : ds.length ≤ 9999 := by rw [List.length_cons] at k1; exact Nat.le_of_succ_le_succ k1
            have k5 : ∀ c ∈ ds, c < 128 := fun c hc => k2 c (.tail _ hc)
            have k6 : (1 : Int) < ((45 :: ds).length : Int) := Int.ofNat_lt.mpr (Nat.succ_lt_succ (List.length_pos_iff.mpr a2))
            have k7 : fSubs (.str (mkS (45 :: ds))) (.int 0) = some (.str (mkS [45])) := rfl
            repeat' ((fail_if_success (with_reducible refine (?_ : @Eq _ _ _))); first | with_reducible refine' SK.exc ?_ | with_reducible refine' LEK.exc ?_ | with_reducible refine' LEK.next ?_ | ((with_reducible refine (?_ : TW (tAnd _ _) _ _)); with_reducible refine' TW.negF (by assumption) (by assumption) (by assumption) (by with_unfolding_all exact rfl) ?_) | ((with_reducible refine (?_ : RW (rPopZ _ _) _ _ _)); with_reducible first | refine' RW.popZ (by with_unfolding_all exact rfl) (by with_reducible assumption) ?_ | refine' RW.popZ0 (by with_unfolding_all exact rfl) ?_) | ((with_reducible refine (?_ : RW (rAsgZ _ _ _ _) _ _ _)); with_reducible first | refine' RW.asgZ1v (by with_unfolding_all exact rfl) (by with_unfolding_all exact rfl) (by with_reducible assumption) ?_ | refine' RW.asgZ0v (by with_unfolding_all exact rfl) (by with_unfolding_all exact rfl) ?_) | ((with_reducible refine (?_ : RW (fun _ _ => _) _ _ _)); with_reducible refine' RW.raise ?_) | ((with_reducible refine (?_ : OW (fIn false) (D.str _) (D.tup _) _)); refine' OW.of (by with_unfolding_all assumption) ?_) | ((with_reducible refine (?_ : EW (eComp _ _ (eVar _)) _ _)); with_reducible refine' EW.dgsVar (by with_unfolding_all exact rfl) (by first | with_reducible assumption | with_unfolding_all exact Nat.le_of_ble_eq_true rfl) ?_) | ((with_reducible refine (?_ : EW (eComp _ _ (Mine.e2 fSloS _ _)) _ _)); with_reducible refine' EW.dgsTail (by with_unfolding_all exact rfl) (by with_reducible assumption) ?_) | ((with_reducible refine (?_ : OW fEq (D.lst (List.map chD _)) (D.lst []) _)); with_reducible refine' OW.eqNil (by first | with_reducible assumption | decide) ?_) | ((with_reducible refine (?_ : IfK (List.all _ _) _ _)); with_reducible first | refine' IfK.hT (by first | with_reducible assumption | decide) ?_ | refine' IfK.hF (by first | with_reducible assumption | decide) ?_) | ((with_reducible refine (?_ : CW fInt [D.str _] _)); with_reducible refine' CW.intT (by with_reducible assumption) ?_) | ((with_reducible refine (?_ : CW fLen [D.str _] _)); with_reducible refine' CW.lenS (by first | with_reducible assumption | with_unfolding_all exact Nat.le_of_ble_eq_true rfl) ?_) | ((with_reducible refine (?_ : OW fEq (D.str _) (D.str _) _)); with_reducible first | refine' OW.clT (by decide +kernel) ?_ | refine' OW.clF (by decide +kernel) ?_) | ((with_reducible refine (?_ : OW (fIn false) (D.str _) (D.tup _) _)); with_reducible first | refine' OW.clT (by decide +kernel) ?_ | refine' OW.clF (by decide +kernel) ?_) | ((with_reducible refine (?_ : IfK (@decide ((1:Int) < (List.length _ : Int)) _) _ _)); with_reducible first | refine' IfK.decT (by first | with_reducible assumption | decide) ?_ | refine' IfK.decF (by first | with_reducible assumption | decide) ?_) | (with_reducible first | refine' SK.next ?_ | refine' RW.nil ?_ | refine' RW.seq ?_) | ((with_reducible refine (?_ : RW _ _ _ _)); with_reducible refine' RW.lenOk (by with_unfolding_all exact rfl) ?_) | (with_reducible first | refine' SW.of ?_ | refine' PutAt.of ?_ ?_) | (with_reducible first | exact SetR.z) | (with_reducible first | refine' SetR.s3 ?_ | refine' SetR.s ?_) | (with_reducible refine (?_ : SetR _ (0 + 1) _ _)); refine SetR.s ?_ | (with_reducible first | refine' RW.asg ?_ | refine' RW.if ?_ | refine' RW.new ?_) | ((with_reducible refine (?_ : RW _ _ _ _)); with_reducible refine' RW.app (by with_unfolding_all exact rfl) (by first | with_reducible assumption | with_unfolding_all exact Nat.le_of_ble_eq_true rfl) ?_) | (with_reducible first | refine' IfK.t ?_ | refine' IfK.f ?_ | refine' IfK.decT (by first | with_reducible assumption | with_unfolding_all omega) ?_ | refine' TruthK.bool ?_) | ((with_reducible refine (?_ : EW (eVar _) _ _)); with_reducible refine' EW.var (by with_unfolding_all exact rfl) ?_) | (with_reducible first | refine' EW.cst ?_ | refine' EW.e1 ?_ | refine' EW.e2 ?_ | refine' EW.call ?_ | refine' EW.tup ?_ | refine' EW.lst ?_ | refine' EsW.nil ?_ | refine' EsW.cons ?_ | refine' TW.c ?_) | ((with_reducible refine (?_ : TpK _ _)); with_reducible refine' TpK.mk (by with_unfolding_all exact Nat.le_of_ble_eq_true rfl) ?_) | ((with_reducible refine (?_ : LsK _ _)); with_reducible refine' LsK.mk (by with_unfolding_all exact Nat.le_of_ble_eq_true rfl) ?_) | (with_reducible first | refine' TW.tOf ?_ | refine' TW.and ?_) | ((with_reducible refine (?_ : CW _ _ _)); with_reducible refine' CW.of (by with_reducible assumption) ?_) | ((with_reducible refine (?_ : OW _ _ _ _)); with_reducible refine' OW.of (by with_reducible assumption) ?_) | (with_reducible first | refine' OW.add ?_ | refine' OW.sub ?_ | refine' OW.ord ?_) | ((with_reducible refine (?_ : OW fMul _ _ _)); with_reducible refine' OW.mul (by first | with_reducible assumption | with_unfolding_all exact mulOk_sm (by omega) (by omega)) ?_) | ((with_reducible refine (?_ : OW fDiv _ _ _)); with_reducible refine' OW.div (by with_reducible assumption) ?_) | ((with_reducible refine (?_ : OW fMod _ _ _)); with_reducible refine' OW.mod (by first | with_reducible assumption | with_unfolding_all omega) ?_) | ((with_reducible refine (?_ : OW fPow _ _ _)); with_reducible refine' OW.pow (by with_reducible assumption) ?_) | (with_reducible first | refine' CW.range2 ?_))
            exact hfin _ _ _ _ _
        · obtain ⟨q1, q2, q3, q4, q5⟩ := known2 o2
          rw [hu] at q1 q2 q3 q4 q5
          have q0 : u.length ≤ 10000 := Nat.le_trans q1 (by decide)
          repeat' ((fail_if_success (with_reducible refine (?_ : @Eq _ _ _))); first | with_reducible refine' SK.exc ?_ | with_reducible refine' LEK.exc ?_ | with_reducible refine' LEK.next ?_ | ((with_reducible refine (?_ : TW (tAnd _ _) _ _)); with_reducible refine' TW.negF (by assumption) (by assumption) (by assumption) (by with_unfolding_all exact rfl) ?_) | ((with_reducible refine (?_ : RW (rPopZ _ _) _ _ _)); with_reducible first | refine' RW.popZ (by with_unfolding_all exact rfl) (by with_reducible assumption) ?_ | refine' RW.popZ0 (by with_unfolding_all exact rfl) ?_) | ((with_reducible refine (?_ : RW (rAsgZ _ _ _ _) _ _ _)); with_reducible first | refine' RW.asgZ1v (by with_unfolding_all exact rfl) (by with_unfolding_all exact rfl) (by with_reducible assumption) ?_ | refine' RW.asgZ0v (by with_unfolding_all exact rfl) (by with_unfolding_all exact rfl) ?_) | ((with_reducible refine (?_ : RW (fun _ _ => _) _ _ _)); with_reducible refine' RW.raise ?_) | ((with_reducible refine (?_ : OW (fIn false) (D.str _) (D.tup _) _)); refine' OW.of (by with_unfolding_all assumption) ?_) | ((with_reducible refine (?_ : EW (eComp _ _ (eVar _)) _ _)); with_reducible refine' EW.dgsVar (by with_unfolding_all exact rfl) (by first | with_reducible assumption | with_unfolding_all exact Nat.le_of_ble_eq_true rfl) ?_) | ((with_reducible refine (?_ : EW (eComp _ _ (Mine.e2 fSloS _ _)) _ _)); with_reducible refine' EW.dgsTail (by with_unfolding_all exact rfl) (by with_reducible assumption) ?_) | ((with_reducible refine (?_ : OW fEq (D.lst (List.map chD _)) (D.lst []) _)); with_reducible refine' OW.eqNil (by first | with_reducible assumption | decide) ?_) | ((with_reducible refine (?_ : IfK (List.all _ _) _ _)); with_reducible first | refine' IfK.hT (by first | with_reducible assumption | decide) ?_ | refine' IfK.hF (by first | with_reducible assumption | decide) ?_) | ((with_reducible refine (?_ : CW fInt [D.str _] _)); with_reducible refine' CW.intT (by with_reducible assumption) ?_) | ((with_reducible refine (?_ : CW fLen [D.str _] _)); with_reducible refine' CW.lenS (by first | with_reducible assumption | with_unfolding_all exact Nat.le_of_ble_eq_true rfl) ?_) | ((with_reducible refine (?_ : OW fEq (D.str _) (D.str _) _)); with_reducible first | refine' OW.clT (by decide +kernel) ?_ | refine' OW.clF (by decide +kernel) ?_) | ((with_reducible refine (?_ : OW (fIn false) (D.str _) (D.tup _) _)); with_reducible first | refine' OW.clT (by decide +kernel) ?_ | refine' OW.clF (by decide +kernel) ?_) | ((with_reducible refine (?_ : IfK (@decide ((1:Int) < (List.length _ : Int)) _) _ _)); with_reducible first | refine' IfK.decT (by first | with_reducible assumption | decide) ?_ | refine' IfK.decF (by first | with_reducible assumption | decide) ?_) | (with_reducible first | refine' SK.next ?_ | refine' RW.nil ?_ | refine' RW.seq ?_) | ((with_reducible refine (?_ : RW _ _ _ _)); with_reducible refine' RW.lenOk (by with_unfolding_all exact rfl) ?_) | (with_reducible first | refine' SW.of ?_ | refine' PutAt.of ?_ ?_) | (with_reducible first | exact SetR.z) | (with_reducible first | refine' SetR.s3 ?_ | refine' SetR.s ?_) | (with_reducible refine (?_ : SetR _ (0 + 1) _ _)); refine SetR.s ?_ | (with_reducible first | refine' RW.asg ?_ | refine' RW.if ?_ | refine' RW.new ?_) | ((with_reducible refine (?_ : RW _ _ _ _)); with_reducible refine' RW.app (by with_unfolding_all exact rfl) (by first | with_reducible assumption | with_unfolding_all exact Nat.le_of_ble_eq_true rfl) ?_) | (with_reducible first | refine' IfK.t ?_ | refine' IfK.f ?_ | refine' IfK.decT (by first | with_reducible assumption | with_unfolding_all omega) ?_ | refine' TruthK.bool ?_) | ((with_reducible refine (?_ : EW (eVar _) _ _)); with_reducible refine' EW.var (by with_unfolding_all exact rfl) ?_) | (with_reducible first | refine' EW.cst ?_ | refine' EW.e1 ?_ | refine' EW.e2 ?_ | refine' EW.call ?_ | refine' EW.tup ?_ | refine' EW.lst ?_ | refine' EsW.nil ?_ | refine' EsW.cons ?_ | refine' TW.c ?_) | ((with_reducible refine (?_ : TpK _ _)); with_reducible refine' TpK.mk (by with_unfolding_all exact Nat.le_of_ble_eq_true rfl) ?_) | ((with_reducible refine (?_ : LsK _ _)); with_reducible refine' LsK.mk (by with_unfolding_all exact Nat.le_of_ble_eq_true rfl) ?_) | (with_reducible first | refine' TW.tOf ?_ | refine' TW.and ?_) | ((with_reducible refine (?_ : CW _ _ _)); with_reducible refine' CW.of (by with_reducible assumption) ?_) | ((with_reducible refine (?_ : OW _ _ _ _)); with_reducible refine' OW.of (by with_reducible assumption) ?_) | (with_reducible first | refine' OW.add ?_ | refine' OW.sub ?_ | refine' OW.ord ?_) | ((with_reducible refine (?_ : OW fMul _ _ _)); with_reducible refine' OW.mul (by first | with_reducible assumption | with_unfolding_all exact mulOk_sm (by omega) (by omega)) ?_) | ((with_reducible refine (?_ : OW fDiv _ _ _)); with_reducible refine' OW.div (by with_reducible assumption) ?_) | ((with_reducible refine (?_ : OW fMod _ _ _)); with_reducible refine' OW.mod (by first | with_reducible assumption | with_unfolding_all omega) ?_) | ((with_reducible refine (?_ : OW fPow _ _ _)); with_reducible refine' OW.pow (by with_reducible assumption) ?_) | (with_reducible first | refine' CW.range2 ?_))
          rcases hw with ⟨rfl, rfl⟩ | ⟨a, rfl, rfl⟩ | ⟨a, s, rfl, ho, rfl⟩ | ⟨a, b, c, s, rfl, h, hr'⟩
          · repeat' ((fail_if_success (with_reducible refine (?_ : @Eq _ _ _))); first | with_reducible refine' SK.exc ?_ | with_reducible refine' LEK.exc ?_ | with_reducible refine' LEK.next ?_ | ((with_reducible refine (?_ : TW (tAnd _ _) _ _)); with_reducible refine' TW.negF (by assumption) (by assumption) (by assumption) (by with_unfolding_all exact rfl) ?_) | ((with_reducible refine (?_ : RW (rPopZ _ _) _ _ _)); with_reducible first | refine' RW.popZ (by with_unfolding_all exact rfl) (by with_reducible assumption) ?_ | refine' RW.popZ0 (by with_unfolding_all exact rfl) ?_) | ((with_reducible refine (?_ : RW (rAsgZ _ _ _ _) _ _ _)); with_reducible first | refine' RW.asgZ1v (by with_unfolding_all exact rfl) (by with_unfolding_all exact rfl) (by with_reducible assumption) ?_ | refine' RW.asgZ0v (by with_unfolding_all exact rfl) (by with_unfolding_all exact rfl) ?_) | ((with_reducible refine (?_ : RW (fun _ _ => _) _ _ _)); with_reducible refine' RW.raise ?_) | ((with_reducible refine (?_ : OW (fIn false) (D.str _) (D.tup _) _)); refine' OW.of (by with_unfolding_all assumption) ?_) | ((with_reducible refine (?_ : EW (eComp _ _ (eVar _)) _ _)); with_reducible refine' EW.dgsVar (by with_unfolding_all exact rfl) (by first | with_reducible assumption | with_unfolding_all exact Nat.le_of_ble_eq_true rfl) ?_) | ((with_reducible refine (?_ : EW (eComp _ _ (Mine.e2 fSloS _ _)) _ _)); with_reducible refine' EW.dgsTail (by with_unfolding_all exact rfl) (by with_reducible assumption) ?_) | ((with_reducible refine (?_ : OW fEq (D.lst (List.map chD _)) (D.lst []) _)); with_reducible refine' OW.eqNil (by first | with_reducible assumption | decide) ?_) | ((with_reducible refine (?_ : IfK (List.all _ _) _ _)); with_reducible first | refine' IfK.hT (by first | with_reducible assumption | decide) ?_ | refine' IfK.hF (by first | with_reducible assumption | decide) ?_) | ((with_reducible refine (?_ : CW fInt [D.str _] _)); with_reducible refine' CW.intT (by with_reducible assumption) ?_) | ((with_reducible refine (?_ : CW fLen [D.str _] _)); with_reducible refine' CW.lenS (by first | with_reducible assumption | with_unfolding_all exact Nat.le_of_ble_eq_true rfl) ?_) | ((with_reducible refine (?_ : OW fEq (D.str _) (D.str _) _)); with_reducible first | refine' OW.clT (by decide +kernel) ?_ | refine' OW.clF (by decide +kernel) ?_) | ((with_reducible refine (?_ : OW (fIn false) (D.str _) (D.tup _) _)); with_reducible first | refine' OW.clT (by decide +kernel) ?_ | refine' OW.clF (by decide +kernel) ?_) | ((with_reducible refine (?_ : IfK (@decide ((1:Int) < (List.length _ : Int)) _) _ _)); with_reducible first | refine' IfK.decT (by first | with_reducible assumption | decide) ?_ | refine' IfK.decF (by first | with_reducible assumption | decide) ?_) | (with_reducible first | refine' SK.next ?_ | refine' RW.nil ?_ | refine' RW.seq ?_) | ((with_reducible refine (?_ : RW _ _ _ _)); with_reducible refine' RW.lenOk (by with_unfolding_all exact rfl) ?_) | (with_reducible first | refine' SW.of ?_ | refine' PutAt.of ?_ ?_) | (with_reducible first | exact SetR.z) | (with_reducible first | refine' SetR.s3 ?_ | refine' SetR.s ?_) | (with_reducible refine (?_ : SetR _ (0 + 1) _ _)); refine SetR.s ?_ | (with_reducible first | refine' RW.asg ?_ | refine' RW.if ?_ | refine' RW.new ?_) | ((with_reducible refine (?_ : RW _ _ _ _)); with_reducible refine' RW.app (by with_unfolding_all exact rfl) (by first | with_reducible assumption | with_unfolding_all exact Nat.le_of_ble_eq_true rfl) ?_) | (with_reducible first | refine' IfK.t ?_ | refine' IfK.f ?_ | refine' IfK.decT (by first | with_reducible assumption | with_unfolding_all omega) ?_ | refine' TruthK.bool ?_) | ((with_reducible refine (?_ : EW (eVar _) _ _)); with_reducible refine' EW.var (by with_unfolding_all exact rfl) ?_) | (with_reducible first | refine' EW.cst ?_ | refine' EW.e1 ?_ | refine' EW.e2 ?_ | refine' EW.call ?_ | refine' EW.tup ?_ | refine' EW.lst ?_ | refine' EsW.nil ?_ | refine' EsW.cons ?_ | refine' TW.c ?_) | ((with_reducible refine (?_ : TpK _ _)); with_reducible refine' TpK.mk (by with_unfolding_all exact Nat.le_of_ble_eq_true rfl) ?_) | ((with_reducible refine (?_ : LsK _ _)); with_reducible refine' LsK.mk (by with_unfolding_all exact Nat.le_of_ble_eq_true rfl) ?_) | (with_reducible first | refine' TW.tOf ?_ | refine' TW.and ?_) | ((with_reducible refine (?_ : CW _ _ _)); with_reducible refine' CW.of (by with_reducible assumption) ?_) | ((with_reducible refine (?_ : OW _ _ _ _)); with_reducible refine' OW.of (by with_reducible assumption) ?_) | (with_reducible first | refine' OW.add ?_ | refine' OW.sub ?_ | refine' OW.ord ?_) | ((with_reducible refine (?_ : OW fMul _ _ _)); with_reducible refine' OW.mul (by first | with_reducible assumption | with_unfolding_all exact mulOk_sm (by omega) (by omega)) ?_) | ((with_reducible refine (?_ : OW fDiv _ _ _)); with_reducible refine' OW.div (by with_reducible assumption) ?_) | ((with_reducible refine (?_ : OW fMod _ _ _)); with_reducible refine' OW.mod (by first | with_reducible assumption | with_unfolding_all omega) ?_) | ((with_reducible refine (?_ : OW fPow _ _ _)); with_reducible refine' OW.pow (by with_reducible assumption) ?_) | (with_reducible first | refine' CW.range2 ?_))
            rfl
          · have e1 : intsD [a] = [] ++ [D.int a] := rfl
            have e2 : ([] : List D).length ≤ 9999 := by decide
            rw [e1]
            repeat' ((fail_if_success (with_reducible refine (?_ : @Eq _ _ _))); first | with_reducible refine' SK.exc ?_ | with_reducible refine' LEK.exc ?_ | with_reducible refine' LEK.next ?_ | ((with_reducible refine (?_ : TW (tAnd _ _) _ _)); with_reducible refine' TW.negF (by assumption) (by assumption) (by assumption) (by with_unfolding_all exact rfl) ?_) | ((with_reducible refine (?_ : RW (rPopZ _ _) _ _ _)); with_reducible first | refine' RW.popZ (by with_unfolding_all exact rfl) (by with_reducible assumption) ?_ | refine' RW.popZ0 (by with_unfolding_all exact rfl) ?_) | ((with_reducible refine (?_ : RW (rAsgZ _ _ _ _) _ _ _)); with_reducible first | refine' RW.asgZ1v (by with_unfolding_all exact rfl) (by with_unfolding_all exact rfl) (by with_reducible assumption) ?_ | refine' RW.asgZ0v (by with_unfolding_all exact rfl) (by with_unfolding_all exact rfl) ?_) | ((with_reducible refine (?_ : RW (fun _ _ => _) _ _ _)); with_reducible refine' RW.raise ?_) | ((with_reducible refine (?_ : OW (fIn false) (D.str _) (D.tup _) _)); refine' OW.of (by with_unfolding_all assumption) ?_) | ((with_reducible refine (?_ : EW (eComp _ _ (eVar _)) _ _)); with_reducible refine' EW.dgsVar (by with_unfolding_all exact rfl) (by first | with_reducible assumption | with_unfolding_all exact Nat.le_of_ble_eq_true rfl) ?_) | ((with_reducible refine (?_ : EW (eComp _ _ (Mine.e2 fSloS _ _)) _ _)); with_reducible refine' EW.dgsTail (by with_unfolding_all exact rfl) (by with_reducible assumption) ?_) | ((with_reducible refine (?_ : OW fEq (D.lst (List.map chD _)) (D.lst []) _)); with_reducible refine' OW.eqNil (by first | with_reducible assumption | decide) ?_) | ((with_reducible refine (?_ : IfK (List.all _ _) _ _)); with_reducible first | refine' IfK.hT (by first | with_reducible assumption | decide) ?_ | refine' IfK.hF (by first | with_reducible assumption | decide) ?_) | ((with_reducible refine (?_ : CW fInt [D.str _] _)); with_reducible refine' CW.intT (by with_reducible assumption) ?_) | ((with_reducible refine (?_ : CW fLen [D.str _] _)); with_reducible refine' CW.lenS (by first | with_reducible assumption | with_unfolding_all exact Nat.le_of_ble_eq_true rfl) ?_) | ((with_reducible refine (?_ : OW fEq (D.str _) (D.str _) _)); with_reducible first | refine' OW.clT (by decide +kernel) ?_ | refine' OW.clF (by decide +kernel) ?_) | ((with_reducible refine (?_ : OW (fIn false) (D.str _) (D.tup _) _)); with_reducible first | refine' OW.clT (by decide +kernel) ?_ | refine' OW.clF (by decide +kernel) ?_) | ((with_reducible refine (?_ : IfK (@decide ((1:Int) < (List.length _ : Int)) _) _ _)); with_reducible first | refine' IfK.decT (by first | with_reducible assumption | decide) ?_ | refine' IfK.decF (by first | with_reducible assumption | decide) ?_) | (with_reducible first | refine' SK.next ?_ | refine' RW.nil ?_ | refine' RW.seq ?_) | ((with_reducible refine (?_ : RW _ _ _ _)); with_reducible refine' RW.lenOk (by with_unfolding_all exact rfl) ?_) | (with_reducible first | refine' SW.of ?_ | refine' PutAt.of ?_ ?_) | (with_reducible first | exact SetR.z) | (with_reducible first | refine' SetR.s3 ?_ | refine' SetR.s ?_) | (with_reducible refine (?_ : SetR _ (0 + 1) _ _)); refine SetR.s ?_ | (with_reducible first | refine' RW.asg ?_ | refine' RW.if ?_ | refine' RW.new ?_) | ((with_reducible refine (?_ : RW _ _ _ _)); with_reducible refine' RW.app (by with_unfolding_all exact rfl) (by first | with_reducible assumption | with_unfolding_all exact Nat.le_of_ble_eq_true rfl) ?_) | (with_reducible first | refine' IfK.t ?_ | refine' IfK.f ?_ | refine' IfK.decT (by first | with_reducible assumption | with_unfolding_all omega) ?_ | refine' TruthK.bool ?_) | ((with_reducible refine (?_ : EW (eVar _) _ _)); with_reducible refine' EW.var (by with_unfolding_all exact rfl) ?_) | (with_reducible first | refine' EW.cst ?_ | refine' EW.e1 ?_ | refine' EW.e2 ?_ | refine' EW.call ?_ | refine' EW.tup ?_ | refine' EW.lst ?_ | refine' EsW.nil ?_ | refine' EsW.cons ?_ | refine' TW.c ?_) | ((with_reducible refine (?_ : TpK _ _)); with_reducible refine' TpK.mk (by with_unfolding_all exact Nat.le_of_ble_eq_true rfl) ?_) | ((with_reducible refine (?_ : LsK _ _)); with_reducible refine' LsK.mk (by with_unfolding_all exact Nat.le_of_ble_eq_true rfl) ?_) | (with_reducible first | refine' TW.tOf ?_ | refine' TW.and ?_) | ((with_reducible refine (?_ : CW _ _ _)); with_reducible refine' CW.of (by with_reducible assumption) ?_) | ((with_reducible refine (?_ : OW _ _ _ _)); with_reducible refine' OW.of (by with_reducible assumption) ?_) | (with_reducible first | refine' OW.add ?_ | refine' OW.sub ?_ | refine' OW.ord ?_) | ((with_reducible refine (?_ : OW fMul _ _ _)); with_reducible refine' OW.mul (by first | with_reducible assumption | with_unfolding_all exact mulOk_sm (by omega) (by omega)) ?_) | ((with_reducible refine (?_ : OW fDiv _ _ _)); with_reducible refine' OW.div (by with_reducible assumption) ?_) | ((with_reducible refine (?_ : OW fMod _ _ _)); with_reducible refine' OW.mod (by first | with_reducible assumption | with_unfolding_all omega) ?_) | ((with_reducible refine (?_ : OW fPow _ _ _)); with_reducible refine' OW.pow (by with_reducible assumption) ?_) | (with_reducible first | refine' CW.range2 ?_))
            rfl
          · obtain ⟨k0, k1, k2⟩ := st_len2 hn
            rw [intsD_snoc, intsD_snoc]
            subst hu
            clear q1 q2 q3 q4 q5 q0
            rcases ho with rfl | rfl | rfl <;> (repeat' ((fail_if_success (with_reducible refine (?_ : @Eq _ _ _))); first | with_reducible refine' SK.exc ?_ | with_reducible refine' LEK.exc ?_ | with_reducible refine' LEK.next ?_ | ((with_reducible refine (?_ : TW (tAnd _ _) _ _)); with_reducible refine' TW.negF (by assumption) (by assumption) (by assumption) (by with_unfolding_all exact rfl) ?_) | ((with_reducible refine (?_ : RW (rPopZ _ _) _ _ _)); with_reducible first | refine' RW.popZ (by with_unfolding_all exact rfl) (by with_reducible assumption) ?_ | refine' RW.popZ0 (by with_unfolding_all exact rfl) ?_) | ((with_reducible refine (?_ : RW (rAsgZ _ _ _ _) _ _ _)); with_reducible first | refine' RW.asgZ1v (by with_unfolding_all exact rfl) (by with_unfolding_all exact rfl) (by with_reducible assumption) ?_ | refine' RW.asgZ0v (by with_unfolding_all exact rfl) (by with_unfolding_all exact rfl) ?_) | ((with_reducible refine (?_ : RW (fun _ _ => _) _ _ _)); with_reducible refine' RW.raise ?_) | ((with_reducible refine (?_ : OW (fIn false) (D.str _) (D.tup _) _)); refine' OW.of (by with_unfolding_all assumption) ?_) | ((with_reducible refine (?_ : EW (eComp _ _ (eVar _)) _ _)); with_reducible refine' EW.dgsVar (by with_unfolding_all exact rfl) (by first | with_reducible assumption | with_unfolding_all exact Nat.le_of_ble_eq_true rfl) ?_) | ((with_reducible refine (?_ : EW (eComp _ _ (Mine.e2 fSloS _ _)) _ _)); with_reducible refine' EW.dgsTail (by with_unfolding_all exact rfl) (by with_reducible assumption) ?_) | ((with_reducible refine (?_ : OW fEq (D.lst (List.map chD _)) (D.lst []) _)); with_reducible refine' OW.eqNil (by first | with_reducible assumption | decide) ?_) | ((with_reducible refine (?_ : IfK (List.all _ _) _ _)); with_reducible first | refine' IfK.hT (by first | with_reducible assumption | decide) ?_ | refine' IfK.hF (by first | with_reducible assumption | decide) ?_) | ((with_reducible refine (?_ : CW fInt [D.str _] _)); with_reducible refine' CW.intT (by with_reducible assumption) ?_) | ((with_reducible refine (?_ : CW fLen [D.str _] _)); with_reducible refine' CW.lenS (by first | with_reducible assumption | with_unfolding_all exact Nat.le_of_ble_eq_true rfl) ?_) | ((with_reducible refine (?_ : OW fEq (D.str _) (D.str _) _)); with_reducible first | refine' OW.clT (by decide +kernel) ?_ | refine' OW.clF (by decide +kernel) ?_) | ((with_reducible refine (?_ : OW (fIn false) (D.str _) (D.tup _) _)); with_reducible first | refine' OW.clT (by decide +kernel) ?_ | refine' OW.clF (by decide +kernel) ?_) | ((with_reducible refine (?_ : IfK (@decide ((1:Int) < (List.length _ : Int)) _) _ _)); with_reducible first | refine' IfK.decT (by first | with_reducible assumption | decide) ?_ | refine' IfK.decF (by first | with_reducible assumption | decide) ?_) | (with_reducible first | refine' SK.next ?_ | refine' RW.nil ?_ | refine' RW.seq ?_) | ((with_reducible refine (?_ : RW _ _ _ _)); with_reducible refine' RW.lenOk (by with_unfolding_all exact rfl) ?_) | (with_reducible first | refine' SW.of ?_ | refine' PutAt.of ?_ ?_) | (with_reducible first | exact SetR.z) | (with_reducible first | refine' SetR.s3 ?_ | refine' SetR.s ?_) | (with_reducible refine (?_ : SetR _ (0 + 1) _ _)); refine SetR.s ?_ | (with_reducible first | refine' RW.asg ?_ | refine' RW.if ?_ | refine' RW.new ?_) | ((with_reducible refine (?_ : RW _ _ _ _)); with_reducible refine' RW.app (by with_unfolding_all exact rfl) (by first | with_reducible assumption | with_unfolding_all exact Nat.le_of_ble_eq_true rfl) ?_) | (with_reducible first | refine' IfK.t ?_ | refine' IfK.f ?_ | refine' IfK.decT (by first | with_reducible assumption | with_unfolding_all omega) ?_ | refine' TruthK.bool ?_) | ((with_reducible refine (?_ : EW (eVar _) _ _)); with_reducible refine' EW.var (by with_unfolding_all exact rfl) ?_) | (with_reducible first | refine' EW.cst ?_ | refine' EW.e1 ?_ | refine' EW.e2 ?_ | refine' EW.call ?_ | refine' EW.tup ?_ | refine' EW.lst ?_ | refine' EsW.nil ?_ | refine' EsW.cons ?_ | refine' TW.c ?_) | ((with_reducible refine (?_ : TpK _ _)); with_reducible refine' TpK.mk (by with_unfolding_all exact Nat.le_of_ble_eq_true rfl) ?_) | ((with_reducible refine (?_ : LsK _ _)); with_reducible refine' LsK.mk (by with_unfolding_all exact Nat.le_of_ble_eq_true rfl) ?_) | (with_reducible first | refine' TW.tOf ?_ | refine' TW.and ?_) | ((with_reducible refine (?_ : CW _ _ _)); with_reducible refine' CW.of (by with_reducible assumption) ?_) | ((with_reducible refine (?_ : OW _ _ _ _)); with_reducible refine' OW.of (by with_reducible assumption) ?_) | (with_reducible first | refine' OW.add ?_ | refine' OW.sub ?_ | refine' OW.ord ?_) | ((with_reducible refine (?_ : OW fMul _ _ _)); with_reducible refine' OW.mul (by first | with_reducible assumption | with_unfolding_all exact mulOk_sm (by omega) (by omega)) ?_) | ((with_reducible refine (?_ : OW fDiv _ _ _)); with_reducible refine' OW.div (by with_reducible assumption) ?_) | ((with_reducible refine (?_ : OW fMod _ _ _)); with_reducible refine' OW.mod (by first | with_reducible assumption | with_unfolding_all omega) ?_) | ((with_reducible refine (?_ : OW fPow _ _ _)); with_reducible refine' OW.pow (by with_reducible assumption) ?_) | (with_reducible first | refine' CW.range2 ?_))) <;> rfl
          · obtain ⟨k0, k1, k2⟩ := st_len2 hn
            replace hfin := hfin _ hr' (st_nx2 hn)
            rw [intsD_snoc] at hfin
            rw [intsD_snoc, intsD_snoc]
            subst hu
            clear q1 q2 q3 q4 q5 q0 hn hr'
            cases o2 <;> (first | (obtain ⟨h1, rfl⟩ := ite_some h) | cases h) <;> (try (have hb0 : b ≠ 0 := by unfold divOk at h1; simp only [Bool.and_eq_true, decide_eq_true_eq] at h1; exact h1.1)) <;> (repeat' ((fail_if_success (with_reducible refine (?_ : @Eq _ _ _))); first | with_reducible refine' SK.exc ?_ | with_reducible refine' LEK.exc ?_ | with_reducible refine' LEK.next ?_ | ((with_reducible refine (?_ : TW (tAnd _ _) _ _)); with_reducible refine' TW.negF (by assumption) (by assumption) (by assumption) (by with_unfolding_all exact rfl) ?_) | ((with_reducible refine (?_ : RW (rPopZ _ _) _ _ _)); with_reducible first | refine' RW.popZ (by with_unfolding_all exact rfl) (by with_reducible assumption) ?_ | refine' RW.popZ0 (by with_unfolding_all exact rfl) ?_) | ((with_reducible refine (?_ : RW (rAsgZ _ _ _ _) _ _ _)); with_reducible first | refine' RW.asgZ1v (by with_unfolding_all exact rfl) (by with_unfolding_all exact rfl) (by with_reducible assumption) ?_ | refine' RW.asgZ0v (by with_unfolding_all exact rfl) (by with_unfolding_all exact rfl) ?_) | ((with_reducible refine (?_ : RW (fun _ _ => _) _ _ _)); with_reducible refine' RW.raise ?_) | ((with_reducible refine (?_ : OW (fIn false) (D.str _) (D.tup _) _)); refine' OW.of (by with_unfolding_all assumption) ?_) | ((with_reducible refine (?_ : EW (eComp _ _ (eVar _)) _ _)); with_reducible refine' EW.dgsVar (by with_unfolding_all exact rfl) (by first | with_reducible assumption | with_unfolding_all exact Nat.le_of_ble_eq_true rfl) ?_) | ((with_reducible refine (?_ : EW (eComp _ _ (Mine.e2 fSloS _ _)) _ _)); with_reducible refine' EW.dgsTail (by with_unfolding_all exact rfl) (by with_reducible assumption) ?_) | ((with_reducible refine (?_ : OW fEq (D.lst (List.map chD _)) (D.lst []) _)); with_reducible refine' OW.eqNil (by first | with_reducible assumption | decide) ?_) | ((with_reducible refine (?_ : IfK (List.all _ _) _ _)); with_reducible first | refine' IfK.hT (by first | with_reducible assumption | decide) ?_ | refine' IfK.hF (by first | with_reducible assumption | decide) ?_) | ((with_reducible refine (?_ : CW fInt [D.str _] _)); with_reducible refine' CW.intT (by with_reducible assumption) ?_) | ((with_reducible refine (?_ : CW fLen [D.str _] _)); with_reducible refine' CW.lenS (by first | with_reducible assumption | with_unfolding_all exact Nat.le_of_ble_eq_true rfl) ?_) | ((with_reducible refine (?_ : OW fEq (D.str _) (D.str _) _)); with_reducible first | refine' OW.clT (by decide +kernel) ?_ | refine' OW.clF (by decide +kernel) ?_) | ((with_reducible refine (?_ : OW (fIn false) (D.str _) (D.tup _) _)); with_reducible first | refine' OW.clT (by decide +kernel) ?_ | refine' OW.clF (by decide +kernel) ?_) | ((with_reducible refine (?_ : IfK (@decide ((1:Int) < (List.length _ : Int)) _) _ _)); with_reducible first | refine' IfK.decT (by first | with_reducible assumption | decide) ?_ | refine' IfK.decF (by first | with_reducible assumption | decide) ?_) | (with_reducible first | refine' SK.next ?_ | refine' RW.nil ?_ | refine' RW.seq ?_) | ((with_reducible refine (?_ : RW _ _ _ _)); with_reducible refine' RW.lenOk (by with_unfolding_all exact rfl) ?_) | (with_reducible first | refine' SW.of ?_ | refine' PutAt.of ?_ ?_) | (with_reducible first | exact SetR.z) | (with_reducible first | refine' SetR.s3 ?_ | refine' SetR.s ?_) | (with_reducible refine (?_ : SetR _ (0 + 1) _ _)); refine SetR.s ?_ | (with_reducible first | refine' RW.asg ?_ | refine' RW.if ?_ | refine' RW.new ?_) | ((with_reducible refine (?_ : RW _ _ _ _)); with_reducible refine' RW.app (by with_unfolding_all exact rfl) (by first | with_reducible assumption | with_unfolding_all exact Nat.le_of_ble_eq_true rfl) ?_) | (with_reducible first | refine' IfK.t ?_ | refine' IfK.f ?_ | refine' IfK.decT (by first | with_reducible assumption | with_unfolding_all omega) ?_ | refine' TruthK.bool ?_) | ((with_reducible refine (?_ : EW (eVar _) _ _)); with_reducible refine' EW.var (by with_unfolding_all exact rfl) ?_) | (with_reducible first | refine' EW.cst ?_ | refine' EW.e1 ?_ | refine' EW.e2 ?_ | refine' EW.call ?_ | refine' EW.tup ?_ | refine' EW.lst ?_ | refine' EsW.nil ?_ | refine' EsW.cons ?_ | refine' TW.c ?_) | ((with_reducible refine (?_ : TpK _ _)); with_reducible refine' TpK.mk (by with_unfolding_all exact Nat.le_of_ble_eq_true rfl) ?_) | ((with_reducible refine (?_ : LsK _ _)); with_reducible refine' LsK.mk (by with_unfolding_all exact Nat.le_of_ble_eq_true rfl) ?_) | (with_reducible first | refine' TW.tOf ?_ | refine' TW.and ?_) | ((with_reducible refine (?_ : CW _ _ _)); with_reducible refine' CW.of (by with_reducible assumption) ?_) | ((with_reducible refine (?_ : OW _ _ _ _)); with_reducible refine' OW.of (by with_reducible assumption) ?_) | (with_reducible first | refine' OW.add ?_ | refine' OW.sub ?_ | refine' OW.ord ?_) | ((with_reducible refine (?_ : OW fMul _ _ _)); with_reducible refine' OW.mul (by first | with_reducible assumption | with_unfolding_all exact mulOk_sm (by omega) (by omega)) ?_) | ((with_reducible refine (?_ : OW fDiv _ _ _)); with_reducible refine' OW.div (by with_reducible assumption) ?_) | ((with_reducible refine (?_ : OW fMod _ _ _)); with_reducible refine' OW.mod (by first | with_reducible assumption | with_unfolding_all omega) ?_) | ((with_reducible refine (?_ : OW fPow _ _ _)); with_reducible refine' OW.pow (by with_reducible assumption) ?_) | (with_reducible first | refine' CW.range2 ?_))) <;> exact hfin _ _ _ _ _
        · obtain ⟨q1, q2, q3, q4, q6, q5⟩ := known1 o2
          rw [hu] at q1 q2 q3 q4 q5 q6
          have q0 : u.length ≤ 10000 := Nat.le_trans q1 (by decide)
          repeat' ((fail_if_success (with_reducible refine (?_ : @Eq _ _ _))); first | with_reducible refine' SK.exc ?_ | with_reducible refine' LEK.exc ?_ | with_reducible refine' LEK.next ?_ | ((with_reducible refine (?_ : TW (tAnd _ _) _ _)); with_reducible refine' TW.negF (by assumption) (by assumption) (by assumption) (by with_unfolding_all exact rfl) ?_) | ((with_reducible refine (?_ : RW (rPopZ _ _) _ _ _)); with_reducible first | refine' RW.popZ (by with_unfolding_all exact rfl) (by with_reducible assumption) ?_ | refine' RW.popZ0 (by with_unfolding_all exact rfl) ?_) | ((with_reducible refine (?_ : RW (rAsgZ _ _ _ _) _ _ _)); with_reducible first | refine' RW.asgZ1v (by with_unfolding_all exact rfl) (by with_unfolding_all exact rfl) (by with_reducible assumption) ?_ | refine' RW.asgZ0v (by with_unfolding_all exact rfl) (by with_unfolding_all exact rfl) ?_) | ((with_reducible refine (?_ : RW (fun _ _ => _) _ _ _)); with_reducible refine' RW.raise ?_) | ((with_reducible refine (?_ : OW (fIn false) (D.str _) (D.tup _) _)); refine' OW.of (by with_unfolding_all assumption) ?_) | ((with_reducible refine (?_ : EW (eComp _ _ (eVar _)) _ _)); with_reducible refine' EW.dgsVar (by with_unfolding_all exact rfl) (by first | with_reducible assumption | with_unfolding_all exact Nat.le_of_ble_eq_true rfl) ?_) | ((with_reducible refine (?_ : EW (eComp _ _ (Mine.e2 fSloS _ _)) _ _)); with_reducible refine' EW.dgsTail (by with_unfolding_all exact rfl) (by with_reducible assumption) ?_) | ((with_reducible refine (?_ : OW fEq (D.lst (List.map chD _)) (D.lst []) _)); with_reducible refine' OW.eqNil (by first | with_reducible assumption | decide) ?_) | ((with_reducible refine (?_ : IfK (List.all _ _) _ _)); with_reducible first | refine' IfK.hT (by first | with_reducible assumption | decide) ?_ | refine' IfK.hF (by first | with_reducible assumption | decide) ?_) | ((with_reducible refine (?_ : CW fInt [D.str _] _)); with_reducible refine' CW.intT (by with_reducible assumption) ?_) | ((with_reducible refine (?_ : CW fLen [D.str _] _)); with_reducible refine' CW.lenS (by first | with_reducible assumption | with_unfolding_all exact Nat.le_of_ble_eq_true rfl) ?_) | ((with_reducible refine (?_ : OW fEq (D.str _) (D.str _) _)); with_reducible first | refine' OW.clT (by decide +kernel) ?_ | refine' OW.clF (by decide +kernel) ?_) | ((with_reducible refine (?_ : OW (fIn false) (D.str _) (D.tup _) _)); with_reducible first | refine' OW.clT (by decide +kernel) ?_ | refine' OW.clF (by decide +kernel) ?_) | ((with_reducible refine (?_ : IfK (@decide ((1:Int) < (List.length _ : Int)) _) _ _)); with_reducible first | refine' IfK.decT (by first | with_reducible assumption | decide) ?_ | refine' IfK.decF (by first | with_reducible assumption | decide) ?_) | (with_reducible first | refine' SK.next ?_ | refine' RW.nil ?_ | refine' RW.seq ?_) | ((with_reducible refine (?_ : RW _ _ _ _)); with_reducible refine' RW.lenOk (by with_unfolding_all exact rfl) ?_) | (with_reducible first | refine' SW.of ?_ | refine' PutAt.of ?_ ?_) | (with_reducible first | exact SetR.z) | (with_reducible first | refine' SetR.s3 ?_ | refine' SetR.s ?_) | (with_reducible refine (?_ : SetR _ (0 + 1) _ _)); refine SetR.s ?_ | (with_reducible first | refine' RW.asg ?_ | refine' RW.if ?_ | refine' RW.new ?_) | ((with_reducible refine (?_ : RW _ _ _ _)); with_reducible refine' RW.app (by with_unfolding_all exact rfl) (by first | with_reducible assumption | with_unfolding_all exact Nat.le_of_ble_eq_true rfl) ?_) | (with_reducible first | refine' IfK.t ?_ | refine' IfK.f ?_ | refine' IfK.decT (by first | with_reducible assumption | with_unfolding_all omega) ?_ | refine' TruthK.bool ?_) | ((with_reducible refine (?_ : EW (eVar _) _ _)); with_reducible refine' EW.var (by with_unfolding_all exact rfl) ?_) | (with_reducible first | refine' EW.cst ?_ | refine' EW.e1 ?_ | refine' EW.e2 ?_ | refine' EW.call ?_ | refine' EW.tup ?_ | refine' EW.lst ?_ | refine' EsW.nil ?_ | refine' EsW.cons ?_ | refine' TW.c ?_) | ((with_reducible refine (?_ : TpK _ _)); with_reducible refine' TpK.mk (by with_unfolding_all exact Nat.le_of_ble_eq_true rfl) ?_) | ((with_reducible refine (?_ : LsK _ _)); with_reducible refine' LsK.mk (by with_unfolding_all exact Nat.le_of_ble_eq_true rfl) ?_) | (with_reducible first | refine' TW.tOf ?_ | refine' TW.and ?_) | ((with_reducible refine (?_ : CW _ _ _)); with_reducible refine' CW.of (by with_reducible assumption) ?_) | ((with_reducible refine (?_ : OW _ _ _ _)); with_reducible refine' OW.of (by with_reducible assumption) ?_) | (with_reducible first | refine' OW.add ?_ | refine' OW.sub ?_ | refine' OW.ord ?_) | ((with_reducible refine (?_ : OW fMul _ _ _)); with_reducible refine' OW.mul (by first | with_reducible assumption | with_unfolding_all exact mulOk_sm (by omega) (by omega)) ?_) | ((with_reducible refine (?_ : OW fDiv _ _ _)); with_reducible refine' OW.div (by with_reducible assumption) ?_) | ((with_reducible refine (?_ : OW fMod _ _ _)); with_reducible refine' OW.mod (by first | with_reducible assumption | with_unfolding_all omega) ?_) | ((with_reducible refine (?_ : OW fPow _ _ _)); with_reducible refine' OW.pow (by with_reducible assumption) ?_) | (with_reducible first | refine' CW.range2 ?_))
          rcases hw with ⟨rfl, rfl⟩ | ⟨a, c, s, rfl, h, hr'⟩
          · repeat' ((fail_if_success (with_reducible refine (?_ : @Eq _ _ _))); first | with_reducible refine' SK.exc ?_ | with_reducible refine' LEK.exc ?_ | with_reducible refine' LEK.next ?_ | ((with_reducible refine (?_ : TW (tAnd _ _) _ _)); with_reducible refine' TW.negF (by assumption) (by assumption) (by assumption) (by with_unfolding_all exact rfl) ?_) | ((with_reducible refine (?_ : RW (rPopZ _ _) _ _ _)); with_reducible first | refine' RW.popZ (by with_unfolding_all exact rfl) (by with_reducible assumption) ?_ | refine' RW.popZ0 (by with_unfolding_all exact rfl) ?_) | ((with_reducible refine (?_ : RW (rAsgZ _ _ _ _) _ _ _)); with_reducible first | refine' RW.asgZ1v (by with_unfolding_all exact rfl) (by with_unfolding_all exact rfl) (by with_reducible assumption) ?_ | refine' RW.asgZ0v (by with_unfolding_all exact rfl) (by with_unfolding_all exact rfl) ?_) | ((with_reducible refine (?_ : RW (fun _ _ => _) _ _ _)); with_reducible refine' RW.raise ?_) | ((with_reducible refine (?_ : OW (fIn false) (D.str _) (D.tup _) _)); refine' OW.of (by with_unfolding_all assumption) ?_) | ((with_reducible refine (?_ : EW (eComp _ _ (eVar _)) _ _)); with_reducible refine' EW.dgsVar (by with_unfolding_all exact rfl) (by first | with_reducible assumption | with_unfolding_all exact Nat.le_of_ble_eq_true rfl) ?_) | ((with_reducible refine (?_ : EW (eComp _ _ (Mine.e2 fSloS _ _)) _ _)); with_reducible refine' EW.dgsTail (by with_unfolding_all exact rfl) (by with_reducible assumption) ?_) | ((with_reducible refine (?_ : OW fEq (D.lst (List.map chD _)) (D.lst []) _)); with_reducible refine' OW.eqNil (by first | with_reducible assumption | decide) ?_) | ((with_reducible refine (?_ : IfK (List.all _ _) _ _)); with_reducible first | refine' IfK.hT (by first | with_reducible assumption | decide) ?_ | refine' IfK.hF (by first | with_reducible assumption | decide) ?_) | ((with_reducible refine (?_ : CW fInt [D.str _] _)); with_reducible refine' CW.intT (by with_reducible assumption) ?_) | ((with_reducible refine (?_ : CW fLen [D.str _] _)); with_reducible refine' CW.lenS (by first | with_reducible assumption | with_unfolding_all exact Nat.le_of_ble_eq_true rfl) ?_) | ((with_reducible refine (?_ : OW fEq (D.str _) (D.str _) _)); with_reducible first | refine' OW.clT (by decide +kernel) ?_ | refine' OW.clF (by decide +kernel) ?_) | ((with_reducible refine (?_ : OW (fIn false) (D.str _) (D.tup _) _)); with_reducible first | refine' OW.clT (by decide +kernel) ?_ | refine' OW.clF (by decide +kernel) ?_) | ((with_reducible refine (?_ : IfK (@decide ((1:Int) < (List.length _ : Int)) _) _ _)); with_reducible first | refine' IfK.decT (by first | with_reducible assumption | decide) ?_ | refine' IfK.decF (by first | with_reducible assumption | decide) ?_) | (with_reducible first | refine' SK.next ?_ | refine' RW.nil ?_ | refine' RW.seq ?_) | ((with_reducible refine (?_ : RW _ _ _ _)); with_reducible refine' RW.lenOk (by with_unfolding_all exact rfl) ?_) | (with_reducible first | refine' SW.of ?_ | refine' PutAt.of ?_ ?_) | (with_reducible first | exact SetR.z) | (with_reducible first | refine' SetR.s3 ?_ | refine' SetR.s ?_) | (with_reducible refine (?_ : SetR _ (0 + 1) _ _)); refine SetR.s ?_ | (with_reducible first | refine' RW.asg ?_ | refine' RW.if ?_ | refine' RW.new ?_) | ((with_reducible refine (?_ : RW _ _ _ _)); with_reducible refine' RW.app (by with_unfolding_all exact rfl) (by first | with_reducible assumption | with_unfolding_all exact Nat.le_of_ble_eq_true rfl) ?_) | (with_reducible first | refine' IfK.t ?_ | refine' IfK.f ?_ | refine' IfK.decT (by first | with_reducible assumption | with_unfolding_all omega) ?_ | refine' TruthK.bool ?_) | ((with_reducible refine (?_ : EW (eVar _) _ _)); with_reducible refine' EW.var (by with_unfolding_all exact rfl) ?_) | (with_reducible first | refine' EW.cst ?_ | refine' EW.e1 ?_ | refine' EW.e2 ?_ | refine' EW.call ?_ | refine' EW.tup ?_ | refine' EW.lst ?_ | refine' EsW.nil ?_ | refine' EsW.cons ?_ | refine' TW.c ?_) | ((with_reducible refine (?_ : TpK _ _)); with_reducible refine' TpK.mk (by with_unfolding_all exact Nat.le_of_ble_eq_true rfl) ?_) | ((with_reducible refine (?_ : LsK _ _)); with_reducible refine' LsK.mk (by with_unfolding_all exact Nat.le_of_ble_eq_true rfl) ?_) | (with_reducible first | refine' TW.tOf ?_ | refine' TW.and ?_) | ((with_reducible refine (?_ : CW _ _ _)); with_reducible refine' CW.of (by with_reducible assumption) ?_) | ((with_reducible refine (?_ : OW _ _ _ _)); with_reducible refine' OW.of (by with_reducible assumption) ?_) | (with_reducible first | refine' OW.add ?_ | refine' OW.sub ?_ | refine' OW.ord ?_) | ((with_reducible refine (?_ : OW fMul _ _ _)); with_reducible refine' OW.mul (by first | with_reducible assumption | with_unfolding_all exact mulOk_sm (by omega) (by omega)) ?_) | ((with_reducible refine (?_ : OW fDiv _ _ _)); with_reducible refine' OW.div (by with_reducible assumption) ?_) | ((with_reducible refine (?_ : OW fMod _ _ _)); with_reducible refine' OW.mod (by first | with_reducible assumption | with_unfolding_all omega) ?_) | ((with_reducible refine (?_ : OW fPow _ _ _)); with_reducible refine' OW.pow (by with_reducible assumption) ?_) | (with_reducible first | refine' CW.range2 ?_))
            rfl
          · obtain ⟨k0, k1⟩ := st_len1 hn
            replace hfin := hfin _ hr' (st_nx1 hn)
            rw [intsD_snoc] at hfin
            rw [intsD_snoc]
            subst hu
            clear q1 q2 q3 q4 q5 q6 q0 hn hr'
            have hab : a ≤ 100 := by
              cases o2 <;> exact (ite_some h).1
            have w1 := fac_of s1 hab
            have w0 := prm_of s0 hab
            have w2 := prd_of s1 hab
            cases o2 <;> (obtain ⟨_, rfl⟩ := ite_some h) <;> (repeat' ((fail_if_success (with_reducible refine (?_ : @Eq _ _ _))); first | with_reducible refine' SK.exc ?_ | with_reducible refine' LEK.exc ?_ | with_reducible refine' LEK.next ?_ | ((with_reducible refine (?_ : TW (tAnd _ _) _ _)); with_reducible refine' TW.negF (by assumption) (by assumption) (by assumption) (by with_unfolding_all exact rfl) ?_) | ((with_reducible refine (?_ : RW (rPopZ _ _) _ _ _)); with_reducible first | refine' RW.popZ (by with_unfolding_all exact rfl) (by with_reducible assumption) ?_ | refine' RW.popZ0 (by with_unfolding_all exact rfl) ?_) | ((with_reducible refine (?_ : RW (rAsgZ _ _ _ _) _ _ _)); with_reducible first | refine' RW.asgZ1v (by with_unfolding_all exact rfl) (by with_unfolding_all exact rfl) (by with_reducible assumption) ?_ | refine' RW.asgZ0v (by with_unfolding_all exact rfl) (by with_unfolding_all exact rfl) ?_) | ((with_reducible refine (?_ : RW (fun _ _ => _) _ _ _)); with_reducible refine' RW.raise ?_) | ((with_reducible refine (?_ : OW (fIn false) (D.str _) (D.tup _) _)); refine' OW.of (by with_unfolding_all assumption) ?_) | ((with_reducible refine (?_ : EW (eComp _ _ (eVar _)) _ _)); with_reducible refine' EW.dgsVar (by with_unfolding_all exact rfl) (by first | with_reducible assumption | with_unfolding_all exact Nat.le_of_ble_eq_true rfl) ?_) | ((with_reducible refine (?_ : EW (eComp _ _ (Mine.e2 fSloS _ _)) _ _)); with_reducible refine' EW.dgsTail (by with_unfolding_all exact rfl) (by with_reducible assumption) ?_) | ((with_reducible refine (?_ : OW fEq (D.lst (List.map chD _)) (D.lst []) _)); with_reducible refine' OW.eqNil (by first | with_reducible assumption | decide) ?_) | ((with_reducible refine (?_ : IfK (List.all _ _) _ _)); with_reducible first | refine' IfK.hT (by first | with_reducible assumption | decide) ?_ | refine' IfK.hF (by first | with_reducible assumption | decide) ?_) | ((with_reducible refine (?_ : CW fInt [D.str _] _)); with_reducible refine' CW.intT (by with_reducible assumption) ?_) | ((with_reducible refine (?_ : CW fLen [D.str _] _)); with_reducible refine' CW.lenS (by first | with_reducible assumption | with_unfolding_all exact Nat.le_of_ble_eq_true rfl) ?_) | ((with_reducible refine (?_ : OW fEq (D.str _) (D.str _) _)); with_reducible first | refine' OW.clT (by decide +kernel) ?_ | refine' OW.clF (by decide +kernel) ?_) | ((with_reducible refine (?_ : OW (fIn false) (D.str _) (D.tup _) _)); with_reducible first | refine' OW.clT (by decide +kernel) ?_ | refine' OW.clF (by decide +kernel) ?_) | ((with_reducible refine (?_ : IfK (@decide ((1:Int) < (List.length _ : Int)) _) _ _)); with_reducible first | refine' IfK.decT (by first | with_reducible assumption | decide) ?_ | refine' IfK.decF (by first | with_reducible assumption | decide) ?_) | (with_reducible first | refine' SK.next ?_ | refine' RW.nil ?_ | refine' RW.seq ?_) | ((with_reducible refine (?_ : RW _ _ _ _)); with_reducible refine' RW.lenOk (by with_unfolding_all exact rfl) ?_) | (with_reducible first | refine' SW.of ?_ | refine' PutAt.of ?_ ?_) | (with_reducible first | exact SetR.z) | (with_reducible first | refine' SetR.s3 ?_ | refine' SetR.s ?_) | (with_reducible refine (?_ : SetR _ (0 + 1) _ _)); refine SetR.s ?_ | (with_reducible first | refine' RW.asg ?_ | refine' RW.if ?_ | refine' RW.new ?_) | ((with_reducible refine (?_ : RW _ _ _ _)); with_reducible refine' RW.app (by with_unfolding_all exact rfl) (by first | with_reducible assumption | with_unfolding_all exact Nat.le_of_ble_eq_true rfl) ?_) | (with_reducible first | refine' IfK.t ?_ | refine' IfK.f ?_ | refine' IfK.decT (by first | with_reducible assumption | with_unfolding_all omega) ?_ | refine' TruthK.bool ?_) | ((with_reducible refine (?_ : EW (eVar _) _ _)); with_reducible refine' EW.var (by with_unfolding_all exact rfl) ?_) | (with_reducible first | refine' EW.cst ?_ | refine' EW.e1 ?_ | refine' EW.e2 ?_ | refine' EW.call ?_ | refine' EW.tup ?_ | refine' EW.lst ?_ | refine' EsW.nil ?_ | refine' EsW.cons ?_ | refine' TW.c ?_) | ((with_reducible refine (?_ : TpK _ _)); with_reducible refine' TpK.mk (by with_unfolding_all exact Nat.le_of_ble_eq_true rfl) ?_) | ((with_reducible refine (?_ : LsK _ _)); with_reducible refine' LsK.mk (by with_unfolding_all exact Nat.le_of_ble_eq_true rfl) ?_) | (with_reducible first | refine' TW.tOf ?_ | refine' TW.and ?_) | ((with_reducible refine (?_ : CW _ _ _)); with_reducible refine' CW.of (by with_reducible assumption) ?_) | ((with_reducible refine (?_ : OW _ _ _ _)); with_reducible refine' OW.of (by with_reducible assumption) ?_) | (with_reducible first | refine' OW.add ?_ | refine' OW.sub ?_ | refine' OW.ord ?_) | ((with_reducible refine (?_ : OW fMul _ _ _)); with_reducible refine' OW.mul (by first | with_reducible assumption | with_unfolding_all exact mulOk_sm (by omega) (by omega)) ?_) | ((with_reducible refine (?_ : OW fDiv _ _ _)); with_reducible refine' OW.div (by with_reducible assumption) ?_) | ((with_reducible refine (?_ : OW fMod _ _ _)); with_reducible refine' OW.mod (by first | with_reducible assumption | with_unfolding_all omega) ?_) | ((with_reducible refine (?_ : OW fPow _ _ _)); with_reducible refine' OW.pow (by with_reducible assumption) ?_) | (with_reducible first | refine' CW.range2 ?_))) <;> exact hfin _ _ _ _ _
        · obtain ⟨q1, q2, q3, q4, q6, q5⟩ := hu
          have q0 : u.length ≤ 10000 := Nat.le_trans q1 (by decide)
          repeat' ((fail_if_success (with_reducible refine (?_ : @Eq _ _ _))); first | with_reducible refine' SK.exc ?_ | with_reducible refine' LEK.exc ?_ | with_reducible refine' LEK.next ?_ | ((with_reducible refine (?_ : TW (tAnd _ _) _ _)); with_reducible refine' TW.negF (by assumption) (by assumption) (by assumption) (by with_unfolding_all exact rfl) ?_) | ((with_reducible refine (?_ : RW (rPopZ _ _) _ _ _)); with_reducible first | refine' RW.popZ (by with_unfolding_all exact rfl) (by with_reducible assumption) ?_ | refine' RW.popZ0 (by with_unfolding_all exact rfl) ?_) | ((with_reducible refine (?_ : RW (rAsgZ _ _ _ _) _ _ _)); with_reducible first | refine' RW.asgZ1v (by with_unfolding_all exact rfl) (by with_unfolding_all exact rfl) (by with_reducible assumption) ?_ | refine' RW.asgZ0v (by with_unfolding_all exact rfl) (by with_unfolding_all exact rfl) ?_) | ((with_reducible refine (?_ : RW (fun _ _ => _) _ _ _)); with_reducible refine' RW.raise ?_) | ((with_reducible refine (?_ : OW (fIn false) (D.str _) (D.tup _) _)); refine' OW.of (by with_unfolding_all assumption) ?_) | ((with_reducible refine (?_ : EW (eComp _ _ (eVar _)) _ _)); with_reducible refine' EW.dgsVar (by with_unfolding_all exact rfl) (by first | with_reducible assumption | with_unfolding_all exact Nat.le_of_ble_eq_true rfl) ?_) | ((with_reducible refine (?_ : EW (eComp _ _ (Mine.e2 fSloS _ _)) _ _)); with_reducible refine' EW.dgsTail (by with_unfolding_all exact rfl) (by with_reducible assumption) ?_) | ((with_reducible refine (?_ : OW fEq (D.lst (List.map chD _)) (D.lst []) _)); with_reducible refine' OW.eqNil (by first | with_reducible assumption | decide) ?_) | ((with_reducible refine (?_ : IfK (List.all _ _) _ _)); with_reducible first | refine' IfK.hT (by first | with_reducible assumption | decide) ?_ | refine' IfK.hF (by first | with_reducible assumption | decide) ?_) | ((with_reducible refine (?_ : CW fInt [D.str _] _)); with_reducible refine' CW.intT (by with_reducible assumption) ?_) | ((with_reducible refine (?_ : CW fLen [D.str _] _)); with_reducible refine' CW.lenS (by first | with_reducible assumption | with_unfolding_all exact Nat.le_of_ble_eq_true rfl) ?_) | ((with_reducible refine (?_ : OW fEq (D.str _) (D.str _) _)); with_reducible first | refine' OW.clT (by decide +kernel) ?_ | refine' OW.clF (by decide +kernel) ?_) | ((with_reducible refine (?_ : OW (fIn false) (D.str _) (D.tup _) _)); with_reducible first | refine' OW.clT (by decide +kernel) ?_ | refine' OW.clF (by decide +kernel) ?_) | ((with_reducible refine (?_ : IfK (@decide ((1:Int) < (List.length _ : Int)) _) _ _)); with_reducible first | refine' IfK.decT (by first | with_reducible assumption | decide) ?_ | refine' IfK.decF (by first | with_reducible assumption | decide) ?_) | (with_reducible first | refine' SK.next ?_ | refine' RW.nil ?_ | refine' RW.seq ?_) | ((with_reducible refine (?_ : RW _ _ _ _)); with_reducible refine' RW.lenOk (by with_unfolding_all exact rfl) ?_) | (with_reducible first | refine' SW.of ?_ | refine' PutAt.of ?_ ?_) | (with_reducible first | exact SetR.z) | (with_reducible first | refine' SetR.s3 ?_ | refine' SetR.s ?_) | (with_reducible refine (?_ : SetR _ (0 + 1) _ _)); refine SetR.s ?_ | (with_reducible first | refine' RW.asg ?_ | refine' RW.if ?_ | refine' RW.new ?_) | ((with_reducible refine (?_ : RW _ _ _ _)); with_reducible refine' RW.app (by with_unfolding_all exact rfl) (by first | with_reducible assumption | with_unfolding_all exact Nat.le_of_ble_eq_true rfl) ?_) | (with_reducible first | refine' IfK.t ?_ | refine' IfK.f ?_ | refine' IfK.decT (by first | with_reducible assumption | with_unfolding_all omega) ?_ | refine' TruthK.bool ?_) | ((with_reducible refine (?_ : EW (eVar _) _ _)); with_reducible refine' EW.var (by with_unfolding_all exact rfl) ?_) | (with_reducible first | refine' EW.cst ?_ | refine' EW.e1 ?_ | refine' EW.e2 ?_ | refine' EW.call ?_ | refine' EW.tup ?_ | refine' EW.lst ?_ | refine' EsW.nil ?_ | refine' EsW.cons ?_ | refine' TW.c ?_) | ((with_reducible refine (?_ : TpK _ _)); with_reducible refine' TpK.mk (by with_unfolding_all exact Nat.le_of_ble_eq_true rfl) ?_) | ((with_reducible refine (?_ : LsK _ _)); with_reducible refine' LsK.mk (by with_unfolding_all exact Nat.le_of_ble_eq_true rfl) ?_) | (with_reducible first | refine' TW.tOf ?_ | refine' TW.and ?_) | ((with_reducible refine (?_ : CW _ _ _)); with_reducible refine' CW.of (by with_reducible assumption) ?_) | ((with_reducible refine (?_ : OW _ _ _ _)); with_reducible refine' OW.of (by with_reducible assumption) ?_) | (with_reducible first | refine' OW.add ?_ | refine' OW.sub ?_ | refine' OW.ord ?_) | ((with_reducible refine (?_ : OW fMul _ _ _)); with_reducible refine' OW.mul (by first | with_reducible assumption | with_unfolding_all exact mulOk_sm (by omega) (by omega)) ?_) | ((with_reducible refine (?_ : OW fDiv _ _ _)); with_reducible refine' OW.div (by with_reducible assumption) ?_) | ((with_reducible refine (?_ : OW fMod _ _ _)); with_reducible refine' OW.mod (by first | with_reducible assumption | with_unfolding_all omega) ?_) | ((with_reducible refine (?_ : OW fPow _ _ _)); with_reducible refine' OW.pow (by with_reducible assumption) ?_) | (with_reducible first | refine' CW.range2 ?_))
          rfl
    rintro σ ⟨us, st, t1, t2, t3, t4, t5, e, rfl, hr, hn⟩
    cases us with
    | cons u us => cases e
    | nil =>
      have := runsE_nil hr
      subst this
      rw [List.length_nil] at hn
      exact ⟨rfl, rfl, by omega⟩

theorem ok__law_put {I : GI} (hat : HatI I hd.view_39)  : ∃ d, (recsOf hd.view_39)[10]? = some d ∧ d.name = ("_law_put" : Str) ∧ ∃ G, FunX I 1 d.name G ∧
    ∀ (t : List Nat) (v : Int) (m : Mst) (l : List D), l.length ≤ 9999 → ∀ a, G a [.str (mkS t), .int v, .adr a, mstD m] l = some (mstD (putM v m), l ++ [strT t]) := by
  refine' ⟨_, rfl, rfl, _, FunX.of 1000 (i := 10) (ns := ["text", "value", "signs", "state"]) (m := 4) hat rfl ⟨rfl, by decide, by decide⟩ (by decide) (fun pm cd doc => vs4 fun a b c d => rfl) rfl rfl (fun _ => rfl) ?h, ?g⟩
  case h =>
    dsimp only
    refine' RunX.cons ?_ (RunX.of ?_)
    repeat' ((show (_ : Prop)); first | ((with_reducible refine (?_ : RunX _ _ _ _ _ _)); first | with_reducible refine' RunX.cons ?_ ?_ | ((with_reducible refine (?_ : RunX _ _ _ _ (execs []) _)); with_reducible exact RunX.of RunOK.nil) | ((with_reducible refine (?_ : RunX _ _ _ _ (exec (Stmt.If _ [Stmt.Return (some (Expr.Name _ _)) _] _ _)) _)); with_reducible refine' RunX.of ?_) | ((with_reducible refine (?_ : RunX _ _ _ _ (exec (Stmt.If _ [Stmt.Assign _ (Expr.UnaryOp _ _ _) _] _ _)) _)); with_reducible refine' RunX.of ?_) | with_reducible refine' RunX.ifS ?_ ?_ ?_ | ((with_reducible refine (?_ : RunX _ _ _ _ (exec (Stmt.Expr (Expr.Call (Expr.Attribute _ _ _) _ _ _) _)) _)); with_reducible refine' RunX.app (by with_unfolding_all exact rfl) (by with_unfolding_all exact rfl) (by with_unfolding_all exact fun _ => rfl) (by with_unfolding_all exact fun _ => rfl) (by with_unfolding_all exact fun _ => rfl) (by with_unfolding_all exact ⟨rfl, by decide, by decide⟩) ?_) | ((with_reducible refine (?_ : RunX _ _ _ _ (exec (Stmt.Return _ _)) _)); with_reducible refine' RunX.retX ?_) | ((with_reducible refine (?_ : RunX _ _ _ _ (exec (Stmt.Assign _ (Expr.Call (Expr.Name _ _) _ _ _) _)) _)); with_reducible refine' RunX.asgX (by with_unfolding_all exact rfl) (by with_unfolding_all exact fun _ => rfl) (by with_unfolding_all exact ⟨rfl, by decide, by decide⟩) (by with_unfolding_all exact rfl) ?_) | with_reducible refine' RunX.of ?_) | (with_reducible first | exact OpOK.ne | exact EvOK.cint | exact EvOK.cstr | refine' EvOK.v (by with_unfolding_all exact rfl) (by with_unfolding_all exact rfl) (by with_unfolding_all exact rfl) (by with_unfolding_all exact rfl) | refine' EvOK.tup ?_ | refine' EvOK.subs ?_ ?_ (by with_unfolding_all exact fun _ _ => rfl) | exact EvsOK.nil | refine' EvsOK.cons ?_ ?_ (by with_unfolding_all exact fun _ => rfl) | refine' TrOK.cmp ?_ ?_ ?_ (by with_unfolding_all exact rfl) | exact RunOK.nil | refine' RunOK.cons ?_ ?_ | refine' RunOK.ret ?_ | refine' RunOK.ifS ?_ ?_ ?_))
  case g =>
    intro t v m l hl a
    have hl' : l.length ≤ 10000 := by omega
    refine XC.eq ?_
    cases m with
    | ok r =>
      show XC _ a [.str (mkS t), .int v, .adr a, .tup [.str "", stkD r]] l _
      repeat' ((fail_if_success (with_reducible refine (?_ : @Eq _ _ _))); first | ((with_reducible refine (?_ : XW (xSeq _ _) _ _ _ _ _)); with_reducible refine' XW.seq ?_) | ((with_reducible refine (?_ : XW (xOf _) _ _ _ _ _)); with_reducible refine' XW.of ?_) | ((with_reducible refine (?_ : XW (xApp _ _) _ _ _ _ _)); with_reducible refine' XW.app (by with_unfolding_all exact rfl) (by with_reducible assumption) ?_) | (with_reducible first | refine' XSK.next ?_ | refine' XCK.ret ?_) | ((with_reducible refine (?_ : XC (callX _ _ _ _) _ _ _ _)); with_reducible refine' XC.fn (by with_unfolding_all (repeat (first | exact StartsAt.nil | apply StartsAt.cons | apply StartsAt.unb))) (by with_unfolding_all exact rfl) ?_) | ((with_reducible refine (?_ : And (noMt _ = true) _)); with_reducible refine noMt_and (by with_unfolding_all exact rfl) ?_) | ((with_reducible refine (?_ : And (flat _ = true) _)); with_reducible refine flat_and (by with_unfolding_all exact rfl) ?_) | ((with_reducible refine (?_ : OW (fIn false) (D.str _) (D.tup _) _)); refine' OW.of (by with_unfolding_all assumption) ?_) | ((with_reducible refine (?_ : OW fNe (D.str _) (D.str _) _)); with_reducible first | refine' OW.of (by with_reducible assumption) ?_ | refine' OW.clT (by decide +kernel) ?_ | refine' OW.clF (by decide +kernel) ?_) | ((with_reducible refine (?_ : OW fSubs (D.tup [_, _]) (D.int _) _)); with_reducible first | refine' OW.fst ?_ | refine' OW.snd ?_) | ((with_reducible refine (?_ : OW fEq (D.str _) (D.str _) _)); with_reducible first | refine' OW.clT (by decide +kernel) ?_ | refine' OW.clF (by decide +kernel) ?_) | ((with_reducible refine (?_ : OW (fIn false) (D.str _) (D.tup _) _)); with_reducible first | refine' OW.clT (by decide +kernel) ?_ | refine' OW.clF (by decide +kernel) ?_) | (with_reducible first | refine' SK.next ?_ | refine' SK.ret ?_ | refine' RW.nil ?_ | refine' RW.seq ?_) | ((with_reducible refine (?_ : RW _ _ _ _)); with_reducible refine' RW.lenOk (by with_unfolding_all exact rfl) ?_) | (with_reducible first | refine' RW.ret ?_ | refine' RW.if ?_) | (with_reducible first | refine' IfK.t ?_ | refine' IfK.f ?_ | refine' TruthK.bool ?_) | ((with_reducible refine (?_ : EW (eVar _) _ _)); with_reducible refine' EW.var (by with_unfolding_all exact rfl) ?_) | (with_reducible first | refine' EW.cst ?_ | refine' EW.e2 ?_ | refine' EW.tup ?_ | refine' EsW.nil ?_ | refine' EsW.cons ?_) | ((with_reducible refine (?_ : TpK _ _)); with_reducible refine' TpK.mk (by with_unfolding_all exact Nat.le_of_ble_eq_true rfl) ?_) | (with_reducible first | refine' TW.tOf ?_) | ((with_reducible refine (?_ : OW _ _ _ _)); with_reducible refine' OW.of (by with_reducible assumption) ?_))
      exact ⟨rfl, rfl⟩
    | err c =>
      have hn := fltS_ne c
      show XC _ a [.str (mkS t), .int v, .adr a, .tup [.str (fltS c), .tup []]] l _
      repeat' ((fail_if_success (with_reducible refine (?_ : @Eq _ _ _))); first | ((with_reducible refine (?_ : XW (xSeq _ _) _ _ _ _ _)); with_reducible refine' XW.seq ?_) | ((with_reducible refine (?_ : XW (xOf _) _ _ _ _ _)); with_reducible refine' XW.of ?_) | ((with_reducible refine (?_ : XW (xApp _ _) _ _ _ _ _)); with_reducible refine' XW.app (by with_unfolding_all exact rfl) (by with_reducible assumption) ?_) | (with_reducible first | refine' XSK.next ?_ | refine' XCK.ret ?_) | ((with_reducible refine (?_ : XC (callX _ _ _ _) _ _ _ _)); with_reducible refine' XC.fn (by with_unfolding_all (repeat (first | exact StartsAt.nil | apply StartsAt.cons | apply StartsAt.unb))) (by with_unfolding_all exact rfl) ?_) | ((with_reducible refine (?_ : And (noMt _ = true) _)); with_reducible refine noMt_and (by with_unfolding_all exact rfl) ?_) | ((with_reducible refine (?_ : And (flat _ = true) _)); with_reducible refine flat_and (by with_unfolding_all exact rfl) ?_) | ((with_reducible refine (?_ : OW (fIn false) (D.str _) (D.tup _) _)); refine' OW.of (by with_unfolding_all assumption) ?_) | ((with_reducible refine (?_ : OW fNe (D.str _) (D.str _) _)); with_reducible first | refine' OW.of (by with_reducible assumption) ?_ | refine' OW.clT (by decide +kernel) ?_ | refine' OW.clF (by decide +kernel) ?_) | ((with_reducible refine (?_ : OW fSubs (D.tup [_, _]) (D.int _) _)); with_reducible first | refine' OW.fst ?_ | refine' OW.snd ?_) | ((with_reducible refine (?_ : OW fEq (D.str _) (D.str _) _)); with_reducible first | refine' OW.clT (by decide +kernel) ?_ | refine' OW.clF (by decide +kernel) ?_) | ((with_reducible refine (?_ : OW (fIn false) (D.str _) (D.tup _) _)); with_reducible first | refine' OW.clT (by decide +kernel) ?_ | refine' OW.clF (by decide +kernel) ?_) | (with_reducible first | refine' SK.next ?_ | refine' SK.ret ?_ | refine' RW.nil ?_ | refine' RW.seq ?_) | ((with_reducible refine (?_ : RW _ _ _ _)); with_reducible refine' RW.lenOk (by with_unfolding_all exact rfl) ?_) | (with_reducible first | refine' RW.ret ?_ | refine' RW.if ?_) | (with_reducible first | refine' IfK.t ?_ | refine' IfK.f ?_ | refine' TruthK.bool ?_) | ((with_reducible refine (?_ : EW (eVar _) _ _)); with_reducible refine' EW.var (by with_unfolding_all exact rfl) ?_) | (with_reducible first | refine' EW.cst ?_ | refine' EW.e2 ?_ | refine' EW.tup ?_ | refine' EsW.nil ?_ | refine' EsW.cons ?_) | ((with_reducible refine (?_ : TpK _ _)); with_reducible refine' TpK.mk (by with_unfolding_all exact Nat.le_of_ble_eq_true rfl) ?_) | (with_reducible first | refine' TW.tOf ?_) | ((with_reducible refine (?_ : OW _ _ _ _)); with_reducible refine' OW.of (by with_reducible assumption) ?_))
      exact ⟨rfl, rfl⟩

theorem ok__law_sign {I : GI} (hat : HatI I hd.view_39) (hlen : FunOK I 0 ("len" : Str) fLen) {f6 f7 f8 : List D → Option D} (h6 : FunOK I 1 ("_law_down" : Str) f6) (h7 : FunOK I 1 ("_law_primes" : Str) f7) (h8 : FunOK I 2 ("_law_two" : Str) f8) (s6 : ∀ (a : Int), a ≤ 22 → f6 [.int a] = some (.int (facI a))) (s7 : ∀ (m : Int), m ≤ 22 → f7 [.int m] = some (.int (prmI m))) (s8 : ∀ (o : Op2) (a b : Int), Bd 1600 a → Bd 200 b → (isDv o = true → b ≠ 0) → (isPw o = true → 0 ≤ b ∧ b ≤ 6 ∧ Bd 200 a) → ∃ c, op2 a b o = some c ∧ f8 [.str (mkS (op2S o)), .int a, .int b] = some (.int c) ∧ (Bd 200 a → Bd 1600 c)) : ∃ d, (recsOf hd.view_39)[9]? = some d ∧ d.name = ("_law_sign" : Str) ∧ ∃ G, FunX I 3 d.name G ∧
    SpecSign G := by
  refine' ⟨_, rfl, rfl, _, FunX.of 1000 (i := 9) (ns := ["sign", "signs", "state", "fault", "stack", "b", "a"]) (m := 3) hat rfl ⟨rfl, by decide, by decide⟩ (by decide) (fun pm cd doc => vs3 fun a b c => rfl) rfl rfl (fun _ => rfl) ?h, ?g⟩
  case h =>
    dsimp only
    refine' RunX.cons ?_ (RunX.of ?_)
    repeat' ((show (_ : Prop)); first | ((with_reducible refine (?_ : RunX _ _ _ _ _ _)); first | with_reducible refine' RunX.cons ?_ ?_ | ((with_reducible refine (?_ : RunX _ _ _ _ (execs []) _)); with_reducible exact RunX.of RunOK.nil) | ((with_reducible refine (?_ : RunX _ _ _ _ (exec (Stmt.If _ [Stmt.Return (some (Expr.Name _ _)) _] _ _)) _)); with_reducible refine' RunX.of ?_) | ((with_reducible refine (?_ : RunX _ _ _ _ (exec (Stmt.If _ [Stmt.Assign _ (Expr.UnaryOp _ _ _) _] _ _)) _)); with_reducible refine' RunX.of ?_) | with_reducible refine' RunX.ifS ?_ ?_ ?_ | ((with_reducible refine (?_ : RunX _ _ _ _ (exec (Stmt.Expr (Expr.Call (Expr.Attribute _ _ _) _ _ _) _)) _)); with_reducible refine' RunX.app (by with_unfolding_all exact rfl) (by with_unfolding_all exact rfl) (by with_unfolding_all exact fun _ => rfl) (by with_unfolding_all exact fun _ => rfl) (by with_unfolding_all exact fun _ => rfl) (by with_unfolding_all exact ⟨rfl, by decide, by decide⟩) ?_) | ((with_reducible refine (?_ : RunX _ _ _ _ (exec (Stmt.Return _ _)) _)); with_reducible refine' RunX.retX ?_) | ((with_reducible refine (?_ : RunX _ _ _ _ (exec (Stmt.Assign _ (Expr.Call (Expr.Name _ _) _ _ _) _)) _)); with_reducible refine' RunX.asgX (by with_unfolding_all exact rfl) (by with_unfolding_all exact fun _ => rfl) (by with_unfolding_all exact ⟨rfl, by decide, by decide⟩) (by with_unfolding_all exact rfl) ?_) | with_reducible refine' RunX.of ?_) | (with_reducible first | exact OpOK.eq | exact OpOK.ne | exact OpOK.isIn | exact EvOK.cint | exact EvOK.cstr | refine' EvOK.v (by with_unfolding_all exact rfl) (by with_unfolding_all exact rfl) (by with_unfolding_all exact rfl) (by with_unfolding_all exact rfl) | refine' EvOK.tup ?_ | refine' EvOK.call' (by with_unfolding_all exact rfl) (by with_unfolding_all exact rfl) (by with_unfolding_all exact rfl) (by with_unfolding_all exact fun _ => rfl) (by with_unfolding_all exact rfl) (by with_unfolding_all exact fun _ => ⟨_, _, rfl⟩) (by with_unfolding_all first | assumption | exact FunOK.le (by assumption) (by decide)) ?_ | refine' EvOK.subs ?_ ?_ (by with_unfolding_all exact fun _ _ => rfl) | exact EvsOK.nil | refine' EvsOK.cons ?_ ?_ (by with_unfolding_all exact fun _ => rfl) | refine' TrOK.cmp ?_ ?_ ?_ (by with_unfolding_all exact rfl) | exact TrOK.and0 | exact TrOK.or0 | refine' TrOK.and ?_ ?_ | refine' TrOK.or ?_ ?_ | exact RunOK.nil | refine' RunOK.cons ?_ ?_ | refine' RunOK.ret ?_ | refine' RunOK.ifS ?_ ?_ ?_ | refine' RunOK.asg' (by with_unfolding_all exact rfl) (by with_unfolding_all exact fun _ => rfl) (by with_unfolding_all exact ⟨rfl, by decide, by decide⟩) ?_ | refine' RunOK.tupP' (by with_unfolding_all first | exact .cons (.cons .nil) | exact .cons (.cons (.cons .nil)) | exact .cons (.cons (.cons (.cons .nil)))) (by with_unfolding_all exact fun env h => by cases env; cases h; rfl) (by with_unfolding_all exact rfl) (by with_unfolding_all exact fun _ => rfl) (by with_unfolding_all exact ⟨rfl, by decide, by decide⟩) ?_))
  case g =>
    refine sign_all s6 s7 s8 ?_
    intro t m m' l a hl hw
    have hl' : l.length ≤ 10000 := Nat.le_trans hl (by decide)
    refine XC.eq ?_
    clear s6 s7 s8
    rcases hw with ⟨c, rfl, rfl⟩ | ⟨r, rfl, hw⟩
    · have hn := fltS_ne c
      show XC _ a [.str (mkS t), .adr a, .tup [.str (fltS c), .tup []]] l _
      repeat' ((fail_if_success (with_reducible refine (?_ : @Eq _ _ _))); first | ((with_reducible refine (?_ : XW (xSeq _ _) _ _ _ _ _)); with_reducible refine' XW.seq ?_) | ((with_reducible refine (?_ : XW (xOf _) _ _ _ _ _)); with_reducible refine' XW.of ?_) | ((with_reducible refine (?_ : XW (xApp _ _) _ _ _ _ _)); with_reducible refine' XW.app (by with_unfolding_all exact rfl) (by with_reducible assumption) ?_) | (with_reducible first | refine' XSK.next ?_ | refine' XCK.ret ?_) | ((with_reducible refine (?_ : XC (callX _ _ _ _) _ _ _ _)); with_reducible refine' XC.fn (by with_unfolding_all (repeat (first | exact StartsAt.nil | apply StartsAt.cons | apply StartsAt.unb))) (by with_unfolding_all exact rfl) ?_) | ((with_reducible refine (?_ : And (noMt _ = true) _)); with_reducible refine noMt_and (by with_unfolding_all exact rfl) ?_) | ((with_reducible refine (?_ : And (flat _ = true) _)); with_reducible refine flat_and (by with_unfolding_all exact rfl) ?_) | ((with_reducible refine (?_ : OW (fIn false) (D.str _) (D.tup _) _)); refine' OW.of (by with_unfolding_all assumption) ?_) | ((with_reducible refine (?_ : OW fNe (D.str _) (D.str _) _)); with_reducible first | refine' OW.of (by with_reducible assumption) ?_ | refine' OW.clT (by decide +kernel) ?_ | refine' OW.clF (by decide +kernel) ?_) | ((with_reducible refine (?_ : OW fSubs (D.tup [_, _]) (D.int _) _)); with_reducible first | refine' OW.fst ?_ | refine' OW.snd ?_) | ((with_reducible refine (?_ : CW fLen [D.tup _] _)); with_reducible first | refine' CW.len2 ?_ | refine' CW.len0 ?_) | ((with_reducible refine (?_ : OW fEq (D.str _) (D.str _) _)); with_reducible first | refine' OW.clT (by decide +kernel) ?_ | refine' OW.clF (by decide +kernel) ?_) | ((with_reducible refine (?_ : OW (fIn false) (D.str _) (D.tup _) _)); with_reducible first | refine' OW.clT (by decide +kernel) ?_ | refine' OW.clF (by decide +kernel) ?_) | ((with_reducible refine (?_ : IfK (@decide ((1:Int) < (List.length _ : Int)) _) _ _)); with_reducible first | refine' IfK.decT (by first | with_reducible assumption | decide) ?_ | refine' IfK.decF (by first | with_reducible assumption | decide) ?_) | (with_reducible first | refine' SK.next ?_ | refine' SK.ret ?_ | refine' RW.nil ?_ | refine' RW.seq ?_) | ((with_reducible refine (?_ : RW _ _ _ _)); with_reducible refine' RW.lenOk (by with_unfolding_all exact rfl) ?_) | (with_reducible first | refine' SW.of ?_ | refine' PutAt.of ?_ ?_) | (with_reducible first | exact SetR.z) | (with_reducible first | refine' SetR.s3 ?_ | refine' SetR.s ?_) | (with_reducible refine (?_ : SetR _ (0 + 1) _ _)); refine SetR.s ?_ | (with_reducible first | refine' RW.asg ?_ | refine' RW.ret ?_ | refine' RW.if ?_ | refine' RW.tup ?_) | (with_reducible first | refine' TupK.two_f ?_ | refine' IfK.t ?_ | refine' IfK.f ?_ | refine' IfK.decT (by first | with_reducible assumption | with_unfolding_all omega) ?_ | refine' IfK.decF (by first | with_reducible assumption | with_unfolding_all omega) ?_ | refine' TruthK.bool ?_) | ((with_reducible refine (?_ : EW (eVar _) _ _)); with_reducible refine' EW.var (by with_unfolding_all exact rfl) ?_) | (with_reducible first | refine' EW.cst ?_ | refine' EW.e2 ?_ | refine' EW.call ?_ | refine' EW.tup ?_ | refine' EsW.nil ?_ | refine' EsW.cons ?_ | refine' TW.c ?_) | ((with_reducible refine (?_ : TpK _ _)); with_reducible refine' TpK.mk (by with_unfolding_all exact Nat.le_of_ble_eq_true rfl) ?_) | (with_reducible first | refine' TW.tOf ?_ | refine' TW.and ?_ | refine' TW.or ?_) | ((with_reducible refine (?_ : CW _ _ _)); with_reducible refine' CW.of (by with_reducible assumption) ?_) | ((with_reducible refine (?_ : OW _ _ _ _)); with_reducible refine' OW.of (by with_reducible assumption) ?_) | (with_reducible first | refine' OW.eq ?_))
      exact ⟨rfl, rfl⟩
    · show XC _ a [.str (mkS t), .adr a, .tup [.str "", stkD r]] l _
      repeat' ((fail_if_success (with_reducible refine (?_ : @Eq _ _ _))); first | ((with_reducible refine (?_ : XW (xSeq _ _) _ _ _ _ _)); with_reducible refine' XW.seq ?_) | ((with_reducible refine (?_ : XW (xOf _) _ _ _ _ _)); with_reducible refine' XW.of ?_) | ((with_reducible refine (?_ : XW (xApp _ _) _ _ _ _ _)); with_reducible refine' XW.app (by with_unfolding_all exact rfl) (by with_reducible assumption) ?_) | (with_reducible first | refine' XSK.next ?_ | refine' XCK.ret ?_) | ((with_reducible refine (?_ : XC (callX _ _ _ _) _ _ _ _)); with_reducible refine' XC.fn (by with_unfolding_all (repeat (first | exact StartsAt.nil | apply StartsAt.cons | apply StartsAt.unb))) (by with_unfolding_all exact rfl) ?_) | ((with_reducible refine (?_ : And (noMt _ = true) _)); with_reducible refine noMt_and (by with_unfolding_all exact rfl) ?_) | ((with_reducible refine (?_ : And (flat _ = true) _)); with_reducible refine flat_and (by with_unfolding_all exact rfl) ?_) | ((with_reducible refine (?_ : OW (fIn false) (D.str _) (D.tup _) _)); refine' OW.of (by with_unfolding_all assumption) ?_) | ((with_reducible refine (?_ : OW fNe (D.str _) (D.str _) _)); with_reducible first | refine' OW.of (by with_reducible assumption) ?_ | refine' OW.clT (by decide +kernel) ?_ | refine' OW.clF (by decide +kernel) ?_) | ((with_reducible refine (?_ : OW fSubs (D.tup [_, _]) (D.int _) _)); with_reducible first | refine' OW.fst ?_ | refine' OW.snd ?_) | ((with_reducible refine (?_ : CW fLen [D.tup _] _)); with_reducible first | refine' CW.len2 ?_ | refine' CW.len0 ?_) | ((with_reducible refine (?_ : OW fEq (D.str _) (D.str _) _)); with_reducible first | refine' OW.clT (by decide +kernel) ?_ | refine' OW.clF (by decide +kernel) ?_) | ((with_reducible refine (?_ : OW (fIn false) (D.str _) (D.tup _) _)); with_reducible first | refine' OW.clT (by decide +kernel) ?_ | refine' OW.clF (by decide +kernel) ?_) | ((with_reducible refine (?_ : IfK (@decide ((1:Int) < (List.length _ : Int)) _) _ _)); with_reducible first | refine' IfK.decT (by first | with_reducible assumption | decide) ?_ | refine' IfK.decF (by first | with_reducible assumption | decide) ?_) | (with_reducible first | refine' SK.next ?_ | refine' SK.ret ?_ | refine' RW.nil ?_ | refine' RW.seq ?_) | ((with_reducible refine (?_ : RW _ _ _ _)); with_reducible refine' RW.lenOk (by with_unfolding_all exact rfl) ?_) | (with_reducible first | refine' SW.of ?_ | refine' PutAt.of ?_ ?_) | (with_reducible first | exact SetR.z) | (with_reducible first | refine' SetR.s3 ?_ | refine' SetR.s ?_) | (with_reducible refine (?_ : SetR _ (0 + 1) _ _)); refine SetR.s ?_ | (with_reducible first | refine' RW.asg ?_ | refine' RW.ret ?_ | refine' RW.if ?_ | refine' RW.tup ?_) | (with_reducible first | refine' TupK.two_f ?_ | refine' IfK.t ?_ | refine' IfK.f ?_ | refine' IfK.decT (by first | with_reducible assumption | with_unfolding_all omega) ?_ | refine' IfK.decF (by first | with_reducible assumption | with_unfolding_all omega) ?_ | refine' TruthK.bool ?_) | ((with_reducible refine (?_ : EW (eVar _) _ _)); with_reducible refine' EW.var (by with_unfolding_all exact rfl) ?_) | (with_reducible first | refine' EW.cst ?_ | refine' EW.e2 ?_ | refine' EW.call ?_ | refine' EW.tup ?_ | refine' EsW.nil ?_ | refine' EsW.cons ?_ | refine' TW.c ?_) | ((with_reducible refine (?_ : TpK _ _)); with_reducible refine' TpK.mk (by with_unfolding_all exact Nat.le_of_ble_eq_true rfl) ?_) | (with_reducible first | refine' TW.tOf ?_ | refine' TW.and ?_ | refine' TW.or ?_) | ((with_reducible refine (?_ : CW _ _ _)); with_reducible refine' CW.of (by with_reducible assumption) ?_) | ((with_reducible refine (?_ : OW _ _ _ _)); with_reducible refine' OW.of (by with_reducible assumption) ?_) | (with_reducible first | refine' OW.eq ?_))
      rcases hw with ⟨q1, hw⟩ | ⟨q1, q2, hw⟩ | ⟨q1, q2, rfl⟩
      · repeat' ((fail_if_success (with_reducible refine (?_ : @Eq _ _ _))); first | ((with_reducible refine (?_ : XW (xSeq _ _) _ _ _ _ _)); with_reducible refine' XW.seq ?_) | ((with_reducible refine (?_ : XW (xOf _) _ _ _ _ _)); with_reducible refine' XW.of ?_) | ((with_reducible refine (?_ : XW (xApp _ _) _ _ _ _ _)); with_reducible refine' XW.app (by with_unfolding_all exact rfl) (by with_reducible assumption) ?_) | (with_reducible first | refine' XSK.next ?_ | refine' XCK.ret ?_) | ((with_reducible refine (?_ : XC (callX _ _ _ _) _ _ _ _)); with_reducible refine' XC.fn (by with_unfolding_all (repeat (first | exact StartsAt.nil | apply StartsAt.cons | apply StartsAt.unb))) (by with_unfolding_all exact rfl) ?_) | ((with_reducible refine (?_ : And (noMt _ = true) _)); with_reducible refine noMt_and (by with_unfolding_all exact rfl) ?_) | ((with_reducible refine (?_ : And (flat _ = true) _)); with_reducible refine flat_and (by with_unfolding_all exact rfl) ?_) | ((with_reducible refine (?_ : OW (fIn false) (D.str _) (D.tup _) _)); refine' OW.of (by with_unfolding_all assumption) ?_) | ((with_reducible refine (?_ : OW fNe (D.str _) (D.str _) _)); with_reducible first | refine' OW.of (by with_reducible assumption) ?_ | refine' OW.clT (by decide +kernel) ?_ | refine' OW.clF (by decide +kernel) ?_) | ((with_reducible refine (?_ : OW fSubs (D.tup [_, _]) (D.int _) _)); with_reducible first | refine' OW.fst ?_ | refine' OW.snd ?_) | ((with_reducible refine (?_ : CW fLen [D.tup _] _)); with_reducible first | refine' CW.len2 ?_ | refine' CW.len0 ?_) | ((with_reducible refine (?_ : OW fEq (D.str _) (D.str _) _)); with_reducible first | refine' OW.clT (by decide +kernel) ?_ | refine' OW.clF (by decide +kernel) ?_) | ((with_reducible refine (?_ : OW (fIn false) (D.str _) (D.tup _) _)); with_reducible first | refine' OW.clT (by decide +kernel) ?_ | refine' OW.clF (by decide +kernel) ?_) | ((with_reducible refine (?_ : IfK (@decide ((1:Int) < (List.length _ : Int)) _) _ _)); with_reducible first | refine' IfK.decT (by first | with_reducible assumption | decide) ?_ | refine' IfK.decF (by first | with_reducible assumption | decide) ?_) | (with_reducible first | refine' SK.next ?_ | refine' SK.ret ?_ | refine' RW.nil ?_ | refine' RW.seq ?_) | ((with_reducible refine (?_ : RW _ _ _ _)); with_reducible refine' RW.lenOk (by with_unfolding_all exact rfl) ?_) | (with_reducible first | refine' SW.of ?_ | refine' PutAt.of ?_ ?_) | (with_reducible first | exact SetR.z) | (with_reducible first | refine' SetR.s3 ?_ | refine' SetR.s ?_) | (with_reducible refine (?_ : SetR _ (0 + 1) _ _)); refine SetR.s ?_ | (with_reducible first | refine' RW.asg ?_ | refine' RW.ret ?_ | refine' RW.if ?_ | refine' RW.tup ?_) | (with_reducible first | refine' TupK.two_f ?_ | refine' IfK.t ?_ | refine' IfK.f ?_ | refine' IfK.decT (by first | with_reducible assumption | with_unfolding_all omega) ?_ | refine' IfK.decF (by first | with_reducible assumption | with_unfolding_all omega) ?_ | refine' TruthK.bool ?_) | ((with_reducible refine (?_ : EW (eVar _) _ _)); with_reducible refine' EW.var (by with_unfolding_all exact rfl) ?_) | (with_reducible first | refine' EW.cst ?_ | refine' EW.e2 ?_ | refine' EW.call ?_ | refine' EW.tup ?_ | refine' EsW.nil ?_ | refine' EsW.cons ?_ | refine' TW.c ?_) | ((with_reducible refine (?_ : TpK _ _)); with_reducible refine' TpK.mk (by with_unfolding_all exact Nat.le_of_ble_eq_true rfl) ?_) | (with_reducible first | refine' TW.tOf ?_ | refine' TW.and ?_ | refine' TW.or ?_) | ((with_reducible refine (?_ : CW _ _ _)); with_reducible refine' CW.of (by with_reducible assumption) ?_) | ((with_reducible refine (?_ : OW _ _ _ _)); with_reducible refine' OW.of (by with_reducible assumption) ?_) | (with_reducible first | refine' OW.eq ?_))
        rcases hw with ⟨rfl, rfl⟩ | ⟨x, r', y, rfl, rfl, hw⟩
        · rw [show stkD [] = D.tup [] from rfl]
          repeat' ((fail_if_success (with_reducible refine (?_ : @Eq _ _ _))); first | ((with_reducible refine (?_ : XW (xSeq _ _) _ _ _ _ _)); with_reducible refine' XW.seq ?_) | ((with_reducible refine (?_ : XW (xOf _) _ _ _ _ _)); with_reducible refine' XW.of ?_) | ((with_reducible refine (?_ : XW (xApp _ _) _ _ _ _ _)); with_reducible refine' XW.app (by with_unfolding_all exact rfl) (by with_reducible assumption) ?_) | (with_reducible first | refine' XSK.next ?_ | refine' XCK.ret ?_) | ((with_reducible refine (?_ : XC (callX _ _ _ _) _ _ _ _)); with_reducible refine' XC.fn (by with_unfolding_all (repeat (first | exact StartsAt.nil | apply StartsAt.cons | apply StartsAt.unb))) (by with_unfolding_all exact rfl) ?_) | ((with_reducible refine (?_ : And (noMt _ = true) _)); with_reducible refine noMt_and (by with_unfolding_all exact rfl) ?_) | ((with_reducible refine (?_ : And (flat _ = true) _)); with_reducible refine flat_and (by with_unfolding_all exact rfl) ?_) | ((with_reducible refine (?_ : OW (fIn false) (D.str _) (D.tup _) _)); refine' OW.of (by with_unfolding_all assumption) ?_) | ((with_reducible refine (?_ : OW fNe (D.str _) (D.str _) _)); with_reducible first | refine' OW.of (by with_reducible assumption) ?_ | refine' OW.clT (by decide +kernel) ?_ | refine' OW.clF (by decide +kernel) ?_) | ((with_reducible refine (?_ : OW fSubs (D.tup [_, _]) (D.int _) _)); with_reducible first | refine' OW.fst ?_ | refine' OW.snd ?_) | ((with_reducible refine (?_ : CW fLen [D.tup _] _)); with_reducible first | refine' CW.len2 ?_ | refine' CW.len0 ?_) | ((with_reducible refine (?_ : OW fEq (D.str _) (D.str _) _)); with_reducible first | refine' OW.clT (by decide +kernel) ?_ | refine' OW.clF (by decide +kernel) ?_) | ((with_reducible refine (?_ : OW (fIn false) (D.str _) (D.tup _) _)); with_reducible first | refine' OW.clT (by decide +kernel) ?_ | refine' OW.clF (by decide +kernel) ?_) | ((with_reducible refine (?_ : IfK (@decide ((1:Int) < (List.length _ : Int)) _) _ _)); with_reducible first | refine' IfK.decT (by first | with_reducible assumption | decide) ?_ | refine' IfK.decF (by first | with_reducible assumption | decide) ?_) | (with_reducible first | refine' SK.next ?_ | refine' SK.ret ?_ | refine' RW.nil ?_ | refine' RW.seq ?_) | ((with_reducible refine (?_ : RW _ _ _ _)); with_reducible refine' RW.lenOk (by with_unfolding_all exact rfl) ?_) | (with_reducible first | refine' SW.of ?_ | refine' PutAt.of ?_ ?_) | (with_reducible first | exact SetR.z) | (with_reducible first | refine' SetR.s3 ?_ | refine' SetR.s ?_) | (with_reducible refine (?_ : SetR _ (0 + 1) _ _)); refine SetR.s ?_ | (with_reducible first | refine' RW.asg ?_ | refine' RW.ret ?_ | refine' RW.if ?_ | refine' RW.tup ?_) | (with_reducible first | refine' TupK.two_f ?_ | refine' IfK.t ?_ | refine' IfK.f ?_ | refine' IfK.decT (by first | with_reducible assumption | with_unfolding_all omega) ?_ | refine' IfK.decF (by first | with_reducible assumption | with_unfolding_all omega) ?_ | refine' TruthK.bool ?_) | ((with_reducible refine (?_ : EW (eVar _) _ _)); with_reducible refine' EW.var (by with_unfolding_all exact rfl) ?_) | (with_reducible first | refine' EW.cst ?_ | refine' EW.e2 ?_ | refine' EW.call ?_ | refine' EW.tup ?_ | refine' EsW.nil ?_ | refine' EsW.cons ?_ | refine' TW.c ?_) | ((with_reducible refine (?_ : TpK _ _)); with_reducible refine' TpK.mk (by with_unfolding_all exact Nat.le_of_ble_eq_true rfl) ?_) | (with_reducible first | refine' TW.tOf ?_ | refine' TW.and ?_ | refine' TW.or ?_) | ((with_reducible refine (?_ : CW _ _ _)); with_reducible refine' CW.of (by with_reducible assumption) ?_) | ((with_reducible refine (?_ : OW _ _ _ _)); with_reducible refine' OW.of (by with_reducible assumption) ?_) | (with_reducible first | refine' OW.eq ?_))
          exact ⟨rfl, rfl⟩
        · rw [show stkD (x :: r') = D.tup [.int x, stkD r'] from rfl]
          repeat' ((fail_if_success (with_reducible refine (?_ : @Eq _ _ _))); first | ((with_reducible refine (?_ : XW (xSeq _ _) _ _ _ _ _)); with_reducible refine' XW.seq ?_) | ((with_reducible refine (?_ : XW (xOf _) _ _ _ _ _)); with_reducible refine' XW.of ?_) | ((with_reducible refine (?_ : XW (xApp _ _) _ _ _ _ _)); with_reducible refine' XW.app (by with_unfolding_all exact rfl) (by with_reducible assumption) ?_) | (with_reducible first | refine' XSK.next ?_ | refine' XCK.ret ?_) | ((with_reducible refine (?_ : XC (callX _ _ _ _) _ _ _ _)); with_reducible refine' XC.fn (by with_unfolding_all (repeat (first | exact StartsAt.nil | apply StartsAt.cons | apply StartsAt.unb))) (by with_unfolding_all exact rfl) ?_) | ((with_reducible refine (?_ : And (noMt _ = true) _)); with_reducible refine noMt_and (by with_unfolding_all exact rfl) ?_) | ((with_reducible refine (?_ : And (flat _ = true) _)); with_reducible refine flat_and (by with_unfolding_all exact rfl) ?_) | ((with_reducible refine (?_ : OW (fIn false) (D.str _) (D.tup _) _)); refine' OW.of (by with_unfolding_all assumption) ?_) | ((with_reducible refine (?_ : OW fNe (D.str _) (D.str _) _)); with_reducible first | refine' OW.of (by with_reducible assumption) ?_ | refine' OW.clT (by decide +kernel) ?_ | refine' OW.clF (by decide +kernel) ?_) | ((with_reducible refine (?_ : OW fSubs (D.tup [_, _]) (D.int _) _)); with_reducible first | refine' OW.fst ?_ | refine' OW.snd ?_) | ((with_reducible refine (?_ : CW fLen [D.tup _] _)); with_reducible first | refine' CW.len2 ?_ | refine' CW.len0 ?_) | ((with_reducible refine (?_ : OW fEq (D.str _) (D.str _) _)); with_reducible first | refine' OW.clT (by decide +kernel) ?_ | refine' OW.clF (by decide +kernel) ?_) | ((with_reducible refine (?_ : OW (fIn false) (D.str _) (D.tup _) _)); with_reducible first | refine' OW.clT (by decide +kernel) ?_ | refine' OW.clF (by decide +kernel) ?_) | ((with_reducible refine (?_ : IfK (@decide ((1:Int) < (List.length _ : Int)) _) _ _)); with_reducible first | refine' IfK.decT (by first | with_reducible assumption | decide) ?_ | refine' IfK.decF (by first | with_reducible assumption | decide) ?_) | (with_reducible first | refine' SK.next ?_ | refine' SK.ret ?_ | refine' RW.nil ?_ | refine' RW.seq ?_) | ((with_reducible refine (?_ : RW _ _ _ _)); with_reducible refine' RW.lenOk (by with_unfolding_all exact rfl) ?_) | (with_reducible first | refine' SW.of ?_ | refine' PutAt.of ?_ ?_) | (with_reducible first | exact SetR.z) | (with_reducible first | refine' SetR.s3 ?_ | refine' SetR.s ?_) | (with_reducible refine (?_ : SetR _ (0 + 1) _ _)); refine SetR.s ?_ | (with_reducible first | refine' RW.asg ?_ | refine' RW.ret ?_ | refine' RW.if ?_ | refine' RW.tup ?_) | (with_reducible first | refine' TupK.two_f ?_ | refine' IfK.t ?_ | refine' IfK.f ?_ | refine' IfK.decT (by first | with_reducible assumption | with_unfolding_all omega) ?_ | refine' IfK.decF (by first | with_reducible assumption | with_unfolding_all omega) ?_ | refine' TruthK.bool ?_) | ((with_reducible refine (?_ : EW (eVar _) _ _)); with_reducible refine' EW.var (by with_unfolding_all exact rfl) ?_) | (with_reducible first | refine' EW.cst ?_ | refine' EW.e2 ?_ | refine' EW.call ?_ | refine' EW.tup ?_ | refine' EsW.nil ?_ | refine' EsW.cons ?_ | refine' TW.c ?_) | ((with_reducible refine (?_ : TpK _ _)); with_reducible refine' TpK.mk (by with_unfolding_all exact Nat.le_of_ble_eq_true rfl) ?_) | (with_reducible first | refine' TW.tOf ?_ | refine' TW.and ?_ | refine' TW.or ?_) | ((with_reducible refine (?_ : CW _ _ _)); with_reducible refine' CW.of (by with_reducible assumption) ?_) | ((with_reducible refine (?_ : OW _ _ _ _)); with_reducible refine' OW.of (by with_reducible assumption) ?_) | (with_reducible first | refine' OW.eq ?_))
          rcases hw with ⟨e1, w⟩ | ⟨e1, e2, w⟩ | ⟨e1, e2, w⟩ <;> (repeat' ((fail_if_success (with_reducible refine (?_ : @Eq _ _ _))); first | ((with_reducible refine (?_ : XW (xSeq _ _) _ _ _ _ _)); with_reducible refine' XW.seq ?_) | ((with_reducible refine (?_ : XW (xOf _) _ _ _ _ _)); with_reducible refine' XW.of ?_) | ((with_reducible refine (?_ : XW (xApp _ _) _ _ _ _ _)); with_reducible refine' XW.app (by with_unfolding_all exact rfl) (by with_reducible assumption) ?_) | (with_reducible first | refine' XSK.next ?_ | refine' XCK.ret ?_) | ((with_reducible refine (?_ : XC (callX _ _ _ _) _ _ _ _)); with_reducible refine' XC.fn (by with_unfolding_all (repeat (first | exact StartsAt.nil | apply StartsAt.cons | apply StartsAt.unb))) (by with_unfolding_all exact rfl) ?_) | ((with_reducible refine (?_ : And (noMt _ = true) _)); with_reducible refine noMt_and (by with_unfolding_all exact rfl) ?_) | ((with_reducible refine (?_ : And (flat _ = true) _)); with_reducible refine flat_and (by with_unfolding_all exact rfl) ?_) | ((with_reducible refine (?_ : OW (fIn false) (D.str _) (D.tup _) _)); refine' OW.of (by with_unfolding_all assumption) ?_) | ((with_reducible refine (?_ : OW fNe (D.str _) (D.str _) _)); with_reducible first | refine' OW.of (by with_reducible assumption) ?_ | refine' OW.clT (by decide +kernel) ?_ | refine' OW.clF (by decide +kernel) ?_) | ((with_reducible refine (?_ : OW fSubs (D.tup [_, _]) (D.int _) _)); with_reducible first | refine' OW.fst ?_ | refine' OW.snd ?_) | ((with_reducible refine (?_ : CW fLen [D.tup _] _)); with_reducible first | refine' CW.len2 ?_ | refine' CW.len0 ?_) | ((with_reducible refine (?_ : OW fEq (D.str _) (D.str _) _)); with_reducible first | refine' OW.clT (by decide +kernel) ?_ | refine' OW.clF (by decide +kernel) ?_) | ((with_reducible refine (?_ : OW (fIn false) (D.str _) (D.tup _) _)); with_reducible first | refine' OW.clT (by decide +kernel) ?_ | refine' OW.clF (by decide +kernel) ?_) | ((with_reducible refine (?_ : IfK (@decide ((1:Int) < (List.length _ : Int)) _) _ _)); with_reducible first | refine' IfK.decT (by first | with_reducible assumption | decide) ?_ | refine' IfK.decF (by first | with_reducible assumption | decide) ?_) | (with_reducible first | refine' SK.next ?_ | refine' SK.ret ?_ | refine' RW.nil ?_ | refine' RW.seq ?_) | ((with_reducible refine (?_ : RW _ _ _ _)); with_reducible refine' RW.lenOk (by with_unfolding_all exact rfl) ?_) | (with_reducible first | refine' SW.of ?_ | refine' PutAt.of ?_ ?_) | (with_reducible first | exact SetR.z) | (with_reducible first | refine' SetR.s3 ?_ | refine' SetR.s ?_) | (with_reducible refine (?_ : SetR _ (0 + 1) _ _)); refine SetR.s ?_ | (with_reducible first | refine' RW.asg ?_ | refine' RW.ret ?_ | refine' RW.if ?_ | refine' RW.tup ?_) | (with_reducible first | refine' TupK.two_f ?_ | refine' IfK.t ?_ | refine' IfK.f ?_ | refine' IfK.decT (by first | with_reducible assumption | with_unfolding_all omega) ?_ | refine' IfK.decF (by first | with_reducible assumption | with_unfolding_all omega) ?_ | refine' TruthK.bool ?_) | ((with_reducible refine (?_ : EW (eVar _) _ _)); with_reducible refine' EW.var (by with_unfolding_all exact rfl) ?_) | (with_reducible first | refine' EW.cst ?_ | refine' EW.e2 ?_ | refine' EW.call ?_ | refine' EW.tup ?_ | refine' EsW.nil ?_ | refine' EsW.cons ?_ | refine' TW.c ?_) | ((with_reducible refine (?_ : TpK _ _)); with_reducible refine' TpK.mk (by with_unfolding_all exact Nat.le_of_ble_eq_true rfl) ?_) | (with_reducible first | refine' TW.tOf ?_ | refine' TW.and ?_ | refine' TW.or ?_) | ((with_reducible refine (?_ : CW _ _ _)); with_reducible refine' CW.of (by with_reducible assumption) ?_) | ((with_reducible refine (?_ : OW _ _ _ _)); with_reducible refine' OW.of (by with_reducible assumption) ?_) | (with_reducible first | refine' OW.eq ?_))) <;> exact ⟨rfl, rfl⟩
      · repeat' ((fail_if_success (with_reducible refine (?_ : @Eq _ _ _))); first | ((with_reducible refine (?_ : XW (xSeq _ _) _ _ _ _ _)); with_reducible refine' XW.seq ?_) | ((with_reducible refine (?_ : XW (xOf _) _ _ _ _ _)); with_reducible refine' XW.of ?_) | ((with_reducible refine (?_ : XW (xApp _ _) _ _ _ _ _)); with_reducible refine' XW.app (by with_unfolding_all exact rfl) (by with_reducible assumption) ?_) | (with_reducible first | refine' XSK.next ?_ | refine' XCK.ret ?_) | ((with_reducible refine (?_ : XC (callX _ _ _ _) _ _ _ _)); with_reducible refine' XC.fn (by with_unfolding_all (repeat (first | exact StartsAt.nil | apply StartsAt.cons | apply StartsAt.unb))) (by with_unfolding_all exact rfl) ?_) | ((with_reducible refine (?_ : And (noMt _ = true) _)); with_reducible refine noMt_and (by with_unfolding_all exact rfl) ?_) | ((with_reducible refine (?_ : And (flat _ = true) _)); with_reducible refine flat_and (by with_unfolding_all exact rfl) ?_) | ((with_reducible refine (?_ : OW (fIn false) (D.str _) (D.tup _) _)); refine' OW.of (by with_unfolding_all assumption) ?_) | ((with_reducible refine (?_ : OW fNe (D.str _) (D.str _) _)); with_reducible first | refine' OW.of (by with_reducible assumption) ?_ | refine' OW.clT (by decide +kernel) ?_ | refine' OW.clF (by decide +kernel) ?_) | ((with_reducible refine (?_ : OW fSubs (D.tup [_, _]) (D.int _) _)); with_reducible first | refine' OW.fst ?_ | refine' OW.snd ?_) | ((with_reducible refine (?_ : CW fLen [D.tup _] _)); with_reducible first | refine' CW.len2 ?_ | refine' CW.len0 ?_) | ((with_reducible refine (?_ : OW fEq (D.str _) (D.str _) _)); with_reducible first | refine' OW.clT (by decide +kernel) ?_ | refine' OW.clF (by decide +kernel) ?_) | ((with_reducible refine (?_ : OW (fIn false) (D.str _) (D.tup _) _)); with_reducible first | refine' OW.clT (by decide +kernel) ?_ | refine' OW.clF (by decide +kernel) ?_) | ((with_reducible refine (?_ : IfK (@decide ((1:Int) < (List.length _ : Int)) _) _ _)); with_reducible first | refine' IfK.decT (by first | with_reducible assumption | decide) ?_ | refine' IfK.decF (by first | with_reducible assumption | decide) ?_) | (with_reducible first | refine' SK.next ?_ | refine' SK.ret ?_ | refine' RW.nil ?_ | refine' RW.seq ?_) | ((with_reducible refine (?_ : RW _ _ _ _)); with_reducible refine' RW.lenOk (by with_unfolding_all exact rfl) ?_) | (with_reducible first | refine' SW.of ?_ | refine' PutAt.of ?_ ?_) | (with_reducible first | exact SetR.z) | (with_reducible first | refine' SetR.s3 ?_ | refine' SetR.s ?_) | (with_reducible refine (?_ : SetR _ (0 + 1) _ _)); refine SetR.s ?_ | (with_reducible first | refine' RW.asg ?_ | refine' RW.ret ?_ | refine' RW.if ?_ | refine' RW.tup ?_) | (with_reducible first | refine' TupK.two_f ?_ | refine' IfK.t ?_ | refine' IfK.f ?_ | refine' IfK.decT (by first | with_reducible assumption | with_unfolding_all omega) ?_ | refine' IfK.decF (by first | with_reducible assumption | with_unfolding_all omega) ?_ | refine' TruthK.bool ?_) | ((with_reducible refine (?_ : EW (eVar _) _ _)); with_reducible refine' EW.var (by with_unfolding_all exact rfl) ?_) | (with_reducible first | refine' EW.cst ?_ | refine' EW.e2 ?_ | refine' EW.call ?_ | refine' EW.tup ?_ | refine' EsW.nil ?_ | refine' EsW.cons ?_ | refine' TW.c ?_) | ((with_reducible refine (?_ : TpK _ _)); with_reducible refine' TpK.mk (by with_unfolding_all exact Nat.le_of_ble_eq_true rfl) ?_) | (with_reducible first | refine' TW.tOf ?_ | refine' TW.and ?_ | refine' TW.or ?_) | ((with_reducible refine (?_ : CW _ _ _)); with_reducible refine' CW.of (by with_reducible assumption) ?_) | ((with_reducible refine (?_ : OW _ _ _ _)); with_reducible refine' OW.of (by with_reducible assumption) ?_) | (with_reducible first | refine' OW.eq ?_))
        rcases hw with ⟨rfl, rfl⟩ | ⟨b, rfl, rfl⟩ | ⟨b, x, r', rfl, hw⟩
        · rw [show stkD [] = D.tup [] from rfl]
          repeat' ((fail_if_success (with_reducible refine (?_ : @Eq _ _ _))); first | ((with_reducible refine (?_ : XW (xSeq _ _) _ _ _ _ _)); with_reducible refine' XW.seq ?_) | ((with_reducible refine (?_ : XW (xOf _) _ _ _ _ _)); with_reducible refine' XW.of ?_) | ((with_reducible refine (?_ : XW (xApp _ _) _ _ _ _ _)); with_reducible refine' XW.app (by with_unfolding_all exact rfl) (by with_reducible assumption) ?_) | (with_reducible first | refine' XSK.next ?_ | refine' XCK.ret ?_) | ((with_reducible refine (?_ : XC (callX _ _ _ _) _ _ _ _)); with_reducible refine' XC.fn (by with_unfolding_all (repeat (first | exact StartsAt.nil | apply StartsAt.cons | apply StartsAt.unb))) (by with_unfolding_all exact rfl) ?_) | ((with_reducible refine (?_ : And (noMt _ = true) _)); with_reducible refine noMt_and (by with_unfolding_all exact rfl) ?_) | ((with_reducible refine (?_ : And (flat _ = true) _)); with_reducible refine flat_and (by with_unfolding_all exact rfl) ?_) | ((with_reducible refine (?_ : OW (fIn false) (D.str _) (D.tup _) _)); refine' OW.of (by with_unfolding_all assumption) ?_) | ((with_reducible refine (?_ : OW fNe (D.str _) (D.str _) _)); with_reducible first | refine' OW.of (by with_reducible assumption) ?_ | refine' OW.clT (by decide +kernel) ?_ | refine' OW.clF (by decide +kernel) ?_) | ((with_reducible refine (?_ : OW fSubs (D.tup [_, _]) (D.int _) _)); with_reducible first | refine' OW.fst ?_ | refine' OW.snd ?_) | ((with_reducible refine (?_ : CW fLen [D.tup _] _)); with_reducible first | refine' CW.len2 ?_ | refine' CW.len0 ?_) | ((with_reducible refine (?_ : OW fEq (D.str _) (D.str _) _)); with_reducible first | refine' OW.clT (by decide +kernel) ?_ | refine' OW.clF (by decide +kernel) ?_) | ((with_reducible refine (?_ : OW (fIn false) (D.str _) (D.tup _) _)); with_reducible first | refine' OW.clT (by decide +kernel) ?_ | refine' OW.clF (by decide +kernel) ?_) | ((with_reducible refine (?_ : IfK (@decide ((1:Int) < (List.length _ : Int)) _) _ _)); with_reducible first | refine' IfK.decT (by first | with_reducible assumption | decide) ?_ | refine' IfK.decF (by first | with_reducible assumption | decide) ?_) | (with_reducible first | refine' SK.next ?_ | refine' SK.ret ?_ | refine' RW.nil ?_ | refine' RW.seq ?_) | ((with_reducible refine (?_ : RW _ _ _ _)); with_reducible refine' RW.lenOk (by with_unfolding_all exact rfl) ?_) | (with_reducible first | refine' SW.of ?_ | refine' PutAt.of ?_ ?_) | (with_reducible first | exact SetR.z) | (with_reducible first | refine' SetR.s3 ?_ | refine' SetR.s ?_) | (with_reducible refine (?_ : SetR _ (0 + 1) _ _)); refine SetR.s ?_ | (with_reducible first | refine' RW.asg ?_ | refine' RW.ret ?_ | refine' RW.if ?_ | refine' RW.tup ?_) | (with_reducible first | refine' TupK.two_f ?_ | refine' IfK.t ?_ | refine' IfK.f ?_ | refine' IfK.decT (by first | with_reducible assumption | with_unfolding_all omega) ?_ | refine' IfK.decF (by first | with_reducible assumption | with_unfolding_all omega) ?_ | refine' TruthK.bool ?_) | ((with_reducible refine (?_ : EW (eVar _) _ _)); with_reducible refine' EW.var (by with_unfolding_all exact rfl) ?_) | (with_reducible first | refine' EW.cst ?_ | refine' EW.e2 ?_ | refine' EW.call ?_ | refine' EW.tup ?_ | refine' EsW.nil ?_ | refine' EsW.cons ?_ | refine' TW.c ?_) | ((with_reducible refine (?_ : TpK _ _)); with_reducible refine' TpK.mk (by with_unfolding_all exact Nat.le_of_ble_eq_true rfl) ?_) | (with_reducible first | refine' TW.tOf ?_ | refine' TW.and ?_ | refine' TW.or ?_) | ((with_reducible refine (?_ : CW _ _ _)); with_reducible refine' CW.of (by with_reducible assumption) ?_) | ((with_reducible refine (?_ : OW _ _ _ _)); with_reducible refine' OW.of (by with_reducible assumption) ?_) | (with_reducible first | refine' OW.eq ?_))
          exact ⟨rfl, rfl⟩
        · rw [show stkD [b] = D.tup [.int b, .tup []] from rfl]
          repeat' ((fail_if_success (with_reducible refine (?_ : @Eq _ _ _))); first | ((with_reducible refine (?_ : XW (xSeq _ _) _ _ _ _ _)); with_reducible refine' XW.seq ?_) | ((with_reducible refine (?_ : XW (xOf _) _ _ _ _ _)); with_reducible refine' XW.of ?_) | ((with_reducible refine (?_ : XW (xApp _ _) _ _ _ _ _)); with_reducible refine' XW.app (by with_unfolding_all exact rfl) (by with_reducible assumption) ?_) | (with_reducible first | refine' XSK.next ?_ | refine' XCK.ret ?_) | ((with_reducible refine (?_ : XC (callX _ _ _ _) _ _ _ _)); with_reducible refine' XC.fn (by with_unfolding_all (repeat (first | exact StartsAt.nil | apply StartsAt.cons | apply StartsAt.unb))) (by with_unfolding_all exact rfl) ?_) | ((with_reducible refine (?_ : And (noMt _ = true) _)); with_reducible refine noMt_and (by with_unfolding_all exact rfl) ?_) | ((with_reducible refine (?_ : And (flat _ = true) _)); with_reducible refine flat_and (by with_unfolding_all exact rfl) ?_) | ((with_reducible refine (?_ : OW (fIn false) (D.str _) (D.tup _) _)); refine' OW.of (by with_unfolding_all assumption) ?_) | ((with_reducible refine (?_ : OW fNe (D.str _) (D.str _) _)); with_reducible first | refine' OW.of (by with_reducible assumption) ?_ | refine' OW.clT (by decide +kernel) ?_ | refine' OW.clF (by decide +kernel) ?_) | ((with_reducible refine (?_ : OW fSubs (D.tup [_, _]) (D.int _) _)); with_reducible first | refine' OW.fst ?_ | refine' OW.snd ?_) | ((with_reducible refine (?_ : CW fLen [D.tup _] _)); with_reducible first | refine' CW.len2 ?_ | refine' CW.len0 ?_) | ((with_reducible refine (?_ : OW fEq (D.str _) (D.str _) _)); with_reducible first | refine' OW.clT (by decide +kernel) ?_ | refine' OW.clF (by decide +kernel) ?_) | ((with_reducible refine (?_ : OW (fIn false) (D.str _) (D.tup _) _)); with_reducible first | refine' OW.clT (by decide +kernel) ?_ | refine' OW.clF (by decide +kernel) ?_) | ((with_reducible refine (?_ : IfK (@decide ((1:Int) < (List.length _ : Int)) _) _ _)); with_reducible first | refine' IfK.decT (by first | with_reducible assumption | decide) ?_ | refine' IfK.decF (by first | with_reducible assumption | decide) ?_) | (with_reducible first | refine' SK.next ?_ | refine' SK.ret ?_ | refine' RW.nil ?_ | refine' RW.seq ?_) | ((with_reducible refine (?_ : RW _ _ _ _)); with_reducible refine' RW.lenOk (by with_unfolding_all exact rfl) ?_) | (with_reducible first | refine' SW.of ?_ | refine' PutAt.of ?_ ?_) | (with_reducible first | exact SetR.z) | (with_reducible first | refine' SetR.s3 ?_ | refine' SetR.s ?_) | (with_reducible refine (?_ : SetR _ (0 + 1) _ _)); refine SetR.s ?_ | (with_reducible first | refine' RW.asg ?_ | refine' RW.ret ?_ | refine' RW.if ?_ | refine' RW.tup ?_) | (with_reducible first | refine' TupK.two_f ?_ | refine' IfK.t ?_ | refine' IfK.f ?_ | refine' IfK.decT (by first | with_reducible assumption | with_unfolding_all omega) ?_ | refine' IfK.decF (by first | with_reducible assumption | with_unfolding_all omega) ?_ | refine' TruthK.bool ?_) | ((with_reducible refine (?_ : EW (eVar _) _ _)); with_reducible refine' EW.var (by with_unfolding_all exact rfl) ?_) | (with_reducible first | refine' EW.cst ?_ | refine' EW.e2 ?_ | refine' EW.call ?_ | refine' EW.tup ?_ | refine' EsW.nil ?_ | refine' EsW.cons ?_ | refine' TW.c ?_) | ((with_reducible refine (?_ : TpK _ _)); with_reducible refine' TpK.mk (by with_unfolding_all exact Nat.le_of_ble_eq_true rfl) ?_) | (with_reducible first | refine' TW.tOf ?_ | refine' TW.and ?_ | refine' TW.or ?_) | ((with_reducible refine (?_ : CW _ _ _)); with_reducible refine' CW.of (by with_reducible assumption) ?_) | ((with_reducible refine (?_ : OW _ _ _ _)); with_reducible refine' OW.of (by with_reducible assumption) ?_) | (with_reducible first | refine' OW.eq ?_))
          exact ⟨rfl, rfl⟩
        · rw [show stkD (b :: x :: r') = D.tup [.int b, D.tup [.int x, stkD r']] from rfl]
          repeat' ((fail_if_success (with_reducible refine (?_ : @Eq _ _ _))); first | ((with_reducible refine (?_ : XW (xSeq _ _) _ _ _ _ _)); with_reducible refine' XW.seq ?_) | ((with_reducible refine (?_ : XW (xOf _) _ _ _ _ _)); with_reducible refine' XW.of ?_) | ((with_reducible refine (?_ : XW (xApp _ _) _ _ _ _ _)); with_reducible refine' XW.app (by with_unfolding_all exact rfl) (by with_reducible assumption) ?_) | (with_reducible first | refine' XSK.next ?_ | refine' XCK.ret ?_) | ((with_reducible refine (?_ : XC (callX _ _ _ _) _ _ _ _)); with_reducible refine' XC.fn (by with_unfolding_all (repeat (first | exact StartsAt.nil | apply StartsAt.cons | apply StartsAt.unb))) (by with_unfolding_all exact rfl) ?_) | ((with_reducible refine (?_ : And (noMt _ = true) _)); with_reducible refine noMt_and (by with_unfolding_all exact rfl) ?_) | ((with_reducible refine (?_ : And (flat _ = true) _)); with_reducible refine flat_and (by with_unfolding_all exact rfl) ?_) | ((with_reducible refine (?_ : OW (fIn false) (D.str _) (D.tup _) _)); refine' OW.of (by with_unfolding_all assumption) ?_) | ((with_reducible refine (?_ : OW fNe (D.str _) (D.str _) _)); with_reducible first | refine' OW.of (by with_reducible assumption) ?_ | refine' OW.clT (by decide +kernel) ?_ | refine' OW.clF (by decide +kernel) ?_) | ((with_reducible refine (?_ : OW fSubs (D.tup [_, _]) (D.int _) _)); with_reducible first | refine' OW.fst ?_ | refine' OW.snd ?_) | ((with_reducible refine (?_ : CW fLen [D.tup _] _)); with_reducible first | refine' CW.len2 ?_ | refine' CW.len0 ?_) | ((with_reducible refine (?_ : OW fEq (D.str _) (D.str _) _)); with_reducible first | refine' OW.clT (by decide +kernel) ?_ | refine' OW.clF (by decide +kernel) ?_) | ((with_reducible refine (?_ : OW (fIn false) (D.str _) (D.tup _) _)); with_reducible first | refine' OW.clT (by decide +kernel) ?_ | refine' OW.clF (by decide +kernel) ?_) | ((with_reducible refine (?_ : IfK (@decide ((1:Int) < (List.length _ : Int)) _) _ _)); with_reducible first | refine' IfK.decT (by first | with_reducible assumption | decide) ?_ | refine' IfK.decF (by first | with_reducible assumption | decide) ?_) | (with_reducible first | refine' SK.next ?_ | refine' SK.ret ?_ | refine' RW.nil ?_ | refine' RW.seq ?_) | ((with_reducible refine (?_ : RW _ _ _ _)); with_reducible refine' RW.lenOk (by with_unfolding_all exact rfl) ?_) | (with_reducible first | refine' SW.of ?_ | refine' PutAt.of ?_ ?_) | (with_reducible first | exact SetR.z) | (with_reducible first | refine' SetR.s3 ?_ | refine' SetR.s ?_) | (with_reducible refine (?_ : SetR _ (0 + 1) _ _)); refine SetR.s ?_ | (with_reducible first | refine' RW.asg ?_ | refine' RW.ret ?_ | refine' RW.if ?_ | refine' RW.tup ?_) | (with_reducible first | refine' TupK.two_f ?_ | refine' IfK.t ?_ | refine' IfK.f ?_ | refine' IfK.decT (by first | with_reducible assumption | with_unfolding_all omega) ?_ | refine' IfK.decF (by first | with_reducible assumption | with_unfolding_all omega) ?_ | refine' TruthK.bool ?_) | ((with_reducible refine (?_ : EW (eVar _) _ _)); with_reducible refine' EW.var (by with_unfolding_all exact rfl) ?_) | (with_reducible first | refine' EW.cst ?_ | refine' EW.e2 ?_ | refine' EW.call ?_ | refine' EW.tup ?_ | refine' EsW.nil ?_ | refine' EsW.cons ?_ | refine' TW.c ?_) | ((with_reducible refine (?_ : TpK _ _)); with_reducible refine' TpK.mk (by with_unfolding_all exact Nat.le_of_ble_eq_true rfl) ?_) | (with_reducible first | refine' TW.tOf ?_ | refine' TW.and ?_ | refine' TW.or ?_) | ((with_reducible refine (?_ : CW _ _ _)); with_reducible refine' CW.of (by with_reducible assumption) ?_) | ((with_reducible refine (?_ : OW _ _ _ _)); with_reducible refine' OW.of (by with_reducible assumption) ?_) | (with_reducible first | refine' OW.eq ?_))
          rcases hw with ⟨hb, q3, rfl⟩ | ⟨hb, q3, c, w, rfl⟩ | ⟨hb, c, w, rfl⟩ <;> (repeat' ((fail_if_success (with_reducible refine (?_ : @Eq _ _ _))); first | ((with_reducible refine (?_ : XW (xSeq _ _) _ _ _ _ _)); with_reducible refine' XW.seq ?_) | ((with_reducible refine (?_ : XW (xOf _) _ _ _ _ _)); with_reducible refine' XW.of ?_) | ((with_reducible refine (?_ : XW (xApp _ _) _ _ _ _ _)); with_reducible refine' XW.app (by with_unfolding_all exact rfl) (by with_reducible assumption) ?_) | (with_reducible first | refine' XSK.next ?_ | refine' XCK.ret ?_) | ((with_reducible refine (?_ : XC (callX _ _ _ _) _ _ _ _)); with_reducible refine' XC.fn (by with_unfolding_all (repeat (first | exact StartsAt.nil | apply StartsAt.cons | apply StartsAt.unb))) (by with_unfolding_all exact rfl) ?_) | ((with_reducible refine (?_ : And (noMt _ = true) _)); with_reducible refine noMt_and (by with_unfolding_all exact rfl) ?_) | ((with_reducible refine (?_ : And (flat _ = true) _)); with_reducible refine flat_and (by with_unfolding_all exact rfl) ?_) | ((with_reducible refine (?_ : OW (fIn false) (D.str _) (D.tup _) _)); refine' OW.of (by with_unfolding_all assumption) ?_) | ((with_reducible refine (?_ : OW fNe (D.str _) (D.str _) _)); with_reducible first | refine' OW.of (by with_reducible assumption) ?_ | refine' OW.clT (by decide +kernel) ?_ | refine' OW.clF (by decide +kernel) ?_) | ((with_reducible refine (?_ : OW fSubs (D.tup [_, _]) (D.int _) _)); with_reducible first | refine' OW.fst ?_ | refine' OW.snd ?_) | ((with_reducible refine (?_ : CW fLen [D.tup _] _)); with_reducible first | refine' CW.len2 ?_ | refine' CW.len0 ?_) | ((with_reducible refine (?_ : OW fEq (D.str _) (D.str _) _)); with_reducible first | refine' OW.clT (by decide +kernel) ?_ | refine' OW.clF (by decide +kernel) ?_) | ((with_reducible refine (?_ : OW (fIn false) (D.str _) (D.tup _) _)); with_reducible first | refine' OW.clT (by decide +kernel) ?_ | refine' OW.clF (by decide +kernel) ?_) | ((with_reducible refine (?_ : IfK (@decide ((1:Int) < (List.length _ : Int)) _) _ _)); with_reducible first | refine' IfK.decT (by first | with_reducible assumption | decide) ?_ | refine' IfK.decF (by first | with_reducible assumption | decide) ?_) | (with_reducible first | refine' SK.next ?_ | refine' SK.ret ?_ | refine' RW.nil ?_ | refine' RW.seq ?_) | ((with_reducible refine (?_ : RW _ _ _ _)); with_reducible refine' RW.lenOk (by with_unfolding_all exact rfl) ?_) | (with_reducible first | refine' SW.of ?_ | refine' PutAt.of ?_ ?_) | (with_reducible first | exact SetR.z) | (with_reducible first | refine' SetR.s3 ?_ | refine' SetR.s ?_) | (with_reducible refine (?_ : SetR _ (0 + 1) _ _)); refine SetR.s ?_ | (with_reducible first | refine' RW.asg ?_ | refine' RW.ret ?_ | refine' RW.if ?_ | refine' RW.tup ?_) | (with_reducible first | refine' TupK.two_f ?_ | refine' IfK.t ?_ | refine' IfK.f ?_ | refine' IfK.decT (by first | with_reducible assumption | with_unfolding_all omega) ?_ | refine' IfK.decF (by first | with_reducible assumption | with_unfolding_all omega) ?_ | refine' TruthK.bool ?_) | ((with_reducible refine (?_ : EW (eVar _) _ _)); with_reducible refine' EW.var (by with_unfolding_all exact rfl) ?_) | (with_reducible first | refine' EW.cst ?_ | refine' EW.e2 ?_ | refine' EW.call ?_ | refine' EW.tup ?_ | refine' EsW.nil ?_ | refine' EsW.cons ?_ | refine' TW.c ?_) | ((with_reducible refine (?_ : TpK _ _)); with_reducible refine' TpK.mk (by with_unfolding_all exact Nat.le_of_ble_eq_true rfl) ?_) | (with_reducible first | refine' TW.tOf ?_ | refine' TW.and ?_ | refine' TW.or ?_) | ((with_reducible refine (?_ : CW _ _ _)); with_reducible refine' CW.of (by with_reducible assumption) ?_) | ((with_reducible refine (?_ : OW _ _ _ _)); with_reducible refine' OW.of (by with_reducible assumption) ?_) | (with_reducible first | refine' OW.eq ?_))) <;> exact ⟨rfl, rfl⟩
      · repeat' ((fail_if_success (with_reducible refine (?_ : @Eq _ _ _))); first | ((with_reducible refine (?_ : XW (xSeq _ _) _ _ _ _ _)); with_reducible refine' XW.seq ?_) | ((with_reducible refine (?_ : XW (xOf _) _ _ _ _ _)); with_reducible refine' XW.of ?_) | ((with_reducible refine (?_ : XW (xApp _ _) _ _ _ _ _)); with_reducible refine' XW.app (by with_unfolding_all exact rfl) (by with_reducible assumption) ?_) | (with_reducible first | refine' XSK.next ?_ | refine' XCK.ret ?_) | ((with_reducible refine (?_ : XC (callX _ _ _ _) _ _ _ _)); with_reducible refine' XC.fn (by with_unfolding_all (repeat (first | exact StartsAt.nil | apply StartsAt.cons | apply StartsAt.unb))) (by with_unfolding_all exact rfl) ?_) | ((with_reducible refine (?_ : And (noMt _ = true) _)); with_reducible refine noMt_and (by with_unfolding_all exact rfl) ?_) | ((with_reducible refine (?_ : And (flat _ = true) _)); with_reducible refine flat_and (by with_unfolding_all exact rfl) ?_) | ((with_reducible refine (?_ : OW (fIn false) (D.str _) (D.tup _) _)); refine' OW.of (by with_unfolding_all assumption) ?_) | ((with_reducible refine (?_ : OW fNe (D.str _) (D.str _) _)); with_reducible first | refine' OW.of (by with_reducible assumption) ?_ | refine' OW.clT (by decide +kernel) ?_ | refine' OW.clF (by decide +kernel) ?_) | ((with_reducible refine (?_ : OW fSubs (D.tup [_, _]) (D.int _) _)); with_reducible first | refine' OW.fst ?_ | refine' OW.snd ?_) | ((with_reducible refine (?_ : CW fLen [D.tup _] _)); with_reducible first | refine' CW.len2 ?_ | refine' CW.len0 ?_) | ((with_reducible refine (?_ : OW fEq (D.str _) (D.str _) _)); with_reducible first | refine' OW.clT (by decide +kernel) ?_ | refine' OW.clF (by decide +kernel) ?_) | ((with_reducible refine (?_ : OW (fIn false) (D.str _) (D.tup _) _)); with_reducible first | refine' OW.clT (by decide +kernel) ?_ | refine' OW.clF (by decide +kernel) ?_) | ((with_reducible refine (?_ : IfK (@decide ((1:Int) < (List.length _ : Int)) _) _ _)); with_reducible first | refine' IfK.decT (by first | with_reducible assumption | decide) ?_ | refine' IfK.decF (by first | with_reducible assumption | decide) ?_) | (with_reducible first | refine' SK.next ?_ | refine' SK.ret ?_ | refine' RW.nil ?_ | refine' RW.seq ?_) | ((with_reducible refine (?_ : RW _ _ _ _)); with_reducible refine' RW.lenOk (by with_unfolding_all exact rfl) ?_) | (with_reducible first | refine' SW.of ?_ | refine' PutAt.of ?_ ?_) | (with_reducible first | exact SetR.z) | (with_reducible first | refine' SetR.s3 ?_ | refine' SetR.s ?_) | (with_reducible refine (?_ : SetR _ (0 + 1) _ _)); refine SetR.s ?_ | (with_reducible first | refine' RW.asg ?_ | refine' RW.ret ?_ | refine' RW.if ?_ | refine' RW.tup ?_) | (with_reducible first | refine' TupK.two_f ?_ | refine' IfK.t ?_ | refine' IfK.f ?_ | refine' IfK.decT (by first | with_reducible assumption | with_unfolding_all omega) ?_ | refine' IfK.decF (by first | with_reducible assumption | with_unfolding_all omega) ?_ | refine' TruthK.bool ?_) | ((with_reducible refine (?_ : EW (eVar _) _ _)); with_reducible refine' EW.var (by with_unfolding_all exact rfl) ?_) | (with_reducible first | refine' EW.cst ?_ | refine' EW.e2 ?_ | refine' EW.call ?_ | refine' EW.tup ?_ | refine' EsW.nil ?_ | refine' EsW.cons ?_ | refine' TW.c ?_) | ((with_reducible refine (?_ : TpK _ _)); with_reducible refine' TpK.mk (by with_unfolding_all exact Nat.le_of_ble_eq_true rfl) ?_) | (with_reducible first | refine' TW.tOf ?_ | refine' TW.and ?_ | refine' TW.or ?_) | ((with_reducible refine (?_ : CW _ _ _)); with_reducible refine' CW.of (by with_reducible assumption) ?_) | ((with_reducible refine (?_ : OW _ _ _ _)); with_reducible refine' OW.of (by with_reducible assumption) ?_) | (with_reducible first | refine' OW.eq ?_))
        exact ⟨rfl, rfl⟩

theorem ok__law_within {I : GI} (hat : HatI I hd.view_39) (hlen : FunOK I 0 ("len" : Str) fLen) (hstr : FunOK I 0 ("str" : Str) fStr) {f9 f10 : FunXF} (h9 : FunX I 3 ("_law_sign" : Str) f9) (h10 : FunX I 1 ("_law_put" : Str) f10) (s9 : SpecSign f9) (s10 : SpecPut f10) : ∃ d, (recsOf hd.view_39)[11]? = some d ∧ d.name = ("_law_within" : Str) ∧ ∃ G, FunX I 4 d.name G ∧
    SpecWithin G := by
  refine' ⟨_, rfl, rfl, _, FunX.of 1000 (i := 11) (ns := ["low", "high", "signs", "state"]) (m := 4) hat rfl ⟨rfl, by decide, by decide⟩ (by decide) (fun pm cd doc => vs4 fun a b c d => rfl) rfl rfl (fun _ => rfl) ?h, ?g⟩
  case h =>
    dsimp only
    
    repeat' ((show (_ : Prop)); first | ((with_reducible refine (?_ : RunX _ _ _ _ _ _)); first | with_reducible refine' RunX.cons ?_ ?_ | ((with_reducible refine (?_ : RunX _ _ _ _ (execs []) _)); with_reducible exact RunX.of RunOK.nil) | ((with_reducible refine (?_ : RunX _ _ _ _ (exec (Stmt.If _ [Stmt.Return (some (Expr.Name _ _)) _] _ _)) _)); with_reducible refine' RunX.of ?_) | ((with_reducible refine (?_ : RunX _ _ _ _ (exec (Stmt.If _ [Stmt.Assign _ (Expr.UnaryOp _ _ _) _] _ _)) _)); with_reducible refine' RunX.of ?_) | with_reducible refine' RunX.ifS ?_ ?_ ?_ | ((with_reducible refine (?_ : RunX _ _ _ _ (exec (Stmt.Expr (Expr.Call (Expr.Attribute _ _ _) _ _ _) _)) _)); with_reducible refine' RunX.app (by with_unfolding_all exact rfl) (by with_unfolding_all exact rfl) (by with_unfolding_all exact fun _ => rfl) (by with_unfolding_all exact fun _ => rfl) (by with_unfolding_all exact fun _ => rfl) (by with_unfolding_all exact ⟨rfl, by decide, by decide⟩) ?_) | ((with_reducible refine (?_ : RunX _ _ _ _ (exec (Stmt.Return _ _)) _)); with_reducible refine' RunX.retX ?_) | ((with_reducible refine (?_ : RunX _ _ _ _ (exec (Stmt.Assign _ (Expr.Call (Expr.Name _ _) _ _ _) _)) _)); with_reducible refine' RunX.asgX (by with_unfolding_all exact rfl) (by with_unfolding_all exact fun _ => rfl) (by with_unfolding_all exact ⟨rfl, by decide, by decide⟩) (by with_unfolding_all exact rfl) ?_) | with_reducible refine' RunX.of ?_) | ((with_reducible refine (?_ : EvX _ _ _ _ _ _)); first | ((with_reducible refine (?_ : EvX _ _ _ _ (Expr.Call (Expr.Name (Str.ofString "_law_put") _) _ _ _) _)); with_reducible refine' EvX.call (by with_unfolding_all exact rfl) (by with_unfolding_all exact rfl) (by with_unfolding_all exact rfl) (by with_unfolding_all exact fun _ => rfl) (by with_unfolding_all exact fun _ => ⟨_, _, rfl⟩) (FunX.le (by with_reducible assumption) (by decide)) ?_) | ((with_reducible refine (?_ : EvX _ _ _ _ (Expr.Call (Expr.Name (Str.ofString "_law_sign") _) _ _ _) _)); with_reducible refine' EvX.call (by with_unfolding_all exact rfl) (by with_unfolding_all exact rfl) (by with_unfolding_all exact rfl) (by with_unfolding_all exact fun _ => rfl) (by with_unfolding_all exact fun _ => ⟨_, _, rfl⟩) (FunX.le (by with_reducible assumption) (by decide)) ?_) | ((with_reducible refine (?_ : EvX _ _ _ _ (Expr.Call (Expr.Name (Str.ofString "_law_within") _) _ _ _) _)); with_reducible refine' EvX.call (by with_unfolding_all exact rfl) (by with_unfolding_all exact rfl) (by with_unfolding_all exact rfl) (by with_unfolding_all exact fun _ => rfl) (by with_unfolding_all exact fun _ => ⟨_, _, rfl⟩) (FunX.le (by with_reducible assumption) (by decide)) ?_) | with_reducible refine' EvX.of ?_) | ((with_reducible refine (?_ : EvsX _ _ _ _ _ _)); first | with_reducible exact EvsX.nil | with_reducible refine' EvsX.cons ?_ ?_ (by with_unfolding_all exact fun _ => rfl)) | (with_reducible first | exact OpOK.lt | exact OpOK.le | exact OpOK.eq | exact OpOK.ne | exact EvOK.cint | exact EvOK.cstr | refine' EvOK.v (by with_unfolding_all exact rfl) (by with_unfolding_all exact rfl) (by with_unfolding_all exact rfl) (by with_unfolding_all exact rfl) | refine' EvOK.call' (by with_unfolding_all exact rfl) (by with_unfolding_all exact rfl) (by with_unfolding_all exact rfl) (by with_unfolding_all exact fun _ => rfl) (by with_unfolding_all exact rfl) (by with_unfolding_all exact fun _ => ⟨_, _, rfl⟩) (by with_unfolding_all first | assumption | exact FunOK.le (by assumption) (by decide)) ?_ | refine' EvOK.subs ?_ ?_ (by with_unfolding_all exact fun _ _ => rfl) | exact EvsOK.nil | refine' EvsOK.cons ?_ ?_ (by with_unfolding_all exact fun _ => rfl) | refine' TrOK.cmp ?_ ?_ ?_ (by with_unfolding_all exact rfl) | exact TrOK.and0 | exact TrOK.or0 | refine' TrOK.and ?_ ?_ | refine' TrOK.or ?_ ?_ | exact RunOK.nil | refine' RunOK.cons ?_ ?_ | refine' RunOK.ret ?_ | refine' RunOK.ifS ?_ ?_ ?_))
  case g =>
    intro low high m l hl h0 h1 h2 h3 ht
    have hl' : l.length ≤ 10000 := by omega
    cases m with
    | err c =>
      have hn := fltS_ne c
      refine ⟨.err c, [], fun a => XC.eq ?_, Goes.nil, Nat.le_refl _, by decide, (fun t h => nomatch h), ht⟩
      show XC _ a [.int low, .int high, .adr a, .tup [.str (fltS c), .tup []]] l _
      repeat' ((fail_if_success (with_reducible refine (?_ : @Eq _ _ _))); first | ((with_reducible refine (?_ : XW (xSeq _ _) _ _ _ _ _)); with_reducible refine' XW.seq ?_) | ((with_reducible refine (?_ : XW (xOf _) _ _ _ _ _)); with_reducible refine' XW.of ?_) | ((with_reducible refine (?_ : XW (xRet _) _ _ _ _ _)); with_reducible refine' XW.ret ?_) | (with_reducible first | refine' XSK.next ?_ | refine' XSK.ret ?_ | refine' XCK.ret ?_) | ((with_reducible refine (?_ : XE (xCall _ _) _ _ _ _)); with_reducible refine' XE.call ?_) | ((with_reducible refine (?_ : XE (xOfE _) _ _ _ _)); with_reducible refine' XE.of ?_) | (with_reducible first | refine' XEs.nil ?_ | refine' XEs.cons ?_) | ((with_reducible refine (?_ : XC (callX _ _ _ _) _ _ _ _)); with_reducible refine' XC.fn (by with_unfolding_all (repeat (first | exact StartsAt.nil | apply StartsAt.cons | apply StartsAt.unb))) (by with_unfolding_all exact rfl) ?_) | ((with_reducible refine (?_ : XC _ _ _ _ _)); with_reducible refine' XC.of (by with_reducible assumption) ?_) | ((with_reducible refine (?_ : And (noMt _ = true) _)); with_reducible refine noMt_and (by with_unfolding_all exact rfl) ?_) | ((with_reducible refine (?_ : And (flat _ = true) _)); with_reducible refine flat_and (by with_unfolding_all exact rfl) ?_) | ((with_reducible refine (?_ : OW (fIn false) (D.str _) (D.tup _) _)); refine' OW.of (by with_unfolding_all assumption) ?_) | ((with_reducible refine (?_ : OW fNe (D.str _) (D.str _) _)); with_reducible first | refine' OW.of (by with_reducible assumption) ?_ | refine' OW.clT (by decide +kernel) ?_ | refine' OW.clF (by decide +kernel) ?_) | ((with_reducible refine (?_ : OW fSubs (D.tup [_, _]) (D.int _) _)); with_reducible first | refine' OW.fst ?_ | refine' OW.snd ?_) | ((with_reducible refine (?_ : CW fLen [D.tup _] _)); with_reducible first | refine' CW.len2 ?_ | refine' CW.len0 ?_) | ((with_reducible refine (?_ : CW fStr _ _)); with_reducible refine' CW.str (by with_reducible assumption) ?_) | ((with_reducible refine (?_ : OW fEq (D.str _) (D.str _) _)); with_reducible first | refine' OW.clT (by decide +kernel) ?_ | refine' OW.clF (by decide +kernel) ?_) | ((with_reducible refine (?_ : OW (fIn false) (D.str _) (D.tup _) _)); with_reducible first | refine' OW.clT (by decide +kernel) ?_ | refine' OW.clF (by decide +kernel) ?_) | ((with_reducible refine (?_ : IfK (@decide ((1:Int) < (List.length _ : Int)) _) _ _)); with_reducible first | refine' IfK.decT (by first | with_reducible assumption | decide) ?_ | refine' IfK.decF (by first | with_reducible assumption | decide) ?_) | (with_reducible first | refine' SK.ret ?_ | refine' RW.nil ?_ | refine' RW.seq ?_) | ((with_reducible refine (?_ : RW _ _ _ _)); with_reducible refine' RW.lenOk (by with_unfolding_all exact rfl) ?_) | (with_reducible first | refine' RW.ret ?_) | (fail_if_success (have : StopIf := by with_reducible assumption)); (with_reducible refine' RW.if ?_) | (with_reducible first | refine' IfK.t ?_ | refine' IfK.f ?_) | (with_reducible first | refine' IfK.gd ?_; with_reducible refine' IfK.decT (by first | with_reducible assumption | with_unfolding_all omega) ?_ | refine' IfK.gd ?_; with_reducible refine' IfK.decF (by first | with_reducible assumption | with_unfolding_all omega) ?_) | (with_reducible first | refine' TruthK.bool ?_) | ((with_reducible refine (?_ : EW (eVar _) _ _)); with_reducible refine' EW.var (by with_unfolding_all exact rfl) ?_) | (with_reducible first | refine' EW.cst ?_ | refine' EW.e2 ?_ | refine' EW.call ?_ | refine' EsW.nil ?_ | refine' EsW.cons ?_ | refine' TW.c ?_) | (with_reducible first | refine' TW.tOf ?_ | refine' TW.and ?_ | refine' TW.or ?_) | ((with_reducible refine (?_ : OW _ _ _ _)); with_reducible refine' OW.of (by with_reducible assumption) ?_) | (with_reducible first | refine' OW.ord ?_ | refine' OW.eq ?_))
      exact ⟨rfl, (List.append_nil _).symm⟩
    | ok r =>
      cases r with
      | nil =>
        refine ⟨.ok [], [], fun a => XC.eq ?_, Goes.nil, Nat.le_refl _, by decide, (fun t h => nomatch h), ht⟩
        show XC _ a [.int low, .int high, .adr a, .tup [.str "", .tup []]] l _
        repeat' ((fail_if_success (with_reducible refine (?_ : @Eq _ _ _))); first | ((with_reducible refine (?_ : XW (xSeq _ _) _ _ _ _ _)); with_reducible refine' XW.seq ?_) | ((with_reducible refine (?_ : XW (xOf _) _ _ _ _ _)); with_reducible refine' XW.of ?_) | ((with_reducible refine (?_ : XW (xRet _) _ _ _ _ _)); with_reducible refine' XW.ret ?_) | (with_reducible first | refine' XSK.next ?_ | refine' XSK.ret ?_ | refine' XCK.ret ?_) | ((with_reducible refine (?_ : XE (xCall _ _) _ _ _ _)); with_reducible refine' XE.call ?_) | ((with_reducible refine (?_ : XE (xOfE _) _ _ _ _)); with_reducible refine' XE.of ?_) | (with_reducible first | refine' XEs.nil ?_ | refine' XEs.cons ?_) | ((with_reducible refine (?_ : XC (callX _ _ _ _) _ _ _ _)); with_reducible refine' XC.fn (by with_unfolding_all (repeat (first | exact StartsAt.nil | apply StartsAt.cons | apply StartsAt.unb))) (by with_unfolding_all exact rfl) ?_) | ((with_reducible refine (?_ : XC _ _ _ _ _)); with_reducible refine' XC.of (by with_reducible assumption) ?_) | ((with_reducible refine (?_ : And (noMt _ = true) _)); with_reducible refine noMt_and (by with_unfolding_all exact rfl) ?_) | ((with_reducible refine (?_ : And (flat _ = true) _)); with_reducible refine flat_and (by with_unfolding_all exact rfl) ?_) | ((with_reducible refine (?_ : OW (fIn false) (D.str _) (D.tup _) _)); refine' OW.of (by with_unfolding_all assumption) ?_) | ((with_reducible refine (?_ : OW fNe (D.str _) (D.str _) _)); with_reducible first | refine' OW.of (by with_reducible assumption) ?_ | refine' OW.clT (by decide +kernel) ?_ | refine' OW.clF (by decide +kernel) ?_) | ((with_reducible refine (?_ : OW fSubs (D.tup [_, _]) (D.int _) _)); with_reducible first | refine' OW.fst ?_ | refine' OW.snd ?_) | ((with_reducible refine (?_ : CW fLen [D.tup _] _)); with_reducible first | refine' CW.len2 ?_ | refine' CW.len0 ?_) | ((with_reducible refine (?_ : CW fStr _ _)); with_reducible refine' CW.str (by with_reducible assumption) ?_) | ((with_reducible refine (?_ : OW fEq (D.str _) (D.str _) _)); with_reducible first | refine' OW.clT (by decide +kernel) ?_ | refine' OW.clF (by decide +kernel) ?_) | ((with_reducible refine (?_ : OW (fIn false) (D.str _) (D.tup _) _)); with_reducible first | refine' OW.clT (by decide +kernel) ?_ | refine' OW.clF (by decide +kernel) ?_) | ((with_reducible refine (?_ : IfK (@decide ((1:Int) < (List.length _ : Int)) _) _ _)); with_reducible first | refine' IfK.decT (by first | with_reducible assumption | decide) ?_ | refine' IfK.decF (by first | with_reducible assumption | decide) ?_) | (with_reducible first | refine' SK.ret ?_ | refine' RW.nil ?_ | refine' RW.seq ?_) | ((with_reducible refine (?_ : RW _ _ _ _)); with_reducible refine' RW.lenOk (by with_unfolding_all exact rfl) ?_) | (with_reducible first | refine' RW.ret ?_) | (fail_if_success (have : StopIf := by with_reducible assumption)); (with_reducible refine' RW.if ?_) | (with_reducible first | refine' IfK.t ?_ | refine' IfK.f ?_) | (with_reducible first | refine' IfK.gd ?_; with_reducible refine' IfK.decT (by first | with_reducible assumption | with_unfolding_all omega) ?_ | refine' IfK.gd ?_; with_reducible refine' IfK.decF (by first | with_reducible assumption | with_unfolding_all omega) ?_) | (with_reducible first | refine' TruthK.bool ?_) | ((with_reducible refine (?_ : EW (eVar _) _ _)); with_reducible refine' EW.var (by with_unfolding_all exact rfl) ?_) | (with_reducible first | refine' EW.cst ?_ | refine' EW.e2 ?_ | refine' EW.call ?_ | refine' EsW.nil ?_ | refine' EsW.cons ?_ | refine' TW.c ?_) | (with_reducible first | refine' TW.tOf ?_ | refine' TW.and ?_ | refine' TW.or ?_) | ((with_reducible refine (?_ : OW _ _ _ _)); with_reducible refine' OW.of (by with_reducible assumption) ?_) | (with_reducible first | refine' OW.ord ?_ | refine' OW.eq ?_))
        exact ⟨rfl, (List.append_nil _).symm⟩
      | cons x r =>
        by_cases c : low ≤ x ∧ x < high
        · obtain ⟨c1, c2⟩ := c
          refine ⟨.ok (x :: r), [], fun a => XC.eq ?_, Goes.nil, Nat.le_refl _, by decide, (fun t h => nomatch h), ⟨c1, c2, ht.2⟩⟩
          show XC _ a [.int low, .int high, .adr a, .tup [.str "", .tup [.int x, stkD r]]] l _
          clear ht h3 h2 h1 h0
          repeat' ((fail_if_success (with_reducible refine (?_ : @Eq _ _ _))); first | ((with_reducible refine (?_ : XW (xSeq _ _) _ _ _ _ _)); with_reducible refine' XW.seq ?_) | ((with_reducible refine (?_ : XW (xOf _) _ _ _ _ _)); with_reducible refine' XW.of ?_) | ((with_reducible refine (?_ : XW (xRet _) _ _ _ _ _)); with_reducible refine' XW.ret ?_) | (with_reducible first | refine' XSK.next ?_ | refine' XSK.ret ?_ | refine' XCK.ret ?_) | ((with_reducible refine (?_ : XE (xCall _ _) _ _ _ _)); with_reducible refine' XE.call ?_) | ((with_reducible refine (?_ : XE (xOfE _) _ _ _ _)); with_reducible refine' XE.of ?_) | (with_reducible first | refine' XEs.nil ?_ | refine' XEs.cons ?_) | ((with_reducible refine (?_ : XC (callX _ _ _ _) _ _ _ _)); with_reducible refine' XC.fn (by with_unfolding_all (repeat (first | exact StartsAt.nil | apply StartsAt.cons | apply StartsAt.unb))) (by with_unfolding_all exact rfl) ?_) | ((with_reducible refine (?_ : XC _ _ _ _ _)); with_reducible refine' XC.of (by with_reducible assumption) ?_) | ((with_reducible refine (?_ : And (noMt _ = true) _)); with_reducible refine noMt_and (by with_unfolding_all exact rfl) ?_) | ((with_reducible refine (?_ : And (flat _ = true) _)); with_reducible refine flat_and (by with_unfolding_all exact rfl) ?_) | ((with_reducible refine (?_ : OW (fIn false) (D.str _) (D.tup _) _)); refine' OW.of (by with_unfolding_all assumption) ?_) | ((with_reducible refine (?_ : OW fNe (D.str _) (D.str _) _)); with_reducible first | refine' OW.of (by with_reducible assumption) ?_ | refine' OW.clT (by decide +kernel) ?_ | refine' OW.clF (by decide +kernel) ?_) | ((with_reducible refine (?_ : OW fSubs (D.tup [_, _]) (D.int _) _)); with_reducible first | refine' OW.fst ?_ | refine' OW.snd ?_) | ((with_reducible refine (?_ : CW fLen [D.tup _] _)); with_reducible first | refine' CW.len2 ?_ | refine' CW.len0 ?_) | ((with_reducible refine (?_ : CW fStr _ _)); with_reducible refine' CW.str (by with_reducible assumption) ?_) | ((with_reducible refine (?_ : OW fEq (D.str _) (D.str _) _)); with_reducible first | refine' OW.clT (by decide +kernel) ?_ | refine' OW.clF (by decide +kernel) ?_) | ((with_reducible refine (?_ : OW (fIn false) (D.str _) (D.tup _) _)); with_reducible first | refine' OW.clT (by decide +kernel) ?_ | refine' OW.clF (by decide +kernel) ?_) | ((with_reducible refine (?_ : IfK (@decide ((1:Int) < (List.length _ : Int)) _) _ _)); with_reducible first | refine' IfK.decT (by first | with_reducible assumption | decide) ?_ | refine' IfK.decF (by first | with_reducible assumption | decide) ?_) | (with_reducible first | refine' SK.ret ?_ | refine' RW.nil ?_ | refine' RW.seq ?_) | ((with_reducible refine (?_ : RW _ _ _ _)); with_reducible refine' RW.lenOk (by with_unfolding_all exact rfl) ?_) | (with_reducible first | refine' RW.ret ?_) | (fail_if_success (have : StopIf := by with_reducible assumption)); (with_reducible refine' RW.if ?_) | (with_reducible first | refine' IfK.t ?_ | refine' IfK.f ?_) | (with_reducible first | refine' IfK.gd ?_; with_reducible refine' IfK.decT (by first | with_reducible assumption | with_unfolding_all omega) ?_ | refine' IfK.gd ?_; with_reducible refine' IfK.decF (by first | with_reducible assumption | with_unfolding_all omega) ?_) | (with_reducible first | refine' TruthK.bool ?_) | ((with_reducible refine (?_ : EW (eVar _) _ _)); with_reducible refine' EW.var (by with_unfolding_all exact rfl) ?_) | (with_reducible first | refine' EW.cst ?_ | refine' EW.e2 ?_ | refine' EW.call ?_ | refine' EsW.nil ?_ | refine' EsW.cons ?_ | refine' TW.c ?_) | (with_reducible first | refine' TW.tOf ?_ | refine' TW.and ?_ | refine' TW.or ?_) | ((with_reducible refine (?_ : OW _ _ _ _)); with_reducible refine' OW.of (by with_reducible assumption) ?_) | (with_reducible first | refine' OW.ord ?_ | refine' OW.eq ?_))
          exact ⟨rfl, (List.append_nil _).symm⟩
        · have h600 : high.natAbs < 10 ^ 600 := Nat.lt_trans h2 (Nat.pow_lt_pow_right (by decide) (by decide))
          have cp : Str.ofString "%" = mkS (op2S .mod) := by decide +kernel
          obtain ⟨m', w2, w3, w4, w5, w6⟩ := s9.2.1 .mod (.ok (high :: x :: r)) (l ++ [strT (numL high)]) (by rw [List.length_append]; show _ + 1 ≤ _; omega) ⟨ht.1, h3, fun h => nomatch h⟩
          have e := w6 rfl _ _ _ rfl (by omega)
          subst e
          have w1 := s10 (numL high) high (.ok (x :: r)) l (by omega)
          refine ⟨_, [numL high, op2S .mod], fun a => XC.eq ?_, Goes.trans (ts := [_]) (us := [_]) (Goes.putM (NumTok.num h600)) w3, Nat.le_refl _, Nat.le_refl _, ?_, ?_⟩
          · have v1 : f10 a [.str (mkS (numL high)), .int high, .adr a, .tup [.str "", .tup [.int x, stkD r]]] l = some (.tup [.str "", .tup [.int high, .tup [.int x, stkD r]]], l ++ [strT (numL high)]) := w1 a
            have v2 : f9 a [.str (Str.ofString "%"), .adr a, .tup [.str "", .tup [.int high, .tup [.int x, stkD r]]]] (l ++ [strT (numL high)]) = some (mstD (.ok (x.fmod high :: r)), l ++ [strT (numL high)] ++ [strT (op2S .mod)]) := by rw [cp]; exact w2 a
            show XC _ a [.int low, .int high, .adr a, .tup [.str "", .tup [.int x, stkD r]]] l _
            clear ht h3 h2 h1 h0 w1 w2 w3 w4 w5 w6 cp
            by_cases c1 : low ≤ x
            · have c2 : ¬ x < high := fun h => c ⟨c1, h⟩
              repeat' ((fail_if_success (with_reducible refine (?_ : @Eq _ _ _))); first | ((with_reducible refine (?_ : XW (xSeq _ _) _ _ _ _ _)); with_reducible refine' XW.seq ?_) | ((with_reducible refine (?_ : XW (xOf _) _ _ _ _ _)); with_reducible refine' XW.of ?_) | ((with_reducible refine (?_ : XW (xRet _) _ _ _ _ _)); with_reducible refine' XW.ret ?_) | (with_reducible first | refine' XSK.next ?_ | refine' XSK.ret ?_ | refine' XCK.ret ?_) | ((with_reducible refine (?_ : XE (xCall _ _) _ _ _ _)); with_reducible refine' XE.call ?_) | ((with_reducible refine (?_ : XE (xOfE _) _ _ _ _)); with_reducible refine' XE.of ?_) | (with_reducible first | refine' XEs.nil ?_ | refine' XEs.cons ?_) | ((with_reducible refine (?_ : XC (callX _ _ _ _) _ _ _ _)); with_reducible refine' XC.fn (by with_unfolding_all (repeat (first | exact StartsAt.nil | apply StartsAt.cons | apply StartsAt.unb))) (by with_unfolding_all exact rfl) ?_) | ((with_reducible refine (?_ : XC _ _ _ _ _)); with_reducible refine' XC.of (by with_reducible assumption) ?_) | ((with_reducible refine (?_ : And (noMt _ = true) _)); with_reducible refine noMt_and (by with_unfolding_all exact rfl) ?_) | ((with_reducible refine (?_ : And (flat _ = true) _)); with_reducible refine flat_and (by with_unfolding_all exact rfl) ?_) | ((with_reducible refine (?_ : OW (fIn false) (D.str _) (D.tup _) _)); refine' OW.of (by with_unfolding_all assumption) ?_) | ((with_reducible refine (?_ : OW fNe (D.str _) (D.str _) _)); with_reducible first | refine' OW.of (by with_reducible assumption) ?_ | refine' OW.clT (by decide +kernel) ?_ | refine' OW.clF (by decide +kernel) ?_) | ((with_reducible refine (?_ : OW fSubs (D.tup [_, _]) (D.int _) _)); with_reducible first | refine' OW.fst ?_ | refine' OW.snd ?_) | ((with_reducible refine (?_ : CW fLen [D.tup _] _)); with_reducible first | refine' CW.len2 ?_ | refine' CW.len0 ?_) | ((with_reducible refine (?_ : CW fStr _ _)); with_reducible refine' CW.str (by with_reducible assumption) ?_) | ((with_reducible refine (?_ : OW fEq (D.str _) (D.str _) _)); with_reducible first | refine' OW.clT (by decide +kernel) ?_ | refine' OW.clF (by decide +kernel) ?_) | ((with_reducible refine (?_ : OW (fIn false) (D.str _) (D.tup _) _)); with_reducible first | refine' OW.clT (by decide +kernel) ?_ | refine' OW.clF (by decide +kernel) ?_) | ((with_reducible refine (?_ : IfK (@decide ((1:Int) < (List.length _ : Int)) _) _ _)); with_reducible first | refine' IfK.decT (by first | with_reducible assumption | decide) ?_ | refine' IfK.decF (by first | with_reducible assumption | decide) ?_) | (with_reducible first | refine' SK.ret ?_ | refine' RW.nil ?_ | refine' RW.seq ?_) | ((with_reducible refine (?_ : RW _ _ _ _)); with_reducible refine' RW.lenOk (by with_unfolding_all exact rfl) ?_) | (with_reducible first | refine' RW.ret ?_) | (fail_if_success (have : StopIf := by with_reducible assumption)); (with_reducible refine' RW.if ?_) | (with_reducible first | refine' IfK.t ?_ | refine' IfK.f ?_) | (with_reducible first | refine' IfK.gd ?_; with_reducible refine' IfK.decT (by first | with_reducible assumption | with_unfolding_all omega) ?_ | refine' IfK.gd ?_; with_reducible refine' IfK.decF (by first | with_reducible assumption | with_unfolding_all omega) ?_) | (with_reducible first | refine' TruthK.bool ?_) | ((with_reducible refine (?_ : EW (eVar _) _ _)); with_reducible refine' EW.var (by with_unfolding_all exact rfl) ?_) | (with_reducible first | refine' EW.cst ?_ | refine' EW.e2 ?_ | refine' EW.call ?_ | refine' EsW.nil ?_ | refine' EsW.cons ?_ | refine' TW.c ?_) | (with_reducible first | refine' TW.tOf ?_ | refine' TW.and ?_ | refine' TW.or ?_) | ((with_reducible refine (?_ : OW _ _ _ _)); with_reducible refine' OW.of (by with_reducible assumption) ?_) | (with_reducible first | refine' OW.ord ?_ | refine' OW.eq ?_))
              exact ⟨rfl, by rw [List.append_assoc]; rfl⟩
            · repeat' ((fail_if_success (with_reducible refine (?_ : @Eq _ _ _))); first | ((with_reducible refine (?_ : XW (xSeq _ _) _ _ _ _ _)); with_reducible refine' XW.seq ?_) | ((with_reducible refine (?_ : XW (xOf _) _ _ _ _ _)); with_reducible refine' XW.of ?_) | ((with_reducible refine (?_ : XW (xRet _) _ _ _ _ _)); with_reducible refine' XW.ret ?_) | (with_reducible first | refine' XSK.next ?_ | refine' XSK.ret ?_ | refine' XCK.ret ?_) | ((with_reducible refine (?_ : XE (xCall _ _) _ _ _ _)); with_reducible refine' XE.call ?_) | ((with_reducible refine (?_ : XE (xOfE _) _ _ _ _)); with_reducible refine' XE.of ?_) | (with_reducible first | refine' XEs.nil ?_ | refine' XEs.cons ?_) | ((with_reducible refine (?_ : XC (callX _ _ _ _) _ _ _ _)); with_reducible refine' XC.fn (by with_unfolding_all (repeat (first | exact StartsAt.nil | apply StartsAt.cons | apply StartsAt.unb))) (by with_unfolding_all exact rfl) ?_) | ((with_reducible refine (?_ : XC _ _ _ _ _)); with_reducible refine' XC.of (by with_reducible assumption) ?_) | ((with_reducible refine (?_ : And (noMt _ = true) _)); with_reducible refine noMt_and (by with_unfolding_all exact rfl) ?_) | ((with_reducible refine (?_ : And (flat _ = true) _)); with_reducible refine flat_and (by with_unfolding_all exact rfl) ?_) | ((with_reducible refine (?_ : OW (fIn false) (D.str _) (D.tup _) _)); refine' OW.of (by with_unfolding_all assumption) ?_) | ((with_reducible refine (?_ : OW fNe (D.str _) (D.str _) _)); with_reducible first | refine' OW.of (by with_reducible assumption) ?_ | refine' OW.clT (by decide +kernel) ?_ | refine' OW.clF (by decide +kernel) ?_) | ((with_reducible refine (?_ : OW fSubs (D.tup [_, _]) (D.int _) _)); with_reducible first | refine' OW.fst ?_ | refine' OW.snd ?_) | ((with_reducible refine (?_ : CW fLen [D.tup _] _)); with_reducible first | refine' CW.len2 ?_ | refine' CW.len0 ?_) | ((with_reducible refine (?_ : CW fStr _ _)); with_reducible refine' CW.str (by with_reducible assumption) ?_) | ((with_reducible refine (?_ : OW fEq (D.str _) (D.str _) _)); with_reducible first | refine' OW.clT (by decide +kernel) ?_ | refine' OW.clF (by decide +kernel) ?_) | ((with_reducible refine (?_ : OW (fIn false) (D.str _) (D.tup _) _)); with_reducible first | refine' OW.clT (by decide +kernel) ?_ | refine' OW.clF (by decide +kernel) ?_) | ((with_reducible refine (?_ : IfK (@decide ((1:Int) < (List.length _ : Int)) _) _ _)); with_reducible first | refine' IfK.decT (by first | with_reducible assumption | decide) ?_ | refine' IfK.decF (by first | with_reducible assumption | decide) ?_) | (with_reducible first | refine' SK.ret ?_ | refine' RW.nil ?_ | refine' RW.seq ?_) | ((with_reducible refine (?_ : RW _ _ _ _)); with_reducible refine' RW.lenOk (by with_unfolding_all exact rfl) ?_) | (with_reducible first | refine' RW.ret ?_) | (fail_if_success (have : StopIf := by with_reducible assumption)); (with_reducible refine' RW.if ?_) | (with_reducible first | refine' IfK.t ?_ | refine' IfK.f ?_) | (with_reducible first | refine' IfK.gd ?_; with_reducible refine' IfK.decT (by first | with_reducible assumption | with_unfolding_all omega) ?_ | refine' IfK.gd ?_; with_reducible refine' IfK.decF (by first | with_reducible assumption | with_unfolding_all omega) ?_) | (with_reducible first | refine' TruthK.bool ?_) | ((with_reducible refine (?_ : EW (eVar _) _ _)); with_reducible refine' EW.var (by with_unfolding_all exact rfl) ?_) | (with_reducible first | refine' EW.cst ?_ | refine' EW.e2 ?_ | refine' EW.call ?_ | refine' EsW.nil ?_ | refine' EsW.cons ?_ | refine' TW.c ?_) | (with_reducible first | refine' TW.tOf ?_ | refine' TW.and ?_ | refine' TW.or ?_) | ((with_reducible refine (?_ : OW _ _ _ _)); with_reducible refine' OW.of (by with_reducible assumption) ?_) | (with_reducible first | refine' OW.ord ?_ | refine' OW.eq ?_))
              exact ⟨rfl, by rw [List.append_assoc]; rfl⟩
          · intro t h
            rcases List.mem_cons.mp h with rfl | h
            · exact TokT.num h2
            · rw [List.mem_singleton.mp h]; exact TokT.op2 _
          · have a1 := Int.fmod_nonneg_of_pos x h1
            exact ⟨by omega, Int.fmod_lt_of_pos x h1, ht.2⟩

theorem ok__law_place {I : GI} (hat : HatI I hd.view_39) (hstr : FunOK I 0 ("str" : Str) fStr) (habs : FunOK I 0 ("abs" : Str) fAbs) {f9 f10 f11 : FunXF} (h9 : FunX I 3 ("_law_sign" : Str) f9) (h10 : FunX I 1 ("_law_put" : Str) f10) (h11 : FunX I 4 ("_law_within" : Str) f11) (s9 : SpecSign f9) (s10 : SpecPut f10) (s11 : SpecWithin f11) : ∃ d, (recsOf hd.view_39)[12]? = some d ∧ d.name = ("_law_place" : Str) ∧ ∃ G, FunX I 5 d.name G ∧
    SpecPlace G := by
  refine' ⟨_, rfl, rfl, _, FunX.of 1000 (i := 12) (ns := ["v", "signs", "state", "wide", "kind", "value", "unknown", "sign"]) (m := 3) hat rfl ⟨rfl, by decide, by decide⟩ (by decide) (fun pm cd doc => vs3 fun a b c => rfl) rfl rfl (fun _ => rfl) ?h, ?g⟩
  case h =>
    dsimp only
    
    repeat' ((show (_ : Prop)); first | ((with_reducible refine (?_ : RunX _ _ _ _ _ _)); first | with_reducible refine' RunX.cons ?_ ?_ | ((with_reducible refine (?_ : RunX _ _ _ _ (execs []) _)); with_reducible exact RunX.of RunOK.nil) | ((with_reducible refine (?_ : RunX _ _ _ _ (exec (Stmt.If _ [Stmt.Return (some (Expr.Name _ _)) _] _ _)) _)); with_reducible refine' RunX.of ?_) | ((with_reducible refine (?_ : RunX _ _ _ _ (exec (Stmt.If _ [Stmt.Assign _ (Expr.UnaryOp _ _ _) _] _ _)) _)); with_reducible refine' RunX.of ?_) | with_reducible refine' RunX.ifS ?_ ?_ ?_ | ((with_reducible refine (?_ : RunX _ _ _ _ (exec (Stmt.Expr (Expr.Call (Expr.Attribute _ _ _) _ _ _) _)) _)); with_reducible refine' RunX.app (by with_unfolding_all exact rfl) (by with_unfolding_all exact rfl) (by with_unfolding_all exact fun _ => rfl) (by with_unfolding_all exact fun _ => rfl) (by with_unfolding_all exact fun _ => rfl) (by with_unfolding_all exact ⟨rfl, by decide, by decide⟩) ?_) | ((with_reducible refine (?_ : RunX _ _ _ _ (exec (Stmt.Return _ _)) _)); with_reducible refine' RunX.retX ?_) | ((with_reducible refine (?_ : RunX _ _ _ _ (exec (Stmt.Assign _ (Expr.Call (Expr.Name _ _) _ _ _) _)) _)); with_reducible refine' RunX.asgX (by with_unfolding_all exact rfl) (by with_unfolding_all exact fun _ => rfl) (by with_unfolding_all exact ⟨rfl, by decide, by decide⟩) (by with_unfolding_all exact rfl) ?_) | with_reducible refine' RunX.of ?_) | ((with_reducible refine (?_ : EvX _ _ _ _ _ _)); first | ((with_reducible refine (?_ : EvX _ _ _ _ (Expr.Call (Expr.Name (Str.ofString "_law_put") _) _ _ _) _)); with_reducible refine' EvX.call (by with_unfolding_all exact rfl) (by with_unfolding_all exact rfl) (by with_unfolding_all exact rfl) (by with_unfolding_all exact fun _ => rfl) (by with_unfolding_all exact fun _ => ⟨_, _, rfl⟩) (FunX.le (by with_reducible assumption) (by decide)) ?_) | ((with_reducible refine (?_ : EvX _ _ _ _ (Expr.Call (Expr.Name (Str.ofString "_law_sign") _) _ _ _) _)); with_reducible refine' EvX.call (by with_unfolding_all exact rfl) (by with_unfolding_all exact rfl) (by with_unfolding_all exact rfl) (by with_unfolding_all exact fun _ => rfl) (by with_unfolding_all exact fun _ => ⟨_, _, rfl⟩) (FunX.le (by with_reducible assumption) (by decide)) ?_) | ((with_reducible refine (?_ : EvX _ _ _ _ (Expr.Call (Expr.Name (Str.ofString "_law_within") _) _ _ _) _)); with_reducible refine' EvX.call (by with_unfolding_all exact rfl) (by with_unfolding_all exact rfl) (by with_unfolding_all exact rfl) (by with_unfolding_all exact fun _ => rfl) (by with_unfolding_all exact fun _ => ⟨_, _, rfl⟩) (FunX.le (by with_reducible assumption) (by decide)) ?_) | with_reducible refine' EvX.of ?_) | ((with_reducible refine (?_ : EvsX _ _ _ _ _ _)); first | with_reducible exact EvsX.nil | with_reducible refine' EvsX.cons ?_ ?_ (by with_unfolding_all exact fun _ => rfl)) | (with_reducible first | exact OpOK.add | exact OpOK.sub | exact OpOK.div | exact OpOK.mod | exact OpOK.pow | exact OpOK.lt | exact OpOK.eq | exact OpOK.ne | exact OpOK.isIn | exact EvOK.cint | exact EvOK.cstr | refine' EvOK.v (by with_unfolding_all exact rfl) (by with_unfolding_all exact rfl) (by with_unfolding_all exact rfl) (by with_unfolding_all exact rfl) | refine' EvOK.bin ?_ ?_ ?_ | refine' EvOK.neg ?_ | refine' EvOK.tup ?_ | refine' EvOK.call' (by with_unfolding_all exact rfl) (by with_unfolding_all exact rfl) (by with_unfolding_all exact rfl) (by with_unfolding_all exact fun _ => rfl) (by with_unfolding_all exact rfl) (by with_unfolding_all exact fun _ => ⟨_, _, rfl⟩) (by with_unfolding_all first | assumption | exact FunOK.le (by assumption) (by decide)) ?_ | refine' EvOK.subs ?_ ?_ (by with_unfolding_all exact fun _ _ => rfl) | exact EvsOK.nil | refine' EvsOK.cons ?_ ?_ (by with_unfolding_all exact fun _ => rfl) | refine' TrOK.cmp ?_ ?_ ?_ (by with_unfolding_all exact rfl) | exact TrOK.or0 | refine' TrOK.or ?_ ?_ | exact RunOK.nil | refine' RunOK.cons ?_ ?_ | refine' RunOK.ifS ?_ ?_ ?_ | refine' RunOK.asg' (by with_unfolding_all exact rfl) (by with_unfolding_all exact fun _ => rfl) (by with_unfolding_all exact ⟨rfl, by decide, by decide⟩) ?_))
  case g =>
    intro v m l hl hb
    have hl' : l.length ≤ 10000 := by omega
    have hl9 : l.length ≤ 9999 := by omega
    have cs0 : Str.ofString "+" = mkS [43] := by decide +kernel
    have cs1 : Str.ofString "-" = mkS [45] := by decide +kernel
    have cs2 : Str.ofString "*" = mkS [42] := by decide +kernel
    have cs3 : Str.ofString "x" = mkS [120] := by decide +kernel
    have cs4 : Str.ofString "/" = mkS [47] := by decide +kernel
    have cs5 : Str.ofString "//" = mkS [47, 47] := by decide +kernel
    have cs6 : Str.ofString "%" = mkS [37] := by decide +kernel
    have cs7 : Str.ofString "**" = mkS [42, 42] := by decide +kernel
    have cs8 : Str.ofString "xx" = mkS [120, 120] := by decide +kernel
    have cs9 : Str.ofString "!" = mkS [33] := by decide +kernel
    have cs10 : Str.ofString "f" = mkS [102] := by decide +kernel
    have cs11 : Str.ofString "#" = mkS [35] := by decide +kernel
    have cs12 : Str.ofString "p" = mkS [112] := by decide +kernel
    have cs13 : Str.ofString "--5" = mkS [45, 45, 53] := by decide +kernel
    have cs14 : Str.ofString "+5" = mkS [43, 53] := by decide +kernel
    have cs15 : Str.ofString "1.5" = mkS [49, 46, 53] := by decide +kernel
    have cs16 : Str.ofString "5-" = mkS [53, 45] := by decide +kernel
    have cs17 : Str.ofString "xxx" = mkS [120, 120, 120] := by decide +kernel
    have cs18 : Str.ofString "-x" = mkS [45, 120] := by decide +kernel
    have cs19 : Str.ofString "=" = mkS [61] := by decide +kernel
    have cs20 : Str.ofString "1e3" = mkS [49, 101, 51] := by decide +kernel
    have cs21 : Str.ofString "**-" = mkS [42, 42, 45] := by decide +kernel
    have cs22 : Str.ofString "000" = mkS [48, 48, 48] := by decide +kernel
    have cs23 : Str.ofString "-00" = mkS [45, 48, 48] := by decide +kernel
    have p60 : powOk 10 60 = true := by decide
    have p20 : powOk 10 20 = true := by decide
    have M0 : (10 : Int) ^ (20 : Int).toNat + 39 ≠ 0 := by decide
    have d22 : divOk v 22 = true := divOk_bd (n := 10) (by decide) (Bd.sm (by decide) (by decide)) (by decide)
    obtain ⟨w, hw⟩ : ∃ w, cutI (v.fdiv 22) (10 ^ (20 : Int).toNat + 39) = w := ⟨_, rfl⟩
    have d3 : divOk w 3 = true := divOk_bd (n := 10) (by decide) (Bd.sm (by decide) (by decide)) (by decide)
    have hwb : w.natAbs < 10 ^ 21 := by rw [← hw]; exact Nat.lt_trans (cutI_abs (by decide)) (by decide)
    obtain ⟨wab, n1, n2, n3, a1, a2⟩ := place_nums hwb
    obtain ⟨m', ts, hP, P, B⟩ := place_all s9 s10 s11 (W := 10 ^ (60 : Int).toNat + 7) hwb (by decide) (by decide) (by decide) hl hb (Int.fmod_lt_of_pos v (show (0 : Int) < 22 by decide))
    refine ⟨m', ts, fun a => XC.eq ?_, P, B⟩
    have stop : StopIf := trivial
    have nine : (9 : Int) ≠ 0 := by decide
    have three : (3 : Int) ≠ 0 := by decide
    have s10' := fun t v => s10 t v m l hl9 a
    clear P B hb hwb hl hl9 s9 s10 s11
    repeat' ((fail_if_success (with_reducible refine (?_ : @Eq _ _ _))); first | ((with_reducible refine (?_ : XW (xSeq _ _) _ _ _ _ _)); with_reducible refine' XW.seq ?_) | ((with_reducible refine (?_ : XW (xOf _) _ _ _ _ _)); with_reducible refine' XW.of ?_) | ((with_reducible refine (?_ : XW (xRet _) _ _ _ _ _)); with_reducible refine' XW.ret ?_) | ((with_reducible refine (?_ : XW (xIf _ _ _) _ _ _ _ _)); (fail_if_success (have : StopIf := by with_reducible assumption)); with_reducible refine' XW.if ?_) | ((with_reducible refine (?_ : XW (fun _ _ _ _ => _) _ _ _ _ _)); with_reducible refine' XW.asg (by with_unfolding_all exact rfl) ?_) | (with_reducible first | refine' XSK.next ?_ | refine' XSK.ret ?_ | refine' XCK.ret ?_) | ((with_reducible refine (?_ : XE (xCall _ _) _ _ _ _)); with_reducible refine' XE.call ?_) | ((with_reducible refine (?_ : XE (xOfE _) _ _ _ _)); with_reducible refine' XE.of ?_) | (with_reducible first | refine' XEs.nil ?_ | refine' XEs.cons ?_) | ((with_reducible refine (?_ : XC (callX _ _ _ _) _ _ _ _)); with_reducible refine' XC.fn (by with_unfolding_all (repeat (first | exact StartsAt.nil | apply StartsAt.cons | apply StartsAt.unb))) (by with_unfolding_all exact rfl) ?_) | ((with_reducible refine (?_ : XC _ _ _ _ _)); with_reducible refine' XC.of (by with_reducible assumption) ?_) | ((with_reducible refine (?_ : And (noMt _ = true) _)); with_reducible refine noMt_and (by with_unfolding_all exact rfl) ?_) | ((with_reducible refine (?_ : And (flat _ = true) _)); with_reducible refine flat_and (by with_unfolding_all exact rfl) ?_) | ((with_reducible refine (?_ : OW (fIn false) (D.str _) (D.tup _) _)); refine' OW.of (by with_unfolding_all assumption) ?_) | ((with_reducible refine (?_ : OW fNe (D.str _) (D.str _) _)); with_reducible first | refine' OW.of (by with_reducible assumption) ?_ | refine' OW.clT (by decide +kernel) ?_ | refine' OW.clF (by decide +kernel) ?_) | ((with_reducible refine (?_ : EW (eCst (D.str _)) _ _)); with_reducible refine' EW.cstS (by with_reducible assumption) ?_) | ((with_reducible refine (?_ : CW fStr _ _)); with_reducible refine' CW.str (by with_reducible assumption) ?_) | ((with_reducible refine (?_ : IfK (@decide ((1:Int) < (List.length _ : Int)) _) _ _)); with_reducible first | refine' IfK.decT (by first | with_reducible assumption | decide) ?_ | refine' IfK.decF (by first | with_reducible assumption | decide) ?_) | (with_reducible first | refine' SK.next ?_ | refine' RW.nil ?_ | refine' RW.seq ?_) | ((with_reducible refine (?_ : RW _ _ _ _)); with_reducible refine' RW.lenOk (by with_unfolding_all exact rfl) ?_) | (with_reducible first | refine' SW.of ?_ | refine' PutAt.of ?_ ?_) | (with_reducible first | exact SetR.z) | (with_reducible first | refine' SetR.s3 ?_ | refine' SetR.s ?_) | (with_reducible refine (?_ : SetR _ (0 + 1) _ _)); refine SetR.s ?_ | (with_reducible first | refine' RW.asg ?_) | (fail_if_success (have : StopIf := by with_reducible assumption)); (with_reducible refine' RW.if ?_) | (with_reducible first | refine' IfK.t ?_ | refine' IfK.f ?_) | (with_reducible first | refine' IfK.gd ?_; with_reducible refine' IfK.decT (by first | with_reducible assumption | with_unfolding_all omega) ?_ | refine' IfK.gd ?_; with_reducible refine' IfK.decF (by first | with_reducible assumption | with_unfolding_all omega) ?_) | (with_reducible first | refine' TruthK.bool ?_) | ((with_reducible refine (?_ : EW (eVar _) _ _)); with_reducible refine' EW.var (by with_unfolding_all exact rfl) ?_) | (with_reducible first | refine' EW.cst ?_ | refine' EW.e1 ?_ | refine' EW.e2 ?_ | refine' EW.call ?_ | refine' EW.tup ?_ | refine' EsW.nil ?_ | refine' EsW.cons ?_ | refine' TW.c ?_) | ((with_reducible refine (?_ : TpK _ _)); with_reducible refine' TpK.mk (by with_unfolding_all exact Nat.le_of_ble_eq_true rfl) ?_) | (with_reducible first | refine' TW.tOf ?_ | refine' TW.or ?_) | ((with_reducible refine (?_ : CW _ _ _)); with_reducible refine' CW.of (by with_reducible assumption) ?_) | ((with_reducible refine (?_ : OW _ _ _ _)); with_reducible refine' OW.of (by with_reducible assumption) ?_) | (with_reducible first | refine' OW.add ?_ | refine' OW.sub ?_ | refine' OW.ord ?_ | refine' OW.eq ?_ | refine' OW.ne ?_) | ((with_reducible refine (?_ : OW fDiv _ _ _)); with_reducible refine' OW.div (by with_reducible assumption) ?_) | ((with_reducible refine (?_ : OW fMod _ _ _)); with_reducible refine' OW.mod (by first | with_reducible assumption | with_unfolding_all omega) ?_) | ((with_reducible refine (?_ : OW fPow _ _ _)); with_reducible refine' OW.pow (by with_reducible assumption) ?_) | (with_reducible first | refine' UW.neg ?_))
    refine RW.mid (fun σ' => σ' = [.imm (.int v), .imm (.adr a), .imm (mstD m), .imm (.int (10 ^ (60 : Int).toNat + 7)), .imm (.int (v.fmod 22)), .imm (.int w), .unb, .unb]) ?_ ?_
    · clear stop hP
      have hw2 : (if v.fdiv 22 < 0 then -((-v.fdiv 22).fmod (10 ^ (20 : Int).toNat + 39)) else (v.fdiv 22).fmod (10 ^ (20 : Int).toNat + 39)) = w := hw
      clear hw
      by_cases q : v.fdiv 22 < 0 <;> (first | rw [if_pos q] at hw2 | rw [if_neg q] at hw2) <;> (repeat' ((fail_if_success (with_reducible refine (?_ : @Eq _ _ _))); first | ((with_reducible refine (?_ : XW (xSeq _ _) _ _ _ _ _)); with_reducible refine' XW.seq ?_) | ((with_reducible refine (?_ : XW (xOf _) _ _ _ _ _)); with_reducible refine' XW.of ?_) | ((with_reducible refine (?_ : XW (xRet _) _ _ _ _ _)); with_reducible refine' XW.ret ?_) | ((with_reducible refine (?_ : XW (xIf _ _ _) _ _ _ _ _)); (fail_if_success (have : StopIf := by with_reducible assumption)); with_reducible refine' XW.if ?_) | ((with_reducible refine (?_ : XW (fun _ _ _ _ => _) _ _ _ _ _)); with_reducible refine' XW.asg (by with_unfolding_all exact rfl) ?_) | (with_reducible first | refine' XSK.next ?_ | refine' XSK.ret ?_ | refine' XCK.ret ?_) | ((with_reducible refine (?_ : XE (xCall _ _) _ _ _ _)); with_reducible refine' XE.call ?_) | ((with_reducible refine (?_ : XE (xOfE _) _ _ _ _)); with_reducible refine' XE.of ?_) | (with_reducible first | refine' XEs.nil ?_ | refine' XEs.cons ?_) | ((with_reducible refine (?_ : XC (callX _ _ _ _) _ _ _ _)); with_reducible refine' XC.fn (by with_unfolding_all (repeat (first | exact StartsAt.nil | apply StartsAt.cons | apply StartsAt.unb))) (by with_unfolding_all exact rfl) ?_) | ((with_reducible refine (?_ : XC _ _ _ _ _)); with_reducible refine' XC.of (by with_reducible assumption) ?_) | ((with_reducible refine (?_ : And (noMt _ = true) _)); with_reducible refine noMt_and (by with_unfolding_all exact rfl) ?_) | ((with_reducible refine (?_ : And (flat _ = true) _)); with_reducible refine flat_and (by with_unfolding_all exact rfl) ?_) | ((with_reducible refine (?_ : OW (fIn false) (D.str _) (D.tup _) _)); refine' OW.of (by with_unfolding_all assumption) ?_) | ((with_reducible refine (?_ : OW fNe (D.str _) (D.str _) _)); with_reducible first | refine' OW.of (by with_reducible assumption) ?_ | refine' OW.clT (by decide +kernel) ?_ | refine' OW.clF (by decide +kernel) ?_) | ((with_reducible refine (?_ : EW (eCst (D.str _)) _ _)); with_reducible refine' EW.cstS (by with_reducible assumption) ?_) | ((with_reducible refine (?_ : CW fStr _ _)); with_reducible refine' CW.str (by with_reducible assumption) ?_) | ((with_reducible refine (?_ : IfK (@decide ((1:Int) < (List.length _ : Int)) _) _ _)); with_reducible first | refine' IfK.decT (by first | with_reducible assumption | decide) ?_ | refine' IfK.decF (by first | with_reducible assumption | decide) ?_) | (with_reducible first | refine' SK.next ?_ | refine' RW.nil ?_ | refine' RW.seq ?_) | ((with_reducible refine (?_ : RW _ _ _ _)); with_reducible refine' RW.lenOk (by with_unfolding_all exact rfl) ?_) | (with_reducible first | refine' SW.of ?_ | refine' PutAt.of ?_ ?_) | (with_reducible first | exact SetR.z) | (with_reducible first | refine' SetR.s3 ?_ | refine' SetR.s ?_) | (with_reducible refine (?_ : SetR _ (0 + 1) _ _)); refine SetR.s ?_ | (with_reducible first | refine' RW.asg ?_) | (fail_if_success (have : StopIf := by with_reducible assumption)); (with_reducible refine' RW.if ?_) | (with_reducible first | refine' IfK.t ?_ | refine' IfK.f ?_) | (with_reducible first | refine' IfK.gd ?_; with_reducible refine' IfK.decT (by first | with_reducible assumption | with_unfolding_all omega) ?_ | refine' IfK.gd ?_; with_reducible refine' IfK.decF (by first | with_reducible assumption | with_unfolding_all omega) ?_) | (with_reducible first | refine' TruthK.bool ?_) | ((with_reducible refine (?_ : EW (eVar _) _ _)); with_reducible refine' EW.var (by with_unfolding_all exact rfl) ?_) | (with_reducible first | refine' EW.cst ?_ | refine' EW.e1 ?_ | refine' EW.e2 ?_ | refine' EW.call ?_ | refine' EW.tup ?_ | refine' EsW.nil ?_ | refine' EsW.cons ?_ | refine' TW.c ?_) | ((with_reducible refine (?_ : TpK _ _)); with_reducible refine' TpK.mk (by with_unfolding_all exact Nat.le_of_ble_eq_true rfl) ?_) | (with_reducible first | refine' TW.tOf ?_ | refine' TW.or ?_) | ((with_reducible refine (?_ : CW _ _ _)); with_reducible refine' CW.of (by with_reducible assumption) ?_) | ((with_reducible refine (?_ : OW _ _ _ _)); with_reducible refine' OW.of (by with_reducible assumption) ?_) | (with_reducible first | refine' OW.add ?_ | refine' OW.sub ?_ | refine' OW.ord ?_ | refine' OW.eq ?_ | refine' OW.ne ?_) | ((with_reducible refine (?_ : OW fDiv _ _ _)); with_reducible refine' OW.div (by with_reducible assumption) ?_) | ((with_reducible refine (?_ : OW fMod _ _ _)); with_reducible refine' OW.mod (by first | with_reducible assumption | with_unfolding_all omega) ?_) | ((with_reducible refine (?_ : OW fPow _ _ _)); with_reducible refine' OW.pow (by with_reducible assumption) ?_) | (with_reducible first | refine' UW.neg ?_))) <;> (rw [hw2]; exact ⟨rfl, rfl⟩)
    rintro _ rfl
    clear hw M0 p20 p60 d22
    repeat' ((fail_if_success (with_reducible refine (?_ : @Eq _ _ _))); first | ((with_reducible refine (?_ : XW (xSeq _ _) _ _ _ _ _)); with_reducible refine' XW.seq ?_) | ((with_reducible refine (?_ : XW (xOf _) _ _ _ _ _)); with_reducible refine' XW.of ?_) | ((with_reducible refine (?_ : XW (xRet _) _ _ _ _ _)); with_reducible refine' XW.ret ?_) | ((with_reducible refine (?_ : XW (xIf _ _ _) _ _ _ _ _)); (fail_if_success (have : StopIf := by with_reducible assumption)); with_reducible refine' XW.if ?_) | ((with_reducible refine (?_ : XW (fun _ _ _ _ => _) _ _ _ _ _)); with_reducible refine' XW.asg (by with_unfolding_all exact rfl) ?_) | (with_reducible first | refine' XSK.next ?_ | refine' XSK.ret ?_ | refine' XCK.ret ?_) | ((with_reducible refine (?_ : XE (xCall _ _) _ _ _ _)); with_reducible refine' XE.call ?_) | ((with_reducible refine (?_ : XE (xOfE _) _ _ _ _)); with_reducible refine' XE.of ?_) | (with_reducible first | refine' XEs.nil ?_ | refine' XEs.cons ?_) | ((with_reducible refine (?_ : XC (callX _ _ _ _) _ _ _ _)); with_reducible refine' XC.fn (by with_unfolding_all (repeat (first | exact StartsAt.nil | apply StartsAt.cons | apply StartsAt.unb))) (by with_unfolding_all exact rfl) ?_) | ((with_reducible refine (?_ : XC _ _ _ _ _)); with_reducible refine' XC.of (by with_reducible assumption) ?_) | ((with_reducible refine (?_ : And (noMt _ = true) _)); with_reducible refine noMt_and (by with_unfolding_all exact rfl) ?_) | ((with_reducible refine (?_ : And (flat _ = true) _)); with_reducible refine flat_and (by with_unfolding_all exact rfl) ?_) | ((with_reducible refine (?_ : OW (fIn false) (D.str _) (D.tup _) _)); refine' OW.of (by with_unfolding_all assumption) ?_) | ((with_reducible refine (?_ : OW fNe (D.str _) (D.str _) _)); with_reducible first | refine' OW.of (by with_reducible assumption) ?_ | refine' OW.clT (by decide +kernel) ?_ | refine' OW.clF (by decide +kernel) ?_) | ((with_reducible refine (?_ : EW (eCst (D.str _)) _ _)); with_reducible refine' EW.cstS (by with_reducible assumption) ?_) | ((with_reducible refine (?_ : CW fStr _ _)); with_reducible refine' CW.str (by with_reducible assumption) ?_) | ((with_reducible refine (?_ : IfK (@decide ((1:Int) < (List.length _ : Int)) _) _ _)); with_reducible first | refine' IfK.decT (by first | with_reducible assumption | decide) ?_ | refine' IfK.decF (by first | with_reducible assumption | decide) ?_) | (with_reducible first | refine' SK.next ?_ | refine' RW.nil ?_ | refine' RW.seq ?_) | ((with_reducible refine (?_ : RW _ _ _ _)); with_reducible refine' RW.lenOk (by with_unfolding_all exact rfl) ?_) | (with_reducible first | refine' SW.of ?_ | refine' PutAt.of ?_ ?_) | (with_reducible first | exact SetR.z) | (with_reducible first | refine' SetR.s3 ?_ | refine' SetR.s ?_) | (with_reducible refine (?_ : SetR _ (0 + 1) _ _)); refine SetR.s ?_ | (with_reducible first | refine' RW.asg ?_) | (fail_if_success (have : StopIf := by with_reducible assumption)); (with_reducible refine' RW.if ?_) | (with_reducible first | refine' IfK.t ?_ | refine' IfK.f ?_) | (with_reducible first | refine' IfK.gd ?_; with_reducible refine' IfK.decT (by first | with_reducible assumption | with_unfolding_all omega) ?_ | refine' IfK.gd ?_; with_reducible refine' IfK.decF (by first | with_reducible assumption | with_unfolding_all omega) ?_) | (with_reducible first | refine' TruthK.bool ?_) | ((with_reducible refine (?_ : EW (eVar _) _ _)); with_reducible refine' EW.var (by with_unfolding_all exact rfl) ?_) | (with_reducible first | refine' EW.cst ?_ | refine' EW.e1 ?_ | refine' EW.e2 ?_ | refine' EW.call ?_ | refine' EW.tup ?_ | refine' EsW.nil ?_ | refine' EsW.cons ?_ | refine' TW.c ?_) | ((with_reducible refine (?_ : TpK _ _)); with_reducible refine' TpK.mk (by with_unfolding_all exact Nat.le_of_ble_eq_true rfl) ?_) | (with_reducible first | refine' TW.tOf ?_ | refine' TW.or ?_) | ((with_reducible refine (?_ : CW _ _ _)); with_reducible refine' CW.of (by with_reducible assumption) ?_) | ((with_reducible refine (?_ : OW _ _ _ _)); with_reducible refine' OW.of (by with_reducible assumption) ?_) | (with_reducible first | refine' OW.add ?_ | refine' OW.sub ?_ | refine' OW.ord ?_ | refine' OW.eq ?_ | refine' OW.ne ?_) | ((with_reducible refine (?_ : OW fDiv _ _ _)); with_reducible refine' OW.div (by with_reducible assumption) ?_) | ((with_reducible refine (?_ : OW fMod _ _ _)); with_reducible refine' OW.mod (by first | with_reducible assumption | with_unfolding_all omega) ?_) | ((with_reducible refine (?_ : OW fPow _ _ _)); with_reducible refine' OW.pow (by with_reducible assumption) ?_) | (with_reducible first | refine' UW.neg ?_))
    rcases hP with ⟨c6, g⟩ | ⟨c6, c7, g⟩ | ⟨c6, c7, c8, g⟩ | ⟨c6, c7, c8, c9, t, w1', g⟩ | ⟨c6, c7, c8, c9, s, hs, m1, l1, m2, l2, m3, l3, m4, l4, ⟨b1, b2⟩, ⟨g1, g2, g3, g4⟩, g5, g6⟩
    iterate 4
      focus
        replace g := g a
        try (change fSubs (.tup [.str (mkS [45, 45, 53]), .str (mkS [43, 53]), .str (mkS [49, 46, 53]), .str (mkS [53, 45]), .str (mkS [120, 120, 120]), .str (mkS [45, 120]), .str (mkS [61]), .str (mkS [49, 101, 51]), .str (mkS [42, 42, 45])]) (.int (w.fmod 9)) = some (.str (mkS t)) at w1')
        clear stop
        repeat' ((fail_if_success (with_reducible refine (?_ : @Eq _ _ _))); first | ((with_reducible refine (?_ : XW (xSeq _ _) _ _ _ _ _)); with_reducible refine' XW.seq ?_) | ((with_reducible refine (?_ : XW (xOf _) _ _ _ _ _)); with_reducible refine' XW.of ?_) | ((with_reducible refine (?_ : XW (xRet _) _ _ _ _ _)); with_reducible refine' XW.ret ?_) | ((with_reducible refine (?_ : XW (xIf _ _ _) _ _ _ _ _)); (fail_if_success (have : StopIf := by with_reducible assumption)); with_reducible refine' XW.if ?_) | ((with_reducible refine (?_ : XW (fun _ _ _ _ => _) _ _ _ _ _)); with_reducible refine' XW.asg (by with_unfolding_all exact rfl) ?_) | (with_reducible first | refine' XSK.next ?_ | refine' XSK.ret ?_ | refine' XCK.ret ?_) | ((with_reducible refine (?_ : XE (xCall _ _) _ _ _ _)); with_reducible refine' XE.call ?_) | ((with_reducible refine (?_ : XE (xOfE _) _ _ _ _)); with_reducible refine' XE.of ?_) | (with_reducible first | refine' XEs.nil ?_ | refine' XEs.cons ?_) | ((with_reducible refine (?_ : XC (callX _ _ _ _) _ _ _ _)); with_reducible refine' XC.fn (by with_unfolding_all (repeat (first | exact StartsAt.nil | apply StartsAt.cons | apply StartsAt.unb))) (by with_unfolding_all exact rfl) ?_) | ((with_reducible refine (?_ : XC _ _ _ _ _)); with_reducible refine' XC.of (by with_reducible assumption) ?_) | ((with_reducible refine (?_ : And (noMt _ = true) _)); with_reducible refine noMt_and (by with_unfolding_all exact rfl) ?_) | ((with_reducible refine (?_ : And (flat _ = true) _)); with_reducible refine flat_and (by with_unfolding_all exact rfl) ?_) | ((with_reducible refine (?_ : OW (fIn false) (D.str _) (D.tup _) _)); refine' OW.of (by with_unfolding_all assumption) ?_) | ((with_reducible refine (?_ : OW fNe (D.str _) (D.str _) _)); with_reducible first | refine' OW.of (by with_reducible assumption) ?_ | refine' OW.clT (by decide +kernel) ?_ | refine' OW.clF (by decide +kernel) ?_) | ((with_reducible refine (?_ : EW (eCst (D.str _)) _ _)); with_reducible refine' EW.cstS (by with_reducible assumption) ?_) | ((with_reducible refine (?_ : CW fStr _ _)); with_reducible refine' CW.str (by with_reducible assumption) ?_) | ((with_reducible refine (?_ : IfK (@decide ((1:Int) < (List.length _ : Int)) _) _ _)); with_reducible first | refine' IfK.decT (by first | with_reducible assumption | decide) ?_ | refine' IfK.decF (by first | with_reducible assumption | decide) ?_) | (with_reducible first | refine' SK.next ?_ | refine' RW.nil ?_ | refine' RW.seq ?_) | ((with_reducible refine (?_ : RW _ _ _ _)); with_reducible refine' RW.lenOk (by with_unfolding_all exact rfl) ?_) | (with_reducible first | refine' SW.of ?_ | refine' PutAt.of ?_ ?_) | (with_reducible first | exact SetR.z) | (with_reducible first | refine' SetR.s3 ?_ | refine' SetR.s ?_) | (with_reducible refine (?_ : SetR _ (0 + 1) _ _)); refine SetR.s ?_ | (with_reducible first | refine' RW.asg ?_) | (fail_if_success (have : StopIf := by with_reducible assumption)); (with_reducible refine' RW.if ?_) | (with_reducible first | refine' IfK.t ?_ | refine' IfK.f ?_) | (with_reducible first | refine' IfK.gd ?_; with_reducible refine' IfK.decT (by first | with_reducible assumption | with_unfolding_all omega) ?_ | refine' IfK.gd ?_; with_reducible refine' IfK.decF (by first | with_reducible assumption | with_unfolding_all omega) ?_) | (with_reducible first | refine' TruthK.bool ?_) | ((with_reducible refine (?_ : EW (eVar _) _ _)); with_reducible refine' EW.var (by with_unfolding_all exact rfl) ?_) | (with_reducible first | refine' EW.cst ?_ | refine' EW.e1 ?_ | refine' EW.e2 ?_ | refine' EW.call ?_ | refine' EW.tup ?_ | refine' EsW.nil ?_ | refine' EsW.cons ?_ | refine' TW.c ?_) | ((with_reducible refine (?_ : TpK _ _)); with_reducible refine' TpK.mk (by with_unfolding_all exact Nat.le_of_ble_eq_true rfl) ?_) | (with_reducible first | refine' TW.tOf ?_ | refine' TW.or ?_) | ((with_reducible refine (?_ : CW _ _ _)); with_reducible refine' CW.of (by with_reducible assumption) ?_) | ((with_reducible refine (?_ : OW _ _ _ _)); with_reducible refine' OW.of (by with_reducible assumption) ?_) | (with_reducible first | refine' OW.add ?_ | refine' OW.sub ?_ | refine' OW.ord ?_ | refine' OW.eq ?_ | refine' OW.ne ?_) | ((with_reducible refine (?_ : OW fDiv _ _ _)); with_reducible refine' OW.div (by with_reducible assumption) ?_) | ((with_reducible refine (?_ : OW fMod _ _ _)); with_reducible refine' OW.mod (by first | with_reducible assumption | with_unfolding_all omega) ?_) | ((with_reducible refine (?_ : OW fPow _ _ _)); with_reducible refine' OW.pow (by with_reducible assumption) ?_) | (with_reducible first | refine' UW.neg ?_))
        exact ⟨rfl, rfl⟩
    iterate 4
      refine XW.if ?_
      repeat' ((fail_if_success (with_reducible refine (?_ : @Eq _ _ _))); first | ((with_reducible refine (?_ : XW (xSeq _ _) _ _ _ _ _)); with_reducible refine' XW.seq ?_) | ((with_reducible refine (?_ : XW (xOf _) _ _ _ _ _)); with_reducible refine' XW.of ?_) | ((with_reducible refine (?_ : XW (xRet _) _ _ _ _ _)); with_reducible refine' XW.ret ?_) | ((with_reducible refine (?_ : XW (xIf _ _ _) _ _ _ _ _)); (fail_if_success (have : StopIf := by with_reducible assumption)); with_reducible refine' XW.if ?_) | ((with_reducible refine (?_ : XW (fun _ _ _ _ => _) _ _ _ _ _)); with_reducible refine' XW.asg (by with_unfolding_all exact rfl) ?_) | (with_reducible first | refine' XSK.next ?_ | refine' XSK.ret ?_ | refine' XCK.ret ?_) | ((with_reducible refine (?_ : XE (xCall _ _) _ _ _ _)); with_reducible refine' XE.call ?_) | ((with_reducible refine (?_ : XE (xOfE _) _ _ _ _)); with_reducible refine' XE.of ?_) | (with_reducible first | refine' XEs.nil ?_ | refine' XEs.cons ?_) | ((with_reducible refine (?_ : XC (callX _ _ _ _) _ _ _ _)); with_reducible refine' XC.fn (by with_unfolding_all (repeat (first | exact StartsAt.nil | apply StartsAt.cons | apply StartsAt.unb))) (by with_unfolding_all exact rfl) ?_) | ((with_reducible refine (?_ : XC _ _ _ _ _)); with_reducible refine' XC.of (by with_reducible assumption) ?_) | ((with_reducible refine (?_ : And (noMt _ = true) _)); with_reducible refine noMt_and (by with_unfolding_all exact rfl) ?_) | ((with_reducible refine (?_ : And (flat _ = true) _)); with_reducible refine flat_and (by with_unfolding_all exact rfl) ?_) | ((with_reducible refine (?_ : OW (fIn false) (D.str _) (D.tup _) _)); refine' OW.of (by with_unfolding_all assumption) ?_) | ((with_reducible refine (?_ : OW fNe (D.str _) (D.str _) _)); with_reducible first | refine' OW.of (by with_reducible assumption) ?_ | refine' OW.clT (by decide +kernel) ?_ | refine' OW.clF (by decide +kernel) ?_) | ((with_reducible refine (?_ : EW (eCst (D.str _)) _ _)); with_reducible refine' EW.cstS (by with_reducible assumption) ?_) | ((with_reducible refine (?_ : CW fStr _ _)); with_reducible refine' CW.str (by with_reducible assumption) ?_) | ((with_reducible refine (?_ : IfK (@decide ((1:Int) < (List.length _ : Int)) _) _ _)); with_reducible first | refine' IfK.decT (by first | with_reducible assumption | decide) ?_ | refine' IfK.decF (by first | with_reducible assumption | decide) ?_) | (with_reducible first | refine' SK.next ?_ | refine' RW.nil ?_ | refine' RW.seq ?_) | ((with_reducible refine (?_ : RW _ _ _ _)); with_reducible refine' RW.lenOk (by with_unfolding_all exact rfl) ?_) | (with_reducible first | refine' SW.of ?_ | refine' PutAt.of ?_ ?_) | (with_reducible first | exact SetR.z) | (with_reducible first | refine' SetR.s3 ?_ | refine' SetR.s ?_) | (with_reducible refine (?_ : SetR _ (0 + 1) _ _)); refine SetR.s ?_ | (with_reducible first | refine' RW.asg ?_) | (fail_if_success (have : StopIf := by with_reducible assumption)); (with_reducible refine' RW.if ?_) | (with_reducible first | refine' IfK.t ?_ | refine' IfK.f ?_) | (with_reducible first | refine' IfK.gd ?_; with_reducible refine' IfK.decT (by first | with_reducible assumption | with_unfolding_all omega) ?_ | refine' IfK.gd ?_; with_reducible refine' IfK.decF (by first | with_reducible assumption | with_unfolding_all omega) ?_) | (with_reducible first | refine' TruthK.bool ?_) | ((with_reducible refine (?_ : EW (eVar _) _ _)); with_reducible refine' EW.var (by with_unfolding_all exact rfl) ?_) | (with_reducible first | refine' EW.cst ?_ | refine' EW.e1 ?_ | refine' EW.e2 ?_ | refine' EW.call ?_ | refine' EW.tup ?_ | refine' EsW.nil ?_ | refine' EsW.cons ?_ | refine' TW.c ?_) | ((with_reducible refine (?_ : TpK _ _)); with_reducible refine' TpK.mk (by with_unfolding_all exact Nat.le_of_ble_eq_true rfl) ?_) | (with_reducible first | refine' TW.tOf ?_ | refine' TW.or ?_) | ((with_reducible refine (?_ : CW _ _ _)); with_reducible refine' CW.of (by with_reducible assumption) ?_) | ((with_reducible refine (?_ : OW _ _ _ _)); with_reducible refine' OW.of (by with_reducible assumption) ?_) | (with_reducible first | refine' OW.add ?_ | refine' OW.sub ?_ | refine' OW.ord ?_ | refine' OW.eq ?_ | refine' OW.ne ?_) | ((with_reducible refine (?_ : OW fDiv _ _ _)); with_reducible refine' OW.div (by with_reducible assumption) ?_) | ((with_reducible refine (?_ : OW fMod _ _ _)); with_reducible refine' OW.mod (by first | with_reducible assumption | with_unfolding_all omega) ?_) | ((with_reducible refine (?_ : OW fPow _ _ _)); with_reducible refine' OW.pow (by with_reducible assumption) ?_) | (with_reducible first | refine' UW.neg ?_))
    refine XW.mid (fun σ' l' => σ' = [.imm (.int v), .imm (.adr a), .imm (mstD m1), .imm (.int (10 ^ (60 : Int).toNat + 7)), .imm (.int (v.fmod 22)), .imm (.int w), .unb, .unb] ∧ l' = l1) ?_ ?_
    · clear stop
      by_cases q : w.fmod 3 ≠ 0 <;> (first | (have z := b1 q; obtain ⟨rfl, rfl⟩ := z; have w1 := s10' (numL (w.fdiv 3)) (w.fdiv 3)) | (have z := b2 q; obtain ⟨rfl, rfl⟩ := z)) <;> (repeat' ((fail_if_success (with_reducible refine (?_ : @Eq _ _ _))); first | ((with_reducible refine (?_ : XW (xSeq _ _) _ _ _ _ _)); with_reducible refine' XW.seq ?_) | ((with_reducible refine (?_ : XW (xOf _) _ _ _ _ _)); with_reducible refine' XW.of ?_) | ((with_reducible refine (?_ : XW (xRet _) _ _ _ _ _)); with_reducible refine' XW.ret ?_) | ((with_reducible refine (?_ : XW (xIf _ _ _) _ _ _ _ _)); (fail_if_success (have : StopIf := by with_reducible assumption)); with_reducible refine' XW.if ?_) | ((with_reducible refine (?_ : XW (fun _ _ _ _ => _) _ _ _ _ _)); with_reducible refine' XW.asg (by with_unfolding_all exact rfl) ?_) | (with_reducible first | refine' XSK.next ?_ | refine' XSK.ret ?_ | refine' XCK.ret ?_) | ((with_reducible refine (?_ : XE (xCall _ _) _ _ _ _)); with_reducible refine' XE.call ?_) | ((with_reducible refine (?_ : XE (xOfE _) _ _ _ _)); with_reducible refine' XE.of ?_) | (with_reducible first | refine' XEs.nil ?_ | refine' XEs.cons ?_) | ((with_reducible refine (?_ : XC (callX _ _ _ _) _ _ _ _)); with_reducible refine' XC.fn (by with_unfolding_all (repeat (first | exact StartsAt.nil | apply StartsAt.cons | apply StartsAt.unb))) (by with_unfolding_all exact rfl) ?_) | ((with_reducible refine (?_ : XC _ _ _ _ _)); with_reducible refine' XC.of (by with_reducible assumption) ?_) | ((with_reducible refine (?_ : And (noMt _ = true) _)); with_reducible refine noMt_and (by with_unfolding_all exact rfl) ?_) | ((with_reducible refine (?_ : And (flat _ = true) _)); with_reducible refine flat_and (by with_unfolding_all exact rfl) ?_) | ((with_reducible refine (?_ : OW (fIn false) (D.str _) (D.tup _) _)); refine' OW.of (by with_unfolding_all assumption) ?_) | ((with_reducible refine (?_ : OW fNe (D.str _) (D.str _) _)); with_reducible first | refine' OW.of (by with_reducible assumption) ?_ | refine' OW.clT (by decide +kernel) ?_ | refine' OW.clF (by decide +kernel) ?_) | ((with_reducible refine (?_ : EW (eCst (D.str _)) _ _)); with_reducible refine' EW.cstS (by with_reducible assumption) ?_) | ((with_reducible refine (?_ : CW fStr _ _)); with_reducible refine' CW.str (by with_reducible assumption) ?_) | ((with_reducible refine (?_ : IfK (@decide ((1:Int) < (List.length _ : Int)) _) _ _)); with_reducible first | refine' IfK.decT (by first | with_reducible assumption | decide) ?_ | refine' IfK.decF (by first | with_reducible assumption | decide) ?_) | (with_reducible first | refine' SK.next ?_ | refine' RW.nil ?_ | refine' RW.seq ?_) | ((with_reducible refine (?_ : RW _ _ _ _)); with_reducible refine' RW.lenOk (by with_unfolding_all exact rfl) ?_) | (with_reducible first | refine' SW.of ?_ | refine' PutAt.of ?_ ?_) | (with_reducible first | exact SetR.z) | (with_reducible first | refine' SetR.s3 ?_ | refine' SetR.s ?_) | (with_reducible refine (?_ : SetR _ (0 + 1) _ _)); refine SetR.s ?_ | (with_reducible first | refine' RW.asg ?_) | (fail_if_success (have : StopIf := by with_reducible assumption)); (with_reducible refine' RW.if ?_) | (with_reducible first | refine' IfK.t ?_ | refine' IfK.f ?_) | (with_reducible first | refine' IfK.gd ?_; with_reducible refine' IfK.decT (by first | with_reducible assumption | with_unfolding_all omega) ?_ | refine' IfK.gd ?_; with_reducible refine' IfK.decF (by first | with_reducible assumption | with_unfolding_all omega) ?_) | (with_reducible first | refine' TruthK.bool ?_) | ((with_reducible refine (?_ : EW (eVar _) _ _)); with_reducible refine' EW.var (by with_unfolding_all exact rfl) ?_) | (with_reducible first | refine' EW.cst ?_ | refine' EW.e1 ?_ | refine' EW.e2 ?_ | refine' EW.call ?_ | refine' EW.tup ?_ | refine' EsW.nil ?_ | refine' EsW.cons ?_ | refine' TW.c ?_) | ((with_reducible refine (?_ : TpK _ _)); with_reducible refine' TpK.mk (by with_unfolding_all exact Nat.le_of_ble_eq_true rfl) ?_) | (with_reducible first | refine' TW.tOf ?_ | refine' TW.or ?_) | ((with_reducible refine (?_ : CW _ _ _)); with_reducible refine' CW.of (by with_reducible assumption) ?_) | ((with_reducible refine (?_ : OW _ _ _ _)); with_reducible refine' OW.of (by with_reducible assumption) ?_) | (with_reducible first | refine' OW.add ?_ | refine' OW.sub ?_ | refine' OW.ord ?_ | refine' OW.eq ?_ | refine' OW.ne ?_) | ((with_reducible refine (?_ : OW fDiv _ _ _)); with_reducible refine' OW.div (by with_reducible assumption) ?_) | ((with_reducible refine (?_ : OW fMod _ _ _)); with_reducible refine' OW.mod (by first | with_reducible assumption | with_unfolding_all omega) ?_) | ((with_reducible refine (?_ : OW fPow _ _ _)); with_reducible refine' OW.pow (by with_reducible assumption) ?_) | (with_reducible first | refine' UW.neg ?_))) <;> exact ⟨rfl, rfl, rfl⟩
    rintro _ _ ⟨rfl, rfl⟩
    have hs' : fSubs (.tup [.str (mkS [43]), .str (mkS [45]), .str (mkS [42]), .str (mkS [120]), .str (mkS [47]), .str (mkS [47, 47]), .str (mkS [37]), .str (mkS [42, 42]), .str (mkS [120, 120]), .str (mkS [33]), .str (mkS [102]), .str (mkS [35]), .str (mkS [112])]) (.int (v.fmod 22 - 8)) = some (.str (mkS (sgS s))) := hs
    have ew := sg_ways s
    have e3 : fIn false (.str (mkS (sgS s))) (.tup [.str (Str.ofString "!"), .str (Str.ofString "f"), .str (Str.ofString "#"), .str (Str.ofString "p")]) = some (.bool (isO s)) := sg_in s
    rw [cs9, cs10, cs11, cs12] at e3
    have g5' := g5 a
    have g6' := g6 a
    clear b1 b2 g5 g6 hs s10'
    repeat' ((fail_if_success (with_reducible refine (?_ : @Eq _ _ _))); first | ((with_reducible refine (?_ : XW (xSeq _ _) _ _ _ _ _)); with_reducible refine' XW.seq ?_) | ((with_reducible refine (?_ : XW (xOf _) _ _ _ _ _)); with_reducible refine' XW.of ?_) | ((with_reducible refine (?_ : XW (xRet _) _ _ _ _ _)); with_reducible refine' XW.ret ?_) | ((with_reducible refine (?_ : XW (xIf _ _ _) _ _ _ _ _)); (fail_if_success (have : StopIf := by with_reducible assumption)); with_reducible refine' XW.if ?_) | ((with_reducible refine (?_ : XW (fun _ _ _ _ => _) _ _ _ _ _)); with_reducible refine' XW.asg (by with_unfolding_all exact rfl) ?_) | (with_reducible first | refine' XSK.next ?_ | refine' XSK.ret ?_ | refine' XCK.ret ?_) | ((with_reducible refine (?_ : XE (xCall _ _) _ _ _ _)); with_reducible refine' XE.call ?_) | ((with_reducible refine (?_ : XE (xOfE _) _ _ _ _)); with_reducible refine' XE.of ?_) | (with_reducible first | refine' XEs.nil ?_ | refine' XEs.cons ?_) | ((with_reducible refine (?_ : XC (callX _ _ _ _) _ _ _ _)); with_reducible refine' XC.fn (by with_unfolding_all (repeat (first | exact StartsAt.nil | apply StartsAt.cons | apply StartsAt.unb))) (by with_unfolding_all exact rfl) ?_) | ((with_reducible refine (?_ : XC _ _ _ _ _)); with_reducible refine' XC.of (by with_reducible assumption) ?_) | ((with_reducible refine (?_ : And (noMt _ = true) _)); with_reducible refine noMt_and (by with_unfolding_all exact rfl) ?_) | ((with_reducible refine (?_ : And (flat _ = true) _)); with_reducible refine flat_and (by with_unfolding_all exact rfl) ?_) | ((with_reducible refine (?_ : OW (fIn false) (D.str _) (D.tup _) _)); refine' OW.of (by with_unfolding_all assumption) ?_) | ((with_reducible refine (?_ : OW fNe (D.str _) (D.str _) _)); with_reducible first | refine' OW.of (by with_reducible assumption) ?_ | refine' OW.clT (by decide +kernel) ?_ | refine' OW.clF (by decide +kernel) ?_) | ((with_reducible refine (?_ : EW (eCst (D.str _)) _ _)); with_reducible refine' EW.cstS (by with_reducible assumption) ?_) | ((with_reducible refine (?_ : CW fStr _ _)); with_reducible refine' CW.str (by with_reducible assumption) ?_) | ((with_reducible refine (?_ : IfK (@decide ((1:Int) < (List.length _ : Int)) _) _ _)); with_reducible first | refine' IfK.decT (by first | with_reducible assumption | decide) ?_ | refine' IfK.decF (by first | with_reducible assumption | decide) ?_) | (with_reducible first | refine' SK.next ?_ | refine' RW.nil ?_ | refine' RW.seq ?_) | ((with_reducible refine (?_ : RW _ _ _ _)); with_reducible refine' RW.lenOk (by with_unfolding_all exact rfl) ?_) | (with_reducible first | refine' SW.of ?_ | refine' PutAt.of ?_ ?_) | (with_reducible first | exact SetR.z) | (with_reducible first | refine' SetR.s3 ?_ | refine' SetR.s ?_) | (with_reducible refine (?_ : SetR _ (0 + 1) _ _)); refine SetR.s ?_ | (with_reducible first | refine' RW.asg ?_) | (fail_if_success (have : StopIf := by with_reducible assumption)); (with_reducible refine' RW.if ?_) | (with_reducible first | refine' IfK.t ?_ | refine' IfK.f ?_) | (with_reducible first | refine' IfK.gd ?_; with_reducible refine' IfK.decT (by first | with_reducible assumption | with_unfolding_all omega) ?_ | refine' IfK.gd ?_; with_reducible refine' IfK.decF (by first | with_reducible assumption | with_unfolding_all omega) ?_) | (with_reducible first | refine' TruthK.bool ?_) | ((with_reducible refine (?_ : EW (eVar _) _ _)); with_reducible refine' EW.var (by with_unfolding_all exact rfl) ?_) | (with_reducible first | refine' EW.cst ?_ | refine' EW.e1 ?_ | refine' EW.e2 ?_ | refine' EW.call ?_ | refine' EW.tup ?_ | refine' EsW.nil ?_ | refine' EsW.cons ?_ | refine' TW.c ?_) | ((with_reducible refine (?_ : TpK _ _)); with_reducible refine' TpK.mk (by with_unfolding_all exact Nat.le_of_ble_eq_true rfl) ?_) | (with_reducible first | refine' TW.tOf ?_ | refine' TW.or ?_) | ((with_reducible refine (?_ : CW _ _ _)); with_reducible refine' CW.of (by with_reducible assumption) ?_) | ((with_reducible refine (?_ : OW _ _ _ _)); with_reducible refine' OW.of (by with_reducible assumption) ?_) | (with_reducible first | refine' OW.add ?_ | refine' OW.sub ?_ | refine' OW.ord ?_ | refine' OW.eq ?_ | refine' OW.ne ?_) | ((with_reducible refine (?_ : OW fDiv _ _ _)); with_reducible refine' OW.div (by with_reducible assumption) ?_) | ((with_reducible refine (?_ : OW fMod _ _ _)); with_reducible refine' OW.mod (by first | with_reducible assumption | with_unfolding_all omega) ?_) | ((with_reducible refine (?_ : OW fPow _ _ _)); with_reducible refine' OW.pow (by with_reducible assumption) ?_) | (with_reducible first | refine' UW.neg ?_))
    refine XW.mid (fun σ' l' => σ' = [.imm (.int v), .imm (.adr a), .imm (mstD m2), .imm (.int (10 ^ (60 : Int).toNat + 7)), .imm (.int (v.fmod 22)), .imm (.int w), .unb, .imm (.str (mkS (sgS s)))] ∧ l' = l2) ?_ ?_
    · clear stop
      rcases ew with ⟨ep, e1⟩ | ⟨ep, e1, e2⟩ | ⟨ep, e1, e2⟩ <;> (first | (have w1 := g1 ep a) | obtain ⟨rfl, rfl⟩ := g2 ep) <;> (repeat' ((fail_if_success (with_reducible refine (?_ : @Eq _ _ _))); first | ((with_reducible refine (?_ : XW (xSeq _ _) _ _ _ _ _)); with_reducible refine' XW.seq ?_) | ((with_reducible refine (?_ : XW (xOf _) _ _ _ _ _)); with_reducible refine' XW.of ?_) | ((with_reducible refine (?_ : XW (xRet _) _ _ _ _ _)); with_reducible refine' XW.ret ?_) | ((with_reducible refine (?_ : XW (xIf _ _ _) _ _ _ _ _)); (fail_if_success (have : StopIf := by with_reducible assumption)); with_reducible refine' XW.if ?_) | ((with_reducible refine (?_ : XW (fun _ _ _ _ => _) _ _ _ _ _)); with_reducible refine' XW.asg (by with_unfolding_all exact rfl) ?_) | (with_reducible first | refine' XSK.next ?_ | refine' XSK.ret ?_ | refine' XCK.ret ?_) | ((with_reducible refine (?_ : XE (xCall _ _) _ _ _ _)); with_reducible refine' XE.call ?_) | ((with_reducible refine (?_ : XE (xOfE _) _ _ _ _)); with_reducible refine' XE.of ?_) | (with_reducible first | refine' XEs.nil ?_ | refine' XEs.cons ?_) | ((with_reducible refine (?_ : XC (callX _ _ _ _) _ _ _ _)); with_reducible refine' XC.fn (by with_unfolding_all (repeat (first | exact StartsAt.nil | apply StartsAt.cons | apply StartsAt.unb))) (by with_unfolding_all exact rfl) ?_) | ((with_reducible refine (?_ : XC _ _ _ _ _)); with_reducible refine' XC.of (by with_reducible assumption) ?_) | ((with_reducible refine (?_ : And (noMt _ = true) _)); with_reducible refine noMt_and (by with_unfolding_all exact rfl) ?_) | ((with_reducible refine (?_ : And (flat _ = true) _)); with_reducible refine flat_and (by with_unfolding_all exact rfl) ?_) | ((with_reducible refine (?_ : OW (fIn false) (D.str _) (D.tup _) _)); refine' OW.of (by with_unfolding_all assumption) ?_) | ((with_reducible refine (?_ : OW fNe (D.str _) (D.str _) _)); with_reducible first | refine' OW.of (by with_reducible assumption) ?_ | refine' OW.clT (by decide +kernel) ?_ | refine' OW.clF (by decide +kernel) ?_) | ((with_reducible refine (?_ : EW (eCst (D.str _)) _ _)); with_reducible refine' EW.cstS (by with_reducible assumption) ?_) | ((with_reducible refine (?_ : CW fStr _ _)); with_reducible refine' CW.str (by with_reducible assumption) ?_) | ((with_reducible refine (?_ : IfK (@decide ((1:Int) < (List.length _ : Int)) _) _ _)); with_reducible first | refine' IfK.decT (by first | with_reducible assumption | decide) ?_ | refine' IfK.decF (by first | with_reducible assumption | decide) ?_) | (with_reducible first | refine' SK.next ?_ | refine' RW.nil ?_ | refine' RW.seq ?_) | ((with_reducible refine (?_ : RW _ _ _ _)); with_reducible refine' RW.lenOk (by with_unfolding_all exact rfl) ?_) | (with_reducible first | refine' SW.of ?_ | refine' PutAt.of ?_ ?_) | (with_reducible first | exact SetR.z) | (with_reducible first | refine' SetR.s3 ?_ | refine' SetR.s ?_) | (with_reducible refine (?_ : SetR _ (0 + 1) _ _)); refine SetR.s ?_ | (with_reducible first | refine' RW.asg ?_) | (fail_if_success (have : StopIf := by with_reducible assumption)); (with_reducible refine' RW.if ?_) | (with_reducible first | refine' IfK.t ?_ | refine' IfK.f ?_) | (with_reducible first | refine' IfK.gd ?_; with_reducible refine' IfK.decT (by first | with_reducible assumption | with_unfolding_all omega) ?_ | refine' IfK.gd ?_; with_reducible refine' IfK.decF (by first | with_reducible assumption | with_unfolding_all omega) ?_) | (with_reducible first | refine' TruthK.bool ?_) | ((with_reducible refine (?_ : EW (eVar _) _ _)); with_reducible refine' EW.var (by with_unfolding_all exact rfl) ?_) | (with_reducible first | refine' EW.cst ?_ | refine' EW.e1 ?_ | refine' EW.e2 ?_ | refine' EW.call ?_ | refine' EW.tup ?_ | refine' EsW.nil ?_ | refine' EsW.cons ?_ | refine' TW.c ?_) | ((with_reducible refine (?_ : TpK _ _)); with_reducible refine' TpK.mk (by with_unfolding_all exact Nat.le_of_ble_eq_true rfl) ?_) | (with_reducible first | refine' TW.tOf ?_ | refine' TW.or ?_) | ((with_reducible refine (?_ : CW _ _ _)); with_reducible refine' CW.of (by with_reducible assumption) ?_) | ((with_reducible refine (?_ : OW _ _ _ _)); with_reducible refine' OW.of (by with_reducible assumption) ?_) | (with_reducible first | refine' OW.add ?_ | refine' OW.sub ?_ | refine' OW.ord ?_ | refine' OW.eq ?_ | refine' OW.ne ?_) | ((with_reducible refine (?_ : OW fDiv _ _ _)); with_reducible refine' OW.div (by with_reducible assumption) ?_) | ((with_reducible refine (?_ : OW fMod _ _ _)); with_reducible refine' OW.mod (by first | with_reducible assumption | with_unfolding_all omega) ?_) | ((with_reducible refine (?_ : OW fPow _ _ _)); with_reducible refine' OW.pow (by with_reducible assumption) ?_) | (with_reducible first | refine' UW.neg ?_))) <;> exact ⟨rfl, rfl, rfl⟩
    rintro _ _ ⟨rfl, rfl⟩
    repeat' ((fail_if_success (with_reducible refine (?_ : @Eq _ _ _))); first | ((with_reducible refine (?_ : XW (xSeq _ _) _ _ _ _ _)); with_reducible refine' XW.seq ?_) | ((with_reducible refine (?_ : XW (xOf _) _ _ _ _ _)); with_reducible refine' XW.of ?_) | ((with_reducible refine (?_ : XW (xRet _) _ _ _ _ _)); with_reducible refine' XW.ret ?_) | ((with_reducible refine (?_ : XW (xIf _ _ _) _ _ _ _ _)); (fail_if_success (have : StopIf := by with_reducible assumption)); with_reducible refine' XW.if ?_) | ((with_reducible refine (?_ : XW (fun _ _ _ _ => _) _ _ _ _ _)); with_reducible refine' XW.asg (by with_unfolding_all exact rfl) ?_) | (with_reducible first | refine' XSK.next ?_ | refine' XSK.ret ?_ | refine' XCK.ret ?_) | ((with_reducible refine (?_ : XE (xCall _ _) _ _ _ _)); with_reducible refine' XE.call ?_) | ((with_reducible refine (?_ : XE (xOfE _) _ _ _ _)); with_reducible refine' XE.of ?_) | (with_reducible first | refine' XEs.nil ?_ | refine' XEs.cons ?_) | ((with_reducible refine (?_ : XC (callX _ _ _ _) _ _ _ _)); with_reducible refine' XC.fn (by with_unfolding_all (repeat (first | exact StartsAt.nil | apply StartsAt.cons | apply StartsAt.unb))) (by with_unfolding_all exact rfl) ?_) | ((with_reducible refine (?_ : XC _ _ _ _ _)); with_reducible refine' XC.of (by with_reducible assumption) ?_) | ((with_reducible refine (?_ : And (noMt _ = true) _)); with_reducible refine noMt_and (by with_unfolding_all exact rfl) ?_) | ((with_reducible refine (?_ : And (flat _ = true) _)); with_reducible refine flat_and (by with_unfolding_all exact rfl) ?_) | ((with_reducible refine (?_ : OW (fIn false) (D.str _) (D.tup _) _)); refine' OW.of (by with_unfolding_all assumption) ?_) | ((with_reducible refine (?_ : OW fNe (D.str _) (D.str _) _)); with_reducible first | refine' OW.of (by with_reducible assumption) ?_ | refine' OW.clT (by decide +kernel) ?_ | refine' OW.clF (by decide +kernel) ?_) | ((with_reducible refine (?_ : EW (eCst (D.str _)) _ _)); with_reducible refine' EW.cstS (by with_reducible assumption) ?_) | ((with_reducible refine (?_ : CW fStr _ _)); with_reducible refine' CW.str (by with_reducible assumption) ?_) | ((with_reducible refine (?_ : IfK (@decide ((1:Int) < (List.length _ : Int)) _) _ _)); with_reducible first | refine' IfK.decT (by first | with_reducible assumption | decide) ?_ | refine' IfK.decF (by first | with_reducible assumption | decide) ?_) | (with_reducible first | refine' SK.next ?_ | refine' RW.nil ?_ | refine' RW.seq ?_) | ((with_reducible refine (?_ : RW _ _ _ _)); with_reducible refine' RW.lenOk (by with_unfolding_all exact rfl) ?_) | (with_reducible first | refine' SW.of ?_ | refine' PutAt.of ?_ ?_) | (with_reducible first | exact SetR.z) | (with_reducible first | refine' SetR.s3 ?_ | refine' SetR.s ?_) | (with_reducible refine (?_ : SetR _ (0 + 1) _ _)); refine SetR.s ?_ | (with_reducible first | refine' RW.asg ?_) | (fail_if_success (have : StopIf := by with_reducible assumption)); (with_reducible refine' RW.if ?_) | (with_reducible first | refine' IfK.t ?_ | refine' IfK.f ?_) | (with_reducible first | refine' IfK.gd ?_; with_reducible refine' IfK.decT (by first | with_reducible assumption | with_unfolding_all omega) ?_ | refine' IfK.gd ?_; with_reducible refine' IfK.decF (by first | with_reducible assumption | with_unfolding_all omega) ?_) | (with_reducible first | refine' TruthK.bool ?_) | ((with_reducible refine (?_ : EW (eVar _) _ _)); with_reducible refine' EW.var (by with_unfolding_all exact rfl) ?_) | (with_reducible first | refine' EW.cst ?_ | refine' EW.e1 ?_ | refine' EW.e2 ?_ | refine' EW.call ?_ | refine' EW.tup ?_ | refine' EsW.nil ?_ | refine' EsW.cons ?_ | refine' TW.c ?_) | ((with_reducible refine (?_ : TpK _ _)); with_reducible refine' TpK.mk (by with_unfolding_all exact Nat.le_of_ble_eq_true rfl) ?_) | (with_reducible first | refine' TW.tOf ?_ | refine' TW.or ?_) | ((with_reducible refine (?_ : CW _ _ _)); with_reducible refine' CW.of (by with_reducible assumption) ?_) | ((with_reducible refine (?_ : OW _ _ _ _)); with_reducible refine' OW.of (by with_reducible assumption) ?_) | (with_reducible first | refine' OW.add ?_ | refine' OW.sub ?_ | refine' OW.ord ?_ | refine' OW.eq ?_ | refine' OW.ne ?_) | ((with_reducible refine (?_ : OW fDiv _ _ _)); with_reducible refine' OW.div (by with_reducible assumption) ?_) | ((with_reducible refine (?_ : OW fMod _ _ _)); with_reducible refine' OW.mod (by first | with_reducible assumption | with_unfolding_all omega) ?_) | ((with_reducible refine (?_ : OW fPow _ _ _)); with_reducible refine' OW.pow (by with_reducible assumption) ?_) | (with_reducible first | refine' UW.neg ?_))
    refine XW.mid (fun σ' l' => σ' = [.imm (.int v), .imm (.adr a), .imm (mstD m3), .imm (.int (10 ^ (60 : Int).toNat + 7)), .imm (.int (v.fmod 22)), .imm (.int w), .unb, .imm (.str (mkS (sgS s)))] ∧ l' = l3) ?_ ?_
    · clear stop
      cases q1 : isO s <;> rw [q1] at e3 <;> (first | (have w1 := g3 q1 a) | obtain ⟨rfl, rfl⟩ := g4 q1) <;> (repeat' ((fail_if_success (with_reducible refine (?_ : @Eq _ _ _))); first | ((with_reducible refine (?_ : XW (xSeq _ _) _ _ _ _ _)); with_reducible refine' XW.seq ?_) | ((with_reducible refine (?_ : XW (xOf _) _ _ _ _ _)); with_reducible refine' XW.of ?_) | ((with_reducible refine (?_ : XW (xRet _) _ _ _ _ _)); with_reducible refine' XW.ret ?_) | ((with_reducible refine (?_ : XW (xIf _ _ _) _ _ _ _ _)); (fail_if_success (have : StopIf := by with_reducible assumption)); with_reducible refine' XW.if ?_) | ((with_reducible refine (?_ : XW (fun _ _ _ _ => _) _ _ _ _ _)); with_reducible refine' XW.asg (by with_unfolding_all exact rfl) ?_) | (with_reducible first | refine' XSK.next ?_ | refine' XSK.ret ?_ | refine' XCK.ret ?_) | ((with_reducible refine (?_ : XE (xCall _ _) _ _ _ _)); with_reducible refine' XE.call ?_) | ((with_reducible refine (?_ : XE (xOfE _) _ _ _ _)); with_reducible refine' XE.of ?_) | (with_reducible first | refine' XEs.nil ?_ | refine' XEs.cons ?_) | ((with_reducible refine (?_ : XC (callX _ _ _ _) _ _ _ _)); with_reducible refine' XC.fn (by with_unfolding_all (repeat (first | exact StartsAt.nil | apply StartsAt.cons | apply StartsAt.unb))) (by with_unfolding_all exact rfl) ?_) | ((with_reducible refine (?_ : XC _ _ _ _ _)); with_reducible refine' XC.of (by with_reducible assumption) ?_) | ((with_reducible refine (?_ : And (noMt _ = true) _)); with_reducible refine noMt_and (by with_unfolding_all exact rfl) ?_) | ((with_reducible refine (?_ : And (flat _ = true) _)); with_reducible refine flat_and (by with_unfolding_all exact rfl) ?_) | ((with_reducible refine (?_ : OW (fIn false) (D.str _) (D.tup _) _)); refine' OW.of (by with_unfolding_all assumption) ?_) | ((with_reducible refine (?_ : OW fNe (D.str _) (D.str _) _)); with_reducible first | refine' OW.of (by with_reducible assumption) ?_ | refine' OW.clT (by decide +kernel) ?_ | refine' OW.clF (by decide +kernel) ?_) | ((with_reducible refine (?_ : EW (eCst (D.str _)) _ _)); with_reducible refine' EW.cstS (by with_reducible assumption) ?_) | ((with_reducible refine (?_ : CW fStr _ _)); with_reducible refine' CW.str (by with_reducible assumption) ?_) | ((with_reducible refine (?_ : IfK (@decide ((1:Int) < (List.length _ : Int)) _) _ _)); with_reducible first | refine' IfK.decT (by first | with_reducible assumption | decide) ?_ | refine' IfK.decF (by first | with_reducible assumption | decide) ?_) | (with_reducible first | refine' SK.next ?_ | refine' RW.nil ?_ | refine' RW.seq ?_) | ((with_reducible refine (?_ : RW _ _ _ _)); with_reducible refine' RW.lenOk (by with_unfolding_all exact rfl) ?_) | (with_reducible first | refine' SW.of ?_ | refine' PutAt.of ?_ ?_) | (with_reducible first | exact SetR.z) | (with_reducible first | refine' SetR.s3 ?_ | refine' SetR.s ?_) | (with_reducible refine (?_ : SetR _ (0 + 1) _ _)); refine SetR.s ?_ | (with_reducible first | refine' RW.asg ?_) | (fail_if_success (have : StopIf := by with_reducible assumption)); (with_reducible refine' RW.if ?_) | (with_reducible first | refine' IfK.t ?_ | refine' IfK.f ?_) | (with_reducible first | refine' IfK.gd ?_; with_reducible refine' IfK.decT (by first | with_reducible assumption | with_unfolding_all omega) ?_ | refine' IfK.gd ?_; with_reducible refine' IfK.decF (by first | with_reducible assumption | with_unfolding_all omega) ?_) | (with_reducible first | refine' TruthK.bool ?_) | ((with_reducible refine (?_ : EW (eVar _) _ _)); with_reducible refine' EW.var (by with_unfolding_all exact rfl) ?_) | (with_reducible first | refine' EW.cst ?_ | refine' EW.e1 ?_ | refine' EW.e2 ?_ | refine' EW.call ?_ | refine' EW.tup ?_ | refine' EsW.nil ?_ | refine' EsW.cons ?_ | refine' TW.c ?_) | ((with_reducible refine (?_ : TpK _ _)); with_reducible refine' TpK.mk (by with_unfolding_all exact Nat.le_of_ble_eq_true rfl) ?_) | (with_reducible first | refine' TW.tOf ?_ | refine' TW.or ?_) | ((with_reducible refine (?_ : CW _ _ _)); with_reducible refine' CW.of (by with_reducible assumption) ?_) | ((with_reducible refine (?_ : OW _ _ _ _)); with_reducible refine' OW.of (by with_reducible assumption) ?_) | (with_reducible first | refine' OW.add ?_ | refine' OW.sub ?_ | refine' OW.ord ?_ | refine' OW.eq ?_ | refine' OW.ne ?_) | ((with_reducible refine (?_ : OW fDiv _ _ _)); with_reducible refine' OW.div (by with_reducible assumption) ?_) | ((with_reducible refine (?_ : OW fMod _ _ _)); with_reducible refine' OW.mod (by first | with_reducible assumption | with_unfolding_all omega) ?_) | ((with_reducible refine (?_ : OW fPow _ _ _)); with_reducible refine' OW.pow (by with_reducible assumption) ?_) | (with_reducible first | refine' UW.neg ?_))) <;> exact ⟨rfl, rfl, rfl⟩
    rintro _ _ ⟨rfl, rfl⟩
    clear stop
    repeat' ((fail_if_success (with_reducible refine (?_ : @Eq _ _ _))); first | ((with_reducible refine (?_ : XW (xSeq _ _) _ _ _ _ _)); with_reducible refine' XW.seq ?_) | ((with_reducible refine (?_ : XW (xOf _) _ _ _ _ _)); with_reducible refine' XW.of ?_) | ((with_reducible refine (?_ : XW (xRet _) _ _ _ _ _)); with_reducible refine' XW.ret ?_) | ((with_reducible refine (?_ : XW (xIf _ _ _) _ _ _ _ _)); (fail_if_success (have : StopIf := by with_reducible assumption)); with_reducible refine' XW.if ?_) | ((with_reducible refine (?_ : XW (fun _ _ _ _ => _) _ _ _ _ _)); with_reducible refine' XW.asg (by with_unfolding_all exact rfl) ?_) | (with_reducible first | refine' XSK.next ?_ | refine' XSK.ret ?_ | refine' XCK.ret ?_) | ((with_reducible refine (?_ : XE (xCall _ _) _ _ _ _)); with_reducible refine' XE.call ?_) | ((with_reducible refine (?_ : XE (xOfE _) _ _ _ _)); with_reducible refine' XE.of ?_) | (with_reducible first | refine' XEs.nil ?_ | refine' XEs.cons ?_) | ((with_reducible refine (?_ : XC (callX _ _ _ _) _ _ _ _)); with_reducible refine' XC.fn (by with_unfolding_all (repeat (first | exact StartsAt.nil | apply StartsAt.cons | apply StartsAt.unb))) (by with_unfolding_all exact rfl) ?_) | ((with_reducible refine (?_ : XC _ _ _ _ _)); with_reducible refine' XC.of (by with_reducible assumption) ?_) | ((with_reducible refine (?_ : And (noMt _ = true) _)); with_reducible refine noMt_and (by with_unfolding_all exact rfl) ?_) | ((with_reducible refine (?_ : And (flat _ = true) _)); with_reducible refine flat_and (by with_unfolding_all exact rfl) ?_) | ((with_reducible refine (?_ : OW (fIn false) (D.str _) (D.tup _) _)); refine' OW.of (by with_unfolding_all assumption) ?_) | ((with_reducible refine (?_ : OW fNe (D.str _) (D.str _) _)); with_reducible first | refine' OW.of (by with_reducible assumption) ?_ | refine' OW.clT (by decide +kernel) ?_ | refine' OW.clF (by decide +kernel) ?_) | ((with_reducible refine (?_ : EW (eCst (D.str _)) _ _)); with_reducible refine' EW.cstS (by with_reducible assumption) ?_) | ((with_reducible refine (?_ : CW fStr _ _)); with_reducible refine' CW.str (by with_reducible assumption) ?_) | ((with_reducible refine (?_ : IfK (@decide ((1:Int) < (List.length _ : Int)) _) _ _)); with_reducible first | refine' IfK.decT (by first | with_reducible assumption | decide) ?_ | refine' IfK.decF (by first | with_reducible assumption | decide) ?_) | (with_reducible first | refine' SK.next ?_ | refine' RW.nil ?_ | refine' RW.seq ?_) | ((with_reducible refine (?_ : RW _ _ _ _)); with_reducible refine' RW.lenOk (by with_unfolding_all exact rfl) ?_) | (with_reducible first | refine' SW.of ?_ | refine' PutAt.of ?_ ?_) | (with_reducible first | exact SetR.z) | (with_reducible first | refine' SetR.s3 ?_ | refine' SetR.s ?_) | (with_reducible refine (?_ : SetR _ (0 + 1) _ _)); refine SetR.s ?_ | (with_reducible first | refine' RW.asg ?_) | (fail_if_success (have : StopIf := by with_reducible assumption)); (with_reducible refine' RW.if ?_) | (with_reducible first | refine' IfK.t ?_ | refine' IfK.f ?_) | (with_reducible first | refine' IfK.gd ?_; with_reducible refine' IfK.decT (by first | with_reducible assumption | with_unfolding_all omega) ?_ | refine' IfK.gd ?_; with_reducible refine' IfK.decF (by first | with_reducible assumption | with_unfolding_all omega) ?_) | (with_reducible first | refine' TruthK.bool ?_) | ((with_reducible refine (?_ : EW (eVar _) _ _)); with_reducible refine' EW.var (by with_unfolding_all exact rfl) ?_) | (with_reducible first | refine' EW.cst ?_ | refine' EW.e1 ?_ | refine' EW.e2 ?_ | refine' EW.call ?_ | refine' EW.tup ?_ | refine' EsW.nil ?_ | refine' EsW.cons ?_ | refine' TW.c ?_) | ((with_reducible refine (?_ : TpK _ _)); with_reducible refine' TpK.mk (by with_unfolding_all exact Nat.le_of_ble_eq_true rfl) ?_) | (with_reducible first | refine' TW.tOf ?_ | refine' TW.or ?_) | ((with_reducible refine (?_ : CW _ _ _)); with_reducible refine' CW.of (by with_reducible assumption) ?_) | ((with_reducible refine (?_ : OW _ _ _ _)); with_reducible refine' OW.of (by with_reducible assumption) ?_) | (with_reducible first | refine' OW.add ?_ | refine' OW.sub ?_ | refine' OW.ord ?_ | refine' OW.eq ?_ | refine' OW.ne ?_) | ((with_reducible refine (?_ : OW fDiv _ _ _)); with_reducible refine' OW.div (by with_reducible assumption) ?_) | ((with_reducible refine (?_ : OW fMod _ _ _)); with_reducible refine' OW.mod (by first | with_reducible assumption | with_unfolding_all omega) ?_) | ((with_reducible refine (?_ : OW fPow _ _ _)); with_reducible refine' OW.pow (by with_reducible assumption) ?_) | (with_reducible first | refine' UW.neg ?_))
    exact ⟨rfl, rfl⟩

theorem ok__law_told {I : GI} (hat : HatI I hd.view_39) (hmi : I.mg ("IndexError" : Str) = none) (hmz : I.mg ("ZeroDivisionError" : Str) = none) (hexc : I.mg ("Exception" : Str) = none) {fR : List D → Option (List Int ⊕ String)} (hR : GenE I 1 ("rpn" : Str) fR) : ∃ d, (recsOf hd.view_39)[13]? = some d ∧ d.name = ("_law_told" : Str) ∧ FunT I 4 d.name (tellF fR) := by
  refine' ⟨_, rfl, rfl, told (k := 1) (ns := tellNs) rfl rfl (hat 13 _ rfl) ⟨rfl, by decide, by decide⟩ (fun pm cd doc => vs1 fun a => rfl) rfl rfl (fun _ => rfl) (by decide) rfl rfl rfl rfl hmi hmz hexc (fun _ => rfl) (fun _ => rfl) (fun _ => rfl) (fun _ => rfl) hR⟩

theorem ok_law {I : GI} (hat : HatI I hd.view_39) (hlen : FunOK I 0 ("len" : Str) fLen) (hrange : FunOK I 0 ("range" : Str) fRange) {f3 : List D → Option D} {f12 : FunXF} {fR : List D → Option (List Int ⊕ String)} (h3 : FunOK I 1 ("_law_at" : Str) f3) (h12 : FunX I 5 ("_law_place" : Str) f12) (hT : FunT I 5 ("_law_told" : Str) (tellF fR)) (s3 : ∀ (ns : List Int) (p : Nat), ns.length ≤ 63 → p ≤ 100 → f3 [.lst (intsD ns), .int (p : Nat)] = some (.int (atI [154, (-263), 10, 364, 204, 235, 19, 9, 6636, 457, 8, 469] ns p))) (s12 : SpecPlace f12) (sR : ∀ (l : List Nat) (ts : List (List Nat)) (o : List Int ⊕ String), l.length ≤ 9999 → wordsL [] l = ts → ts.length ≤ 5000 → RunsE ts [] o → fR [.str (mkS l)] = some o) : ∃ d, (recsOf hd.view_39)[14]? = some d ∧ d.name = ("law" : Str) ∧ ScS d.scope ["script", "places", "signs", "state", "place", "blanks", "text", "due", "stack"] ∧
    (∀ pm cd doc vs, vs.length = 1 → bindArgs (Calls.docDef d.name d.params d.body d.scope pm cd doc) ⟨vs, []⟩ = pure (((["script", "places", "signs", "state", "place", "blanks", "text", "due", "stack"] : List Str).take 1).zip vs)) ∧ d.scope.isCoroutine = false ∧ d.scope.isGenerator = false ∧ (∀ n, cellsFrom n d.scope.names [] = []) ∧
    ∃ F, RunL I 5 d.scope ["script", "places", "signs", "state", "place", "blanks", "text", "due", "stack"] (execs d.body) F ∧ ∀ (ns : List Int), ns.length ≤ 63 → RW F 1000 (startSt [.lst (intsD ns)] 9) fun _ fl => fl = .ret (.bool true) := by
  refine' ⟨_, rfl, rfl, ⟨rfl, by decide, by decide⟩, (fun pm cd doc => vs1 fun a => rfl), rfl, rfl, (fun _ => rfl), _, ?h, ?g⟩
  case h =>
    dsimp only
    refine' RunL.cons (RunL.of ?_) (RunL.cons (RunL.of ?_) (RunL.cons (RunL.of ?_) (RunL.cons (RunL.of ?_) (RunL.cons (RunL.of ?_) (RunL.cons (RunL.of ?_) (RunL.frz (x := ("signs" : Str)) (i := 2) rfl (RunL.cons (RunL.of ?x1) (RunL.cons (RunL.of ?x2) (RunL.cons (RunL.of ?x3) (RunL.cons (RunL.of ?x4) (RunL.cons (RunL.of ?x5) (RunL.cons (RunL.of ?x6) (RunL.cons (RunL.ifTold rfl rfl rfl (fun _ => rfl) (fun _ => ⟨_, _, rfl⟩) rfl hT ?x7 ?x8 OpOK.ne (RunL.of ?x9) (RunL.of RunOK.nil)) (RunL.cons (RunL.retTold rfl rfl rfl (fun _ => rfl) (fun _ => ⟨_, _, rfl⟩) rfl hT ?y1 ?y2 OpOK.eq) (RunL.of RunOK.nil)))))))))))))))
    case x1 | x2 | x3 | x4 | x5 | x6 | x7 | x8 | x9 | y1 | y2 => repeat' ((show (_ : Prop)); first | (with_reducible first | exact OpOK.add | exact OpOK.mod | exact OpOK.lt | exact OpOK.gt | exact OpOK.eq | exact OpOK.ne | exact EvOK.cint | exact EvOK.cstr | exact EvOK.cbool | refine' EvOK.v (by with_unfolding_all exact rfl) (by with_unfolding_all exact rfl) (by with_unfolding_all exact rfl) (by with_unfolding_all exact rfl) | refine' EvOK.bin ?_ ?_ ?_ | refine' EvOK.tup ?_ | refine' EvOK.lst ?_ | refine' EvOK.call' (by with_unfolding_all exact rfl) (by with_unfolding_all exact rfl) (by with_unfolding_all exact rfl) (by with_unfolding_all exact fun _ => rfl) (by with_unfolding_all exact rfl) (by with_unfolding_all exact fun _ => ⟨_, _, rfl⟩) (by with_unfolding_all first | assumption | exact FunOK.le (by assumption) (by decide)) ?_ | refine' EvOK.subs ?_ ?_ (by with_unfolding_all exact fun _ _ => rfl) | exact EvsOK.nil | refine' EvsOK.cons ?_ ?_ (by with_unfolding_all exact fun _ => rfl) | refine' TrOK.cmp ?_ ?_ ?_ (by with_unfolding_all exact rfl) | exact RunOK.nil | refine' RunOK.cons ?_ ?_ | refine' RunOK.ret ?_ | refine' RunOK.ifS ?_ ?_ ?_ | refine' RunOK.whileS ?_ ?_ | refine' RunOK.asg' (by with_unfolding_all exact rfl) (by with_unfolding_all exact fun _ => rfl) (by with_unfolding_all exact ⟨rfl, by decide, by decide⟩) ?_ | refine' RunOK.for' (by with_unfolding_all exact rfl) (by with_unfolding_all exact fun _ _ => rfl) (by with_unfolding_all exact ⟨rfl, by decide, by decide⟩) ?_ ?_))
    all_goals repeat' ((show (_ : Prop)); first | ((with_reducible refine (?_ : RunOK _ _ _ _ (exec (Stmt.Assign _ (Expr.Call (Expr.Name (Str.ofString "_law_place") _) _ _ _) _)) _)); with_reducible refine' RunOK.asgM (by with_unfolding_all exact rfl) (by with_unfolding_all exact rfl) (by with_unfolding_all exact rfl) (by with_unfolding_all exact ⟨rfl, by decide, by decide⟩) (by with_unfolding_all exact rfl) (by with_unfolding_all exact rfl) (by with_unfolding_all exact fun _ => rfl) (by with_unfolding_all exact fun _ => ⟨_, _, rfl⟩) (by with_unfolding_all exact fun _ => rfl) (by with_unfolding_all exact fun _ => rfl) (by with_unfolding_all exact fun _ => rfl) (by with_unfolding_all exact fun _ => rfl) ?_ ?_ (by with_reducible assumption) anyA_spec) | (with_reducible first | exact OpOK.add | exact OpOK.mod | exact OpOK.lt | exact OpOK.gt | exact OpOK.eq | exact OpOK.ne | exact EvOK.cint | exact EvOK.cstr | exact EvOK.cbool | refine' EvOK.v (by with_unfolding_all exact rfl) (by with_unfolding_all exact rfl) (by with_unfolding_all exact rfl) (by with_unfolding_all exact rfl) | refine' EvOK.bin ?_ ?_ ?_ | refine' EvOK.tup ?_ | refine' EvOK.lst ?_ | refine' EvOK.call' (by with_unfolding_all exact rfl) (by with_unfolding_all exact rfl) (by with_unfolding_all exact rfl) (by with_unfolding_all exact fun _ => rfl) (by with_unfolding_all exact rfl) (by with_unfolding_all exact fun _ => ⟨_, _, rfl⟩) (by with_unfolding_all first | assumption | exact FunOK.le (by assumption) (by decide)) ?_ | refine' EvOK.subs ?_ ?_ (by with_unfolding_all exact fun _ _ => rfl) | exact EvsOK.nil | refine' EvsOK.cons ?_ ?_ (by with_unfolding_all exact fun _ => rfl) | refine' TrOK.cmp ?_ ?_ ?_ (by with_unfolding_all exact rfl) | exact RunOK.nil | refine' RunOK.cons ?_ ?_ | refine' RunOK.ret ?_ | refine' RunOK.ifS ?_ ?_ ?_ | refine' RunOK.whileS ?_ ?_ | refine' RunOK.new' (by with_unfolding_all exact rfl) (by with_unfolding_all exact fun _ => rfl) (by with_unfolding_all exact ⟨rfl, by decide, by decide⟩) ?_ | refine' RunOK.asg' (by with_unfolding_all exact rfl) (by with_unfolding_all exact fun _ => rfl) (by with_unfolding_all exact ⟨rfl, by decide, by decide⟩) ?_ | refine' RunOK.for' (by with_unfolding_all exact rfl) (by with_unfolding_all exact fun _ _ => rfl) (by with_unfolding_all exact ⟨rfl, by decide, by decide⟩) ?_ ?_))
  case g =>
    intro ns hns
    have cb0 : Str.ofString " " = mkS [32] := by decide +kernel
    have cb1 : Str.ofString "\n" = mkS [10] := by decide +kernel
    have cb2 : Str.ofString "\t" = mkS [9] := by decide +kernel
    have cb3 : Str.ofString "   " = mkS [32, 32, 32] := by decide +kernel
    have cb4 : Str.ofString " \n\t " = mkS [32, 10, 9, 32] := by decide +kernel
    have wl := fLen_ints (l := ns) (Nat.le_trans hns (by decide))
    have stop : StopIf := trivial
    refine RW.start (by with_unfolding_all (repeat (first | exact StartsAt.nil | apply StartsAt.cons | apply StartsAt.unb))) ?_
    repeat' ((fail_if_success (with_reducible refine (?_ : @Eq _ _ _))); first | ((with_reducible refine (?_ : RW (rAsgM _ _ _ _ _) _ _ _)); with_reducible refine' RW.asgM (by with_unfolding_all exact rfl) (by with_reducible assumption) (by with_unfolding_all exact Nat.le_of_ble_eq_true rfl) (by decide) ?_) | ((with_reducible refine (?_ : RW (rFrz _ _ _) _ _ _)); with_reducible refine' RW.frz (by with_unfolding_all exact rfl) (by with_unfolding_all exact rfl) (by repeat' first | exact SetR.z | refine' SetR.s3 ?_ | refine' SetR.s ?_) ?_) | ((with_reducible refine (?_ : RW (rIfH _ _ _) _ _ _)); with_reducible refine' RW.ifH ?_) | ((with_reducible refine (?_ : EW (eCst (D.str _)) _ _)); with_reducible refine' EW.cstS (by with_reducible assumption) ?_) | ((with_reducible refine (?_ : CW fLen [D.tup _] _)); with_reducible first | refine' CW.len2 ?_ | refine' CW.len0 ?_) | ((with_reducible refine (?_ : OW fSubs (D.tup [_, _]) (D.int _) _)); with_reducible first | refine' OW.fst ?_ | refine' OW.snd ?_) | ((with_reducible refine (?_ : RW (rRetG _) _ _ _)); with_reducible refine' RW.retG ?_) | ((with_reducible refine (?_ : IfK (@decide ((1:Int) < (List.length _ : Int)) _) _ _)); with_reducible first | refine' IfK.decT (by first | with_reducible assumption | decide) ?_ | refine' IfK.decF (by first | with_reducible assumption | decide) ?_) | (with_reducible first | refine' SK.next ?_ | refine' SK.ret ?_ | refine' LK.next ?_ | refine' RW.nil ?_ | refine' RW.seq ?_) | ((with_reducible refine (?_ : RW _ _ _ _)); with_reducible refine' RW.lenOk (by with_unfolding_all exact rfl) ?_) | (with_reducible first | refine' SW.of ?_ | refine' PutAt.of ?_ ?_) | (with_reducible first | exact SetR.z) | (with_reducible first | refine' SetR.s3 ?_ | refine' SetR.s ?_) | (with_reducible refine (?_ : SetR _ (0 + 1) _ _)); refine SetR.s ?_ | (with_reducible first | refine' RW.asg ?_) | (fail_if_success (have : StopIf := by with_reducible assumption)); (with_reducible refine' RW.if ?_) | (with_reducible first | refine' RW.for ?_ | refine' RW.while ?_ | refine' RW.new ?_) | (with_reducible first | refine' IfK.f ?_) | (with_reducible first | refine' IfK.gd ?_; with_reducible refine' IfK.decT (by first | with_reducible assumption | with_unfolding_all omega) ?_ | refine' IfK.gd ?_; with_reducible refine' IfK.decF (by first | with_reducible assumption | with_unfolding_all omega) ?_) | (with_reducible first | refine' TruthK.bool ?_) | ((with_reducible refine (?_ : EW (eVar _) _ _)); with_reducible refine' EW.var (by with_unfolding_all exact rfl) ?_) | (with_reducible first | refine' EW.cst ?_ | refine' EW.e2 ?_ | refine' EW.call ?_ | refine' EW.tup ?_ | refine' EW.lst ?_ | refine' EsW.nil ?_ | refine' EsW.cons ?_) | ((with_reducible refine (?_ : TpK _ _)); with_reducible refine' TpK.mk (by with_unfolding_all exact Nat.le_of_ble_eq_true rfl) ?_) | ((with_reducible refine (?_ : LsK _ _)); with_reducible refine' LsK.mk (by with_unfolding_all exact Nat.le_of_ble_eq_true rfl) ?_) | (with_reducible first | refine' TW.tOf ?_) | ((with_reducible refine (?_ : CW _ _ _)); with_reducible refine' CW.of (by with_reducible assumption) ?_) | ((with_reducible refine (?_ : OW _ _ _ _)); with_reducible refine' OW.of (by with_reducible assumption) ?_) | (with_reducible first | refine' OW.add ?_ | refine' OW.ord ?_) | ((with_reducible refine (?_ : OW fMod _ _ _)); with_reducible refine' OW.mod (by first | with_reducible assumption | with_unfolding_all omega) ?_) | (with_reducible first | refine' CW.range1 ?_))
    refine RW.mid (fun σ' => ∃ p : Int, 12 ≤ p ∧ σ' = [.imm (.lst (intsD ns)), .imm (.int p), .unb, .unb, .unb, .unb, .unb, .unb, .unb]) ?_ ?_
    · clear stop
      by_cases q : (ns.length : Int) < 12
      · repeat' ((fail_if_success (with_reducible refine (?_ : @Eq _ _ _))); first | ((with_reducible refine (?_ : RW (rAsgM _ _ _ _ _) _ _ _)); with_reducible refine' RW.asgM (by with_unfolding_all exact rfl) (by with_reducible assumption) (by with_unfolding_all exact Nat.le_of_ble_eq_true rfl) (by decide) ?_) | ((with_reducible refine (?_ : RW (rFrz _ _ _) _ _ _)); with_reducible refine' RW.frz (by with_unfolding_all exact rfl) (by with_unfolding_all exact rfl) (by repeat' first | exact SetR.z | refine' SetR.s3 ?_ | refine' SetR.s ?_) ?_) | ((with_reducible refine (?_ : RW (rIfH _ _ _) _ _ _)); with_reducible refine' RW.ifH ?_) | ((with_reducible refine (?_ : EW (eCst (D.str _)) _ _)); with_reducible refine' EW.cstS (by with_reducible assumption) ?_) | ((with_reducible refine (?_ : CW fLen [D.tup _] _)); with_reducible first | refine' CW.len2 ?_ | refine' CW.len0 ?_) | ((with_reducible refine (?_ : OW fSubs (D.tup [_, _]) (D.int _) _)); with_reducible first | refine' OW.fst ?_ | refine' OW.snd ?_) | ((with_reducible refine (?_ : RW (rRetG _) _ _ _)); with_reducible refine' RW.retG ?_) | ((with_reducible refine (?_ : IfK (@decide ((1:Int) < (List.length _ : Int)) _) _ _)); with_reducible first | refine' IfK.decT (by first | with_reducible assumption | decide) ?_ | refine' IfK.decF (by first | with_reducible assumption | decide) ?_) | (with_reducible first | refine' SK.next ?_ | refine' SK.ret ?_ | refine' LK.next ?_ | refine' RW.nil ?_ | refine' RW.seq ?_) | ((with_reducible refine (?_ : RW _ _ _ _)); with_reducible refine' RW.lenOk (by with_unfolding_all exact rfl) ?_) | (with_reducible first | refine' SW.of ?_ | refine' PutAt.of ?_ ?_) | (with_reducible first | exact SetR.z) | (with_reducible first | refine' SetR.s3 ?_ | refine' SetR.s ?_) | (with_reducible refine (?_ : SetR _ (0 + 1) _ _)); refine SetR.s ?_ | (with_reducible first | refine' RW.asg ?_) | (fail_if_success (have : StopIf := by with_reducible assumption)); (with_reducible refine' RW.if ?_) | (with_reducible first | refine' RW.for ?_ | refine' RW.while ?_ | refine' RW.new ?_) | (with_reducible first | refine' IfK.f ?_) | (with_reducible first | refine' IfK.gd ?_; with_reducible refine' IfK.decT (by first | with_reducible assumption | with_unfolding_all omega) ?_ | refine' IfK.gd ?_; with_reducible refine' IfK.decF (by first | with_reducible assumption | with_unfolding_all omega) ?_) | (with_reducible first | refine' TruthK.bool ?_) | ((with_reducible refine (?_ : EW (eVar _) _ _)); with_reducible refine' EW.var (by with_unfolding_all exact rfl) ?_) | (with_reducible first | refine' EW.cst ?_ | refine' EW.e2 ?_ | refine' EW.call ?_ | refine' EW.tup ?_ | refine' EW.lst ?_ | refine' EsW.nil ?_ | refine' EsW.cons ?_) | ((with_reducible refine (?_ : TpK _ _)); with_reducible refine' TpK.mk (by with_unfolding_all exact Nat.le_of_ble_eq_true rfl) ?_) | ((with_reducible refine (?_ : LsK _ _)); with_reducible refine' LsK.mk (by with_unfolding_all exact Nat.le_of_ble_eq_true rfl) ?_) | (with_reducible first | refine' TW.tOf ?_) | ((with_reducible refine (?_ : CW _ _ _)); with_reducible refine' CW.of (by with_reducible assumption) ?_) | ((with_reducible refine (?_ : OW _ _ _ _)); with_reducible refine' OW.of (by with_reducible assumption) ?_) | (with_reducible first | refine' OW.add ?_ | refine' OW.ord ?_) | ((with_reducible refine (?_ : OW fMod _ _ _)); with_reducible refine' OW.mod (by first | with_reducible assumption | with_unfolding_all omega) ?_) | (with_reducible first | refine' CW.range1 ?_))
        exact ⟨rfl, 12, by decide, rfl⟩
      · repeat' ((fail_if_success (with_reducible refine (?_ : @Eq _ _ _))); first | ((with_reducible refine (?_ : RW (rAsgM _ _ _ _ _) _ _ _)); with_reducible refine' RW.asgM (by with_unfolding_all exact rfl) (by with_reducible assumption) (by with_unfolding_all exact Nat.le_of_ble_eq_true rfl) (by decide) ?_) | ((with_reducible refine (?_ : RW (rFrz _ _ _) _ _ _)); with_reducible refine' RW.frz (by with_unfolding_all exact rfl) (by with_unfolding_all exact rfl) (by repeat' first | exact SetR.z | refine' SetR.s3 ?_ | refine' SetR.s ?_) ?_) | ((with_reducible refine (?_ : RW (rIfH _ _ _) _ _ _)); with_reducible refine' RW.ifH ?_) | ((with_reducible refine (?_ : EW (eCst (D.str _)) _ _)); with_reducible refine' EW.cstS (by with_reducible assumption) ?_) | ((with_reducible refine (?_ : CW fLen [D.tup _] _)); with_reducible first | refine' CW.len2 ?_ | refine' CW.len0 ?_) | ((with_reducible refine (?_ : OW fSubs (D.tup [_, _]) (D.int _) _)); with_reducible first | refine' OW.fst ?_ | refine' OW.snd ?_) | ((with_reducible refine (?_ : RW (rRetG _) _ _ _)); with_reducible refine' RW.retG ?_) | ((with_reducible refine (?_ : IfK (@decide ((1:Int) < (List.length _ : Int)) _) _ _)); with_reducible first | refine' IfK.decT (by first | with_reducible assumption | decide) ?_ | refine' IfK.decF (by first | with_reducible assumption | decide) ?_) | (with_reducible first | refine' SK.next ?_ | refine' SK.ret ?_ | refine' LK.next ?_ | refine' RW.nil ?_ | refine' RW.seq ?_) | ((with_reducible refine (?_ : RW _ _ _ _)); with_reducible refine' RW.lenOk (by with_unfolding_all exact rfl) ?_) | (with_reducible first | refine' SW.of ?_ | refine' PutAt.of ?_ ?_) | (with_reducible first | exact SetR.z) | (with_reducible first | refine' SetR.s3 ?_ | refine' SetR.s ?_) | (with_reducible refine (?_ : SetR _ (0 + 1) _ _)); refine SetR.s ?_ | (with_reducible first | refine' RW.asg ?_) | (fail_if_success (have : StopIf := by with_reducible assumption)); (with_reducible refine' RW.if ?_) | (with_reducible first | refine' RW.for ?_ | refine' RW.while ?_ | refine' RW.new ?_) | (with_reducible first | refine' IfK.f ?_) | (with_reducible first | refine' IfK.gd ?_; with_reducible refine' IfK.decT (by first | with_reducible assumption | with_unfolding_all omega) ?_ | refine' IfK.gd ?_; with_reducible refine' IfK.decF (by first | with_reducible assumption | with_unfolding_all omega) ?_) | (with_reducible first | refine' TruthK.bool ?_) | ((with_reducible refine (?_ : EW (eVar _) _ _)); with_reducible refine' EW.var (by with_unfolding_all exact rfl) ?_) | (with_reducible first | refine' EW.cst ?_ | refine' EW.e2 ?_ | refine' EW.call ?_ | refine' EW.tup ?_ | refine' EW.lst ?_ | refine' EsW.nil ?_ | refine' EsW.cons ?_) | ((with_reducible refine (?_ : TpK _ _)); with_reducible refine' TpK.mk (by with_unfolding_all exact Nat.le_of_ble_eq_true rfl) ?_) | ((with_reducible refine (?_ : LsK _ _)); with_reducible refine' LsK.mk (by with_unfolding_all exact Nat.le_of_ble_eq_true rfl) ?_) | (with_reducible first | refine' TW.tOf ?_) | ((with_reducible refine (?_ : CW _ _ _)); with_reducible refine' CW.of (by with_reducible assumption) ?_) | ((with_reducible refine (?_ : OW _ _ _ _)); with_reducible refine' OW.of (by with_reducible assumption) ?_) | (with_reducible first | refine' OW.add ?_ | refine' OW.ord ?_) | ((with_reducible refine (?_ : OW fMod _ _ _)); with_reducible refine' OW.mod (by first | with_reducible assumption | with_unfolding_all omega) ?_) | (with_reducible first | refine' CW.range1 ?_))
        exact ⟨rfl, _, Int.not_lt.mp q, rfl⟩
    rintro _ ⟨p, hp, rfl⟩
    repeat' ((fail_if_success (with_reducible refine (?_ : @Eq _ _ _))); first | ((with_reducible refine (?_ : RW (rAsgM _ _ _ _ _) _ _ _)); with_reducible refine' RW.asgM (by with_unfolding_all exact rfl) (by with_reducible assumption) (by with_unfolding_all exact Nat.le_of_ble_eq_true rfl) (by decide) ?_) | ((with_reducible refine (?_ : RW (rFrz _ _ _) _ _ _)); with_reducible refine' RW.frz (by with_unfolding_all exact rfl) (by with_unfolding_all exact rfl) (by repeat' first | exact SetR.z | refine' SetR.s3 ?_ | refine' SetR.s ?_) ?_) | ((with_reducible refine (?_ : RW (rIfH _ _ _) _ _ _)); with_reducible refine' RW.ifH ?_) | ((with_reducible refine (?_ : EW (eCst (D.str _)) _ _)); with_reducible refine' EW.cstS (by with_reducible assumption) ?_) | ((with_reducible refine (?_ : CW fLen [D.tup _] _)); with_reducible first | refine' CW.len2 ?_ | refine' CW.len0 ?_) | ((with_reducible refine (?_ : OW fSubs (D.tup [_, _]) (D.int _) _)); with_reducible first | refine' OW.fst ?_ | refine' OW.snd ?_) | ((with_reducible refine (?_ : RW (rRetG _) _ _ _)); with_reducible refine' RW.retG ?_) | ((with_reducible refine (?_ : IfK (@decide ((1:Int) < (List.length _ : Int)) _) _ _)); with_reducible first | refine' IfK.decT (by first | with_reducible assumption | decide) ?_ | refine' IfK.decF (by first | with_reducible assumption | decide) ?_) | (with_reducible first | refine' SK.next ?_ | refine' SK.ret ?_ | refine' LK.next ?_ | refine' RW.nil ?_ | refine' RW.seq ?_) | ((with_reducible refine (?_ : RW _ _ _ _)); with_reducible refine' RW.lenOk (by with_unfolding_all exact rfl) ?_) | (with_reducible first | refine' SW.of ?_ | refine' PutAt.of ?_ ?_) | (with_reducible first | exact SetR.z) | (with_reducible first | refine' SetR.s3 ?_ | refine' SetR.s ?_) | (with_reducible refine (?_ : SetR _ (0 + 1) _ _)); refine SetR.s ?_ | (with_reducible first | refine' RW.asg ?_) | (fail_if_success (have : StopIf := by with_reducible assumption)); (with_reducible refine' RW.if ?_) | (with_reducible first | refine' RW.for ?_ | refine' RW.while ?_ | refine' RW.new ?_) | (with_reducible first | refine' IfK.f ?_) | (with_reducible first | refine' IfK.gd ?_; with_reducible refine' IfK.decT (by first | with_reducible assumption | with_unfolding_all omega) ?_ | refine' IfK.gd ?_; with_reducible refine' IfK.decF (by first | with_reducible assumption | with_unfolding_all omega) ?_) | (with_reducible first | refine' TruthK.bool ?_) | ((with_reducible refine (?_ : EW (eVar _) _ _)); with_reducible refine' EW.var (by with_unfolding_all exact rfl) ?_) | (with_reducible first | refine' EW.cst ?_ | refine' EW.e2 ?_ | refine' EW.call ?_ | refine' EW.tup ?_ | refine' EW.lst ?_ | refine' EsW.nil ?_ | refine' EsW.cons ?_) | ((with_reducible refine (?_ : TpK _ _)); with_reducible refine' TpK.mk (by with_unfolding_all exact Nat.le_of_ble_eq_true rfl) ?_) | ((with_reducible refine (?_ : LsK _ _)); with_reducible refine' LsK.mk (by with_unfolding_all exact Nat.le_of_ble_eq_true rfl) ?_) | (with_reducible first | refine' TW.tOf ?_) | ((with_reducible refine (?_ : CW _ _ _)); with_reducible refine' CW.of (by with_reducible assumption) ?_) | ((with_reducible refine (?_ : OW _ _ _ _)); with_reducible refine' OW.of (by with_reducible assumption) ?_) | (with_reducible first | refine' OW.add ?_ | refine' OW.ord ?_) | ((with_reducible refine (?_ : OW fMod _ _ _)); with_reducible refine' OW.mod (by first | with_reducible assumption | with_unfolding_all omega) ?_) | (with_reducible first | refine' CW.range1 ?_))
    refine RW.mid (fun σ' => ∃ P : Nat, P ≤ 24 ∧ σ' = [.imm (.lst (intsD ns)), .imm (.int (P : Int)), .unb, .unb, .unb, .unb, .unb, .unb, .unb]) ?_ ?_
    · clear stop
      by_cases q : 24 < p
      · repeat' ((fail_if_success (with_reducible refine (?_ : @Eq _ _ _))); first | ((with_reducible refine (?_ : RW (rAsgM _ _ _ _ _) _ _ _)); with_reducible refine' RW.asgM (by with_unfolding_all exact rfl) (by with_reducible assumption) (by with_unfolding_all exact Nat.le_of_ble_eq_true rfl) (by decide) ?_) | ((with_reducible refine (?_ : RW (rFrz _ _ _) _ _ _)); with_reducible refine' RW.frz (by with_unfolding_all exact rfl) (by with_unfolding_all exact rfl) (by repeat' first | exact SetR.z | refine' SetR.s3 ?_ | refine' SetR.s ?_) ?_) | ((with_reducible refine (?_ : RW (rIfH _ _ _) _ _ _)); with_reducible refine' RW.ifH ?_) | ((with_reducible refine (?_ : EW (eCst (D.str _)) _ _)); with_reducible refine' EW.cstS (by with_reducible assumption) ?_) | ((with_reducible refine (?_ : CW fLen [D.tup _] _)); with_reducible first | refine' CW.len2 ?_ | refine' CW.len0 ?_) | ((with_reducible refine (?_ : OW fSubs (D.tup [_, _]) (D.int _) _)); with_reducible first | refine' OW.fst ?_ | refine' OW.snd ?_) | ((with_reducible refine (?_ : RW (rRetG _) _ _ _)); with_reducible refine' RW.retG ?_) | ((with_reducible refine (?_ : IfK (@decide ((1:Int) < (List.length _ : Int)) _) _ _)); with_reducible first | refine' IfK.decT (by first | with_reducible assumption | decide) ?_ | refine' IfK.decF (by first | with_reducible assumption | decide) ?_) | (with_reducible first | refine' SK.next ?_ | refine' SK.ret ?_ | refine' LK.next ?_ | refine' RW.nil ?_ | refine' RW.seq ?_) | ((with_reducible refine (?_ : RW _ _ _ _)); with_reducible refine' RW.lenOk (by with_unfolding_all exact rfl) ?_) | (with_reducible first | refine' SW.of ?_ | refine' PutAt.of ?_ ?_) | (with_reducible first | exact SetR.z) | (with_reducible first | refine' SetR.s3 ?_ | refine' SetR.s ?_) | (with_reducible refine (?_ : SetR _ (0 + 1) _ _)); refine SetR.s ?_ | (with_reducible first | refine' RW.asg ?_) | (fail_if_success (have : StopIf := by with_reducible assumption)); (with_reducible refine' RW.if ?_) | (with_reducible first | refine' RW.for ?_ | refine' RW.while ?_ | refine' RW.new ?_) | (with_reducible first | refine' IfK.f ?_) | (with_reducible first | refine' IfK.gd ?_; with_reducible refine' IfK.decT (by first | with_reducible assumption | with_unfolding_all omega) ?_ | refine' IfK.gd ?_; with_reducible refine' IfK.decF (by first | with_reducible assumption | with_unfolding_all omega) ?_) | (with_reducible first | refine' TruthK.bool ?_) | ((with_reducible refine (?_ : EW (eVar _) _ _)); with_reducible refine' EW.var (by with_unfolding_all exact rfl) ?_) | (with_reducible first | refine' EW.cst ?_ | refine' EW.e2 ?_ | refine' EW.call ?_ | refine' EW.tup ?_ | refine' EW.lst ?_ | refine' EsW.nil ?_ | refine' EsW.cons ?_) | ((with_reducible refine (?_ : TpK _ _)); with_reducible refine' TpK.mk (by with_unfolding_all exact Nat.le_of_ble_eq_true rfl) ?_) | ((with_reducible refine (?_ : LsK _ _)); with_reducible refine' LsK.mk (by with_unfolding_all exact Nat.le_of_ble_eq_true rfl) ?_) | (with_reducible first | refine' TW.tOf ?_) | ((with_reducible refine (?_ : CW _ _ _)); with_reducible refine' CW.of (by with_reducible assumption) ?_) | ((with_reducible refine (?_ : OW _ _ _ _)); with_reducible refine' OW.of (by with_reducible assumption) ?_) | (with_reducible first | refine' OW.add ?_ | refine' OW.ord ?_) | ((with_reducible refine (?_ : OW fMod _ _ _)); with_reducible refine' OW.mod (by first | with_reducible assumption | with_unfolding_all omega) ?_) | (with_reducible first | refine' CW.range1 ?_))
        exact ⟨rfl, 24, by decide, rfl⟩
      · have e : (p.toNat : Int) = p := Int.toNat_of_nonneg (Int.le_trans (by decide) hp)
        repeat' ((fail_if_success (with_reducible refine (?_ : @Eq _ _ _))); first | ((with_reducible refine (?_ : RW (rAsgM _ _ _ _ _) _ _ _)); with_reducible refine' RW.asgM (by with_unfolding_all exact rfl) (by with_reducible assumption) (by with_unfolding_all exact Nat.le_of_ble_eq_true rfl) (by decide) ?_) | ((with_reducible refine (?_ : RW (rFrz _ _ _) _ _ _)); with_reducible refine' RW.frz (by with_unfolding_all exact rfl) (by with_unfolding_all exact rfl) (by repeat' first | exact SetR.z | refine' SetR.s3 ?_ | refine' SetR.s ?_) ?_) | ((with_reducible refine (?_ : RW (rIfH _ _ _) _ _ _)); with_reducible refine' RW.ifH ?_) | ((with_reducible refine (?_ : EW (eCst (D.str _)) _ _)); with_reducible refine' EW.cstS (by with_reducible assumption) ?_) | ((with_reducible refine (?_ : CW fLen [D.tup _] _)); with_reducible first | refine' CW.len2 ?_ | refine' CW.len0 ?_) | ((with_reducible refine (?_ : OW fSubs (D.tup [_, _]) (D.int _) _)); with_reducible first | refine' OW.fst ?_ | refine' OW.snd ?_) | ((with_reducible refine (?_ : RW (rRetG _) _ _ _)); with_reducible refine' RW.retG ?_) | ((with_reducible refine (?_ : IfK (@decide ((1:Int) < (List.length _ : Int)) _) _ _)); with_reducible first | refine' IfK.decT (by first | with_reducible assumption | decide) ?_ | refine' IfK.decF (by first | with_reducible assumption | decide) ?_) | (with_reducible first | refine' SK.next ?_ | refine' SK.ret ?_ | refine' LK.next ?_ | refine' RW.nil ?_ | refine' RW.seq ?_) | ((with_reducible refine (?_ : RW _ _ _ _)); with_reducible refine' RW.lenOk (by with_unfolding_all exact rfl) ?_) | (with_reducible first | refine' SW.of ?_ | refine' PutAt.of ?_ ?_) | (with_reducible first | exact SetR.z) | (with_reducible first | refine' SetR.s3 ?_ | refine' SetR.s ?_) | (with_reducible refine (?_ : SetR _ (0 + 1) _ _)); refine SetR.s ?_ | (with_reducible first | refine' RW.asg ?_) | (fail_if_success (have : StopIf := by with_reducible assumption)); (with_reducible refine' RW.if ?_) | (with_reducible first | refine' RW.for ?_ | refine' RW.while ?_ | refine' RW.new ?_) | (with_reducible first | refine' IfK.f ?_) | (with_reducible first | refine' IfK.gd ?_; with_reducible refine' IfK.decT (by first | with_reducible assumption | with_unfolding_all omega) ?_ | refine' IfK.gd ?_; with_reducible refine' IfK.decF (by first | with_reducible assumption | with_unfolding_all omega) ?_) | (with_reducible first | refine' TruthK.bool ?_) | ((with_reducible refine (?_ : EW (eVar _) _ _)); with_reducible refine' EW.var (by with_unfolding_all exact rfl) ?_) | (with_reducible first | refine' EW.cst ?_ | refine' EW.e2 ?_ | refine' EW.call ?_ | refine' EW.tup ?_ | refine' EW.lst ?_ | refine' EsW.nil ?_ | refine' EsW.cons ?_) | ((with_reducible refine (?_ : TpK _ _)); with_reducible refine' TpK.mk (by with_unfolding_all exact Nat.le_of_ble_eq_true rfl) ?_) | ((with_reducible refine (?_ : LsK _ _)); with_reducible refine' LsK.mk (by with_unfolding_all exact Nat.le_of_ble_eq_true rfl) ?_) | (with_reducible first | refine' TW.tOf ?_) | ((with_reducible refine (?_ : CW _ _ _)); with_reducible refine' CW.of (by with_reducible assumption) ?_) | ((with_reducible refine (?_ : OW _ _ _ _)); with_reducible refine' OW.of (by with_reducible assumption) ?_) | (with_reducible first | refine' OW.add ?_ | refine' OW.ord ?_) | ((with_reducible refine (?_ : OW fMod _ _ _)); with_reducible refine' OW.mod (by first | with_reducible assumption | with_unfolding_all omega) ?_) | (with_reducible first | refine' CW.range1 ?_))
        exact ⟨rfl, p.toNat, Int.toNat_le.mpr (Int.not_lt.mp q), by rw [e]⟩
    rintro _ ⟨P, hP, rfl⟩
    clear hp p
    repeat' ((fail_if_success (with_reducible refine (?_ : @Eq _ _ _))); first | ((with_reducible refine (?_ : RW (rAsgM _ _ _ _ _) _ _ _)); with_reducible refine' RW.asgM (by with_unfolding_all exact rfl) (by with_reducible assumption) (by with_unfolding_all exact Nat.le_of_ble_eq_true rfl) (by decide) ?_) | ((with_reducible refine (?_ : RW (rFrz _ _ _) _ _ _)); with_reducible refine' RW.frz (by with_unfolding_all exact rfl) (by with_unfolding_all exact rfl) (by repeat' first | exact SetR.z | refine' SetR.s3 ?_ | refine' SetR.s ?_) ?_) | ((with_reducible refine (?_ : RW (rIfH _ _ _) _ _ _)); with_reducible refine' RW.ifH ?_) | ((with_reducible refine (?_ : EW (eCst (D.str _)) _ _)); with_reducible refine' EW.cstS (by with_reducible assumption) ?_) | ((with_reducible refine (?_ : CW fLen [D.tup _] _)); with_reducible first | refine' CW.len2 ?_ | refine' CW.len0 ?_) | ((with_reducible refine (?_ : OW fSubs (D.tup [_, _]) (D.int _) _)); with_reducible first | refine' OW.fst ?_ | refine' OW.snd ?_) | ((with_reducible refine (?_ : RW (rRetG _) _ _ _)); with_reducible refine' RW.retG ?_) | ((with_reducible refine (?_ : IfK (@decide ((1:Int) < (List.length _ : Int)) _) _ _)); with_reducible first | refine' IfK.decT (by first | with_reducible assumption | decide) ?_ | refine' IfK.decF (by first | with_reducible assumption | decide) ?_) | (with_reducible first | refine' SK.next ?_ | refine' SK.ret ?_ | refine' LK.next ?_ | refine' RW.nil ?_ | refine' RW.seq ?_) | ((with_reducible refine (?_ : RW _ _ _ _)); with_reducible refine' RW.lenOk (by with_unfolding_all exact rfl) ?_) | (with_reducible first | refine' SW.of ?_ | refine' PutAt.of ?_ ?_) | (with_reducible first | exact SetR.z) | (with_reducible first | refine' SetR.s3 ?_ | refine' SetR.s ?_) | (with_reducible refine (?_ : SetR _ (0 + 1) _ _)); refine SetR.s ?_ | (with_reducible first | refine' RW.asg ?_) | (fail_if_success (have : StopIf := by with_reducible assumption)); (with_reducible refine' RW.if ?_) | (with_reducible first | refine' RW.for ?_ | refine' RW.while ?_ | refine' RW.new ?_) | (with_reducible first | refine' IfK.f ?_) | (with_reducible first | refine' IfK.gd ?_; with_reducible refine' IfK.decT (by first | with_reducible assumption | with_unfolding_all omega) ?_ | refine' IfK.gd ?_; with_reducible refine' IfK.decF (by first | with_reducible assumption | with_unfolding_all omega) ?_) | (with_reducible first | refine' TruthK.bool ?_) | ((with_reducible refine (?_ : EW (eVar _) _ _)); with_reducible refine' EW.var (by with_unfolding_all exact rfl) ?_) | (with_reducible first | refine' EW.cst ?_ | refine' EW.e2 ?_ | refine' EW.call ?_ | refine' EW.tup ?_ | refine' EW.lst ?_ | refine' EsW.nil ?_ | refine' EsW.cons ?_) | ((with_reducible refine (?_ : TpK _ _)); with_reducible refine' TpK.mk (by with_unfolding_all exact Nat.le_of_ble_eq_true rfl) ?_) | ((with_reducible refine (?_ : LsK _ _)); with_reducible refine' LsK.mk (by with_unfolding_all exact Nat.le_of_ble_eq_true rfl) ?_) | (with_reducible first | refine' TW.tOf ?_) | ((with_reducible refine (?_ : CW _ _ _)); with_reducible refine' CW.of (by with_reducible assumption) ?_) | ((with_reducible refine (?_ : OW _ _ _ _)); with_reducible refine' OW.of (by with_reducible assumption) ?_) | (with_reducible first | refine' OW.add ?_ | refine' OW.ord ?_) | ((with_reducible refine (?_ : OW fMod _ _ _)); with_reducible refine' OW.mod (by first | with_reducible assumption | with_unfolding_all omega) ?_) | (with_reducible first | refine' CW.range1 ?_))
    refine ⟨by decide, ?_⟩
    repeat' ((fail_if_success (with_reducible refine (?_ : @Eq _ _ _))); first | ((with_reducible refine (?_ : RW (rAsgM _ _ _ _ _) _ _ _)); with_reducible refine' RW.asgM (by with_unfolding_all exact rfl) (by with_reducible assumption) (by with_unfolding_all exact Nat.le_of_ble_eq_true rfl) (by decide) ?_) | ((with_reducible refine (?_ : RW (rFrz _ _ _) _ _ _)); with_reducible refine' RW.frz (by with_unfolding_all exact rfl) (by with_unfolding_all exact rfl) (by repeat' first | exact SetR.z | refine' SetR.s3 ?_ | refine' SetR.s ?_) ?_) | ((with_reducible refine (?_ : RW (rIfH _ _ _) _ _ _)); with_reducible refine' RW.ifH ?_) | ((with_reducible refine (?_ : EW (eCst (D.str _)) _ _)); with_reducible refine' EW.cstS (by with_reducible assumption) ?_) | ((with_reducible refine (?_ : CW fLen [D.tup _] _)); with_reducible first | refine' CW.len2 ?_ | refine' CW.len0 ?_) | ((with_reducible refine (?_ : OW fSubs (D.tup [_, _]) (D.int _) _)); with_reducible first | refine' OW.fst ?_ | refine' OW.snd ?_) | ((with_reducible refine (?_ : RW (rRetG _) _ _ _)); with_reducible refine' RW.retG ?_) | ((with_reducible refine (?_ : IfK (@decide ((1:Int) < (List.length _ : Int)) _) _ _)); with_reducible first | refine' IfK.decT (by first | with_reducible assumption | decide) ?_ | refine' IfK.decF (by first | with_reducible assumption | decide) ?_) | (with_reducible first | refine' SK.next ?_ | refine' SK.ret ?_ | refine' LK.next ?_ | refine' RW.nil ?_ | refine' RW.seq ?_) | ((with_reducible refine (?_ : RW _ _ _ _)); with_reducible refine' RW.lenOk (by with_unfolding_all exact rfl) ?_) | (with_reducible first | refine' SW.of ?_ | refine' PutAt.of ?_ ?_) | (with_reducible first | exact SetR.z) | (with_reducible first | refine' SetR.s3 ?_ | refine' SetR.s ?_) | (with_reducible refine (?_ : SetR _ (0 + 1) _ _)); refine SetR.s ?_ | (with_reducible first | refine' RW.asg ?_) | (fail_if_success (have : StopIf := by with_reducible assumption)); (with_reducible refine' RW.if ?_) | (with_reducible first | refine' RW.for ?_ | refine' RW.while ?_ | refine' RW.new ?_) | (with_reducible first | refine' IfK.f ?_) | (with_reducible first | refine' IfK.gd ?_; with_reducible refine' IfK.decT (by first | with_reducible assumption | with_unfolding_all omega) ?_ | refine' IfK.gd ?_; with_reducible refine' IfK.decF (by first | with_reducible assumption | with_unfolding_all omega) ?_) | (with_reducible first | refine' TruthK.bool ?_) | ((with_reducible refine (?_ : EW (eVar _) _ _)); with_reducible refine' EW.var (by with_unfolding_all exact rfl) ?_) | (with_reducible first | refine' EW.cst ?_ | refine' EW.e2 ?_ | refine' EW.call ?_ | refine' EW.tup ?_ | refine' EW.lst ?_ | refine' EsW.nil ?_ | refine' EsW.cons ?_) | ((with_reducible refine (?_ : TpK _ _)); with_reducible refine' TpK.mk (by with_unfolding_all exact Nat.le_of_ble_eq_true rfl) ?_) | ((with_reducible refine (?_ : LsK _ _)); with_reducible refine' LsK.mk (by with_unfolding_all exact Nat.le_of_ble_eq_true rfl) ?_) | (with_reducible first | refine' TW.tOf ?_) | ((with_reducible refine (?_ : CW _ _ _)); with_reducible refine' CW.of (by with_reducible assumption) ?_) | ((with_reducible refine (?_ : OW _ _ _ _)); with_reducible refine' OW.of (by with_reducible assumption) ?_) | (with_reducible first | refine' OW.add ?_ | refine' OW.ord ?_) | ((with_reducible refine (?_ : OW fMod _ _ _)); with_reducible refine' OW.mod (by first | with_reducible assumption | with_unfolding_all omega) ?_) | (with_reducible first | refine' CW.range1 ?_))
    refine ForK.of rfl (items_rngB (a := 0) (b := (P : Int)) (rng_le hP (by decide))) (LW.inv (fun ds σ => ∃ (k : Nat) (m : Mst) (ts : List (List Nat)) (t4 : Slot), k ≤ P ∧ ds = intsD (upI (k : Int) (P - k)) ∧ Part (.ok []) m ts (6 * k) k ∧ BdM m ∧ σ = [.imm (.lst (intsD ns)), .imm (.int (P : Int)), .mt (toksD ts), .imm (mstD m), t4, .unb, .unb, .unb, .unb] ∧ ∃ o, t4 = .unb ∨ t4 = .imm o) ⟨0, .ok [], [], .unb, Nat.zero_le _, by rw [Int.sub_zero]; rfl, Part.nil, (fun x hx => nomatch hx), rfl, .none, .inl rfl⟩ ?_ ?_)
    · rintro d' ds σ ⟨k, m, ts, t4, hk, e, hpt, hb, rfl, o, ho⟩
      rcases Nat.lt_or_ge k P with ht | ht
      · obtain ⟨u, hu, hu2⟩ := sub_next ht
        rw [hu, upI_succ, intsD_cons] at e
        cases e
        clear hu
        have wat := s3 ns k hns (Nat.le_trans hk (Nat.le_trans hP (by decide)))
        obtain ⟨m', us, w1, w2, w3⟩ := s12 (atI [154, (-263), 10, 364, 204, 235, 19, 9, 6636, 457, 8, 469] ns k) m (toksD ts) (by rw [toksD_len]; exact Nat.le_trans hpt.cnt (Nat.le_trans (Nat.mul_le_mul_left 6 (Nat.le_trans hk hP)) (by decide))) hb
        have hfl := toksD_flat ts
        refine ⟨rfl, ?_⟩
        repeat' ((fail_if_success (with_reducible refine (?_ : @Eq _ _ _))); first | ((with_reducible refine (?_ : RW (rAsgM _ _ _ _ _) _ _ _)); with_reducible refine' RW.asgM (by with_unfolding_all exact rfl) (by with_reducible assumption) (by with_unfolding_all exact Nat.le_of_ble_eq_true rfl) (by decide) ?_) | ((with_reducible refine (?_ : RW (rFrz _ _ _) _ _ _)); with_reducible refine' RW.frz (by with_unfolding_all exact rfl) (by with_unfolding_all exact rfl) (by repeat' first | exact SetR.z | refine' SetR.s3 ?_ | refine' SetR.s ?_) ?_) | ((with_reducible refine (?_ : RW (rIfH _ _ _) _ _ _)); with_reducible refine' RW.ifH ?_) | ((with_reducible refine (?_ : EW (eCst (D.str _)) _ _)); with_reducible refine' EW.cstS (by with_reducible assumption) ?_) | ((with_reducible refine (?_ : CW fLen [D.tup _] _)); with_reducible first | refine' CW.len2 ?_ | refine' CW.len0 ?_) | ((with_reducible refine (?_ : OW fSubs (D.tup [_, _]) (D.int _) _)); with_reducible first | refine' OW.fst ?_ | refine' OW.snd ?_) | ((with_reducible refine (?_ : RW (rRetG _) _ _ _)); with_reducible refine' RW.retG ?_) | ((with_reducible refine (?_ : IfK (@decide ((1:Int) < (List.length _ : Int)) _) _ _)); with_reducible first | refine' IfK.decT (by first | with_reducible assumption | decide) ?_ | refine' IfK.decF (by first | with_reducible assumption | decide) ?_) | (with_reducible first | refine' SK.next ?_ | refine' SK.ret ?_ | refine' LK.next ?_ | refine' RW.nil ?_ | refine' RW.seq ?_) | ((with_reducible refine (?_ : RW _ _ _ _)); with_reducible refine' RW.lenOk (by with_unfolding_all exact rfl) ?_) | (with_reducible first | refine' SW.of ?_ | refine' PutAt.of ?_ ?_) | (with_reducible first | exact SetR.z) | (with_reducible first | refine' SetR.s3 ?_ | refine' SetR.s ?_) | (with_reducible refine (?_ : SetR _ (0 + 1) _ _)); refine SetR.s ?_ | (with_reducible first | refine' RW.asg ?_) | (fail_if_success (have : StopIf := by with_reducible assumption)); (with_reducible refine' RW.if ?_) | (with_reducible first | refine' RW.for ?_ | refine' RW.while ?_ | refine' RW.new ?_) | (with_reducible first | refine' IfK.f ?_) | (with_reducible first | refine' IfK.gd ?_; with_reducible refine' IfK.decT (by first | with_reducible assumption | with_unfolding_all omega) ?_ | refine' IfK.gd ?_; with_reducible refine' IfK.decF (by first | with_reducible assumption | with_unfolding_all omega) ?_) | (with_reducible first | refine' TruthK.bool ?_) | ((with_reducible refine (?_ : EW (eVar _) _ _)); with_reducible refine' EW.var (by with_unfolding_all exact rfl) ?_) | (with_reducible first | refine' EW.cst ?_ | refine' EW.e2 ?_ | refine' EW.call ?_ | refine' EW.tup ?_ | refine' EW.lst ?_ | refine' EsW.nil ?_ | refine' EsW.cons ?_) | ((with_reducible refine (?_ : TpK _ _)); with_reducible refine' TpK.mk (by with_unfolding_all exact Nat.le_of_ble_eq_true rfl) ?_) | ((with_reducible refine (?_ : LsK _ _)); with_reducible refine' LsK.mk (by with_unfolding_all exact Nat.le_of_ble_eq_true rfl) ?_) | (with_reducible first | refine' TW.tOf ?_) | ((with_reducible refine (?_ : CW _ _ _)); with_reducible refine' CW.of (by with_reducible assumption) ?_) | ((with_reducible refine (?_ : OW _ _ _ _)); with_reducible refine' OW.of (by with_reducible assumption) ?_) | (with_reducible first | refine' OW.add ?_ | refine' OW.ord ?_) | ((with_reducible refine (?_ : OW fMod _ _ _)); with_reducible refine' OW.mod (by first | with_reducible assumption | with_unfolding_all omega) ?_) | (with_reducible first | refine' CW.range1 ?_))
        refine ⟨_, _, anyA_eq w1, ?_, ?_⟩
        · rw [← toksD_append]; exact toksD_flat _
        repeat' ((fail_if_success (with_reducible refine (?_ : @Eq _ _ _))); first | ((with_reducible refine (?_ : RW (rAsgM _ _ _ _ _) _ _ _)); with_reducible refine' RW.asgM (by with_unfolding_all exact rfl) (by with_reducible assumption) (by with_unfolding_all exact Nat.le_of_ble_eq_true rfl) (by decide) ?_) | ((with_reducible refine (?_ : RW (rFrz _ _ _) _ _ _)); with_reducible refine' RW.frz (by with_unfolding_all exact rfl) (by with_unfolding_all exact rfl) (by repeat' first | exact SetR.z | refine' SetR.s3 ?_ | refine' SetR.s ?_) ?_) | ((with_reducible refine (?_ : RW (rIfH _ _ _) _ _ _)); with_reducible refine' RW.ifH ?_) | ((with_reducible refine (?_ : EW (eCst (D.str _)) _ _)); with_reducible refine' EW.cstS (by with_reducible assumption) ?_) | ((with_reducible refine (?_ : CW fLen [D.tup _] _)); with_reducible first | refine' CW.len2 ?_ | refine' CW.len0 ?_) | ((with_reducible refine (?_ : OW fSubs (D.tup [_, _]) (D.int _) _)); with_reducible first | refine' OW.fst ?_ | refine' OW.snd ?_) | ((with_reducible refine (?_ : RW (rRetG _) _ _ _)); with_reducible refine' RW.retG ?_) | ((with_reducible refine (?_ : IfK (@decide ((1:Int) < (List.length _ : Int)) _) _ _)); with_reducible first | refine' IfK.decT (by first | with_reducible assumption | decide) ?_ | refine' IfK.decF (by first | with_reducible assumption | decide) ?_) | (with_reducible first | refine' SK.next ?_ | refine' SK.ret ?_ | refine' LK.next ?_ | refine' RW.nil ?_ | refine' RW.seq ?_) | ((with_reducible refine (?_ : RW _ _ _ _)); with_reducible refine' RW.lenOk (by with_unfolding_all exact rfl) ?_) | (with_reducible first | refine' SW.of ?_ | refine' PutAt.of ?_ ?_) | (with_reducible first | exact SetR.z) | (with_reducible first | refine' SetR.s3 ?_ | refine' SetR.s ?_) | (with_reducible refine (?_ : SetR _ (0 + 1) _ _)); refine SetR.s ?_ | (with_reducible first | refine' RW.asg ?_) | (fail_if_success (have : StopIf := by with_reducible assumption)); (with_reducible refine' RW.if ?_) | (with_reducible first | refine' RW.for ?_ | refine' RW.while ?_ | refine' RW.new ?_) | (with_reducible first | refine' IfK.f ?_) | (with_reducible first | refine' IfK.gd ?_; with_reducible refine' IfK.decT (by first | with_reducible assumption | with_unfolding_all omega) ?_ | refine' IfK.gd ?_; with_reducible refine' IfK.decF (by first | with_reducible assumption | with_unfolding_all omega) ?_) | (with_reducible first | refine' TruthK.bool ?_) | ((with_reducible refine (?_ : EW (eVar _) _ _)); with_reducible refine' EW.var (by with_unfolding_all exact rfl) ?_) | (with_reducible first | refine' EW.cst ?_ | refine' EW.e2 ?_ | refine' EW.call ?_ | refine' EW.tup ?_ | refine' EW.lst ?_ | refine' EsW.nil ?_ | refine' EsW.cons ?_) | ((with_reducible refine (?_ : TpK _ _)); with_reducible refine' TpK.mk (by with_unfolding_all exact Nat.le_of_ble_eq_true rfl) ?_) | ((with_reducible refine (?_ : LsK _ _)); with_reducible refine' LsK.mk (by with_unfolding_all exact Nat.le_of_ble_eq_true rfl) ?_) | (with_reducible first | refine' TW.tOf ?_) | ((with_reducible refine (?_ : CW _ _ _)); with_reducible refine' CW.of (by with_reducible assumption) ?_) | ((with_reducible refine (?_ : OW _ _ _ _)); with_reducible refine' OW.of (by with_reducible assumption) ?_) | (with_reducible first | refine' OW.add ?_ | refine' OW.ord ?_) | ((with_reducible refine (?_ : OW fMod _ _ _)); with_reducible refine' OW.mod (by first | with_reducible assumption | with_unfolding_all omega) ?_) | (with_reducible first | refine' CW.range1 ?_))
        exact ⟨k + 1, m', ts ++ us, _, ht, by rw [hu2]; rfl, (hpt.trans w2).le (Nat.le_refl _) (Nat.le_refl _), w3, by rw [toksD_append], _, .inr rfl⟩
      · rw [Nat.sub_eq_zero_of_le ht] at e
        cases e
    rintro _ ⟨k, m, ts, t4, hk, e, hpt, hb, rfl, o, ho⟩
    replace hpt := hpt.le (n' := 144) (k' := 24) (Nat.mul_le_mul_left 6 (Nat.le_trans hk hP)) (Nat.le_trans hk hP)
    clear e hk
    clear ho o hP s3 s12
    have hT1 : ts.length ≤ 144 := hpt.cnt
    have hlm : lenM m ≤ 24 := by have := hpt.len; exact Nat.le_trans this (Nat.le_of_eq (Nat.zero_add _))
    have wlt := len_toks (ts := ts) (Nat.le_trans hT1 (by decide))
    have wbl := bl_at ns.length
    have m0 := mst_fst m
    have m1 := mst_snd m
    repeat' ((fail_if_success (with_reducible refine (?_ : @Eq _ _ _))); first | ((with_reducible refine (?_ : RW (rAsgM _ _ _ _ _) _ _ _)); with_reducible refine' RW.asgM (by with_unfolding_all exact rfl) (by with_reducible assumption) (by with_unfolding_all exact Nat.le_of_ble_eq_true rfl) (by decide) ?_) | ((with_reducible refine (?_ : RW (rFrz _ _ _) _ _ _)); with_reducible refine' RW.frz (by with_unfolding_all exact rfl) (by with_unfolding_all exact rfl) (by repeat' first | exact SetR.z | refine' SetR.s3 ?_ | refine' SetR.s ?_) ?_) | ((with_reducible refine (?_ : RW (rIfH _ _ _) _ _ _)); with_reducible refine' RW.ifH ?_) | ((with_reducible refine (?_ : EW (eCst (D.str _)) _ _)); with_reducible refine' EW.cstS (by with_reducible assumption) ?_) | ((with_reducible refine (?_ : CW fLen [D.tup _] _)); with_reducible first | refine' CW.len2 ?_ | refine' CW.len0 ?_) | ((with_reducible refine (?_ : OW fSubs (D.tup [_, _]) (D.int _) _)); with_reducible first | refine' OW.fst ?_ | refine' OW.snd ?_) | ((with_reducible refine (?_ : RW (rRetG _) _ _ _)); with_reducible refine' RW.retG ?_) | ((with_reducible refine (?_ : IfK (@decide ((1:Int) < (List.length _ : Int)) _) _ _)); with_reducible first | refine' IfK.decT (by first | with_reducible assumption | decide) ?_ | refine' IfK.decF (by first | with_reducible assumption | decide) ?_) | (with_reducible first | refine' SK.next ?_ | refine' SK.ret ?_ | refine' LK.next ?_ | refine' RW.nil ?_ | refine' RW.seq ?_) | ((with_reducible refine (?_ : RW _ _ _ _)); with_reducible refine' RW.lenOk (by with_unfolding_all exact rfl) ?_) | (with_reducible first | refine' SW.of ?_ | refine' PutAt.of ?_ ?_) | (with_reducible first | exact SetR.z) | (with_reducible first | refine' SetR.s3 ?_ | refine' SetR.s ?_) | (with_reducible refine (?_ : SetR _ (0 + 1) _ _)); refine SetR.s ?_ | (with_reducible first | refine' RW.asg ?_) | (fail_if_success (have : StopIf := by with_reducible assumption)); (with_reducible refine' RW.if ?_) | (with_reducible first | refine' RW.for ?_ | refine' RW.while ?_ | refine' RW.new ?_) | (with_reducible first | refine' IfK.f ?_) | (with_reducible first | refine' IfK.gd ?_; with_reducible refine' IfK.decT (by first | with_reducible assumption | with_unfolding_all omega) ?_ | refine' IfK.gd ?_; with_reducible refine' IfK.decF (by first | with_reducible assumption | with_unfolding_all omega) ?_) | (with_reducible first | refine' TruthK.bool ?_) | ((with_reducible refine (?_ : EW (eVar _) _ _)); with_reducible refine' EW.var (by with_unfolding_all exact rfl) ?_) | (with_reducible first | refine' EW.cst ?_ | refine' EW.e2 ?_ | refine' EW.call ?_ | refine' EW.tup ?_ | refine' EW.lst ?_ | refine' EsW.nil ?_ | refine' EsW.cons ?_) | ((with_reducible refine (?_ : TpK _ _)); with_reducible refine' TpK.mk (by with_unfolding_all exact Nat.le_of_ble_eq_true rfl) ?_) | ((with_reducible refine (?_ : LsK _ _)); with_reducible refine' LsK.mk (by with_unfolding_all exact Nat.le_of_ble_eq_true rfl) ?_) | (with_reducible first | refine' TW.tOf ?_) | ((with_reducible refine (?_ : CW _ _ _)); with_reducible refine' CW.of (by with_reducible assumption) ?_) | ((with_reducible refine (?_ : OW _ _ _ _)); with_reducible refine' OW.of (by with_reducible assumption) ?_) | (with_reducible first | refine' OW.add ?_ | refine' OW.ord ?_) | ((with_reducible refine (?_ : OW fMod _ _ _)); with_reducible refine' OW.mod (by first | with_reducible assumption | with_unfolding_all omega) ?_) | (with_reducible first | refine' CW.range1 ?_))
    refine ForK.of rfl (items_rngB (a := 0) (b := (ts.length : Int)) (rng_le hT1 (by decide))) (LW.inv (fun ds σ => ∃ (k : Nat) (s : List Nat) (t4 : Slot), k ≤ ts.length ∧ ds = intsD (upI (k : Int) (ts.length - k)) ∧ WordsTo s (ts.take k) ∧ s.length ≤ 3 + 65 * k ∧ σ = [.imm (.lst (intsD ns)), .imm (.int (P : Int)), .imm (.lst (toksD ts)), .imm (mstD m), t4, .imm (.tup [.str (mkS [32]), .str (mkS [10]), .str (mkS [9]), .str (mkS [32, 32, 32])]), .imm (.str (mkS s)), .unb, .unb]) ⟨0, blN (ns.length % 4), t4, Nat.zero_le _, by rw [Int.sub_zero]; rfl, WordsTo.start (blN_sp _), blN_len _, rfl⟩ ?_ ?_)
    · rintro d' ds σ ⟨k, s, t4, hk, e, hw, hs, rfl⟩
      rcases Nat.lt_or_ge k ts.length with ht | ht
      · obtain ⟨u, hu, hu2⟩ := sub_next ht
        rw [hu, upI_succ, intsD_cons] at e
        cases e
        clear hu
        have et : ts[k]? = some ts[k] := List.getElem?_eq_getElem ht
        have htk : TokT ts[k] := hpt.tok _ (List.getElem_mem ht)
        generalize ts[k] = t at et htk
        have hsk : s.length ≤ 9363 := Nat.le_trans hs (Nat.add_le_add_left (Nat.mul_le_mul_left 65 (Nat.le_trans hk hT1)) 3)
        have w1 := tok_at et (Nat.le_trans hk (Nat.le_trans hT1 (by decide)))
        have w2 := bl_at (k + ns.length)
        rw [Int.natCast_add] at w2
        have tl := htk.2.2
        have bl := blN_len ((k + ns.length) % 4)
        have w3 := add_str (a := s) (b := t) (Nat.le_trans (Nat.add_le_add hsk tl) (by decide))
        have w4 := add_str (a := s ++ t) (b := blN ((k + ns.length) % 4)) (by rw [List.length_append]; exact Nat.le_trans (Nat.add_le_add (Nat.add_le_add hsk tl) bl) (by decide))
        refine ⟨rfl, ?_⟩
        repeat' ((fail_if_success (with_reducible refine (?_ : @Eq _ _ _))); first | ((with_reducible refine (?_ : RW (rAsgM _ _ _ _ _) _ _ _)); with_reducible refine' RW.asgM (by with_unfolding_all exact rfl) (by with_reducible assumption) (by with_unfolding_all exact Nat.le_of_ble_eq_true rfl) (by decide) ?_) | ((with_reducible refine (?_ : RW (rFrz _ _ _) _ _ _)); with_reducible refine' RW.frz (by with_unfolding_all exact rfl) (by with_unfolding_all exact rfl) (by repeat' first | exact SetR.z | refine' SetR.s3 ?_ | refine' SetR.s ?_) ?_) | ((with_reducible refine (?_ : RW (rIfH _ _ _) _ _ _)); with_reducible refine' RW.ifH ?_) | ((with_reducible refine (?_ : EW (eCst (D.str _)) _ _)); with_reducible refine' EW.cstS (by with_reducible assumption) ?_) | ((with_reducible refine (?_ : CW fLen [D.tup _] _)); with_reducible first | refine' CW.len2 ?_ | refine' CW.len0 ?_) | ((with_reducible refine (?_ : OW fSubs (D.tup [_, _]) (D.int _) _)); with_reducible first | refine' OW.fst ?_ | refine' OW.snd ?_) | ((with_reducible refine (?_ : RW (rRetG _) _ _ _)); with_reducible refine' RW.retG ?_) | ((with_reducible refine (?_ : IfK (@decide ((1:Int) < (List.length _ : Int)) _) _ _)); with_reducible first | refine' IfK.decT (by first | with_reducible assumption | decide) ?_ | refine' IfK.decF (by first | with_reducible assumption | decide) ?_) | (with_reducible first | refine' SK.next ?_ | refine' SK.ret ?_ | refine' LK.next ?_ | refine' RW.nil ?_ | refine' RW.seq ?_) | ((with_reducible refine (?_ : RW _ _ _ _)); with_reducible refine' RW.lenOk (by with_unfolding_all exact rfl) ?_) | (with_reducible first | refine' SW.of ?_ | refine' PutAt.of ?_ ?_) | (with_reducible first | exact SetR.z) | (with_reducible first | refine' SetR.s3 ?_ | refine' SetR.s ?_) | (with_reducible refine (?_ : SetR _ (0 + 1) _ _)); refine SetR.s ?_ | (with_reducible first | refine' RW.asg ?_) | (fail_if_success (have : StopIf := by with_reducible assumption)); (with_reducible refine' RW.if ?_) | (with_reducible first | refine' RW.for ?_ | refine' RW.while ?_ | refine' RW.new ?_) | (with_reducible first | refine' IfK.f ?_) | (with_reducible first | refine' IfK.gd ?_; with_reducible refine' IfK.decT (by first | with_reducible assumption | with_unfolding_all omega) ?_ | refine' IfK.gd ?_; with_reducible refine' IfK.decF (by first | with_reducible assumption | with_unfolding_all omega) ?_) | (with_reducible first | refine' TruthK.bool ?_) | ((with_reducible refine (?_ : EW (eVar _) _ _)); with_reducible refine' EW.var (by with_unfolding_all exact rfl) ?_) | (with_reducible first | refine' EW.cst ?_ | refine' EW.e2 ?_ | refine' EW.call ?_ | refine' EW.tup ?_ | refine' EW.lst ?_ | refine' EsW.nil ?_ | refine' EsW.cons ?_) | ((with_reducible refine (?_ : TpK _ _)); with_reducible refine' TpK.mk (by with_unfolding_all exact Nat.le_of_ble_eq_true rfl) ?_) | ((with_reducible refine (?_ : LsK _ _)); with_reducible refine' LsK.mk (by with_unfolding_all exact Nat.le_of_ble_eq_true rfl) ?_) | (with_reducible first | refine' TW.tOf ?_) | ((with_reducible refine (?_ : CW _ _ _)); with_reducible refine' CW.of (by with_reducible assumption) ?_) | ((with_reducible refine (?_ : OW _ _ _ _)); with_reducible refine' OW.of (by with_reducible assumption) ?_) | (with_reducible first | refine' OW.add ?_ | refine' OW.ord ?_) | ((with_reducible refine (?_ : OW fMod _ _ _)); with_reducible refine' OW.mod (by first | with_reducible assumption | with_unfolding_all omega) ?_) | (with_reducible first | refine' CW.range1 ?_))
        exact ⟨k + 1, _, _, ht, by rw [hu2]; rfl, hw.next et htk _, by rw [List.length_append, List.length_append]; exact text_len hs tl bl, rfl⟩
      · rw [Nat.sub_eq_zero_of_le ht] at e
        cases e
    rintro _ ⟨k, s, t4', hk, e, hw, hs, rfl⟩
    have ek : k = ts.length := by
      rcases Nat.lt_or_ge k ts.length with ht | ht
      · obtain ⟨u, hu, _⟩ := sub_next ht
        rw [hu, upI_succ, intsD_cons] at e
        cases e
      · exact Nat.le_antisymm hk ht
    rw [ek, List.take_length] at hw
    replace hw := hw.end
    replace hs : s.length ≤ 9999 := Nat.le_trans hs (Nat.le_trans (Nat.add_le_add_left (Nat.mul_le_mul_left 65 (Nat.le_trans hk hT1)) 3) (by decide))
    clear e hk ek
    have wt := tell_ok (sR s ts (outM m) hs hw (Nat.le_trans hT1 (by decide)) (runs_out hpt.goes)) hb (Nat.le_trans hlm (by decide))
    have wt2 := tell_blank (sR [32, 10, 9, 32] [] (.inl []) (by decide) blank_words (by decide) RunsE.nil)
    have wne := ne_pair (l := (stkM m).reverse) (fSM_ok m)
    have weq : fEq (.tup [.str (Str.ofString ""), .lst []]) (.tup [.str (Str.ofString ""), .lst []]) = some (.bool true) := eq_pair (l := []) (by decide +kernel)
    have hln : (stkM m).length ≤ 24 := by rw [len_stkM]; exact hlm
    clear hpt hb hw sR hs wlt wbl
    generalize fSM m = fs at *
    generalize stkM m = r at *
    generalize mstD m = dm at *
    repeat' ((fail_if_success (with_reducible refine (?_ : @Eq _ _ _))); first | ((with_reducible refine (?_ : RW (rAsgM _ _ _ _ _) _ _ _)); with_reducible refine' RW.asgM (by with_unfolding_all exact rfl) (by with_reducible assumption) (by with_unfolding_all exact Nat.le_of_ble_eq_true rfl) (by decide) ?_) | ((with_reducible refine (?_ : RW (rFrz _ _ _) _ _ _)); with_reducible refine' RW.frz (by with_unfolding_all exact rfl) (by with_unfolding_all exact rfl) (by repeat' first | exact SetR.z | refine' SetR.s3 ?_ | refine' SetR.s ?_) ?_) | ((with_reducible refine (?_ : RW (rIfH _ _ _) _ _ _)); with_reducible refine' RW.ifH ?_) | ((with_reducible refine (?_ : EW (eCst (D.str _)) _ _)); with_reducible refine' EW.cstS (by with_reducible assumption) ?_) | ((with_reducible refine (?_ : CW fLen [D.tup _] _)); with_reducible first | refine' CW.len2 ?_ | refine' CW.len0 ?_) | ((with_reducible refine (?_ : OW fSubs (D.tup [_, _]) (D.int _) _)); with_reducible first | refine' OW.fst ?_ | refine' OW.snd ?_) | ((with_reducible refine (?_ : RW (rRetG _) _ _ _)); with_reducible refine' RW.retG ?_) | ((with_reducible refine (?_ : IfK (@decide ((1:Int) < (List.length _ : Int)) _) _ _)); with_reducible first | refine' IfK.decT (by first | with_reducible assumption | decide) ?_ | refine' IfK.decF (by first | with_reducible assumption | decide) ?_) | (with_reducible first | refine' SK.next ?_ | refine' SK.ret ?_ | refine' LK.next ?_ | refine' RW.nil ?_ | refine' RW.seq ?_) | ((with_reducible refine (?_ : RW _ _ _ _)); with_reducible refine' RW.lenOk (by with_unfolding_all exact rfl) ?_) | (with_reducible first | refine' SW.of ?_ | refine' PutAt.of ?_ ?_) | (with_reducible first | exact SetR.z) | (with_reducible first | refine' SetR.s3 ?_ | refine' SetR.s ?_) | (with_reducible refine (?_ : SetR _ (0 + 1) _ _)); refine SetR.s ?_ | (with_reducible first | refine' RW.asg ?_) | (fail_if_success (have : StopIf := by with_reducible assumption)); (with_reducible refine' RW.if ?_) | (with_reducible first | refine' RW.for ?_ | refine' RW.while ?_ | refine' RW.new ?_) | (with_reducible first | refine' IfK.f ?_) | (with_reducible first | refine' IfK.gd ?_; with_reducible refine' IfK.decT (by first | with_reducible assumption | with_unfolding_all omega) ?_ | refine' IfK.gd ?_; with_reducible refine' IfK.decF (by first | with_reducible assumption | with_unfolding_all omega) ?_) | (with_reducible first | refine' TruthK.bool ?_) | ((with_reducible refine (?_ : EW (eVar _) _ _)); with_reducible refine' EW.var (by with_unfolding_all exact rfl) ?_) | (with_reducible first | refine' EW.cst ?_ | refine' EW.e2 ?_ | refine' EW.call ?_ | refine' EW.tup ?_ | refine' EW.lst ?_ | refine' EsW.nil ?_ | refine' EsW.cons ?_) | ((with_reducible refine (?_ : TpK _ _)); with_reducible refine' TpK.mk (by with_unfolding_all exact Nat.le_of_ble_eq_true rfl) ?_) | ((with_reducible refine (?_ : LsK _ _)); with_reducible refine' LsK.mk (by with_unfolding_all exact Nat.le_of_ble_eq_true rfl) ?_) | (with_reducible first | refine' TW.tOf ?_) | ((with_reducible refine (?_ : CW _ _ _)); with_reducible refine' CW.of (by with_reducible assumption) ?_) | ((with_reducible refine (?_ : OW _ _ _ _)); with_reducible refine' OW.of (by with_reducible assumption) ?_) | (with_reducible first | refine' OW.add ?_ | refine' OW.ord ?_) | ((with_reducible refine (?_ : OW fMod _ _ _)); with_reducible refine' OW.mod (by first | with_reducible assumption | with_unfolding_all omega) ?_) | (with_reducible first | refine' CW.range1 ?_))
    refine WW.inv (fun k σ => ∃ p r' : List Int, p ++ r' = r ∧ r'.length = k ∧ σ = [.imm (.lst (intsD ns)), .imm (.int (P : Int)), .imm (.lst (toksD ts)), .imm dm, t4', .imm (.tup [.str (mkS [32]), .str (mkS [10]), .str (mkS [9]), .str (mkS [32, 32, 32])]), .imm (.str (mkS s)), .imm (.lst (intsD p.reverse)), .imm (stkD r')]) (k := r.length) ⟨[], r, rfl, rfl, rfl⟩ (Nat.lt_of_le_of_lt hln (by decide)) ?_
    rintro k σ ⟨p, r', e1, e2, rfl⟩
    cases r' with
    | nil =>
      rw [List.append_nil] at e1
      subst e1
      clear stop
      show TW _ (rdF [.imm (.lst (intsD ns)), .imm (.int (P : Int)), .imm (.lst (toksD ts)), .imm dm, t4', .imm (.tup [.str (mkS [32]), .str (mkS [10]), .str (mkS [9]), .str (mkS [32, 32, 32])]), .imm (.str (mkS s)), .imm (.lst (intsD p.reverse)), .imm (.tup [])]) _
      repeat' ((fail_if_success (with_reducible refine (?_ : @Eq _ _ _))); first | ((with_reducible refine (?_ : RW (rAsgM _ _ _ _ _) _ _ _)); with_reducible refine' RW.asgM (by with_unfolding_all exact rfl) (by with_reducible assumption) (by with_unfolding_all exact Nat.le_of_ble_eq_true rfl) (by decide) ?_) | ((with_reducible refine (?_ : RW (rFrz _ _ _) _ _ _)); with_reducible refine' RW.frz (by with_unfolding_all exact rfl) (by with_unfolding_all exact rfl) (by repeat' first | exact SetR.z | refine' SetR.s3 ?_ | refine' SetR.s ?_) ?_) | ((with_reducible refine (?_ : RW (rIfH _ _ _) _ _ _)); with_reducible refine' RW.ifH ?_) | ((with_reducible refine (?_ : EW (eCst (D.str _)) _ _)); with_reducible refine' EW.cstS (by with_reducible assumption) ?_) | ((with_reducible refine (?_ : CW fLen [D.tup _] _)); with_reducible first | refine' CW.len2 ?_ | refine' CW.len0 ?_) | ((with_reducible refine (?_ : OW fSubs (D.tup [_, _]) (D.int _) _)); with_reducible first | refine' OW.fst ?_ | refine' OW.snd ?_) | ((with_reducible refine (?_ : RW (rRetG _) _ _ _)); with_reducible refine' RW.retG ?_) | ((with_reducible refine (?_ : IfK (@decide ((1:Int) < (List.length _ : Int)) _) _ _)); with_reducible first | refine' IfK.decT (by first | with_reducible assumption | decide) ?_ | refine' IfK.decF (by first | with_reducible assumption | decide) ?_) | (with_reducible first | refine' SK.next ?_ | refine' SK.ret ?_ | refine' LK.next ?_ | refine' RW.nil ?_ | refine' RW.seq ?_) | ((with_reducible refine (?_ : RW _ _ _ _)); with_reducible refine' RW.lenOk (by with_unfolding_all exact rfl) ?_) | (with_reducible first | refine' SW.of ?_ | refine' PutAt.of ?_ ?_) | (with_reducible first | exact SetR.z) | (with_reducible first | refine' SetR.s3 ?_ | refine' SetR.s ?_) | (with_reducible refine (?_ : SetR _ (0 + 1) _ _)); refine SetR.s ?_ | (with_reducible first | refine' RW.asg ?_) | (fail_if_success (have : StopIf := by with_reducible assumption)); (with_reducible refine' RW.if ?_) | (with_reducible first | refine' RW.for ?_ | refine' RW.while ?_ | refine' RW.new ?_) | (with_reducible first | refine' IfK.f ?_) | (with_reducible first | refine' IfK.gd ?_; with_reducible refine' IfK.decT (by first | with_reducible assumption | with_unfolding_all omega) ?_ | refine' IfK.gd ?_; with_reducible refine' IfK.decF (by first | with_reducible assumption | with_unfolding_all omega) ?_) | (with_reducible first | refine' TruthK.bool ?_) | ((with_reducible refine (?_ : EW (eVar _) _ _)); with_reducible refine' EW.var (by with_unfolding_all exact rfl) ?_) | (with_reducible first | refine' EW.cst ?_ | refine' EW.e2 ?_ | refine' EW.call ?_ | refine' EW.tup ?_ | refine' EW.lst ?_ | refine' EsW.nil ?_ | refine' EsW.cons ?_) | ((with_reducible refine (?_ : TpK _ _)); with_reducible refine' TpK.mk (by with_unfolding_all exact Nat.le_of_ble_eq_true rfl) ?_) | ((with_reducible refine (?_ : LsK _ _)); with_reducible refine' LsK.mk (by with_unfolding_all exact Nat.le_of_ble_eq_true rfl) ?_) | (with_reducible first | refine' TW.tOf ?_) | ((with_reducible refine (?_ : CW _ _ _)); with_reducible refine' CW.of (by with_reducible assumption) ?_) | ((with_reducible refine (?_ : OW _ _ _ _)); with_reducible refine' OW.of (by with_reducible assumption) ?_) | (with_reducible first | refine' OW.add ?_ | refine' OW.ord ?_) | ((with_reducible refine (?_ : OW fMod _ _ _)); with_reducible refine' OW.mod (by first | with_reducible assumption | with_unfolding_all omega) ?_) | (with_reducible first | refine' CW.range1 ?_))
      rfl
    | cons x r' =>
      clear wt wt2 wne weq m0 m1
      have w1 := add_due (x := x) (p := p) (Nat.le_trans (by rw [← e1, List.length_append]; exact Nat.le_add_right _ _) (Nat.le_trans hln (by decide)))
      show TW _ (rdF [.imm (.lst (intsD ns)), .imm (.int (P : Int)), .imm (.lst (toksD ts)), .imm dm, t4', .imm (.tup [.str (mkS [32]), .str (mkS [10]), .str (mkS [9]), .str (mkS [32, 32, 32])]), .imm (.str (mkS s)), .imm (.lst (intsD p.reverse)), .imm (.tup [.int x, stkD r'])]) fun b => IfK b (RW _ _ [.imm (.lst (intsD ns)), .imm (.int (P : Int)), .imm (.lst (toksD ts)), .imm dm, t4', .imm (.tup [.str (mkS [32]), .str (mkS [10]), .str (mkS [9]), .str (mkS [32, 32, 32])]), .imm (.str (mkS s)), .imm (.lst (intsD p.reverse)), .imm (.tup [.int x, stkD r'])] _) _
      repeat' ((fail_if_success (with_reducible refine (?_ : @Eq _ _ _))); first | ((with_reducible refine (?_ : RW (rAsgM _ _ _ _ _) _ _ _)); with_reducible refine' RW.asgM (by with_unfolding_all exact rfl) (by with_reducible assumption) (by with_unfolding_all exact Nat.le_of_ble_eq_true rfl) (by decide) ?_) | ((with_reducible refine (?_ : RW (rFrz _ _ _) _ _ _)); with_reducible refine' RW.frz (by with_unfolding_all exact rfl) (by with_unfolding_all exact rfl) (by repeat' first | exact SetR.z | refine' SetR.s3 ?_ | refine' SetR.s ?_) ?_) | ((with_reducible refine (?_ : RW (rIfH _ _ _) _ _ _)); with_reducible refine' RW.ifH ?_) | ((with_reducible refine (?_ : EW (eCst (D.str _)) _ _)); with_reducible refine' EW.cstS (by with_reducible assumption) ?_) | ((with_reducible refine (?_ : CW fLen [D.tup _] _)); with_reducible first | refine' CW.len2 ?_ | refine' CW.len0 ?_) | ((with_reducible refine (?_ : OW fSubs (D.tup [_, _]) (D.int _) _)); with_reducible first | refine' OW.fst ?_ | refine' OW.snd ?_) | ((with_reducible refine (?_ : RW (rRetG _) _ _ _)); with_reducible refine' RW.retG ?_) | ((with_reducible refine (?_ : IfK (@decide ((1:Int) < (List.length _ : Int)) _) _ _)); with_reducible first | refine' IfK.decT (by first | with_reducible assumption | decide) ?_ | refine' IfK.decF (by first | with_reducible assumption | decide) ?_) | (with_reducible first | refine' SK.next ?_ | refine' SK.ret ?_ | refine' LK.next ?_ | refine' RW.nil ?_ | refine' RW.seq ?_) | ((with_reducible refine (?_ : RW _ _ _ _)); with_reducible refine' RW.lenOk (by with_unfolding_all exact rfl) ?_) | (with_reducible first | refine' SW.of ?_ | refine' PutAt.of ?_ ?_) | (with_reducible first | exact SetR.z) | (with_reducible first | refine' SetR.s3 ?_ | refine' SetR.s ?_) | (with_reducible refine (?_ : SetR _ (0 + 1) _ _)); refine SetR.s ?_ | (with_reducible first | refine' RW.asg ?_) | (fail_if_success (have : StopIf := by with_reducible assumption)); (with_reducible refine' RW.if ?_) | (with_reducible first | refine' RW.for ?_ | refine' RW.while ?_ | refine' RW.new ?_) | (with_reducible first | refine' IfK.f ?_) | (with_reducible first | refine' IfK.gd ?_; with_reducible refine' IfK.decT (by first | with_reducible assumption | with_unfolding_all omega) ?_ | refine' IfK.gd ?_; with_reducible refine' IfK.decF (by first | with_reducible assumption | with_unfolding_all omega) ?_) | (with_reducible first | refine' TruthK.bool ?_) | ((with_reducible refine (?_ : EW (eVar _) _ _)); with_reducible refine' EW.var (by with_unfolding_all exact rfl) ?_) | (with_reducible first | refine' EW.cst ?_ | refine' EW.e2 ?_ | refine' EW.call ?_ | refine' EW.tup ?_ | refine' EW.lst ?_ | refine' EsW.nil ?_ | refine' EsW.cons ?_) | ((with_reducible refine (?_ : TpK _ _)); with_reducible refine' TpK.mk (by with_unfolding_all exact Nat.le_of_ble_eq_true rfl) ?_) | ((with_reducible refine (?_ : LsK _ _)); with_reducible refine' LsK.mk (by with_unfolding_all exact Nat.le_of_ble_eq_true rfl) ?_) | (with_reducible first | refine' TW.tOf ?_) | ((with_reducible refine (?_ : CW _ _ _)); with_reducible refine' CW.of (by with_reducible assumption) ?_) | ((with_reducible refine (?_ : OW _ _ _ _)); with_reducible refine' OW.of (by with_reducible assumption) ?_) | (with_reducible first | refine' OW.add ?_ | refine' OW.ord ?_) | ((with_reducible refine (?_ : OW fMod _ _ _)); with_reducible refine' OW.mod (by first | with_reducible assumption | with_unfolding_all omega) ?_) | (with_reducible first | refine' CW.range1 ?_))
      exact ⟨r'.length, by rw [← e2]; exact Nat.lt_succ_self _, p ++ [x], r', by rw [← e1, List.append_assoc]; rfl, rfl, rfl⟩

theorem law_holds {I : GI} (hat : HatI I hd.view_39) (hdg : ∀ h, I.Gl h → h.NoDigits) (fabs : I.mg ("abs" : Str) = none) (flen : I.mg ("len" : Str) = none) (frange : I.mg ("range" : Str) = none) (fint : I.mg ("int" : Str) = none) (fstr : I.mg ("str" : Str) = none) (hmi : I.mg ("IndexError" : Str) = none) (hmz : I.mg ("ZeroDivisionError" : Str) = none) (hexc : I.mg ("Exception" : Str) = none) : ∃ d, (recsOf hd.view_39)[14]? = some d ∧ d.name = ("law" : Str) ∧ ScS d.scope ["script", "places", "signs", "state", "place", "blanks", "text", "due", "stack"] ∧
    (∀ pm cd doc vs, vs.length = 1 → bindArgs (Calls.docDef d.name d.params d.body d.scope pm cd doc) ⟨vs, []⟩ = pure (((["script", "places", "signs", "state", "place", "blanks", "text", "due", "stack"] : List Str).take 1).zip vs)) ∧ d.scope.isCoroutine = false ∧ d.scope.isGenerator = false ∧ (∀ n, cellsFrom n d.scope.names [] = []) ∧
    ∃ F, RunL I 5 d.scope ["script", "places", "signs", "state", "place", "blanks", "text", "due", "stack"] (execs d.body) F ∧ ∀ (ns : List Int), ns.length ≤ 63 → RW F 1000 (startSt [.lst (intsD ns)] 9) fun _ fl => fl = .ret (.bool true) := by
  have habs : FunOK I 0 ("abs" : Str) fAbs := FunOK.builtin fabs (by decide) rfl PrimOK.abs
  have hlen : FunOK I 0 ("len" : Str) fLen := FunOK.builtin flen (by decide) rfl PrimOK.len
  have hrange : FunOK I 0 ("range" : Str) fRange := FunOK.type frange (by decide) rfl PrimOK.range
  have hint : FunOK I 0 ("int" : Str) fInt := FunOK.type fint (by decide) rfl PrimOK.int
  have hstr : FunOK I 0 ("str" : Str) fStr := FunOK.type fstr (by decide) rfl (PrimOK.str hdg)
  obtain ⟨d0, _, n0, g0, q0, t0⟩ := ok_primegen hat
  rw [n0] at q0
  obtain ⟨d1, _, n1, g1, q1, t1⟩ := ok_iterprod hat
  rw [n1] at q1
  obtain ⟨d2, _, n2, g2, q2, t2⟩ := ok_rpn hat hexc hrange hlen hint q0 q1 t0 t1
  rw [n2] at q2
  obtain ⟨d3, _, n3, g3, q3, t3⟩ := ok__law_at hat hlen
  rw [n3] at q3
  obtain ⟨d4, _, n4, g4, q4, t4⟩ := ok__law_quotient hat habs
  rw [n4] at q4
  obtain ⟨d5, _, n5, g5, q5, t5⟩ := ok__law_power hat hrange
  rw [n5] at q5
  obtain ⟨d6, _, n6, g6, q6, t6⟩ := ok__law_down hat
  rw [n6] at q6
  obtain ⟨d7, _, n7, g7, q7, t7⟩ := ok__law_primes hat hrange
  rw [n7] at q7
  obtain ⟨d8, _, n8, g8, q8, t8⟩ := ok__law_two hat q4 q5 t4 t5
  rw [n8] at q8
  obtain ⟨d9, _, n9, g9, q9, t9⟩ := ok__law_sign hat hlen q6 q7 q8 t6 t7 t8
  rw [n9] at q9
  obtain ⟨d10, _, n10, g10, q10, t10⟩ := ok__law_put hat
  rw [n10] at q10
  obtain ⟨d11, _, n11, g11, q11, t11⟩ := ok__law_within hat hlen hstr q9 q10 t9 t10
  rw [n11] at q11
  obtain ⟨d12, _, n12, g12, q12, t12⟩ := ok__law_place hat hstr habs q9 q10 q11 t9 t10 t11
  rw [n12] at q12
  obtain ⟨d13, _, n13, q13⟩ := ok__law_told hat hmi hmz hexc q2
  rw [n13] at q13
  exact ok_law hat hlen hrange q3 q12 (q13.le (by decide)) t3 t12 t2
end Mine

theorem PySem.Challenge.cw_yt0001_03_holds : PySem.Challenge.rw_yt0001_03.Holds := by
  refine Mine.hd ?_
  k_fill
  intro w s₀ s₁ mg mb G Y fa o pm cd doc dV kV ho hd hcd hD hmg hg args vals as hpre hlay hrd hwl hlo
  have KX := kIn_of Y
  clear Y ho hd hcd hD
  refine Ground.open G ?_
  intro T B D TE TW
  wrow_args hpre hlay hrd hwl hlo
  rename_i hlen63 _
  obtain ⟨d, e, en, hc, hbind, hco, hgen, hcl, F, hF, hT⟩ := Mine.law_holds (I := Mine.giOf PySem.Challenge.rw_yt0001_03.row.prog w mg mb Mine.hd.view_39 _ _ _ T.builtins) (fun i d e => Mine.fnAt_of (hboot := T.builtins) T e) (fun h hG => hG.1.nodigits) (Mine.free_of T KX (by rfl)) (Mine.free_of T KX (by rfl)) (Mine.free_of T KX (by rfl)) (Mine.free_of T KX (by rfl)) (Mine.free_of T KX (by rfl)) (Mine.free_of T KX (by rfl)) (Mine.free_of T KX (by rfl)) (Mine.free_of T KX (by rfl))
  refine Mine.law_endL (hboot := T.builtins) T KX (by rw [en]; exact hmg) (Mine.fnAt_of (hboot := T.builtins) T e) hc (by decide) hbind hco hgen hcl hF (by decide) hg (by assumption) (by assumption) (hT _ (by omega)) ?_
  intro h' tk gs hk hb
  exact ⟨.inl ⟨.bool true, .bool true, [], rfl, fun _ => rfl, ReadsW.bool true, by wrow_post, unshared_nil⟩, .of_keep hk, rfl, hb⟩
