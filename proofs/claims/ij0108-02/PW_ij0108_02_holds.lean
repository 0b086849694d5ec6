import PyProof.Rows.All
import Wide.All
import OpenK.AllK
import Wide.FinOn
import PySem.Challenge.RW_ij0108_02
open PySem PySem.W PyProof.Rows
set_option Elab.async false
set_option maxRecDepth 100000
/-! Ev1 -/
section
open PySem PySem.W PyProof.Rows
namespace Mine

/-! data -/
inductive FV where
  | none
  | bool (b : Bool)
  | int (i : Int)
  | str (l : List Nat)
  | list (xs : List FV)
  | tup (xs : List FV)
  | mm (xs : List FV)
  | obj (a : Addr)

inductive AV where
  | fv (f : FV)
  | own (k : Nat)
  | app (k : Nat)

noncomputable def okS (l : List Nat) : Prop := l.length ≤ sizeLine ∧ ∀ c ∈ l, c < 0x110000

/-- the frozen part of a heap bears a frozen value -/
inductive FR (h : Heap) : FV → Value → Prop
  | none : FR h .none .none
  | bool (b : Bool) : FR h (.bool b) (.bool b)
  | int (i : Int) (t : Tok) : FR h (.int i) (.int i t)
  | str (l : List Nat) (t : Tok) (hl : okS l) : FR h (.str l) (.str ⟨l.toArray⟩ t)
  | list {a : Addr} {vs : Array Value} {xs : List FV} (hp : h.PlainList a vs) (hs : vs.size = xs.length) (hb : vs.size ≤ sizeLine)
      (hi : ∀ (i : Nat) (x : FV) (v : Value), xs[i]? = some x → vs[i]? = some v → FR h x v) : FR h (.list xs) (.ref a)
  | tup {a : Addr} {vs : Array Value} {xs : List FV} (hp : h.IsTuple a vs) (hs : vs.size = xs.length) (hb : vs.size ≤ sizeLine)
      (hi : ∀ (i : Nat) (x : FV) (v : Value), xs[i]? = some x → vs[i]? = some v → FR h x v) : FR h (.tup xs) (.ref a)
  | mm {a : Addr} {vs : Array Value} {n : Nat} {dd : Option Addr} {xs : List FV} (hp : h.get? a = some { cls := .ref 159, dict := dd, data := .seq vs n }) (hs : vs.size = xs.length) (hb : vs.size ≤ sizeLine)
      (hi : ∀ (i : Nat) (x : FV) (v : Value), xs[i]? = some x → vs[i]? = some v → FR h x v) : FR h (.mm xs) (.ref a)
  | obj {a : Addr} {o : Obj} (hp : h.get? a = some o) (hc : o.cls = .type "object") (hd : o.data = .plain) : FR h (.obj a) (.ref a)

noncomputable def HExt (h h' : Heap) : Prop := ∀ b o, h.get? b = some o → h'.get? b = some o
theorem HExt.refl (h : Heap) : HExt h h := fun _ _ e => e
theorem HExt.trans {a b c : Heap} (x : HExt a b) (y : HExt b c) : HExt a c := fun _ _ e => y _ _ (x _ _ e)

theorem FR.mono {h h' : Heap} (k : HExt h h') {f : FV} {v : Value} (r : FR h f v) : FR h' f v := by
  induction r with
  | none => exact .none
  | bool b => exact .bool b
  | int i t => exact .int i t
  | str l t hl => exact .str l t hl
  | list hp hs hb _ ih => exact .list (hp.at fun o e => k _ o e) hs hb ih
  | tup hp hs hb _ ih => exact .tup (hp.at fun o e => k _ o e) hs hb ih
  | mm hp hs hb _ ih => exact .mm (k _ _ hp) hs hb ih
  | obj hp hc hd => exact .obj (k _ _ hp) hc hd

/-- the object of a bound method `append` of the list at a -/
noncomputable def appObj (a : Addr) : Obj := { cls := .type "builtin_function_or_method", data := .fields #[.builtin "list.append", .ref a] }

inductive VR (h : Heap) (ρ : List Addr) : AV → Value → Prop
  | fv {f : FV} {v : Value} (r : FR h f v) : VR h ρ (.fv f) v
  | own {k : Nat} {a : Addr} (e : ρ[k]? = some a) : VR h ρ (.own k) (.ref a)
  | app {k : Nat} {a b : Addr} (e : ρ[k]? = some a) (hb : h.get? b = some (appObj a)) : VR h ρ (.app k) (.ref b)

theorem VR.mono {h h' : Heap} {ρ : List Addr} (k : HExt h h') {x : AV} {v : Value} (r : VR h ρ x v) : VR h' ρ x v := by
  cases r with
  | fv r => exact .fv (r.mono k)
  | own e => exact .own e
  | app e hb => exact .app e (k _ _ hb)

theorem VR.push {h : Heap} {ρ : List Addr} {a : Addr} {x : AV} {v : Value} (r : VR h ρ x v) : VR h (ρ ++ [a]) x v := by
  have key : ∀ {k : Nat} {b : Addr}, ρ[k]? = some b → (ρ ++ [a])[k]? = some b := fun {k b} e => by
    have : k < ρ.length := by
      rcases List.getElem?_eq_some_iff.mp e with ⟨h, _⟩; exact h
    rw [List.getElem?_append_left this]; exact e
  cases r with
  | fv r => exact .fv r
  | own e => exact .own (key e)
  | app e hb => exact .app (key e) hb

noncomputable def VRs (h : Heap) (ρ : List Addr) (xs : List AV) (vs : Array Value) : Prop :=
  vs.size = xs.length ∧ vs.size ≤ sizeLine ∧ ∀ (i : Nat) (x : AV) (v : Value), xs[i]? = some x → vs[i]? = some v → VR h ρ x v
theorem VRs.mono {h h' : Heap} {ρ : List Addr} (k : HExt h h') {xs : List AV} {vs : Array Value} (r : VRs h ρ xs vs) : VRs h' ρ xs vs :=
  ⟨r.1, r.2.1, fun i x v e1 e2 => (r.2.2 i x v e1 e2).mono k⟩
theorem VRs.push {h : Heap} {ρ : List Addr} {a : Addr} {xs : List AV} {vs : Array Value} (r : VRs h ρ xs vs) : VRs h (ρ ++ [a]) xs vs :=
  ⟨r.1, r.2.1, fun i x v e1 e2 => (r.2.2 i x v e1 e2).push⟩

structure St where
  loc : Str → Option AV
  hp : List (List AV)

noncomputable def St.set (σ : St) (x : Str) (v : AV) : St := { σ with loc := fun y => if y = x then some v else σ.loc y }
noncomputable def St.alloc (σ : St) (xs : List AV) : St := { σ with hp := σ.hp ++ [xs] }
noncomputable def St.put (σ : St) (k : Nat) (xs : List AV) : St := { σ with hp := σ.hp.set k xs }

/-- constants of an activation, as far as an expression needs them -/
structure Cx where
  prog : Program
  w : World
  A : Around
  env : Env
  mu : List Addr
  K : Frag
  mg : Str → Option Value
  mb : Str → Option Value
  d : Nat
  /-- the first own lists, never dropped -/
  kn : Nat := 0
  /-- frames of callers: hidden, their slots may change -/
  out : List Addr := []

structure Gl (K : Frag) (mg mb : Str → Option Value) (h : Heap) : Prop where
  inK : K.In h
  g : h.Ns mainGlobals mg
  b : h.Ns builtinsNs mb
  nolimit : h.NoLimit
theorem Gl.mono {K : Frag} {mg mb : Str → Option Value} {h h' : Heap} (x : Gl K mg mb h) (k : HExt h h') : Gl K mg mb h' := ⟨x.inK.keeps k, x.g.keeps k, x.b.keeps k, x.nolimit.keeps k⟩
noncomputable def Cx.G (C : Cx) : Heap → Prop := Gl C.K C.mg C.mb

noncomputable def LoadsTo (env : Env) (h : Heap) (x : Str) (v : Value) : Prop :=
  (env.kindOf x = some .local ∧ ∃ m, h.Ns env.locals m ∧ m x = some v) ∨
  (env.kindOf x = some .cell ∧ ∃ c, env.cells.lookup x = some c ∧ h.IsCell c (some v)) ∨
  (env.kindOf x = some .free ∧ (x == ("__classdict__" : Str)) = false ∧ ∃ c, env.cells.lookup x = some c ∧ h.IsCell c (some v))

theorem LoadsTo.mono {env : Env} {h h' : Heap} (k : HExt h h') {x : Str} {v : Value} (l : LoadsTo env h x v) : LoadsTo env h' x v := by
  rcases l with ⟨a, m, b, c⟩ | ⟨a, c, b, d⟩ | ⟨a, n, c, b, d⟩
  · exact .inl ⟨a, m, b.keeps k, c⟩
  · exact .inr (.inl ⟨a, c, b, d.keeps k⟩)
  · exact .inr (.inr ⟨a, n, c, b, d.keeps k⟩)

noncomputable def Hh (H : List Addr) (ρ : List Addr) (h : Heap) : Heap := hideAll h (ρ ++ H)

theorem hide_mono {h h' : Heap} (k : HExt h h') (l : List Addr) : HExt (hideAll h l) (hideAll h' l) := fun b o e => by
  have hb : b ∉ l := fun m => by rw [hideAll_none l m] at e; cases e
  exact hideAll_get l (k _ _ (of_hideAll l e)) hb

structure RelE (C : Cx) (H : List Addr) (ρ : List Addr) (σ : St) (s : Shared) : Prop where
  g : C.G (Hh H ρ s.heap)
  low : ∀ a ∈ ρ ++ H, ∃ o, s.heap.get? a = some o
  names : ∀ x av, σ.loc x = some av → ∃ v, VR (Hh H ρ s.heap) ρ av v ∧ LoadsTo C.env s.heap x v
  own : ∀ (k : Nat) xs, σ.hp[k]? = some xs → ∃ (a : Addr) (vs : Array Value), ρ[k]? = some a ∧ s.heap.PlainList a vs ∧ VRs (Hh H ρ s.heap) ρ xs vs

theorem keeps_ext {s s' : Shared} (k : Keeps s s') : HExt s.heap s'.heap := by
  obtain ⟨h, tk, rfl, e⟩ := k; exact e
theorem keeps_refl (s : Shared) : Keeps s s := ⟨s.heap, s.toks, rfl, fun _ _ e => e⟩
theorem keeps_trans {a b c : Shared} (x : Keeps a b) (y : Keeps b c) : Keeps a c := by
  obtain ⟨h, tk, rfl, e⟩ := x
  obtain ⟨h', tk', rfl, e'⟩ := y
  exact ⟨h', tk', rfl, fun _ _ q => e' _ _ (e _ _ q)⟩
theorem keeps_tok (s : Shared) (t : Nat) : Keeps s { s with toks := t } := ⟨s.heap, t, rfl, fun _ _ e => e⟩
theorem keeps_push (s : Shared) (o : Obj) : Keeps s { s with heap := s.heap.push o } := ⟨_, s.toks, rfl, fun _ _ e => Heap.get?_push_of_some _ e⟩
theorem keeps_push_tok (s : Shared) (o : Obj) (t : Nat) : Keeps s { s with heap := s.heap.push o, toks := t } := ⟨_, t, rfl, fun _ _ e => Heap.get?_push_of_some _ e⟩

noncomputable def GMono (G : Heap → Prop) : Prop := ∀ h h', HExt h h' → G h → G h'

structure COk (C : Cx) : Prop where
  hh : C.A.handled = none
  depth : C.A.depth + C.d < recursionLimit
  units : C.A.units + 10 * C.d + 100 < cLine
  fk : C.env.scope.kind = .function
  eg : C.env.globals = mainGlobals
  eb : C.env.builtins = builtinsNs
  bb : ∀ x : Str, x ≠ "__name__" → C.mb x = bootBuiltins x
theorem COk.gm {C : Cx} (_ : COk C) : GMono C.G := fun _ _ k g => g.mono k

theorem ext_size {h h' : Heap} (k : HExt h h') {a : Addr} {o : Obj} (e : h.get? a = some o) : a < h'.objs.size := Heap.lt_size (k _ _ e)

theorem RelE.keeps {C : Cx} {H : List Addr} {ρ : List Addr} {σ : St} {s s' : Shared} (hg : GMono C.G) (R : RelE C H ρ σ s) (k : Keeps s s') : RelE C H ρ σ s' := by
  have e := keeps_ext k
  have eh := hide_mono e (ρ ++ H)
  exact ⟨hg _ _ eh R.g, fun a ha => let ⟨o, q⟩ := R.low a ha; ⟨o, e _ _ q⟩,
    fun x av q => let ⟨v, a, b⟩ := R.names x av q; ⟨v, a.mono eh, b.mono e⟩,
    fun k xs q => let ⟨a, vs, p1, p2, p3⟩ := R.own k xs q; ⟨a, vs, p1, p2.at fun o q => e _ _ q, p3.mono eh⟩⟩
end Mine
end
/-! Ev2 -/
section
open PySem PySem.W PyProof.Rows
namespace Mine

/-- an expression's value; the heap only grows -/
noncomputable def EV (C : Cx) (σ : St) (e : Expr) (v : AV) : Prop :=
  ∀ (H : List Addr) (ρ : List Addr) (s : Shared) (Q : Value → Shared → Prop) (E : Value → Shared → Prop), COk C → RelE C H ρ σ s →
    (∀ x s', Keeps s s' → VR (Hh H ρ s'.heap) ρ v x → Q x s') → wpAny (model C.prog C.w) C.A (eval e C.env) Q E s

noncomputable def EVb (C : Cx) (σ : St) (e : Expr) (b : Bool) : Prop :=
  ∀ (H : List Addr) (ρ : List Addr) (s : Shared) (Q : Bool → Shared → Prop) (E : Value → Shared → Prop), COk C → RelE C H ρ σ s →
    (∀ s', Keeps s s' → Q b s') → wpAny (model C.prog C.w) C.A (isTrue e C.env (eval e C.env)) Q E s

variable {C : Cx} {σ : St}

theorem Hh_keeps {H : List Addr} {ρ : List Addr} {s s' : Shared} (k : Keeps s s') : HExt (Hh H ρ s.heap) (Hh H ρ s'.heap) := hide_mono (keeps_ext k) _

/-- an object that is new is not hidden -/
theorem Hh_new {H : List Addr} {ρ : List Addr} {s : Shared} (R : RelE C H ρ σ s) {h' : Heap} {a : Addr} {o : Obj} (ha : s.heap.objs.size ≤ a) (e : h'.get? a = some o) : (Hh H ρ h').get? a = some o := by
  refine hideAll_get _ e fun m => ?_
  obtain ⟨o', q⟩ := R.low a m
  exact absurd (Heap.lt_size q) (Nat.not_lt.mpr ha)

theorem EV_name {x : Str} {p : Pos} {v : AV} (hv : σ.loc x = some v) (hd : (x == ("__debug__" : Str)) = false) : EV C σ (.Name x p) v := by
  intro H ρ s Q E hk R h
  replace hk := hk.fk
  obtain ⟨w, hw, hl⟩ := R.names x v hv
  refine wpAny_Name ?_ hd
  rcases hl with ⟨a, m, b, c⟩ | ⟨a, c, b, d⟩ | ⟨a, n, c, b, d⟩
  · exact wpAny_loadName_local hk a b c (h w s (keeps_refl s) hw)
  · exact wpAny_loadName_cell hk a b d (h w s (keeps_refl s) hw)
  · exact wpAny_loadName_free hk a b d (h w s (keeps_refl s) hw) n

theorem EV_int {i : Int} {k : Nat} {p : Pos} : EV C σ (.Constant (.int i) k p) (.fv (.int i)) := by
  intro H ρ s Q E _ R h
  exact wpAny_Constant_int (h _ _ (keeps_tok s _) (.fv (.int i _)))
theorem EV_none {k : Nat} {p : Pos} : EV C σ (.Constant .none k p) (.fv .none) := by
  intro H ρ s Q E _ R h
  exact wpAny_Constant_none (h _ _ (keeps_refl s) (.fv .none))
theorem EV_bool {b : Bool} {k : Nat} {p : Pos} : EV C σ (.Constant (.bool b) k p) (.fv (.bool b)) := by
  intro H ρ s Q E _ R h
  exact wpAny_Constant_bool (h _ _ (keeps_refl s) (.fv (.bool b)))
theorem EV_str {x : Str} {k : Nat} {p : Pos} (hl : okS x.cps.toList) : EV C σ (.Constant (.str x) k p) (.fv (.str x.cps.toList)) := by
  intro H ρ s Q E _ R h
  exact wpAny_Constant_str (h _ _ (keeps_tok s _) (.fv (by have := FR.str (h := Hh H ρ s.heap) x.cps.toList s.toks hl; simpa using this)))

/-- two operands, one behind the other -/
theorem ev_two {l r : Expr} {a b : AV} (hl : EV C σ l a) (hr : EV C σ r b) {H : List Addr} {ρ : List Addr} {s : Shared} {E : Value → Shared → Prop} {Q : Value → Value → Shared → Prop} (hg : COk C) (R : RelE C H ρ σ s)
    (h : ∀ x y s', Keeps s s' → VR (Hh H ρ s'.heap) ρ a x → VR (Hh H ρ s'.heap) ρ b y → Q x y s') :
    wpAny (model C.prog C.w) C.A (eval l C.env) (fun x s₁ => wpAny (model C.prog C.w) C.A (eval r C.env) (fun y s₂ => Q x y s₂) E s₁) E s :=
  hl H ρ s _ E hg R fun x s₁ k₁ v₁ => hr H ρ s₁ _ E hg (R.keeps hg.gm k₁) fun y s₂ k₂ v₂ => h x y s₂ (keeps_trans k₁ k₂) (v₁.mono (Hh_keeps k₂)) v₂

/-! operators -/
noncomputable def big : Nat := 10 ^ 15
noncomputable def intFV (k : Int → Int → Option FV) : FV → FV → Option FV
  | .int a, .int b => k a b
  | _, _ => none
noncomputable def addFV : FV → FV → Option FV
  | .int a, .int b => some (.int (a + b))
  | .str a, .str b => if a.length + b.length ≤ sizeLine then some (.str (a ++ b)) else none
  | .list a, .list b => if a.length + b.length ≤ sizeLine then some (.list (a ++ b)) else none
  | _, _ => none
noncomputable def binFV (op : Operator) (f g : FV) : Option FV := match op with
  | .Add => addFV f g
  | .Sub => intFV (fun a b => some (.int (a - b))) f g
  | .Mult => intFV (fun a b => if a.natAbs ≤ big then some (.int (a * b)) else none) f g
  | .FloorDiv => intFV (fun a b => if b ≠ 0 ∧ b.natAbs ≤ 1000000000 then some (.int (a.fdiv b)) else none) f g
  | .Mod => intFV (fun a b => if b ≠ 0 then some (.int (a.fmod b)) else none) f g
  | .Pow => intFV (fun a b => if 0 ≤ b ∧ b ≤ 100 ∧ a.natAbs ≤ big then some (.int (a ^ b.toNat)) else none) f g
  | _ => none
theorem intFV_inv {k : Int → Int → Option FV} {f g r : FV} (e : intFV k f g = some r) : ∃ a b, f = .int a ∧ g = .int b ∧ k a b = some r := by
  unfold intFV at e
  split at e
  · exact ⟨_, _, rfl, rfl, e⟩
  · cases e
theorem some_if {α : Type} {c : Prop} [Decidable c] {x y : α} (e : (if c then some x else none) = some y) : c ∧ x = y := by
  by_cases h : c
  · rw [if_pos h] at e; exact ⟨h, Option.some.inj e⟩
  · rw [if_neg h] at e; cases e

theorem FR.list_mk {h : Heap} {a : Addr} {vs : Array Value} {xs : List FV} (hp : h.PlainList a vs) (hb : vs.size ≤ sizeLine) (hi : Paired (FR h) xs vs.toList) : FR h (.list xs) (.ref a) := by
  have hlen : xs.length = vs.toList.length := hi.length
  refine .list hp (by simpa using hlen.symm) hb fun i x v e1 e2 => ?_
  have e2' : vs.toList[i]? = some v := by simpa using e2
  clear hp hb hlen e2
  generalize vs.toList = l at hi e2'
  induction hi generalizing i with
  | nil => cases e1
  | cons h1 _ ih =>
    cases i with
    | zero => simp at e1 e2'; subst e1 e2'; exact h1
    | succ i => exact ih i (by simpa using e1) (by simpa using e2')
theorem forall_of {h : Heap} : ∀ {xs : List FV} {l : List Value}, l.length = xs.length → (∀ (i : Nat) (x : FV) (v : Value), xs[i]? = some x → l[i]? = some v → FR h x v) → Paired (FR h) xs l
  | [], [], _, _ => .nil
  | x :: xs, v :: l, e, hi => .cons (hi 0 x v rfl rfl) (forall_of (by simpa using e) fun i y u e1 e2 => hi (i + 1) y u (by simpa using e1) (by simpa using e2))
  | [], _ :: _, e, _ => by simp at e
  | _ :: _, [], e, _ => by simp at e
theorem FR.list_inv {h : Heap} {xs : List FV} {v : Value} (r : FR h (.list xs) v) : ∃ a vs, v = .ref a ∧ h.PlainList a vs ∧ vs.size ≤ sizeLine ∧ Paired (FR h) xs vs.toList := by
  cases r with
  | list hp hs hb hi => exact ⟨_, _, rfl, hp, hb, forall_of (by rw [Array.length_toList]; exact hs) (fun i x v e1 e2 => hi i x v e1 (by simpa using e2))⟩
theorem FR.tup_mk {h : Heap} {a : Addr} {vs : Array Value} {xs : List FV} (hp : h.IsTuple a vs) (hb : vs.size ≤ sizeLine) (hi : Paired (FR h) xs vs.toList) : FR h (.tup xs) (.ref a) := by
  have hlen : xs.length = vs.toList.length := hi.length
  refine .tup hp (by simpa using hlen.symm) hb fun i x v e1 e2 => ?_
  have e2' : vs.toList[i]? = some v := by simpa using e2
  clear hp hb hlen e2
  generalize vs.toList = l at hi e2'
  induction hi generalizing i with
  | nil => cases e1
  | cons h1 _ ih =>
    cases i with
    | zero => simp at e1 e2'; subst e1 e2'; exact h1
    | succ i => exact ih i (by simpa using e1) (by simpa using e2')
theorem FR.tup_inv {h : Heap} {xs : List FV} {v : Value} (r : FR h (.tup xs) v) : ∃ a vs, v = .ref a ∧ h.IsTuple a vs ∧ vs.size ≤ sizeLine ∧ Paired (FR h) xs vs.toList := by
  cases r with
  | tup hp hs hb hi => exact ⟨_, _, rfl, hp, hb, forall_of (by rw [Array.length_toList]; exact hs) (fun i x v e1 e2 => hi i x v e1 (by simpa using e2))⟩
theorem f2_mono {h h' : Heap} (k : HExt h h') {xs : List FV} {l : List Value} (r : Paired (FR h) xs l) : Paired (FR h') xs l := by
  induction r with
  | nil => exact .nil
  | cons a _ ih => exact .cons (a.mono k) ih
theorem f2_append {h : Heap} {xs ys : List FV} {l m : List Value} (r : Paired (FR h) xs l) (q : Paired (FR h) ys m) : Paired (FR h) (xs ++ ys) (l ++ m) := by
  induction r with
  | nil => exact q
  | cons a _ ih => exact .cons a ih
theorem hide_plain {h : Heap} {l : List Addr} {a : Addr} {vs : Array Value} (p : (hideAll h l).PlainList a vs) : h.PlainList a vs := p.at fun _ e => of_hideAll l e
theorem hide_tuple {h : Heap} {l : List Addr} {a : Addr} {vs : Array Value} (p : (hideAll h l).IsTuple a vs) : h.IsTuple a vs := p.at fun _ e => of_hideAll l e
theorem str_eq (x : Str) : (⟨x.cps.toList.toArray⟩ : Str) = x := by cases x; simp

theorem str_app (a b : List Nat) : (⟨(a ++ b).toArray⟩ : Str) = ⟨a.toArray⟩ ++ ⟨b.toArray⟩ := congrArg Str.mk (by simp)
theorem add_ok {f g r : FV} (e : addFV f g = some r) {H : List Addr} {ρ : List Addr} {s : Shared} {x y : Value} {Q : Value → Shared → Prop} {E : Value → Shared → Prop} (R : RelE C H ρ σ s)
    (hx : FR (Hh H ρ s.heap) f x) (hy : FR (Hh H ρ s.heap) g y) (h : ∀ z s', Keeps s s' → FR (Hh H ρ s'.heap) r z → Q z s') :
    wpAny (model C.prog C.w) C.A (binaryOp .Add x y) Q E s := by
  unfold addFV at e
  split at e
  · cases e; cases hx; cases hy; exact add_int (h _ _ (keeps_tok s _) (.int _ _))
  · obtain ⟨hb, rfl⟩ := some_if e
    cases hx with | str _ _ ha => cases hy with | str _ _ hb' =>
    refine PyProof.Rows.add_str (fun t' tk => ?_) (by simpa [Str.length] using hb)
    refine h _ _ (keeps_tok s _) ?_
    have := FR.str (h := Hh H ρ s.heap) (_ ++ _) t' ⟨by simpa using hb, fun c hc => (List.mem_append.mp hc).elim (ha.2 c) (hb'.2 c)⟩
    rw [str_app] at this
    exact this
  · obtain ⟨hb, rfl⟩ := some_if e
    obtain ⟨l, vs, rfl, hp, hs, hf⟩ := hx.list_inv
    obtain ⟨m, us, rfl, hp', hs', hf'⟩ := hy.list_inv
    have e1 := hf.length
    have e2 := hf'.length
    obtain ⟨n, hn⟩ := hide_plain hp
    obtain ⟨n', hn'⟩ := hide_plain hp'
    have hsz : vs.size + us.size ≤ sizeLine := by simp at e1 e2; (first | lia | omega)
    refine PySem.P.add_list hn hn' (h _ _ (keeps_push s _) ?_) hsz
    refine FR.list_mk (vs := vs ++ us) ⟨0, Hh_new R (Nat.le_refl _) (Heap.get?_push_size _ rfl)⟩ (by simpa using hsz) ?_
    have k := Hh_keeps (H := H) (ρ := ρ) (keeps_push s { cls := .type "list", data := .seq (vs ++ us) })
    simpa using f2_append (f2_mono k hf) (f2_mono k hf')
  · cases e
theorem bin_ok {op : Operator} {f g r : FV} (e : binFV op f g = some r) {H : List Addr} {ρ : List Addr} {s : Shared} {x y : Value} {Q : Value → Shared → Prop} {E : Value → Shared → Prop} (R : RelE C H ρ σ s)
    (hx : FR (Hh H ρ s.heap) f x) (hy : FR (Hh H ρ s.heap) g y) (h : ∀ z s', Keeps s s' → FR (Hh H ρ s'.heap) r z → Q z s') :
    wpAny (model C.prog C.w) C.A (binaryOp op x y) Q E s := by
  have h' : ∀ (z : Int) t, r = .int z → Q (.int z t) { s with toks := s.toks + 1 } := fun z t e => h _ _ (keeps_tok s _) (e ▸ .int _ _)
  unfold binFV at e
  split at e
  · exact add_ok e R hx hy h
  all_goals first | (cases e; done) | (obtain ⟨a, b, rfl, rfl, e⟩ := intFV_inv e; cases hx; cases hy; clear h R)
  · exact sub_int (h' _ _ (Option.some.inj e).symm)
  · obtain ⟨hb, e⟩ := some_if e
    refine mul_int (h' _ _ e.symm) (IntMulOk.of_left (intBits_le_64 ?_ ?_)) <;> simp only [big] at hb <;> (first | lia | omega)
  · obtain ⟨hb, e⟩ := some_if e
    exact floordiv_int hb.1 (h' _ _ e.symm) (.inl (PyProof.noPylong_small (by (first | lia | omega))))
  · obtain ⟨hb, e⟩ := some_if e
    exact mod_int' hb (h' _ _ e.symm)
  · obtain ⟨hb, e⟩ := some_if e
    refine pow_int_small hb.1 (by (first | lia | omega)) ?_ (h' _ _ e.symm)
    have := hb.2.2; simp only [big] at this; (first | lia | omega)

theorem EV_bin {l r : Expr} {op : Operator} {p : Pos} {f g v : FV} (hl : EV C σ l (.fv f)) (hr : EV C σ r (.fv g)) (e : binFV op f g = some v) : EV C σ (.BinOp l op r p) (.fv v) := by
  intro H ρ s Q E hg R h
  refine wpAny_BinOp (ev_two hl hr hg R fun x y s' k hx hy => ?_)
  cases hx with | fv hx => cases hy with | fv hy =>
  exact bin_ok e (R.keeps hg.gm k) hx hy fun z s'' k' hz => h z s'' (keeps_trans k k') (.fv hz)
end Mine
end
/-! Ev3 -/
section
open PySem PySem.W PyProof.Rows
namespace Mine
variable {C : Cx} {σ : St}

mutual
noncomputable def toPy : FV → Option PyData
  | .none => some .none
  | .bool b => some (.bool b)
  | .int i => some (.int i)
  | .str l => some (.str ⟨l.toArray⟩)
  | .list xs => (toPys xs).map .list
  | .tup xs => (toPys xs).map .tuple
  | .mm _ => none
  | .obj _ => none
noncomputable def toPys : List FV → Option (List PyData)
  | [] => some []
  | x :: xs => match toPy x, toPys xs with
    | some d, some ds => some (d :: ds)
    | _, _ => none
end

theorem reads_all_of {h : Heap} : ∀ {xs : List FV} {l : List Value} {ds : List PyData}, Paired (FR h) xs l → toPys xs = some ds →
    (∀ x ∈ xs, ∀ v d, FR h x v → toPy x = some d → (∃ as, Reads h v d as) ∧ d.canLay0 = true) → (∃ as, ReadsAll h l ds as) ∧ PyData.canLayAll0 ds = true
  | [], _, _, .nil, e, _ => by rw [toPys] at e; cases e; exact ⟨⟨_, .nil⟩, rfl⟩
  | x :: xs, _, _, .cons (b := v) a r, e, ih => by
    rw [toPys] at e
    split at e
    · rename_i d ds h1 h2
      cases e
      obtain ⟨⟨as, ra⟩, c⟩ := ih x (List.mem_cons_self ..) v d a h1
      obtain ⟨⟨bs, rb⟩, cs⟩ := reads_all_of r h2 fun y hy => ih y (List.mem_cons_of_mem _ hy)
      exact ⟨⟨_, .cons ra rb⟩, by simp [PyData.canLayAll0, c, cs]⟩
    · cases e

theorem reads_of {h : Heap} {f : FV} {v : Value} (r : FR h f v) : ∀ {d : PyData}, toPy f = some d → (∃ as, Reads h v d as) ∧ d.canLay0 = true := by
  induction r with
  | none => intro d e; rw [toPy] at e; cases e; exact ⟨⟨_, .none⟩, rfl⟩
  | bool b => intro d e; rw [toPy] at e; cases e; exact ⟨⟨_, .bool b⟩, rfl⟩
  | int i t => intro d e; rw [toPy] at e; cases e; exact ⟨⟨_, .int i t⟩, rfl⟩
  | str l t hl => intro d e; rw [toPy] at e; cases e; exact ⟨⟨_, .str _ t⟩, by simp only [PyData.canLay0, PyData.strOk, List.all_toArray, List.all_eq_true, decide_eq_true_eq]; exact hl.2⟩
  | @list a vs xs hp hs hb hi ih =>
    intro d e
    rw [toPy] at e
    obtain ⟨ds, h1, rfl⟩ := Option.map_eq_some_iff.mp e
    have hf : Paired (FR h) xs vs.toList := forall_of (by rw [Array.length_toList]; exact hs) (fun i x v e1 e2 => hi i x v e1 (by simpa using e2))
    have : (∃ as, ReadsAll h vs.toList ds as) ∧ PyData.canLayAll0 ds = true := by
      clear hi hb e
      have ih' : ∀ (i : Nat) (x : FV) (v : Value), xs[i]? = some x → vs.toList[i]? = some v → ∀ {d : PyData}, toPy x = some d → (∃ as, Reads h v d as) ∧ d.canLay0 = true := fun i x v e1 e2 => ih i x v e1 (by simpa using e2)
      clear ih hp hs
      generalize vs.toList = l at hf ih'
      induction hf generalizing ds with
      | nil => rw [toPys] at h1; cases h1; exact ⟨⟨_, .nil⟩, rfl⟩
      | cons a r ihr =>
        rw [toPys] at h1
        split at h1
        · rename_i d ds' q1 q2
          cases h1
          obtain ⟨⟨as, ra⟩, c⟩ := ih' 0 _ _ rfl rfl q1
          obtain ⟨⟨bs, rb⟩, cs⟩ := ihr ds' q2 fun i x v e1 e2 => ih' (i + 1) x v (by simpa using e1) (by simpa using e2)
          exact ⟨⟨_, .cons ra rb⟩, by simp [PyData.canLayAll0, c, cs]⟩
        · cases h1
    obtain ⟨⟨as, ra⟩, c⟩ := this
    obtain ⟨n, hn⟩ := hp
    exact ⟨⟨_, .list hn rfl rfl ra⟩, by simpa [PyData.canLay0] using c⟩
  | @tup a vs xs hp hs hb hi ih =>
    intro d e
    rw [toPy] at e
    obtain ⟨ds, h1, rfl⟩ := Option.map_eq_some_iff.mp e
    have hf : Paired (FR h) xs vs.toList := forall_of (by rw [Array.length_toList]; exact hs) (fun i x v e1 e2 => hi i x v e1 (by simpa using e2))
    have : (∃ as, ReadsAll h vs.toList ds as) ∧ PyData.canLayAll0 ds = true := by
      clear hi hb e
      have ih' : ∀ (i : Nat) (x : FV) (v : Value), xs[i]? = some x → vs.toList[i]? = some v → ∀ {d : PyData}, toPy x = some d → (∃ as, Reads h v d as) ∧ d.canLay0 = true := fun i x v e1 e2 => ih i x v e1 (by simpa using e2)
      clear ih hp hs
      generalize vs.toList = l at hf ih'
      induction hf generalizing ds with
      | nil => rw [toPys] at h1; cases h1; exact ⟨⟨_, .nil⟩, rfl⟩
      | cons a r ihr =>
        rw [toPys] at h1
        split at h1
        · rename_i d ds' q1 q2
          cases h1
          obtain ⟨⟨as, ra⟩, c⟩ := ih' 0 _ _ rfl rfl q1
          obtain ⟨⟨bs, rb⟩, cs⟩ := ihr ds' q2 fun i x v e1 e2 => ih' (i + 1) x v (by simpa using e1) (by simpa using e2)
          exact ⟨⟨_, .cons ra rb⟩, by simp [PyData.canLayAll0, c, cs]⟩
        · cases h1
    obtain ⟨⟨as, ra⟩, c⟩ := this
    obtain ⟨o, ho, hc, n, hn⟩ := hp
    exact ⟨⟨_, .tuple ho hc hn ra⟩, by simpa [PyData.canLay0] using c⟩
  | mm => intro d e; rw [toPy] at e; cases e
  | obj => intro d e; rw [toPy] at e; cases e

noncomputable def isNone : FV → Bool
  | .none => true
  | _ => false

noncomputable def inPy (f : FV) (ys : List FV) : Option Bool := match toPy f, toPys ys with
  | some d, some ds => if min (PyData.depthAll ds) d.depth ≤ 50 then some (ds.any fun y => PyData.eqv y d) else none
  | _, _ => none
noncomputable def eqPy (f g : FV) : Option Bool := match toPy f, toPy g with
  | some d, some e => if min d.depth e.depth ≤ 50 then some (PyData.eqv d e) else none
  | _, _ => none
noncomputable def ltFV : FV → FV → Option Bool
  | .int a, .int b => some (decide (a < b))
  | _, _ => none
noncomputable def leFV : FV → FV → Option Bool
  | .int a, .int b => some (decide (a ≤ b))
  | _, _ => none
noncomputable def gtFV : FV → FV → Option Bool
  | .int a, .int b => some (decide (a > b))
  | _, _ => none
noncomputable def geFV : FV → FV → Option Bool
  | .int a, .int b => some (decide (a ≥ b))
  | _, _ => none
noncomputable def isFV : FV → FV → Option Bool
  | f, .none => some (isNone f)
  | .obj a, .obj b => some (decide (a = b))
  | .str _, .obj _ => some false
  | _, _ => none
noncomputable def inStr : FV → List Nat → Option Bool
  | .str [c], l => some (decide (c ∈ l))
  | _, _ => none
noncomputable def inFV (f : FV) : FV → Option Bool
  | .str l => inStr f l
  | .tup ys => inPy f ys
  | .list ys => inPy f ys
  | _ => none
noncomputable def cmpFV (op : CmpOp) (f g : FV) : Option Bool := match op with
  | .Lt => ltFV f g
  | .LtE => leFV f g
  | .Gt => gtFV f g
  | .GtE => geFV f g
  | .Is => isFV f g
  | .IsNot => (isFV f g).map not
  | .In => inFV f g
  | .NotIn => (inFV f g).map not
  | .Eq => eqPy f g
  | .NotEq => (eqPy f g).map not

theorem Reads.up {h : Heap} {l : List Addr} {v : Value} {d : PyData} {as : List Addr} (r : Reads (hideAll h l) v d as) : Reads h v d as := PyProof.Rows.Reads.keeps (fun _ _ e => of_hideAll l e) r

theorem ltFV_inv {f g : FV} {r : Bool} (e : ltFV f g = some r) : ∃ a b : Int, f = .int a ∧ g = .int b ∧ r = decide (a < b) := by
  unfold ltFV at e
  split at e
  · cases e; exact ⟨_, _, rfl, rfl, rfl⟩
  · cases e
theorem leFV_inv {f g : FV} {r : Bool} (e : leFV f g = some r) : ∃ a b : Int, f = .int a ∧ g = .int b ∧ r = decide (a ≤ b) := by
  unfold leFV at e
  split at e
  · cases e; exact ⟨_, _, rfl, rfl, rfl⟩
  · cases e
theorem gtFV_inv {f g : FV} {r : Bool} (e : gtFV f g = some r) : ∃ a b : Int, f = .int a ∧ g = .int b ∧ r = decide (a > b) := by
  unfold gtFV at e
  split at e
  · cases e; exact ⟨_, _, rfl, rfl, rfl⟩
  · cases e
theorem geFV_inv {f g : FV} {r : Bool} (e : geFV f g = some r) : ∃ a b : Int, f = .int a ∧ g = .int b ∧ r = decide (a ≥ b) := by
  unfold geFV at e
  split at e
  · cases e; exact ⟨_, _, rfl, rfl, rfl⟩
  · cases e
theorem eqPy_inv {f g : FV} {r : Bool} (e : eqPy f g = some r) : ∃ d d', toPy f = some d ∧ toPy g = some d' ∧ min d.depth d'.depth ≤ 50 ∧ r = PyData.eqv d d' := by
  unfold eqPy at e
  cases h1 : toPy f with
  | none => rw [h1] at e; cases e
  | some d =>
    cases h2 : toPy g with
    | none => rw [h1, h2] at e; cases e
    | some d' =>
      rw [h1, h2] at e
      by_cases q : min d.depth d'.depth ≤ 50
      · simp only [q, if_true, Option.some.injEq] at e
        exact ⟨d, d', rfl, rfl, q, e.symm⟩
      · simp [q] at e
theorem inPy_inv {f : FV} {ys : List FV} {r : Bool} (e : inPy f ys = some r) : ∃ d ds, toPy f = some d ∧ toPys ys = some ds ∧ min (PyData.depthAll ds) d.depth ≤ 50 ∧ r = ds.any fun y => PyData.eqv y d := by
  unfold inPy at e
  cases h1 : toPy f with
  | none => rw [h1] at e; cases e
  | some d =>
    cases h2 : toPys ys with
    | none => rw [h1, h2] at e; cases e
    | some d' =>
      rw [h1, h2] at e
      by_cases q : min (PyData.depthAll d') d.depth ≤ 50
      · simp only [q, if_true, Option.some.injEq] at e
        exact ⟨d, d', rfl, rfl, q, e.symm⟩
      · simp [q] at e
theorem inStr_inv {f : FV} {l : List Nat} {r : Bool} (e : inStr f l = some r) : ∃ c, f = .str [c] ∧ r = decide (c ∈ l) := by
  unfold inStr at e
  split at e
  · cases e; exact ⟨_, rfl, rfl⟩
  · cases e
theorem is_ok {f g : FV} {r : Bool} (e : isFV f g = some r) {H : List Addr} {ρ : List Addr} {s : Shared} {x y : Value} {Q : Value → Shared → Prop} {E : Value → Shared → Prop}
    (hx : FR (Hh H ρ s.heap) f x) (hy : FR (Hh H ρ s.heap) g y) :
    (Q (.bool r) s → wpAny (model C.prog C.w) C.A (compareOp .Is x y) Q E s) ∧ (Q (.bool (!r)) s → wpAny (model C.prog C.w) C.A (compareOp .IsNot x y) Q E s) := by
  unfold isFV at e
  split at e
  · cases e; cases hy
    refine ⟨fun h => is_none ?_, fun h => isNot_none ?_⟩ <;> cases hx <;> exact h
  · cases e; cases hx with | obj hp hc hd => cases hy with | obj hp' hc' hd' =>
    rename_i a b o o'
    by_cases q : a = b
    · subst q
      refine ⟨fun h => ?_, fun h => ?_⟩ <;> simp at h
      · exact wpAny_is_ref_self h
      · exact wpAny_isNot_ref_self h
    · have q1 := of_hideAll _ hp
      have q2 := of_hideAll _ hp'
      refine ⟨fun h => ?_, fun h => ?_⟩ <;> simp [q] at h
      · exact wpAny_is_ref_other q q1 q2 (by rw [hc]; simp) h
      · exact wpAny_isNot_ref_other q q1 q2 (by rw [hc]; simp) h
  · cases e; cases hx; cases hy
    exact ⟨fun h => wpAny_is_other rfl (by simp) h, fun h => wpAny_isNot_other rfl (by simp) h⟩
  · cases e
theorem inStr_ok {f : FV} {l : List Nat} {r : Bool} (e : inStr f l = some r) {h0 : Heap} {s : Shared} {x y : Value} {Q : Value → Shared → Prop} {E : Value → Shared → Prop}
    (hx : FR h0 f x) (hy : FR h0 (.str l) y) :
    (Q (.bool r) s → wpAny (model C.prog C.w) C.A (compareOp .In x y) Q E s) ∧ (Q (.bool (!r)) s → wpAny (model C.prog C.w) C.A (compareOp .NotIn x y) Q E s) := by
  obtain ⟨c, rfl, rfl⟩ := inStr_inv e
  cases hx; cases hy
  have q := StrLaws.found_one ⟨l.toArray⟩ c
  rw [show (#[c] : Array Nat) = [c].toArray from rfl] at q
  refine ⟨fun h => P.in_str ?_, fun h => P.notIn_str ?_⟩ <;> (rw [q]; exact h)
theorem inSeq_ok {f g : FV} {ys : List FV} {r : Bool} (hg0 : g = .tup ys ∨ g = .list ys) (e : inPy f ys = some r) (hu : C.A.units + 100 < cLine) {H : List Addr} {ρ : List Addr} {s : Shared} {x y : Value} {Q : Value → Shared → Prop} {E : Value → Shared → Prop}
    (hx : FR (Hh H ρ s.heap) f x) (hy : FR (Hh H ρ s.heap) g y) :
    (Q (.bool r) s → wpAny (model C.prog C.w) C.A (compareOp .In x y) Q E s) ∧ (Q (.bool (!r)) s → wpAny (model C.prog C.w) C.A (compareOp .NotIn x y) Q E s) := by
  obtain ⟨d, ds, h1, h2, hd, rfl⟩ := inPy_inv e
  obtain ⟨⟨as, ra⟩, ca⟩ := reads_of hx h1
  rcases hg0 with rfl | rfl
  · obtain ⟨a, vs, rfl, hp, hs, hf⟩ := hy.tup_inv
    obtain ⟨⟨bs, rb⟩, cb⟩ := reads_of hy (d := .tuple ds) (by rw [toPy, h2]; rfl)
    have cb' : PyData.canLayAll0 ds = true := by simpa [PyData.canLay0] using cb
    exact ⟨fun h => PySem.SeqAt.in_tuple_reads (Reads.up rb) (Reads.up ra) cb' ca (by (first | lia | omega)) h, fun h => PySem.SeqAt.notIn_tuple_reads (Reads.up rb) (Reads.up ra) cb' ca (by (first | lia | omega)) h⟩
  · obtain ⟨⟨bs, rb⟩, cb⟩ := reads_of hy (d := .list ds) (by rw [toPy, h2]; rfl)
    have cb' : PyData.canLayAll0 ds = true := by simpa [PyData.canLay0] using cb
    exact ⟨fun h => PySem.SeqAt.in_list_reads (Reads.up rb) (Reads.up ra) cb' ca (by (first | lia | omega)) h, fun h => PySem.SeqAt.notIn_list_reads (Reads.up rb) (Reads.up ra) cb' ca (by (first | lia | omega)) h⟩
theorem in_ok {f g : FV} {r : Bool} (e : inFV f g = some r) (hu : C.A.units + 100 < cLine) {H : List Addr} {ρ : List Addr} {s : Shared} {x y : Value} {Q : Value → Shared → Prop} {E : Value → Shared → Prop}
    (hx : FR (Hh H ρ s.heap) f x) (hy : FR (Hh H ρ s.heap) g y) :
    (Q (.bool r) s → wpAny (model C.prog C.w) C.A (compareOp .In x y) Q E s) ∧ (Q (.bool (!r)) s → wpAny (model C.prog C.w) C.A (compareOp .NotIn x y) Q E s) := by
  unfold inFV at e
  split at e
  · exact inStr_ok e hx hy
  · exact inSeq_ok (.inl rfl) e hu hx hy
  · exact inSeq_ok (.inr rfl) e hu hx hy
  · cases e

theorem cmp_ok {op : CmpOp} {f g : FV} {r : Bool} (e : cmpFV op f g = some r) (hg : COk C) {H : List Addr} {ρ : List Addr} {s : Shared} {x y : Value} {Q : Value → Shared → Prop} {E : Value → Shared → Prop}
    (hx : FR (Hh H ρ s.heap) f x) (hy : FR (Hh H ρ s.heap) g y) (h : ∀ s', Keeps s s' → Q (.bool r) s') :
    wpAny (model C.prog C.w) C.A (compareOp op x y) Q E s := by
  have hu := hg.units
  have kk := h _ (keeps_refl s)
  clear h
  cases op with
  | Lt => obtain ⟨a, b, rfl, rfl, rfl⟩ := ltFV_inv e; cases hx; cases hy; exact lt_int kk
  | LtE => obtain ⟨a, b, rfl, rfl, rfl⟩ := leFV_inv e; cases hx; cases hy; exact le_int kk
  | Gt => obtain ⟨a, b, rfl, rfl, rfl⟩ := gtFV_inv e; cases hx; cases hy; exact gt_int kk
  | GtE => obtain ⟨a, b, rfl, rfl, rfl⟩ := geFV_inv e; cases hx; cases hy; exact ge_int kk
  | Is => exact (is_ok e hx hy).1 kk
  | IsNot => obtain ⟨b, e', rfl⟩ := Option.map_eq_some_iff.mp e; exact (is_ok e' hx hy).2 kk
  | In => exact (in_ok e (by (first | lia | omega)) hx hy).1 kk
  | NotIn => obtain ⟨b, e', rfl⟩ := Option.map_eq_some_iff.mp e; exact (in_ok e' (by (first | lia | omega)) hx hy).2 kk
  | Eq =>
    obtain ⟨d, d', h1, h2, hd, rfl⟩ := eqPy_inv e
    obtain ⟨⟨as, ra⟩, ca⟩ := reads_of hx h1
    obtain ⟨⟨bs, rb⟩, cb⟩ := reads_of hy h2
    exact PySem.SeqAt.compareEq_reads (Reads.up ra) (Reads.up rb) ca cb (by (first | lia | omega)) kk
  | NotEq =>
    obtain ⟨b, e', rfl⟩ := Option.map_eq_some_iff.mp e
    obtain ⟨d, d', h1, h2, hd, rfl⟩ := eqPy_inv e'
    obtain ⟨⟨as, ra⟩, ca⟩ := reads_of hx h1
    obtain ⟨⟨bs, rb⟩, cb⟩ := reads_of hy h2
    exact PySem.SeqAt.compareNe_reads (Reads.up ra) (Reads.up rb) ca cb (by (first | lia | omega)) kk

end Mine
end
/-! Ev4 -/
section
open PySem PySem.W PyProof.Rows
namespace Mine
variable {C : Cx} {σ : St}

theorem EV_cmp {l r : Expr} {op : CmpOp} {p : Pos} {f g : FV} {b : Bool} (hl : EV C σ l (.fv f)) (hr : EV C σ r (.fv g)) (e : cmpFV op f g = some b) (hm : behindInMarks op r = false) :
    EV C σ (.Compare l [op] [r] p) (.fv (.bool b)) := by
  intro H ρ s Q E hg R h
  refine wpAny_Compare1 (ev_two hl hr hg R fun x y s' k hx hy => ?_) hm
  cases hx with | fv hx => cases hy with | fv hy =>
  exact cmp_ok e hg hx hy fun s'' k' => h _ _ (keeps_trans k k') (.fv (.bool b))

theorem EVb_cmp {l r : Expr} {op : CmpOp} {p : Pos} {f g : FV} {b : Bool} (hl : EV C σ l (.fv f)) (hr : EV C σ r (.fv g)) (e : cmpFV op f g = some b) (hm : behindInMarks op r = false) :
    EVb C σ (.Compare l [op] [r] p) b := by
  intro H ρ s Q E hg R h
  refine wpAny_isTrue_Compare1 (ev_two hl hr hg R fun x y s' k hx hy => ?_) hm
  cases hx with | fv hx => cases hy with | fv hy =>
  exact cmp_ok e hg hx hy fun s'' k' => wpAny_truthy_bool (h _ (keeps_trans k k'))

/-- `x is / is not` a list of the frame's own, `x in` a list of the frame's own -/
noncomputable def cmpAV (σ : St) : CmpOp → AV → AV → Option Bool
  | op, .fv f, .fv g => cmpFV op f g
  | .In, .fv f, .own k => match toPy f, (σ.hp[k]?).bind (fun l => toPys (l.filterMap fun | .fv g => some g | _ => none)) with
    | some d, some ds => if min (PyData.depthAll ds) d.depth ≤ 50 ∧ ((σ.hp[k]?).getD []).all (fun | .fv _ => true | _ => false) then some (ds.any fun y => PyData.eqv y d) else none
    | _, _ => none
  | _, _, _ => none

noncomputable def truthAV (σ : St) : AV → Option Bool
  | .fv (.bool b) => some b
  | .fv (.int i) => some (i != 0)
  | .fv .none => some false
  | .fv (.str l) => some (!l.isEmpty)
  | .fv (.list xs) => some (!xs.isEmpty)
  | .own k => (σ.hp[k]?).map fun xs => !xs.isEmpty
  | _ => none

theorem arr_empty {α β : Type} (vs : Array α) (xs : List β) (h : vs.size = xs.length) : vs.isEmpty = xs.isEmpty := by
  cases xs with
  | nil => simp at h; simp [h]
  | cons x r =>
    have : vs.size ≠ 0 := by rw [h]; simp
    simp [Array.isEmpty]
    intro q; rw [q] at this; simp at this

theorem truth_ok {v : AV} {b : Bool} (e : truthAV σ v = some b) {H : List Addr} {ρ : List Addr} {s : Shared} {x : Value} {Q : Bool → Shared → Prop} {E : Value → Shared → Prop} (R : RelE C H ρ σ s)
    (hx : VR (Hh H ρ s.heap) ρ v x) (h : ∀ s', Keeps s s' → Q b s') : wpAny (model C.prog C.w) C.A (truthy x) Q E s := by
  unfold truthAV at e
  split at e
  · cases e; cases hx with | fv hx => cases hx; exact wpAny_truthy_bool (h _ (keeps_refl s))
  · cases e; cases hx with | fv hx => cases hx; exact truthy_int (h _ (keeps_refl s))
  · cases e; cases hx with | fv hx => cases hx; exact truthy_none (h _ (keeps_refl s))
  · cases e
    cases hx with | fv hx =>
    cases hx with | str l t hl =>
    rename_i l
    have h1 := hl.1
    rw [sizeLine_eq] at h1
    refine PySem.P.truthy_str (by simp [Str.length]; (first | lia | omega)) ?_
    have : ((((⟨l.toArray⟩ : Str).length : Nat) : Int) != 0) = !l.isEmpty := by
      cases l with
      | nil => rfl
      | cons c r => simp [Str.length]; (first | lia | omega)
    rw [this]
    exact h _ (keeps_tok s _)
  · cases e; cases hx with | fv hx =>
    obtain ⟨a, vs, rfl, hp, hs, hf⟩ := hx.list_inv
    have e1 := hf.length
    refine wpAny_truthy_list (hide_plain hp).isList (by rw [sizeLine_eq] at hs; (first | lia | omega)) ?_
    rw [arr_empty vs _ (by simpa using e1.symm)]
    exact h _ (keeps_tok s _)
  · obtain ⟨xs, hk, rfl⟩ := Option.map_eq_some_iff.mp e
    cases hx with | own e1 =>
    obtain ⟨a, vs, e2, hp, hsz, hs, hi⟩ := R.own _ _ hk
    rw [e1] at e2; cases e2
    refine wpAny_truthy_list hp.isList (by rw [sizeLine_eq] at hs; (first | lia | omega)) ?_
    rw [arr_empty vs _ hsz]
    exact h _ (keeps_tok s _)
  · cases e

theorem EVb_value {e : Expr} {v : AV} {b : Bool} (hv : EV C σ e v) (ht : truthAV σ v = some b) (he : ∀ env whole, isTrue e env whole = (do let v ← whole; standAt e.pos; holding [v] (truthy v))) : EVb C σ e b := by
  intro H ρ s Q E hg R h
  exact wpAny_isTrue_value (hv H ρ s _ E hg R fun x s' k hx => truth_ok ht (R.keeps hg.gm k) hx fun s'' k' => h _ (keeps_trans k k')) (he _ _)

theorem EVb_not {e : Expr} {p : Pos} {b : Bool} (h : EVb C σ e b) : EVb C σ (.UnaryOp .Not e p) (!b) := by
  intro H ρ s Q E hg R hq
  exact wpAny_isTrue_Not (h H ρ s _ E hg R fun s' k => hq _ k)

theorem EV_not {e : Expr} {p : Pos} {v : AV} {b : Bool} (hv : EV C σ e v) (ht : truthAV σ v = some b) : EV C σ (.UnaryOp .Not e p) (.fv (.bool (!b))) := by
  intro H ρ s Q E hg R h
  exact wpAny_UnaryOp (hv H ρ s _ E hg R fun x s' k hx => not_value (truth_ok ht (R.keeps hg.gm k) hx fun s'' k' => h _ _ (keeps_trans k k') (.fv (.bool _))))

theorem EV_neg {e : Expr} {p : Pos} {i : Int} (hv : EV C σ e (.fv (.int i))) : EV C σ (.UnaryOp .USub e p) (.fv (.int (-i))) := by
  intro H ρ s Q E hg R h
  refine wpAny_UnaryOp (hv H ρ s _ E hg R fun x s' k hx => ?_)
  cases hx with | fv hx =>
  cases hx
  exact neg_int (h _ _ (keeps_trans k (keeps_tok s' _)) (.fv (.int _ _)))

/-! and, or under a test -/
noncomputable def EVall (C : Cx) (σ : St) (op : BoolOp) (es : List Expr) (b : Bool) : Prop :=
  ∀ (H : List Addr) (ρ : List Addr) (s : Shared) (Q : Bool → Shared → Prop) (E : Value → Shared → Prop), COk C → RelE C H ρ σ s →
    (∀ s', Keeps s s' → Q b s') → wpAny (model C.prog C.w) C.A (allTrue op es C.env) Q E s
theorem EVall_and_nil : EVall C σ .And [] true := fun _ _ s _ _ _ _ h => wpAny_allTrue_And_nil (h s (keeps_refl s))
theorem EVall_or_nil : EVall C σ .Or [] false := fun _ _ s _ _ _ _ h => wpAny_allTrue_Or_nil (h s (keeps_refl s))
theorem EVall_and_cons {e : Expr} {es : List Expr} {a b : Bool} (h : EVb C σ e a) (hr : a = true → EVall C σ .And es b) : EVall C σ .And (e :: es) (a && b) := by
  intro H ρ s Q E hg R hq
  refine wpAny_allTrue_And_cons (h H ρ s _ E hg R fun s' k => ?_)
  cases a with
  | true => exact hr rfl H ρ s' _ E hg (R.keeps hg.gm k) fun s'' k' => hq _ (keeps_trans k k')
  | false => exact hq _ k
theorem EVall_or_cons {e : Expr} {es : List Expr} {a b : Bool} (h : EVb C σ e a) (hr : a = false → EVall C σ .Or es b) : EVall C σ .Or (e :: es) (a || b) := by
  intro H ρ s Q E hg R hq
  refine wpAny_allTrue_Or_cons (h H ρ s _ E hg R fun s' k => ?_)
  cases a with
  | false => exact hr rfl H ρ s' _ E hg (R.keeps hg.gm k) fun s'' k' => hq _ (keeps_trans k k')
  | true => exact hq _ k
theorem EVb_bool {op : BoolOp} {es : List Expr} {p : Pos} {b : Bool} (h : EVall C σ op es b) : EVb C σ (.BoolOp op es p) b := by
  intro H ρ s Q E hg R hq
  exact wpAny_isTrue_BoolOp (h H ρ s _ E hg R hq)

/-! and, or as values -/
noncomputable def EVbo (C : Cx) (σ : St) (pos : Pos) (op : BoolOp) (es : List Expr) (v : AV) : Prop :=
  ∀ (H : List Addr) (ρ : List Addr) (s : Shared) (Q : Value → Shared → Prop) (E : Value → Shared → Prop), COk C → RelE C H ρ σ s →
    (∀ x s', Keeps s s' → VR (Hh H ρ s'.heap) ρ v x → Q x s') → wpAny (model C.prog C.w) C.A (boolOp pos op (evalEach es C.env)) Q E s
theorem EVbo_one {pos : Pos} {op : BoolOp} {e : Expr} {v : AV} (h : EV C σ e v) : EVbo C σ pos op [e] v := h
theorem EVbo_cons {pos : Pos} {op : BoolOp} {e e' : Expr} {es : List Expr} {v w : AV} {b : Bool} (h : EV C σ e v) (ht : truthAV σ v = some b)
    (hr : b = (op == .And) → EVbo C σ pos op (e' :: es) w) : EVbo C σ pos op (e :: e' :: es) (if b = (op == .And) then w else v) := by
  intro H ρ s Q E hg R hq
  show wpAny _ _ (do
    let v ← eval e C.env
    standAt pos
    let t ← holding [v] (truthy v)
    match op, t with
    | .And, false | .Or, true => pure v
    | _, _ => boolOp pos op (evalEach (e' :: es) C.env)) Q E s
  refine wpAny_bind (h H ρ s _ E hg R fun x s₁ k hx => wpAny_bind (wpAny_standAt (wpAny_bind (wpAny_holding (truth_ok ht (R.keeps hg.gm k) hx fun s₂ k' => ?_)))))
  have kk := keeps_trans k k'
  cases op <;> cases b
  · exact wpAny_pure (hq _ _ kk (hx.mono (Hh_keeps k')))
  · exact hr rfl H ρ s₂ _ E hg (R.keeps hg.gm kk) fun y s₃ k₃ hy => hq _ _ (keeps_trans kk k₃) hy
  · exact hr rfl H ρ s₂ _ E hg (R.keeps hg.gm kk) fun y s₃ k₃ hy => hq _ _ (keeps_trans kk k₃) hy
  · exact wpAny_pure (hq _ _ kk (hx.mono (Hh_keeps k')))
theorem EV_bop {op : BoolOp} {es : List Expr} {p : Pos} {v : AV} (h : EVbo C σ p op es v) : EV C σ (.BoolOp op es p) v := by
  intro H ρ s Q E hg R hq
  exact (show wpAny _ _ (boolOp p op (evalEach es C.env)) Q E s from h H ρ s Q E hg R hq)

theorem EV_if {t b o : Expr} {p : Pos} {v : AV} {c : Bool} (h : EVb C σ t c) (hr : EV C σ (if c then b else o) v) : EV C σ (.IfExp t b o p) v := by
  intro H ρ s Q E hg R hq
  refine wpAny_IfExp (h H ρ s _ E hg R fun s' k => ?_)
  cases c with
  | true => exact hr H ρ s' _ E hg (R.keeps hg.gm k) fun y s₃ k₃ hy => hq _ _ (keeps_trans k k₃) hy
  | false => exact hr H ρ s' _ E hg (R.keeps hg.gm k) fun y s₃ k₃ hy => hq _ _ (keeps_trans k k₃) hy

/-- a chain of two comparisons -/
theorem EV_chain2 {l r t : Expr} {o₁ o₂ : CmpOp} {p : Pos} {f g k : FV} {a b : Bool} (hl : EV C σ l (.fv f)) (hr : EV C σ r (.fv g)) (ht : EV C σ t (.fv k)) (e1 : cmpFV o₁ f g = some a) (e2 : cmpFV o₂ g k = some b)
    (hm : lastMarks [o₁, o₂] [r, t] = false) : EV C σ (.Compare l [o₁, o₂] [r, t] p) (.fv (.bool (a && b))) := by
  intro H ρ s Q E hg R h
  refine PyProof.Rows.Compare_chain (hl H ρ s _ E hg R fun x s₁ k₁ hx => ?_) hm
  show wpAny _ _ (do
    let rv ← holding [x] (eval r C.env)
    standAt p
    let c ← holding [x, rv] (compareOp o₁ x rv)
    release [x, rv] [c]
    if ← holding [c, rv] (truthy c) then compareChain p rv [o₂] [eval t C.env] else pure c) Q E s₁
  have R₁ := R.keeps hg.gm k₁
  refine wpAny_bind (wpAny_holding (hr H ρ s₁ _ E hg R₁ fun y s₂ k₂ hy => wpAny_bind (wpAny_standAt (wpAny_bind (wpAny_holding ?_)))))
  have hx' := hx.mono (Hh_keeps k₂)
  cases hx' with | fv hx' => cases hy with | fv hy =>
  refine cmp_ok e1 hg hx' hy fun s₃ k₃ => wpAny_bind (wpAny_release (wpAny_bind (wpAny_holding (wpAny_truthy_bool ?_))))
  have R₃ := (R₁.keeps hg.gm k₂).keeps hg.gm k₃
  have k13 := keeps_trans k₁ (keeps_trans k₂ k₃)
  cases a with
  | false => exact wpAny_pure (h _ _ k13 (.fv (.bool _)))
  | true =>
    show wpAny _ _ (do
      let rv ← holding [y] (eval t C.env)
      standAt p
      operate [y, rv] (compareOp o₂ y rv)) Q E s₃
    refine wpAny_bind (wpAny_holding (ht H ρ s₃ _ E hg R₃ fun z s₄ k₄ hz => wpAny_bind (wpAny_standAt (wpAny_operating ?_))))
    cases hz with | fv hz =>
    exact cmp_ok e2 hg ((hy.mono (Hh_keeps k₃)).mono (Hh_keeps k₄)) hz fun s₅ k₅ => h _ _ (keeps_trans k13 (keeps_trans k₄ k₅)) (.fv (.bool _))
end Mine
end
/-! Ev5 -/
section
open PySem PySem.W PyProof.Rows
namespace Mine
variable {C : Cx} {σ : St}

noncomputable def itemOf {α : Type} (xs : List α) (i : Int) : Option α := (seqIndex? i xs.length).bind (xs[·]?)

noncomputable def itemAV (σ : St) : AV → Int → Option AV
  | .fv (.str l), i => (itemOf l i).map fun c => .fv (.str [c])
  | .fv (.list xs), i => (itemOf xs i).map .fv
  | .fv (.tup xs), i => (itemOf xs i).map .fv
  | .own k, i => (σ.hp[k]?).bind fun xs => itemOf xs i
  | _, _ => none

theorem item_some {α : Type} {xs : List α} {i : Int} {x : α} (e : itemOf xs i = some x) : ∃ k, seqIndex? i xs.length = some k ∧ xs[k]? = some x ∧ k < xs.length ∧ (0 ≤ i ∧ k = i.toNat ∨ i < 0 ∧ (k : Int) = i + xs.length) := by
  obtain ⟨k, h1, h2⟩ := Option.bind_eq_some_iff.mp e
  refine ⟨k, h1, h2, (List.getElem?_eq_some_iff.mp h2).1, ?_⟩
  unfold seqIndex? at h1
  by_cases hi : i < 0
  · simp only [hi, if_true] at h1
    split at h1
    · rename_i hb
      simp at hb
      have := Option.some.inj h1
      right; exact ⟨hi, by (first | lia | omega)⟩
    · cases h1
  · simp only [hi, if_false] at h1
    split at h1
    · rename_i hb
      simp at hb
      have := Option.some.inj h1
      left; exact ⟨by (first | lia | omega), by (first | lia | omega)⟩
    · cases h1

theorem sub_str_lookup : ∃ id, typeLookup (.type "str") "__getitem__" = pure (some (.builtin id)) := ⟨_, PyProof.Rows.slot_str_getitem.lookup⟩

theorem getItem_list_any {s : Shared} {A : Around} {a : Addr} {vs : Array Value} {i : Int} {t : Tok} {n : Nat} {x : Value} {Q : Value → Shared → Prop} {E : Value → Shared → Prop} {prog : Program} {w : World}
    (hl : s.heap.IsList a vs) (hs : vs.size ≤ sizeLine) (hn : vs[n]? = some x) (hi : 0 ≤ i ∧ n = i.toNat ∨ i < 0 ∧ (n : Int) = i + vs.size) (h : Q x s) : wpAny (model prog w) A (getItem (.ref a) (.int i t)) Q E s := by
  have hlt : n < vs.size := (Array.getElem?_eq_some_iff.mp hn).1
  rw [sizeLine_eq] at hs
  rcases hi with ⟨h0, rfl⟩ | ⟨h0, h1⟩
  · exact wpAny_getItem_list hl h0 (by (first | lia | omega)) hn h
  · exact wpAny_getItem_list_neg hl h0 (by (first | lia | omega)) (by (first | lia | omega)) (by rw [show (i + vs.size).toNat = n by (first | lia | omega)]; exact hn) h

theorem item_ok {v r : AV} {i : Int} (e : itemAV σ v i = some r) {H : List Addr} {ρ : List Addr} {s : Shared} {x : Value} {t : Tok} {Q : Value → Shared → Prop} {E : Value → Shared → Prop} (R : RelE C H ρ σ s)
    (hx : VR (Hh H ρ s.heap) ρ v x) (h : ∀ y s', Keeps s s' → VR (Hh H ρ s'.heap) ρ r y → Q y s') : SubscriptOn (model C.prog C.w) C.A x (.int i t) Q E s := by
  unfold itemAV at e
  split at e
  · obtain ⟨c, h1, rfl⟩ := Option.map_eq_some_iff.mp e
    cases hx with | fv hx =>
    cases hx with | str l t' hl =>
    obtain ⟨k, e1, e2, hk, hi⟩ := item_some h1
    have hs := hl.1
    rw [sizeLine_eq] at hs
    refine ⟨"str", _, PyProof.Rows.slot_str_getitem.lookup, typeIs_str _ _ _, ?_⟩
    refine PyProof.Rows.getItem_str (c := c) (by simp; (first | lia | omega)) ?_ (h _ _ (keeps_tok s _) (.fv (.str [c] _ ⟨by rw [sizeLine_eq]; simp, fun d hd => hl.2 d (by simp at hd; subst hd; exact List.mem_of_getElem? e2)⟩)))
    show (seqIndex? i _).bind _ = some c
    rw [show (⟨_⟩ : Str).length = _ from List.size_toArray, e1]
    simpa using e2
  · obtain ⟨y, h1, rfl⟩ := Option.map_eq_some_iff.mp e
    cases hx with | fv hx =>
    obtain ⟨k, e1, e2, hk, hi⟩ := item_some h1
    cases hx with | @list a vs xs hp hs hb hh =>
    have hlt : k < vs.size := by (first | lia | omega)
    refine ⟨"list", _, slot_list_getitem.lookup, (hide_plain hp).isList.typeIs, ?_⟩
    exact getItem_list_any (n := k) (hide_plain hp).isList hb (x := vs[k]) (by simp [hlt]) (by rw [hs]; exact hi) (h _ _ (keeps_refl s) (.fv (hh k y _ e2 (by simp [hlt]))))
  · obtain ⟨y, h1, rfl⟩ := Option.map_eq_some_iff.mp e
    cases hx with | fv hx =>
    obtain ⟨k, e1, e2, hk, hi⟩ := item_some h1
    cases hx with | @tup a vs xs hp hs hb hh =>
    have hlt : k < vs.size := by (first | lia | omega)
    have hb' := hb
    rw [sizeLine_eq] at hb'
    refine ⟨"tuple", _, PyProof.Rows.slot_tuple_getitem.lookup, (hide_tuple hp).typeIs, ?_⟩
    exact PyProof.Rows.getItem_tuple (hide_tuple hp) (by (first | lia | omega)) (by (first | lia | omega)) (by rw [hs]; exact e1) (j := k) (x := vs[k]) (by simp [hlt]) (h _ _ (keeps_refl s) (.fv (hh k y _ e2 (by simp [hlt]))))
  · obtain ⟨xs, hk, h1⟩ := Option.bind_eq_some_iff.mp e
    cases hx with | own eo =>
    obtain ⟨a, vs, e2, hp, hsz, hs, hi⟩ := R.own _ _ hk
    rw [eo] at e2; cases e2
    obtain ⟨k, e1, e2, hk', hi'⟩ := item_some h1
    have hlt : k < vs.size := by (first | lia | omega)
    refine ⟨"list", _, slot_list_getitem.lookup, hp.isList.typeIs, ?_⟩
    exact getItem_list_any (n := k) hp.isList hs (x := vs[k]) (by simp [hlt]) (by rw [hsz]; exact hi') (h _ _ (keeps_refl s) (hi k r _ e2 (by simp [hlt])))
  · cases e

/-- no temporary goes: the object is a name's, or it is no reference -/
noncomputable def noTemp (value : Expr) (v : AV) : Bool := (match value with | .Name .. => true | _ => false) || (match v with | .fv (.str _) => true | _ => false)

theorem noTemp_ok {value : Expr} {v : AV} (e : noTemp value v = true) {h : Heap} {ρ : List Addr} {x : Value} (hx : VR h ρ v x) (r : Value) : letTemporaryGo value x r = pure () := by
  unfold noTemp at e
  rcases Bool.or_eq_true_iff.mp e with q | q
  · cases value <;> simp at q
    rfl
  · cases v with
    | fv f =>
      cases f <;> simp at q
      cases hx with | fv hx =>
      cases hx
      unfold letTemporaryGo
      split <;> first | rfl | (rename_i h1; cases h1)
    | own k => simp at q
    | app k => simp at q

theorem EV_sub {value slice : Expr} {p : Pos} {v r : AV} {i : Int} (hv : EV C σ value v) (hs : EV C σ slice (.fv (.int i))) (e : itemAV σ v i = some r) (hn : noTemp value v = true)
    (hsl : ∀ o j, subscripted slice false o j = operate [o, j] (getItem o j)) : EV C σ (.Subscript value slice p) r := by
  intro H ρ s Q E hg R h
  rw [eval_Subscript]
  refine wpAny_bind (hv H ρ s _ E hg R fun o s₁ k₁ ho => wpAny_bind (wpAny_holding (hs H ρ s₁ _ E hg (R.keeps hg.gm k₁) fun j s₂ k₂ hj => wpAny_bind (wpAny_standAt ?_))))
  cases hj with | fv hj =>
  cases hj with | int _ t =>
  have ho' := ho.mono (Hh_keeps k₂)
  have k12 := keeps_trans k₁ k₂
  have hq : SubscriptOn (model C.prog C.w) C.A o (.int i t) (fun y s' => Q y s') E s₂ := item_ok e (R.keeps hg.gm k12) ho' fun y s' k hy => h y s' (keeps_trans k12 k) hy
  obtain ⟨T, id, hl, hT, hgi⟩ := hq
  refine wpAny_bind ?_
  rw [getitemInPython_of_ne hT.not_modules]
  refine wpAny_bind (wpAny_specialOf hT hl ?_)
  have fin : wpAny (model C.prog C.w) C.A (subscripted slice false o (.int i t)) (fun r s₃ => wpAny (model C.prog C.w) C.A (letTemporaryGo value o r >>= fun _ => pure r) Q E s₃) E s₂ := by
    rw [hsl]
    exact wpAny_operating (wpAny_mono hgi (fun r s₃ h₃ => wpAny_bind (wpAny_of_eq (noTemp_ok hn ho r) (wpAny_pure h₃))) fun _ _ x => x)
  first
    | exact wpAny_pure (wpAny_bind fin)
    | exact wpAny_bind (wpAny_pure (wpAny_bind fin))
    | exact wpAny_bind fin
end Mine
end
/-! Ev6 -/
section
open PySem PySem.W PyProof.Rows PySem.Builtin PySem.Builtin.Str
namespace Mine
variable {C : Cx} {σ : St}

noncomputable def cutN {α : Type} (xs : List α) (lo hi : Option Int) : List α :=
  (xs.drop (lo.elim 0 (clipAt xs.length))).take (hi.elim xs.length (clipAt xs.length) - lo.elim 0 (clipAt xs.length))

noncomputable def EVp (C : Cx) (σ : St) : Option Expr → Option Int → Prop
  | none, none => True
  | some e, some i => EV C σ e (.fv (.int i))
  | _, _ => False

theorem evalPart_ok {e : Option Expr} {k : Option Int} (he : EVp C σ e k) {H : List Addr} {ρ : List Addr} {s : Shared} {Q : Value → Shared → Prop} {E : Value → Shared → Prop} (hg : COk C) (R : RelE C H ρ σ s)
    (h : ∀ l s', Keeps s s' → l.map (·.1) = k → Q (partValue l) s') : wpAny (model C.prog C.w) C.A (evalPart e C.env) Q E s := by
  cases e with
  | none =>
    cases k with
    | none => exact wpAny_evalPart_none (h none s (keeps_refl s) rfl)
    | some => exact he.elim
  | some e =>
    cases k with
    | none => exact he.elim
    | some i =>
      refine wpAny_evalPart_some (he H ρ s _ E hg R fun x s' kk hx => ?_)
      cases hx with | fv hx =>
      cases hx with | int _ t =>
      exact h (some (i, t)) s' kk rfl

theorem part_is {l : Option (Int × Tok)} : IsPart (partValue l) (l.map (·.1)) := by
  cases l with
  | none => exact .none
  | some p => exact .int p.1 p.2

theorem strSlice_eq (l : List Nat) (lo hi : Option Int) : (strSliceIndices lo hi 1 l.length).filterMap (l.toArray[·]?) = cutN l lo hi := by
  have h : strSliceIndices lo hi 1 l.length = sliceRange (sliceBounds lo hi none l.length).1 (sliceBounds lo hi none l.length).2.1 1 := by
    cases lo <;> cases hi <;> rfl
  rw [h, sliceBounds_plain, sliceRange_one, pick_run]
  rfl
theorem strIdx_eq (n : Nat) (lo hi : Option Int) : strSliceIndices lo hi 1 n = (List.range (hi.elim n (clipAt n) - lo.elim 0 (clipAt n))).map (lo.elim 0 (clipAt n) + ·) := by
  have h : strSliceIndices lo hi 1 n = sliceRange (sliceBounds lo hi none n).1 (sliceBounds lo hi none n).2.1 1 := by
    cases lo <;> cases hi <;> rfl
  rw [h, sliceBounds_plain, sliceRange_one]
theorem clipAt_le (n : Nat) (i : Int) : clipAt n i ≤ n := by
  have := clipAt_cast n i
  (first | lia | omega)

theorem cutN_length {α : Type} (xs : List α) (lo hi : Option Int) : (cutN xs lo hi).length ≤ xs.length := by
  unfold cutN
  rw [List.length_take, List.length_drop]
  (first | lia | omega)

theorem cutN_mem {α : Type} {xs : List α} {lo hi : Option Int} {x : α} (h : x ∈ cutN xs lo hi) : x ∈ xs := List.mem_of_mem_drop (List.mem_of_mem_take h)

theorem cutN_full {α : Type} (xs : List α) (lo hi : Option Int) (h : (cutN xs lo hi).length = xs.length) : cutN xs lo hi = xs := by
  unfold cutN at h ⊢
  rw [List.length_take, List.length_drop] at h
  by_cases hx : xs.length = 0
  · have : xs = [] := List.eq_nil_of_length_eq_zero hx
    subst this; simp
  · have h0 : lo.elim 0 (clipAt xs.length) = 0 := by (first | lia | omega)
    rw [h0, List.drop_zero]
    exact List.take_of_length_le (by (first | lia | omega))

theorem EV_slice_str {x : Str} {px p pos : Pos} {lower upper : Option Expr} {l : List Nat} {lo hi : Option Int} (hv : EV C σ (.Name x px) (.fv (.str l))) (hl : EVp C σ lower lo) (hu : EVp C σ upper hi) :
    EV C σ (.Subscript (.Name x px) (.Slice lower upper none p) pos) (.fv (.str (cutN l lo hi))) := by
  intro H ρ s Q E hg R h
  refine wpAny_Subscript_str_slice (hv H ρ s _ E hg R fun o s₁ k₁ ho => evalPart_ok hl hg (R.keeps hg.gm k₁) fun a s₂ k₂ ha => evalPart_ok hu hg ((R.keeps hg.gm k₁).keeps hg.gm k₂) fun b s₃ k₃ hb => ?_) (fun _ _ => rfl)
  cases ho with | fv ho =>
  cases ho with | str _ t hok =>
  refine ⟨_, t, a, b, rfl, rfl, rfl, ?_⟩
  have k13 := keeps_trans k₁ (keeps_trans k₂ k₃)
  have kp := keeps_trans k13 (keeps_push s₃ { cls := .type "slice", data := .fields #[partValue a, partValue b, .none] })
  have hp : slicePicked ⟨l.toArray⟩ a b none = strSliceIndices lo hi 1 l.length := by
    unfold slicePicked
    rw [ha, hb]
    rfl
  have hcut : ((slicePicked ⟨l.toArray⟩ a b none).filterMap ((⟨l.toArray⟩ : Str).cps[·]?)) = cutN l lo hi := by rw [hp]; exact strSlice_eq l lo hi
  have hokc : okS (cutN l lo hi) := ⟨Nat.le_trans (cutN_length l lo hi) hok.1, fun c hc => hok.2 c (cutN_mem hc)⟩
  unfold sliceMade
  split
  · rename_i hc
    simp only [Option.map_none, Option.getD_none, beq_self_eq_true, Bool.true_and, beq_iff_eq] at hc
    have hlen : (cutN l lo hi).length = l.length := by
      rw [show (⟨l.toArray⟩ : Str).length = l.length from List.size_toArray, hp, strIdx_eq] at hc
      simp only [List.length_map, List.length_range] at hc
      unfold cutN
      rw [List.length_take, List.length_drop]
      have : hi.elim l.length (clipAt l.length) ≤ l.length := by cases hi <;> simp [clipAt_le]
      (first | lia | omega)
    rw [cutN_full l lo hi hlen] at h
    exact h _ _ kp (.fv (.str _ t hok))
  · refine ⟨?_, ?_⟩
    · rw [hcut]; simpa [Str.length] using hokc.1
    · rw [hcut]
      exact h _ _ (keeps_trans kp (keeps_tok _ _)) (.fv (.str _ _ hokc))
end Mine
end
/-! Ev7 -/
section
open PySem PySem.W PyProof.Rows PySem.Builtin PySem.Builtin.Str
namespace Mine
variable {C : Cx} {σ : St}

theorem paired_drop {α β : Type} {F : α → β → Prop} : ∀ {xs : List α} {l : List β} (n : Nat), Paired F xs l → Paired F (xs.drop n) (l.drop n)
  | _, _, 0, h => by simpa using h
  | _, _, _ + 1, .nil => by simpa using Paired.nil
  | _, _, n + 1, .cons _ r => by simpa using paired_drop n r
theorem paired_take {α β : Type} {F : α → β → Prop} : ∀ {xs : List α} {l : List β} (n : Nat), Paired F xs l → Paired F (xs.take n) (l.take n)
  | _, _, 0, _ => by simpa using Paired.nil
  | _, _, _ + 1, .nil => by simpa using Paired.nil
  | _, _, n + 1, .cons a r => by simpa using Paired.cons a (paired_take n r)

theorem slice_paired {F : FV → Value → Prop} {xs : List FV} {vs : Array Value} (h : Paired F xs vs.toList) (lo hi : Option Int) : Paired F (cutN xs lo hi) (slicePick vs lo hi none).toList := by
  rw [slicePick_plain]
  have e : vs.size = xs.length := by have := h.length; simpa using this.symm
  rw [e]
  simp only [cutN]
  exact paired_take _ (paired_drop _ h)

theorem EV_slice_list {x : Str} {px p pos : Pos} {lower upper : Option Expr} {xs : List FV} {lo hi : Option Int} (hv : EV C σ (.Name x px) (.fv (.list xs))) (hl : EVp C σ lower lo) (hu : EVp C σ upper hi) :
    EV C σ (.Subscript (.Name x px) (.Slice lower upper none p) pos) (.fv (.list (cutN xs lo hi))) := by
  intro H ρ s Q E hg R h
  refine wpAny_Subscript_list_slice (hv H ρ s _ E hg R fun o s₁ k₁ ho => evalPart_ok hl hg (R.keeps hg.gm k₁) fun a s₂ k₂ ha => evalPart_ok hu hg ((R.keeps hg.gm k₁).keeps hg.gm k₂) fun b s₃ k₃ hb => ?_) (fun _ _ => rfl)
  cases ho with | fv ho =>
  have k13 := keeps_trans k₁ (keeps_trans k₂ k₃)
  obtain ⟨l, vs, rfl, hp, hs, hf⟩ := ho.list_inv
  have R₃ := R.keeps hg.gm k13
  refine ⟨l, vs, lo, hi, rfl, ((hide_plain hp).at fun o e => keeps_ext (keeps_trans k₂ k₃) _ o e).isList, hs, ha ▸ part_is, hb ▸ part_is, ?_⟩
  have kA := keeps_push s₃ { cls := .type "slice", data := .fields #[partValue a, partValue b, .none] }
  have kB := keeps_push { s₃ with heap := s₃.heap.push { cls := .type "slice", data := .fields #[partValue a, partValue b, .none] } } { cls := .type "list", data := .seq (slicePick vs lo hi none) }
  have kk := keeps_trans k13 (keeps_trans kA kB)
  refine h _ _ kk (.fv ?_)
  refine FR.list_mk (vs := slicePick vs lo hi none) ⟨0, Hh_new R₃ (Nat.le_succ _) ?_⟩ (Nat.le_trans (slicePick_size_le ..) hs) ?_
  · have := Heap.get?_push_size (s₃.heap.push { cls := .type "slice", data := .fields #[partValue a, partValue b, .none] }) (o := { cls := .type "list", data := .seq (slicePick vs lo hi none) }) rfl
    rw [Heap.size_push] at this
    exact this
  · exact f2_mono (Hh_keeps (keeps_trans (keeps_trans k₂ k₃) (keeps_trans kA kB))) (slice_paired hf lo hi)

/-! displays -/
inductive EVs (C : Cx) (σ : St) : List Expr → List AV → Prop
  | nil : EVs C σ [] []
  | cons {e : Expr} {es : List Expr} {v : AV} {vs : List AV} (h : EV C σ e v) (r : EVs C σ es vs) (hs : starEach (e :: es) C.env = (false, eval e C.env) :: starEach es C.env) : EVs C σ (e :: es) (v :: vs)

theorem spliced_ok {pos : Pos} : ∀ {es : List Expr} {vs : List AV}, EVs C σ es vs → ∀ {H : List Addr} {ρ : List Addr} {s : Shared} {Q : List Value → Shared → Prop} {E : Value → Shared → Prop}, COk C → RelE C H ρ σ s →
    (∀ l s', Keeps s s' → Paired (VR (Hh H ρ s'.heap) ρ) vs l → Q l s') → wpAny (model C.prog C.w) C.A (spliced (backTo pos (starEach es C.env))) Q E s
  | [], _, .nil, H, ρ, s, Q, E, _, _, h => spliced_none (h [] s (keeps_refl s) .nil)
  | e :: es, v :: vs, .cons hv hr hs, H, ρ, s, Q, E, hg, R, h => by
    refine spliced_more (hv H ρ s _ E hg R fun x s₁ k₁ hx => spliced_ok hr hg (R.keeps hg.gm k₁) fun l s₂ k₂ hl => ?_) hs
    exact h _ s₂ (keeps_trans k₁ k₂) (.cons (hx.mono (Hh_keeps k₂)) hl)

theorem EV_list {es : List Expr} {p : Pos} {xs : List FV} (h : EVs C σ es (xs.map .fv)) (hl : xs.length ≤ 1000) : EV C σ (.List es p) (.fv (.list xs)) := by
  intro H ρ s Q E hg R hq
  refine wpAny_List (spliced_ok h hg R fun l s' k hp => ?_)
  have e := hp.length
  have hsz : l.length ≤ sizeLine := by rw [sizeLine_eq]; simp at e; (first | lia | omega)
  refine ⟨hsz, hq _ _ (keeps_trans k (keeps_push _ _)) (.fv (FR.list_mk (vs := l.toArray) ⟨0, Hh_new (R.keeps hg.gm k) (Nat.le_refl _) (Heap.get?_push_size _ rfl)⟩ (by simpa using hsz) ?_))⟩
  have hf : Paired (FR (Hh H ρ s'.heap)) xs l := by
    clear e hsz hl h hq
    induction xs generalizing l with
    | nil => cases hp; exact .nil
    | cons x r ih =>
      cases hp with | cons a b =>
      cases a with | fv a =>
      exact .cons a (ih _ b)
  simpa using f2_mono (Hh_keeps (keeps_push s' { cls := .type "list", data := .seq l.toArray })) hf

theorem EV_tuple {es : List Expr} {k : Nat} {p : Pos} {xs : List FV} (h : EVs C σ es (xs.map .fv)) (hl : xs.length ≤ 1000) : EV C σ (.Tuple es k p) (.fv (.tup xs)) := by
  intro H ρ s Q E hg R hq
  refine wpAny_Tuple (spliced_ok h hg R fun l s' k hp => ?_)
  have e := hp.length
  have hsz : l.length ≤ sizeLine := by rw [sizeLine_eq]; simp at e; (first | lia | omega)
  refine ⟨hsz, hq _ _ (keeps_trans k (keeps_push _ _)) (.fv (FR.tup_mk (vs := l.toArray) ⟨_, Hh_new (R.keeps hg.gm k) (Nat.le_refl _) (Heap.get?_push_size _ rfl), rfl, _, rfl⟩ (by simpa using hsz) ?_))⟩
  have hf : Paired (FR (Hh H ρ s'.heap)) xs l := by
    clear e hsz hl h hq
    induction xs generalizing l with
    | nil => cases hp; exact .nil
    | cons x r ih =>
      cases hp with | cons a b =>
      cases a with | fv a =>
      exact .cons a (ih _ b)
  simpa using f2_mono (Hh_keeps (keeps_push s' { cls := .type "tuple", data := .seq l.toArray })) hf

/-! f-strings of texts -/
inductive EVj (C : Cx) (σ : St) : List Expr → List Nat → Prop
  | nil : EVj C σ [] []
  | lit {x : Str} {k : Nat} {p : Pos} {es : List Expr} {l : List Nat} (h : okS x.cps.toList) (r : EVj C σ es l) : EVj C σ (.Constant (.str x) k p :: es) (x.cps.toList ++ l)
  | val {e : Expr} {p : Pos} {es : List Expr} {a l : List Nat} (h : EV C σ e (.fv (.str a))) (r : EVj C σ es l) : EVj C σ (.FormattedValue e (-1) none p :: es) (a ++ l)

theorem joinParts_ok {es : List Expr} {l : List Nat} (hj : EVj C σ es l) : ∀ {acc : List Nat} {H : List Addr} {ρ : List Addr} {s : Shared} {Q : Value → Shared → Prop} {E : Value → Shared → Prop}, COk C → RelE C H ρ σ s → okS acc → (acc ++ l).length ≤ sizeLine →
    (∀ x s', Keeps s s' → FR (Hh H ρ s'.heap) (.str (acc ++ l)) x → Q x s') → wpAny (model C.prog C.w) C.A (joinParts ⟨acc.toArray⟩ (evalEach es C.env)) Q E s := by
  induction hj with
  | nil =>
    intro acc H ρ s Q E _ _ ha hl h
    refine joinParts_nil (h _ _ (keeps_tok s _) ?_) (by simpa [Str.length] using ha.1)
    rw [List.append_nil]; exact .str acc _ ha
  | @lit x k p es l hx _ ih =>
    intro acc H ρ s Q E hg R ha hl h
    show wpAny _ _ (joinParts _ (eval (.Constant (.str x) k p) C.env :: evalEach es C.env)) Q E s
    have e : (⟨acc.toArray⟩ : Str) ++ x = ⟨(acc ++ x.cps.toList).toArray⟩ := by rw [str_app, str_eq]
    have hl' : (acc ++ x.cps.toList).length ≤ sizeLine := by simp only [List.length_append] at hl ⊢; (first | lia | omega)
    refine joinParts_cons (wpAny_Constant_str ⟨by rw [e]; simpa [Str.length] using hl', ?_⟩)
    rw [e]
    have k1 := keeps_tok s (s.toks + 1)
    refine ih hg (R.keeps hg.gm k1) ⟨hl', fun c hc => (List.mem_append.mp hc).elim (ha.2 c) (hx.2 c)⟩ (by rw [List.append_assoc]; exact hl) fun y s' k hy => h y s' (keeps_trans k1 k) (by rw [List.append_assoc] at hy; exact hy)
  | @val e p es a l he _ ih =>
    intro acc H ρ s Q E hg R ha hl h
    show wpAny _ _ (joinParts _ (eval (.FormattedValue e (-1) none p) C.env :: evalEach es C.env)) Q E s
    refine joinParts_cons (FormattedValue_plain (he H ρ s _ E hg R fun x s₁ k₁ hx => ?_))
    cases hx with | fv hx =>
    cases hx with | str _ t hok =>
    have hl' : (acc ++ a).length ≤ sizeLine := by simp only [List.length_append] at hl ⊢; (first | lia | omega)
    refine formatField_str (fun t' tk => ⟨by rw [← str_app]; simpa [Str.length] using hl', ?_⟩) (by simpa [Str.length] using hok.1)
    rw [← str_app]
    have k2 := keeps_trans k₁ (keeps_tok s₁ tk)
    refine ih hg (R.keeps hg.gm k2) ⟨hl', fun c hc => (List.mem_append.mp hc).elim (ha.2 c) (hok.2 c)⟩ (by rw [List.append_assoc]; exact hl) fun y s' k hy => h y s' (keeps_trans k2 k) (by rw [List.append_assoc] at hy; exact hy)

theorem EV_joined {v₁ v₂ : Expr} {rest : List Expr} {p : Pos} {l : List Nat} (h : EVj C σ (v₁ :: v₂ :: rest) l) (hl : l.length ≤ sizeLine) : EV C σ (.JoinedStr (v₁ :: v₂ :: rest) p) (.fv (.str l)) := by
  intro H ρ s Q E hg R hq
  exact JoinedStr_many (joinParts_ok (acc := []) h hg R ⟨by simp, fun c hc => by cases hc⟩ (by simpa using hl) fun x s' k hx => hq x s' k (.fv (by simpa using hx)))
end Mine
end
/-! Ev8 -/
section
open PySem PySem.W PyProof.Rows PySem.Builtin PySem.Builtin.Str
namespace Mine
variable {C : Cx} {σ : St}

theorem Hh_g {H : List Addr} {ρ : List Addr} {s : Shared} (R : RelE C H ρ σ s) : Gl C.K C.mg C.mb s.heap := R.g.mono fun _ _ e => of_hideAll _ e

/-- a global name that is a built-in -/
theorem glob_builtin {x : Str} {p : Pos} {v : Value} {H : List Addr} {ρ : List Addr} {s : Shared} {Q : Value → Shared → Prop} {E : Value → Shared → Prop} (hg : COk C) (R : RelE C H ρ σ s)
    (hx : C.env.kindOf x = some .globalImplicit) (hd : (x == ("__debug__" : Str)) = false) (hm : C.mg x = none) (hn : x ≠ "__name__") (hb : bootBuiltins x = some v) (h : Q v s) :
    wpAny (model C.prog C.w) C.A (eval (.Name x p) C.env) Q E s :=
  Calls.Name_function_global hg.fk hx (Calls.loadGlobal_builtin (by rw [hg.eg]; exact (Hh_g R).g) hm (by rw [hg.eb]; exact (Hh_g R).b) ((hg.bb x hn).trans hb) h) hd
theorem glob_def {x : Str} {p : Pos} {v : Value} {H : List Addr} {ρ : List Addr} {s : Shared} {Q : Value → Shared → Prop} {E : Value → Shared → Prop} (hg : COk C) (R : RelE C H ρ σ s)
    (hx : C.env.kindOf x = some .globalImplicit) (hd : (x == ("__debug__" : Str)) = false) (hm : C.mg x = some v) (h : Q v s) :
    wpAny (model C.prog C.w) C.A (eval (.Name x p) C.env) Q E s :=
  Calls.Name_function_global hg.fk hx (Calls.loadGlobal_global (by rw [hg.eg]; exact (Hh_g R).g) hm h) hd

structure Bi (C : Cx) (x : Str) (v : Value) : Prop where
  hx : C.env.kindOf x = some .globalImplicit
  hd : (x == ("__debug__" : Str)) = false
  hm : C.mg x = none
  hn : x ≠ "__name__"
  hb : bootBuiltins x = some v

/-- a built-in of one argument -/
theorem EV_bi1 {x : Str} {np p : Pos} {id : String} {e : Expr} {v r : AV} (b : Bi C x (.builtin id)) (he : EV C σ e v) (hs : starEach [e] C.env = [(false, eval e C.env)])
    (h : ∀ (H : List Addr) (ρ : List Addr) (s : Shared) (y : Value) (Q : Value → Shared → Prop) (E : Value → Shared → Prop), COk C → RelE C H ρ σ s → VR (Hh H ρ s.heap) ρ v y → (∀ z s', Keeps s s' → VR (Hh H ρ s'.heap) ρ r z → Q z s') →
      wpAny (model C.prog C.w) C.A (call (.builtin id) [y]) Q E s) : EV C σ (.Call (.Name x np) [e] [] p) r := by
  intro H ρ s Q E hg R hq
  refine wpAny_Call_NameR (glob_builtin hg R b.hx b.hd b.hm b.hn b.hb ?_)
  refine PyProof.Rows.callWith_builtin1 (PyProof.Rows.spliced_more (he H ρ s _ E hg R fun y s₁ k₁ hy => PyProof.Rows.spliced_none ?_) hs) hs
  exact h H ρ s₁ y _ E hg (R.keeps hg.gm k₁) hy fun z s₂ k₂ hz => hq z s₂ (keeps_trans k₁ k₂) hz
theorem EV_ty1 {x : Str} {np p : Pos} {T : String} {e : Expr} {v r : AV} (b : Bi C x (.type T)) (he : EV C σ e v) (hs : starEach [e] C.env = [(false, eval e C.env)])
    (h : ∀ (H : List Addr) (ρ : List Addr) (s : Shared) (y : Value) (Q : Value → Shared → Prop) (E : Value → Shared → Prop), COk C → RelE C H ρ σ s → VR (Hh H ρ s.heap) ρ v y → (∀ z s', Keeps s s' → VR (Hh H ρ s'.heap) ρ r z → Q z s') →
      wpAny (model C.prog C.w) C.A (call (.type T) [y]) Q E s) : EV C σ (.Call (.Name x np) [e] [] p) r := by
  intro H ρ s Q E hg R hq
  refine wpAny_Call_NameR (glob_builtin hg R b.hx b.hd b.hm b.hn b.hb ?_)
  refine PyProof.Rows.callWith_type1 (PyProof.Rows.spliced_more (he H ρ s _ E hg R fun y s₁ k₁ hy => PyProof.Rows.spliced_none ?_) hs) hs
  exact h H ρ s₁ y _ E hg (R.keeps hg.gm k₁) hy fun z s₂ k₂ hz => hq z s₂ (keeps_trans k₁ k₂) hz

noncomputable def lenAV (σ : St) : AV → Option Nat
  | .fv (.str l) => some l.length
  | .fv (.list xs) => some xs.length
  | .own k => (σ.hp[k]?).map (·.length)
  | _ => none

theorem EV_len {np p : Pos} {e : Expr} {v : AV} {n : Nat} (b : Bi C "len" (.builtin "len")) (he : EV C σ e v) (hn : lenAV σ v = some n) (hs : starEach [e] C.env = [(false, eval e C.env)]) :
    EV C σ (.Call (.Name "len" np) [e] [] p) (.fv (.int n)) := by
  refine EV_bi1 b he hs fun H ρ s y Q E hg R hy h => ?_
  unfold lenAV at hn
  split at hn
  · cases hn
    cases hy with | fv hy =>
    cases hy with | str l t hok =>
    rename_i l
    have h1 := hok.1
    rw [sizeLine_eq] at h1
    refine PySem.P.len_str (by simp [Str.length]; (first | lia | omega)) ?_
    have : (((⟨l.toArray⟩ : Str).length : Nat) : Int) = l.length := by simp [Str.length]
    rw [this]
    exact h _ _ (keeps_tok s _) (.fv (.int _ _))
  · cases hn
    cases hy with | fv hy =>
    obtain ⟨a, vs, rfl, hp, hsz, hf⟩ := hy.list_inv
    have e1 := hf.length
    refine Calls.call_len_list (hide_plain hp).isList (by rw [sizeLine_eq] at hsz; (first | lia | omega)) ?_
    rw [show vs.size = _ from (by simpa using e1.symm)]
    exact h _ _ (keeps_tok s _) (.fv (.int _ _))
  · obtain ⟨xs, hk, rfl⟩ := Option.map_eq_some_iff.mp hn
    cases hy with | own eo =>
    obtain ⟨a, vs, e2, hp, hsz, hs', hi⟩ := R.own _ _ hk
    rw [eo] at e2; cases e2
    refine Calls.call_len_list hp.isList (by rw [sizeLine_eq] at hs'; (first | lia | omega)) ?_
    rw [hsz]
    exact h _ _ (keeps_tok s _) (.fv (.int _ _))
  · cases hn

theorem EV_intOf {np p : Pos} {e : Expr} {i : Int} (b : Bi C "int" (.type "int")) (he : EV C σ e (.fv (.int i))) (hs : starEach [e] C.env = [(false, eval e C.env)]) :
    EV C σ (.Call (.Name "int" np) [e] [] p) (.fv (.int i)) := by
  refine EV_ty1 b he hs fun H ρ s y Q E hg R hy h => ?_
  cases hy with | fv hy =>
  cases hy with | int _ t =>
  exact call_int_int (h _ _ (keeps_refl s) (.fv (.int _ _)))

/-! calls of the program's defs -/
noncomputable def CallsTo (K : Frag) (mg mb : Str → Option Value) (prog : Program) (w : World) (d : Nat) (f : Addr) (args : List FV) (r : FV) : Prop :=
  ∀ (A : Around) (hid : List Addr) (s : Shared) (vs : List Value) (Q : Value → Shared → Prop) (E : Value → Shared → Prop), A.handled = none → A.depth + d < recursionLimit → A.units + 10 * d + 100 < cLine →
    (∀ x : Str, x ≠ "__name__" → mb x = bootBuiltins x) → Gl K mg mb (hideAll s.heap hid) → (∀ a ∈ hid, ∃ o, s.heap.get? a = some o) → Paired (FR (hideAll s.heap hid)) args vs →
    (∀ x s', Keeps s s' → FR (hideAll s'.heap hid) r x → Q x s') → wpAny (model prog w) A (call (.ref f) vs) Q E s

structure Df (C : Cx) (x : Str) (f : Addr) : Prop where
  hx : C.env.kindOf x = some .globalImplicit
  hd : (x == ("__debug__" : Str)) = false
  hm : C.mg x = some (.ref f)
  ho : ∃ o fd, C.K.lookup f = some o ∧ o.data = .func fd

theorem EV_call {x : Str} {np p : Pos} {f : Addr} {e : Expr} {es : List Expr} {args : List FV} {r : FV} {d : Nat} (D : Df C x f) (hc : CallsTo C.K C.mg C.mb C.prog C.w d f args r) (hd : d ≤ C.d) (he : EVs C σ (e :: es) (args.map .fv))
    (hs : starEach (e :: es) C.env = (false, eval e C.env) :: starEach es C.env):
    EV C σ (.Call (.Name x np) (e :: es) [] p) (.fv r) := by
  intro H ρ s Q E hg R hq
  refine wpAny_Call_NameR (glob_def hg R D.hx D.hd D.hm ?_)
  obtain ⟨o, fd, ho, hfd⟩ := D.ho
  refine PyProof.Rows.callWith_def hfd (spliced_ok he hg R fun l s₁ k₁ hl => ?_) hs
  have R₁ := R.keeps hg.gm k₁
  refine ⟨(Hh_g R₁).inK _ _ ho, ?_⟩
  have hu := hg.units
  have hdp := hg.depth
  have hargs : Paired (FR (hideAll s₁.heap (ρ ++ H))) args l := by
    clear he hs hc hq
    induction args generalizing l with
    | nil => cases hl; exact .nil
    | cons a as ih =>
      cases hl with | cons q r =>
      cases q with | fv q =>
      exact .cons q (ih _ r)
  exact hc C.A (ρ ++ H) s₁ l Q E hg.hh (by (first | lia | omega)) (by (first | lia | omega)) hg.bb R₁.g R₁.low hargs fun y s₂ k₂ hy => hq y s₂ (keeps_trans k₁ k₂) (.fv hy)
end Mine
end
/-! Ev9 -/
section
open PySem PySem.W PyProof.Rows PySem.Builtin PySem.Builtin.Str
namespace Mine
variable {C : Cx} {σ : St}

noncomputable def StrsAV (σ : St) (v : AV) (ls : List (List Nat)) : Prop := v = .fv (.list (ls.map .str)) ∨ ∃ k, v = .own k ∧ σ.hp[k]? = some (ls.map fun l => .fv (.str l))

theorem glued_nil (ls : List (List Nat)) : Txt.join ⟨#[]⟩ (ls.map fun l => (⟨l.toArray⟩ : Str)) = ⟨ls.flatten.toArray⟩ := by
  show glued _ _ = _
  rw [StrLaws.glued_eq_join]
  induction ls with
  | nil => rfl
  | cons l r ih =>
    cases r with
    | nil => simp [Str.join]
    | cons l' r' =>
      simp only [List.map_cons] at ih ⊢
      rw [Str.join, ih]
      · rw [show ((⟨l.toArray⟩ : Str) ++ ⟨#[]⟩) = ⟨l.toArray⟩ from congrArg Str.mk (by simp), ← str_app]
        simp
      · intro h; cases h

theorem strs_list {σ : St} {v : AV} {ls : List (List Nat)} (h : StrsAV σ v ls) {H : List Addr} {ρ : List Addr} {s : Shared} {x : Value} (R : RelE C H ρ σ s) (hx : VR (Hh H ρ s.heap) ρ v x) :
    ∃ D l, x = .ref D ∧ s.heap.IsList D (strValues l).toArray ∧ l.map (·.1) = ls.map (fun l => (⟨l.toArray⟩ : Str)) ∧ ∀ l ∈ ls, okS l := by
  have key : ∀ (ls : List (List Nat)) (vs : List Value), Paired (FR (Hh H ρ s.heap)) (ls.map .str) vs → ∃ l, vs = strValues l ∧ l.map (·.1) = ls.map (fun l => (⟨l.toArray⟩ : Str)) ∧ ∀ l ∈ ls, okS l := by
    intro ls
    induction ls with
    | nil => intro vs h; cases h; exact ⟨[], rfl, rfl, fun _ h => by cases h⟩
    | cons a r ih =>
      intro vs h
      cases h with | cons p q =>
      obtain ⟨l, rfl, e, ho⟩ := ih _ q
      cases p with | str _ t hok =>
      exact ⟨(⟨a.toArray⟩, t) :: l, rfl, by simp [e], fun b hb => (List.mem_cons.mp hb).elim (fun e => e ▸ hok) (ho b)⟩
  rcases h with rfl | ⟨k, rfl, hk⟩
  · cases hx with | fv hx =>
    obtain ⟨a, vs, rfl, hp, hs, hf⟩ := hx.list_inv
    obtain ⟨l, e, e2, ho⟩ := key ls vs.toList hf
    exact ⟨a, l, rfl, by rw [← e]; simpa using (hide_plain hp).isList, e2, ho⟩
  · cases hx with | own eo =>
    obtain ⟨a, vs, e2, hp, hsz, hs, hi⟩ := R.own _ _ hk
    rw [eo] at e2; cases e2
    have hf : Paired (FR (Hh H ρ s.heap)) (ls.map .str) vs.toList := by
      refine forall_of (by simpa using hsz) fun i x v e1 e2 => ?_
      have e1' : (ls.map fun l => AV.fv (.str l))[i]? = some (.fv x) := by
        rw [List.getElem?_map] at e1 ⊢
        obtain ⟨a, h1, rfl⟩ := Option.map_eq_some_iff.mp e1
        rw [h1]; rfl
      have := hi i (.fv x) v e1' (by simpa using e2)
      cases this with | fv r => exact r
    obtain ⟨l, e, e2, ho⟩ := key ls vs.toList hf
    exact ⟨_, l, rfl, by rw [← e]; simpa using hp.isList, e2, ho⟩

theorem EV_join {sep : Str} {kk : Nat} {ap p sp : Pos} {e : Expr} {v : AV} {ls : List (List Nat)} (hsep : sep.cps = #[]) (he : EV C σ e v) (hv : StrsAV σ v ls) (hb : ls.flatten.length ≤ 100000)
    (hbase : attributeBase (.Constant (.str sep) kk sp) "join" C.env (eval (.Constant (.str sep) kk sp) C.env) = eval (.Constant (.str sep) kk sp) C.env) (hline : (ap.endLine == p.line) = true)
    (ht : backTo p (starEach [e] C.env) = [(false, eval e C.env)]) :
    EV C σ (.Call (.Attribute (.Constant (.str sep) kk sp) "join" ap) [e] [] p) (.fv (.str ls.flatten)) := by
  intro H ρ s Q E hg R hq
  have hsep' : sep = ⟨#[]⟩ := by cases sep; simp at hsep; rw [hsep]
  subst hsep'
  refine wpAny_Call_method1_late hbase hline ht (wpAny_Constant_str ?_)
  have k1 := keeps_tok s (s.toks + 1)
  refine ⟨"str", "str.join", PySem.F.plainAttrs_str, PySem.F.slot_str_join, PySem.F.type_str_join, typeIs_str _ _ _, fun a h => (by cases h), ?_⟩
  refine Calls.callWith_builtin rfl (Calls.evalArgs_plain (Calls.spliced_cons (he H ρ _ _ E hg (R.keeps hg.gm k1) fun x s₂ k₂ hx => Calls.spliced_nil ?_)))
  have R₂ := (R.keeps hg.gm k1).keeps hg.gm k₂
  obtain ⟨D, l, rfl, hl, e2, ho⟩ := strs_list hv R₂ hx
  refine PySem.SC.join hl e2 (PyProof.Rows.joinOk_of ?_) fun t' k => ?_
  · have : ∀ ls : List (List Nat), ((ls.map fun l => (⟨l.toArray⟩ : Str)).map (·.length)).sum = ls.flatten.length := by
      intro ls
      induction ls with
      | nil => rfl
      | cons a r ih => simp only [List.map_cons, List.sum_cons, ih, List.flatten_cons, List.length_append]; simp [Str.length]
    rw [this]
    show _ + _ * 0 ≤ _
    (first | lia | omega)
  · rw [glued_nil]
    refine hq _ _ (keeps_trans k1 (keeps_trans k₂ (keeps_tok s₂ k))) (.fv (.str _ _ ⟨by rw [sizeLine_eq]; (first | lia | omega), fun c hc => ?_⟩))
    obtain ⟨a, ha, hca⟩ := List.mem_flatten.mp hc
    exact (ho a ha).2 c hca

/-! count -/
noncomputable def scalar : FV → Bool
  | .none | .bool _ | .int _ | .str _ => true
  | _ => false
noncomputable def eqS : FV → FV → Bool
  | .none, .none => true
  | .str a, .str b => a == b
  | _, _ => false
noncomputable def scal : FV → Bool
  | .none | .str _ => true
  | _ => false
noncomputable def datOf : Value → PyData
  | .str x _ => .str x
  | _ => .none

theorem flat_none : PyProof.V.Flat .none .none := fun _ => .none
theorem flat_str (x : Str) (t : Tok) : PyProof.V.Flat (.str x t) (.str x) := fun _ => .str x t

theorem scal_flat {h : Heap} {f : FV} {v : Value} (hs : scal f = true) (r : FR h f v) : PyProof.V.Flat v (datOf v) := by
  cases r <;> simp [scal] at hs
  · exact flat_none
  · exact flat_str _ _

theorem eqv_scal {h : Heap} {f g : FV} {v u : Value} (hf : scal f = true) (hg : scal g = true) (r : FR h f v) (q : FR h g u) : PyData.eqv (datOf v) (datOf u) = eqS f g := by
  cases r <;> simp [scal] at hf <;> cases q <;> simp [scal] at hg <;> simp [datOf, PyData.eqv, eqS]
  rename_i l t hl l' t' hl'
  by_cases e : l = l'
  · subst e; simp
  · have : ¬ ((⟨l.toArray⟩ : Str) = ⟨l'.toArray⟩) := fun q => e (by have := congrArg Str.cps q; simpa using this)
    rw [beq_eq_false_iff_ne.mpr e, beq_eq_false_iff_ne.mpr this]

theorem EV_count {o e : Expr} {ap p : Pos} {xs : List FV} {f : FV} (ho : EV C σ o (.fv (.list xs))) (he : EV C σ e (.fv f)) (hxs : xs.all scal = true) (hf : scal f = true)
    (hbase : attributeBase o "count" C.env (eval o C.env) = eval o C.env) (hline : (ap.endLine == p.line) = true) (ht : backTo p (starEach [e] C.env) = [(false, eval e C.env)]) :
    EV C σ (.Call (.Attribute o "count" ap) [e] [] p) (.fv (.int (xs.countP fun y => eqS y f : Nat))) := by
  intro H ρ s Q E hg R hq
  refine wpAny_Call_method1_late hbase hline ht (ho H ρ s _ E hg R fun x s₁ k₁ hx => ?_)
  cases hx with | fv hx =>
  obtain ⟨a, vs, rfl, hp, hs, hfs⟩ := hx.list_inv
  have R₁ := R.keeps hg.gm k₁
  obtain ⟨n, hn⟩ := hide_plain hp
  refine ⟨"list", "list.count", PySem.F.plainAttrs_list, PySem.F.slot_list_count, PySem.F.type_list_count, (hide_plain hp).isList.typeIs, fun b hb => (by cases hb; exact ⟨_, hn, rfl⟩), ?_⟩
  refine Calls.callWith_builtin rfl (Calls.evalArgs_plain (Calls.spliced_cons (he H ρ _ _ E hg R₁ fun y s₂ k₂ hy => Calls.spliced_nil ?_)))
  cases hy with | fv hy =>
  have hn₂ := keeps_ext k₂ _ _ hn
  have hfs₂ := f2_mono (Hh_keeps k₂) hfs
  refine call_meets PySem.F.slot_list_count ⟨_, hn₂, rfl⟩ PySem.F.entry_list_count (PySem.F.args_list_count_2 _ _) (SeqAt.list_countAt a vs n none #[] y (fun z => PyData.eqv (datOf z) (datOf y))) ⟨hn₂, fun z hz => ?_, ?_⟩
  · have hz' : z ∈ vs.toList := by simpa using hz
    obtain ⟨g, hgz, hgs⟩ : ∃ g, FR (Hh H ρ s₂.heap) g z ∧ scal g = true := by
      clear hq hs hx hp hn hn₂ hfs hz ho he
      generalize vs.toList = l at hfs₂ hz'
      induction hfs₂ with
      | nil => cases hz'
      | cons r q ih =>
        simp only [List.all_cons, Bool.and_eq_true] at hxs
        rcases List.mem_cons.mp hz' with rfl | h'
        · exact ⟨_, r, hxs.1⟩
        · exact ih hxs.2 h'
    exact keq_flat (scal_flat hgs hgz) (scal_flat hf hy)
  · have hc : vs.toList.countP (fun z => PyData.eqv (datOf z) (datOf y)) = xs.countP fun y => eqS y f := by
      clear hq hs hx hp hn hn₂ hfs ho he
      generalize vs.toList = l at hfs₂
      induction hfs₂ with
      | nil => rfl
      | cons r q ih =>
        simp only [List.all_cons, Bool.and_eq_true] at hxs
        rw [List.countP_cons, List.countP_cons, ih hxs.2, eqv_scal hxs.1 hf r hy]
    rw [hc]
    exact hq _ _ (keeps_trans k₁ (keeps_trans k₂ (keeps_tok s₂ _))) (.fv (.int _ _))
end Mine
end
/-! Ex1 -/
section
open PySem PySem.W PyProof.Rows PySem.Builtin PySem.Builtin.Str
namespace Mine
variable {C : Cx} {σ : St}

noncomputable abbrev CellsIn (C : Cx) (h : Heap) : Prop := ∀ x c, C.env.cells.lookup x = some c → c ∈ C.mu ∧ ∃ v, h.IsCell c v
theorem cells_to {h h' : Heap} (x : CellsIn C h) (k : ∀ c v o, c ∈ C.mu → h.get? c = some o → o.data = .cell v → h'.get? c = some o) : CellsIn C h' := fun n c e => by
  obtain ⟨hm, v, o, e1, e2⟩ := x n c e
  exact ⟨hm, v, o, k c v o hm e1 e2, e2⟩
theorem ns_ne_cell {h : Heap} {L c : Addr} {m : Str → Option Value} {o : Obj} {v : Option Value} (hm : h.Ns L m) (e : h.get? c = some o) (d : o.data = .cell v) : c ≠ L := fun q => by
  obtain ⟨o', es, ep, r1, r2, _⟩ := hm
  rw [q, r1] at e; cases e
  rw [r2] at d; cases d

structure Rel (C : Cx) (H : List Addr) (ρ : List Addr) (σ : St) (s : Shared) : Prop where
  e : RelE C H ρ σ s
  nd : ρ.Nodup ∧ True ∧ ∀ a ∈ ρ, ∀ b ∈ H, a ≠ b
  len : ρ.length = σ.hp.length
  ns : ∃ m, s.heap.Ns C.env.locals m
  loc : C.env.locals ∈ C.mu
  sub : ∀ a ∈ C.mu, a ∈ H
  cl : CellsIn C s.heap
  out : ∀ b ∈ C.out, b ∈ H ∧ b ∉ C.mu

structure Step (C : Cx) (ρ : List Addr) (s : Shared) (ρ' : List Addr) (s' : Shared) : Prop where
  same : ∃ h tk, s' = { s with heap := h, toks := tk }
  kept : ∀ b o, b ∉ ρ → b ∉ C.mu → s.heap.get? b = some o → ∃ sl, s'.heap.get? b = some { o with slots := sl } ∧ (b ∉ C.out → sl = o.slots)
  fresh : ∀ a ∈ ρ', a ∈ ρ ∨ s.heap.get? a = none
  pre : ∀ (k : Nat) (a : Addr), k < C.kn → ρ[k]? = some a → ρ'[k]? = some a

theorem Step.keep {ρ ρ' : List Addr} {s s' : Shared} (st : Step C ρ s ρ' s') (b : Addr) (o : Obj) (h1 : b ∉ ρ) (h2 : b ∉ C.mu) (h3 : b ∉ C.out) (e : s.heap.get? b = some o) : s'.heap.get? b = some o := by
  obtain ⟨sl, q, r⟩ := st.kept b o h1 h2 e
  rw [r h3] at q; exact q
theorem kept_of {h' : Heap} {b : Addr} {o : Obj} {out : List Addr} (e : h'.get? b = some o) : ∃ sl, h'.get? b = some { o with slots := sl } ∧ (b ∉ out → sl = o.slots) := ⟨o.slots, e, fun _ => rfl⟩
theorem kept_trans {h₂ h₃ : Heap} {b : Addr} {o : Obj} {out : List Addr} (x : ∃ sl, h₂.get? b = some { o with slots := sl } ∧ (b ∉ out → sl = o.slots)) (y : ∀ o, h₂.get? b = some o → ∃ sl, h₃.get? b = some { o with slots := sl } ∧ (b ∉ out → sl = o.slots)) :
    ∃ sl, h₃.get? b = some { o with slots := sl } ∧ (b ∉ out → sl = o.slots) := by
  obtain ⟨sl, a, c⟩ := x
  obtain ⟨sl', a', c'⟩ := y _ a
  exact ⟨sl', a', fun h => (c' h).trans (c h)⟩

theorem Step.refl {ρ : List Addr} {s : Shared} : Step C ρ s ρ s := ⟨⟨_, _, rfl⟩, fun _ _ _ _ e => kept_of e, fun _ h => .inl h, fun _ _ _ e => e⟩
theorem Step.trans {ρ₁ ρ₂ ρ₃ : List Addr} {s₁ s₂ s₃ : Shared} (a : Step C ρ₁ s₁ ρ₂ s₂) (b : Step C ρ₂ s₂ ρ₃ s₃) (hm : ∀ x ∈ ρ₃, x ∉ C.mu) : Step C ρ₁ s₁ ρ₃ s₃ := by
  obtain ⟨h, tk, rfl⟩ := a.same
  obtain ⟨h', tk', rfl⟩ := b.same
  refine ⟨⟨h', tk', rfl⟩, fun x o hx hm e => ?_, fun x hx => ?_, fun k x hk e => b.pre k x hk (a.pre k x hk e)⟩
  · refine kept_trans (a.kept x o hx hm e) fun o₂ e₂ => b.kept x o₂ (fun h2 => ?_) hm e₂
    rcases a.fresh x h2 with h3 | h3
    · exact hx h3
    · rw [h3] at e; cases e
  · by_cases hx1 : x ∈ ρ₁
    · exact .inl hx1
    · right
      cases e : s₁.heap.get? x with
      | none => rfl
      | some o =>
        obtain ⟨sl, e₂, _⟩ := a.kept x o hx1 (hm x hx) e
        rcases b.fresh x hx with h3 | h3
        · rcases a.fresh x h3 with h4 | h4
          · exact absurd h4 hx1
          · rw [h4] at e; cases e
        · rw [h3] at e₂; cases e₂
theorem Step.of_keeps {ρ : List Addr} {s s' : Shared} (k : Keeps s s') : Step C ρ s ρ s' := by
  obtain ⟨h, tk, rfl, e⟩ := k
  exact ⟨⟨h, tk, rfl⟩, fun b o _ _ q => kept_of (e b o q), fun _ h => .inl h, fun _ _ _ e => e⟩
theorem Rel.nmut {H : List Addr} {ρ : List Addr} {s : Shared} (R : Rel C H ρ σ s) : ∀ x ∈ ρ, x ∉ C.mu := fun x hx hm => by
  have := R.nd
  exact this.2.2 x hx x (R.sub x hm) rfl
theorem Rel.keeps {H : List Addr} {ρ : List Addr} {s s' : Shared} (hg : COk C) (R : Rel C H ρ σ s) (k : Keeps s s') : Rel C H ρ σ s' :=
  ⟨R.e.keeps hg.gm k, R.nd, R.len, let ⟨m, q⟩ := R.ns; ⟨m, q.keeps (keeps_ext k)⟩, R.loc, R.sub, cells_to R.cl fun c _ o _ e _ => keeps_ext k c o e, R.out⟩

inductive Out where
  | next | brk | cont
  | ret (v : AV)

inductive OutIs (h : Heap) (ρ : List Addr) : Out → Flow → Prop
  | next : OutIs h ρ .next .next
  | brk : OutIs h ρ .brk .brk
  | cont : OutIs h ρ .cont .cont
  | ret {v : AV} {x : Value} (r : VR h ρ v x) : OutIs h ρ (.ret v) (.ret x)

/-- what holds behind a block -/
inductive Post (C : Cx) (H : List Addr) (ρ : List Addr) (s : Shared) (P : Out → St → Prop) (f : Flow) (s' : Shared) : Prop
  | mk (ρ' : List Addr) (σ' : St) (o : Out) (R : Rel C H ρ' σ' s') (st : Step C ρ s ρ' s') (oi : OutIs (Hh H ρ' s'.heap) ρ' o f) (hp : P o σ')
/-- what a loop's code gives -/
inductive PostR (C : Cx) (H : List Addr) (ρ : List Addr) (s : Shared) (P : Out → St → Prop) (r : Result) (s' : Shared) : Prop
  | mk (f : Flow) (hr : r = .ok f) (hp : Post C H ρ s P f s')

noncomputable def EX (C : Cx) (σ : St) (b : List Stmt) (P : Out → St → Prop) : Prop :=
  ∀ (H : List Addr) (ρ : List Addr) (s : Shared), COk C → Rel C H ρ σ s → wpAny (model C.prog C.w) C.A (execs b C.env) (Post C H ρ s P) (fun _ _ => False) s
/-- one statement -/
noncomputable def EX1 (C : Cx) (σ : St) (b : Stmt) (P : Out → St → Prop) : Prop :=
  ∀ (H : List Addr) (ρ : List Addr) (s : Shared), COk C → Rel C H ρ σ s → wpAny (model C.prog C.w) C.A (exec b C.env) (Post C H ρ s P) (fun _ _ => False) s

variable {P : Out → St → Prop}

theorem Post.pre {H : List Addr} {ρ ρ₁ : List Addr} {s s₁ : Shared} {f : Flow} {s' : Shared} (a : Step C ρ s ρ₁ s₁) (h : Post C H ρ₁ s₁ P f s') : Post C H ρ s P f s' := by
  obtain ⟨ρ', σ', o, R, st, oi, hp⟩ := h
  exact ⟨ρ', σ', o, R, a.trans st R.nmut, oi, hp⟩

theorem EX_nil (h : P .next σ) : EX C σ [] P := fun H ρ s _ R => wpAny_execs_nil ⟨ρ, σ, .next, R, .refl, .next, h⟩

noncomputable def Then (C : Cx) (b : List Stmt) (P : Out → St → Prop) : Out → St → Prop := fun o σ' => match o with | .next => EX C σ' b P | o => P o σ'
noncomputable def Turn (J : St → Prop) (P : Out → St → Prop) : Out → St → Prop := fun o σ' => match o with
  | .next | .cont => J σ'
  | .brk => P .next σ'
  | .ret v => P (.ret v) σ'
noncomputable def Less (I : Nat → St → Prop) (n : Nat) (σ : St) : Prop := ∃ m, m < n ∧ I m σ
theorem EX_cons {st : Stmt} {b : List Stmt} (h : EX1 C σ st (Then C b P)) : EX C σ (st :: b) P := by
  intro H ρ s hg R
  refine wpAny_execs_cons (wpAny_mono (h H ρ s hg R) (fun f s₁ hp => ?_) fun _ _ e => e)
  obtain ⟨ρ₁, σ₁, o, R₁, st₁, oi, hp⟩ := hp
  cases oi with
  | next => exact wpAny_mono (hp H ρ₁ s₁ hg R₁) (fun f s₂ h₂ => h₂.pre st₁) fun _ _ e => e
  | brk => exact ⟨ρ₁, σ₁, _, R₁, st₁, .brk, hp⟩
  | cont => exact ⟨ρ₁, σ₁, _, R₁, st₁, .cont, hp⟩
  | ret r => exact ⟨ρ₁, σ₁, _, R₁, st₁, .ret r, hp⟩

theorem EX.mono {b : List Stmt} {P' : Out → St → Prop} (h : EX C σ b P) (hp : ∀ o σ', P o σ' → P' o σ') : EX C σ b P' := fun H ρ s hg R =>
  wpAny_mono (h H ρ s hg R) (fun _ _ q => by obtain ⟨ρ', σ', o, a, b, c, d⟩ := q; exact ⟨ρ', σ', o, a, b, c, hp o σ' d⟩) fun _ _ e => e
theorem EX1.mono {b : Stmt} {P' : Out → St → Prop} (h : EX1 C σ b P) (hp : ∀ o σ', P o σ' → P' o σ') : EX1 C σ b P' := fun H ρ s hg R =>
  wpAny_mono (h H ρ s hg R) (fun _ _ q => by obtain ⟨ρ', σ', o, a, b, c, d⟩ := q; exact ⟨ρ', σ', o, a, b, c, hp o σ' d⟩) fun _ _ e => e

/-- an expression, then what its value is used for -/
theorem EX1_ev {e : Expr} {v : AV} {st : Stmt} (he : EV C σ e v)
    (hst : ∀ (H : List Addr) (ρ : List Addr) (s : Shared), COk C → Rel C H ρ σ s → wpAny (model C.prog C.w) C.A (eval e C.env) (fun x s₁ => Keeps s s₁ ∧ VR (Hh H ρ s₁.heap) ρ v x) (fun _ _ => False) s → wpAny (model C.prog C.w) C.A (exec st C.env) (Post C H ρ s P) (fun _ _ => False) s) : EX1 C σ st P := by
  intro H ρ s hg R
  exact hst H ρ s hg R (he H ρ s _ _ hg R.e fun x s₁ k hx => ⟨k, hx⟩)

theorem EX1_return {e : Expr} {p : Pos} {v : AV} (he : EV C σ e v) (h : P (.ret v) σ) : EX1 C σ (.Return (some e) p) P := by
  intro H ρ s hg R
  exact wpAny_Return_some (he H ρ s _ _ hg R.e fun x s₁ k hx => ⟨ρ, σ, _, R.keeps hg k, .of_keeps k, .ret hx, h⟩)
theorem EX1_break {p : Pos} (h : P .brk σ) : EX1 C σ (.Break p) P := fun H ρ _ _ R => wpAny_Break ⟨ρ, σ, _, R, .refl, .brk, h⟩
theorem EX1_pass {p : Pos} (h : P .next σ) : EX1 C σ (.Pass p) P := fun H ρ _ _ R => wpAny_Pass ⟨ρ, σ, _, R, .refl, .next, h⟩
theorem EX1_continue {p : Pos} (h : P .cont σ) : EX1 C σ (.Continue p) P := fun H ρ _ _ R => wpAny_Continue ⟨ρ, σ, _, R, .refl, .cont, h⟩
theorem EX1_assert {e : Expr} {m : Option Expr} {p : Pos} (he : EVb C σ e true) (h : P .next σ) : EX1 C σ (.Assert e m p) P := by
  intro H ρ s hg R
  exact wpAny_Assert_holds (he H ρ s _ _ hg R.e fun s₁ k => ⟨rfl, ρ, σ, _, R.keeps hg k, .of_keeps k, .next, h⟩)
theorem EX1_if {t : Expr} {a b : List Stmt} {p : Pos} {c : Bool} (ht : EVb C σ t c) (h : EX C σ (if c then a else b) P) : EX1 C σ (.If t a b p) P := by
  intro H ρ s hg R
  refine wpAny_If (ht H ρ s _ _ hg R.e fun s₁ k => ?_)
  have := wpAny_mono (h H ρ s₁ hg (R.keeps hg k)) (fun _ _ q => q.pre (.of_keeps k)) fun _ _ e => e
  cases c <;> exact this

/-- the heap turned at one hidden address alone -/
theorem Hh_same {H : List Addr} {ρ : List Addr} {h h' : Heap} {a : Addr} (ha : a ∈ ρ ++ H) (hs : Heap.SameBut a h h') : HExt (Hh H ρ h) (Hh H ρ h') := by
  intro b o e
  have hb : b ∉ ρ ++ H := fun m => by unfold Hh at e; rw [hideAll_none _ m] at e; cases e
  have hne : b ≠ a := fun q => hb (q ▸ ha)
  exact hideAll_get _ ((hs.2 b hne).trans (of_hideAll _ e)) hb

noncomputable def hpFor (env : Env) : Prop := (env.scope.kind == .class || (env.scope.kind == .module && env.locals != env.globals)) = false
theorem hpFor_fn {env : Env} (h : env.scope.kind = .function) : hpFor env := by unfold hpFor; rw [h]; rfl

/-- a name of the frame's is stored -/
theorem store_ok2 {x : Str} {v : AV} {w : Value} {H : List Addr} {ρ : List Addr} {s : Shared} {Q : Unit → Shared → Prop} {E : Value → Shared → Prop} (hg : COk C) (R : Rel C H ρ σ s) (hv : VR (Hh H ρ s.heap) ρ v w)
    (hl : C.env.kindOf x = some .local) (h : ∀ s', Rel C H ρ (σ.set x v) s' → Step C ρ s ρ s' → Heap.SameBut C.env.locals s.heap s'.heap → Q () s') : wpAny (model C.prog C.w) C.A (storeName C.env x w) Q E s := by
  obtain ⟨m, hm⟩ := R.ns
  refine wpAny_storeName_local hl hm (fun h' hn hs => ?_) (hpFor_fn hg.fk)
  have hL : C.env.locals ∈ ρ ++ H := List.mem_append.mpr (.inr (R.sub _ R.loc))
  have eh := Hh_same (ρ := ρ) hL hs
  have hnd := R.nd
  have other : ∀ b o, b ≠ C.env.locals → s.heap.get? b = some o → h'.get? b = some o := fun b o hb e => (hs.2 b hb).trans e
  refine h _ ⟨⟨hg.gm _ _ eh R.e.g, fun a ha => ?_, fun y av e => ?_, fun k xs e => ?_⟩, R.nd, R.len, ⟨_, hn⟩, R.loc, R.sub, cells_to R.cl fun c _ o _ e d => other c o (ns_ne_cell hm e d) e, R.out⟩ ⟨⟨_, _, rfl⟩, fun b o _ hb e => kept_of (other b o (fun q => hb (q ▸ R.loc)) e), fun _ h => .inl h, fun _ _ _ e => e⟩ hs
  · obtain ⟨o, q⟩ := R.e.low a ha
    by_cases e : a = C.env.locals
    · subst e
      obtain ⟨o', _, _, q', _⟩ := hn
      exact ⟨o', q'⟩
    · exact ⟨o, other a o e q⟩
  · by_cases q : y = x
    · subst q
      simp [St.set] at e
      subst e
      exact ⟨w, hv.mono eh, .inl ⟨hl, _, hn, by simp⟩⟩
    · simp [St.set, q] at e
      obtain ⟨u, a, b⟩ := R.e.names y av e
      refine ⟨u, a.mono eh, ?_⟩
      rcases b with ⟨b1, m', b2, b3⟩ | ⟨b1, c, b2, b3⟩ | ⟨b1, b0, c, b2, b3⟩
      · refine .inl ⟨b1, _, hn, ?_⟩
        simp only [q, if_false]
        have : m' y = m y := by
          obtain ⟨o, es, ep, p1, p2, p3, p4⟩ := b2
          obtain ⟨o', es', ep', r1, r2, r3, r4⟩ := hm
          rw [p1] at r1; cases r1
          rw [p2] at r2; cases r2
          rw [← p4, ← r4]
        rw [← this]; exact b3
      · refine .inr (.inl ⟨b1, c, b2, ?_⟩)
        obtain ⟨o, q1, q2⟩ := b3
        obtain ⟨o', es', ep', r1, r2, r3, r4⟩ := hm
        have hne : c ≠ C.env.locals := fun q => by rw [q, r1] at q1; cases q1; rw [q2] at r2; cases r2
        exact ⟨o, other c o hne q1, q2⟩
      · refine .inr (.inr ⟨b1, b0, c, b2, ?_⟩)
        obtain ⟨o, q1, q2⟩ := b3
        obtain ⟨o', es', ep', r1, r2, r3, r4⟩ := hm
        have hne : c ≠ C.env.locals := fun q => by rw [q, r1] at q1; cases q1; rw [q2] at r2; cases r2
        exact ⟨o, other c o hne q1, q2⟩
  · obtain ⟨a, vs, e1, hp, hv'⟩ := R.e.own k xs e
    refine ⟨a, vs, e1, ?_, hv'.mono eh⟩
    have : a ≠ C.env.locals := fun q => hnd.2.2 a (List.mem_of_getElem? e1) a (q ▸ R.sub _ R.loc) rfl
    exact hp.at fun o q => other a o this q
theorem store_ok {x : Str} {v : AV} {w : Value} {H : List Addr} {ρ : List Addr} {s : Shared} {Q : Unit → Shared → Prop} {E : Value → Shared → Prop} (hg : COk C) (R : Rel C H ρ σ s) (hv : VR (Hh H ρ s.heap) ρ v w)
    (hl : C.env.kindOf x = some .local) (h : ∀ s', Rel C H ρ (σ.set x v) s' → Step C ρ s ρ s' → Q () s') : wpAny (model C.prog C.w) C.A (storeName C.env x w) Q E s :=
  store_ok2 hg R hv hl fun s' a b _ => h s' a b

theorem EX1_assign {x : Str} {p q : Pos} {e : Expr} {v : AV} (he : EV C σ e v) (hl : C.env.kindOf x = some .local) (hs : swapsWith e (some (.Name x p)) q.line C.env = pure false) (h : P .next (σ.set x v)) :
    EX1 C σ (.Assign [.Name x p] e q) P := by
  intro H ρ s hg R
  refine wpAny_Assign_Name (he H ρ s _ _ hg R.e fun y s₁ k hy => store_ok hg (R.keeps hg k) hy hl fun s₂ R₂ st => ?_) hs
  exact ⟨ρ, _, .next, R₂, (Step.of_keeps k).trans st R₂.nmut, .next, h⟩
end Mine
end
/-! Ex2 -/
section
open PySem PySem.W PyProof.Rows PySem.Builtin PySem.Builtin.Str
namespace Mine
variable {C : Cx} {σ : St} {P : Out → St → Prop}

/-- values stay as they were -/
noncomputable def Up (H : List Addr) (ρ : List Addr) (s : Shared) (ρ' : List Addr) (s' : Shared) : Prop := ∀ w y, VR (Hh H ρ s.heap) ρ w y → VR (Hh H ρ' s'.heap) ρ' w y
theorem Up.of_keeps {H : List Addr} {ρ : List Addr} {s s' : Shared} (k : Keeps s s') : Up H ρ s ρ s' := fun _ _ r => r.mono (Hh_keeps k)
theorem Up.trans {H : List Addr} {ρ₁ ρ₂ ρ₃ : List Addr} {s₁ s₂ s₃ : Shared} (a : Up H ρ₁ s₁ ρ₂ s₂) (b : Up H ρ₂ s₂ ρ₃ s₃) : Up H ρ₁ s₁ ρ₃ s₃ := fun w y r => b w y (a w y r)

/-- an expression that may make lists of the frame's own -/
noncomputable def EVA (C : Cx) (σ : St) (e : Expr) (v : AV) (σ' : St) : Prop :=
  ∀ (H : List Addr) (ρ : List Addr) (s : Shared) (Q : Value → Shared → Prop) (E : Value → Shared → Prop), COk C → Rel C H ρ σ s →
    (∀ x ρ' s', Rel C H ρ' σ' s' → Step C ρ s ρ' s' → Up H ρ s ρ' s' → VR (Hh H ρ' s'.heap) ρ' v x → Q x s') → wpAny (model C.prog C.w) C.A (eval e C.env) Q E s

theorem EVA_ev {e : Expr} {v : AV} (h : EV C σ e v) : EVA C σ e v σ := fun H ρ s Q E hg R hq =>
  h H ρ s Q E hg R.e fun x s' k hx => hq x ρ s' (R.keeps hg k) (.of_keeps k) (.of_keeps k) hx

theorem alloc_rel {H : List Addr} {ρ : List Addr} {s : Shared} (hg : COk C) (R : Rel C H ρ σ s) {xs : List AV} {vs : Array Value} (hv : VRs (Hh H ρ s.heap) ρ xs vs) :
    Rel C H (ρ ++ [s.heap.objs.size]) (σ.alloc xs) { s with heap := s.heap.push { cls := .type "list", data := .seq vs } } ∧
    Step C ρ s (ρ ++ [s.heap.objs.size]) { s with heap := s.heap.push { cls := .type "list", data := .seq vs } } ∧
    Up H ρ s (ρ ++ [s.heap.objs.size]) { s with heap := s.heap.push { cls := .type "list", data := .seq vs } } := by
  have k := keeps_push s { cls := .type "list", data := .seq vs }
  have hnew : ∀ b o, s.heap.get? b = some o → b ≠ s.heap.objs.size := fun b o e => Nat.ne_of_lt (Heap.lt_size e)
  have hx : HExt (Hh H ρ s.heap) (Hh H (ρ ++ [s.heap.objs.size]) (s.heap.push { cls := .type "list", data := .seq vs })) := by
    intro b o e
    have hb : b ∉ ρ ++ H := fun m => by unfold Hh at e; rw [hideAll_none _ m] at e; cases e
    have he := of_hideAll _ e
    refine hideAll_get _ (keeps_ext k _ _ he) ?_
    simp only [List.mem_append, List.mem_singleton, not_or] at hb ⊢
    exact ⟨⟨hb.1, hnew b o he⟩, hb.2⟩
  have up : Up H ρ s (ρ ++ [s.heap.objs.size]) { s with heap := s.heap.push { cls := .type "list", data := .seq vs } } := fun w y r => (r.mono hx).push
  refine ⟨⟨⟨hg.gm _ _ hx R.e.g, fun a ha => ?_, fun x av e => ?_, fun j ys e => ?_⟩, ?_, ?_, let ⟨m, q⟩ := R.ns; ⟨m, q.keeps (keeps_ext k)⟩, R.loc, R.sub, cells_to R.cl fun c _ o _ e _ => keeps_ext k c o e, R.out⟩,
    ⟨⟨_, _, rfl⟩, fun b o _ _ e => kept_of (keeps_ext k b o e), fun a ha => ?_, fun j a _ e => by rw [List.getElem?_append_left (List.getElem?_eq_some_iff.mp e).1]; exact e⟩, up⟩
  · simp only [List.mem_append, List.mem_singleton] at ha
    rcases ha with (ha | rfl) | ha
    · obtain ⟨o, q⟩ := R.e.low a (List.mem_append.mpr (.inl ha)); exact ⟨o, keeps_ext k _ _ q⟩
    · exact ⟨_, Heap.get?_push_size _ rfl⟩
    · obtain ⟨o, q⟩ := R.e.low a (List.mem_append.mpr (.inr ha)); exact ⟨o, keeps_ext k _ _ q⟩
  · obtain ⟨v, a, b⟩ := R.e.names x av e
    exact ⟨v, up _ _ a, b.mono (keeps_ext k)⟩
  · have hl := R.len
    simp only [St.alloc] at e
    by_cases hj : j < σ.hp.length
    · rw [List.getElem?_append_left hj] at e
      obtain ⟨a, us, e1, hp, hu⟩ := R.e.own j ys e
      refine ⟨a, us, ?_, hp.at fun o q => keeps_ext k _ o q, (hu.mono hx).push⟩
      rw [List.getElem?_append_left (by (first | lia | omega))]; exact e1
    · have hj' : j = σ.hp.length := by
        have := (List.getElem?_eq_some_iff.mp e).1
        simp at this; (first | lia | omega)
      subst hj'
      rw [List.getElem?_append_right (Nat.le_refl _)] at e
      simp at e
      subst e
      refine ⟨s.heap.objs.size, vs, by rw [← hl, List.getElem?_append_right (Nat.le_refl _)]; simp, ⟨0, Heap.get?_push_size _ rfl⟩, (hv.mono hx).push⟩
  · have ha : s.heap.objs.size ∉ ρ ++ H := fun m => by
      obtain ⟨o, q⟩ := R.e.low _ m
      exact absurd (Heap.lt_size q) (Nat.lt_irrefl _)
    simp only [List.mem_append, not_or] at ha
    refine ⟨List.nodup_append.mpr ⟨R.nd.1, by simp, fun x hx y hy e => ?_⟩, trivial, fun x hx y hy e => ?_⟩
    · simp only [List.mem_singleton] at hy
      exact ha.1 (hy ▸ e ▸ hx)
    · simp only [List.mem_append, List.mem_singleton] at hx
      rcases hx with hx | rfl
      · exact R.nd.2.2 x hx y hy e
      · exact ha.2 (e ▸ hy)
  · simp [St.alloc, R.len]
  · simp only [List.mem_append, List.mem_singleton] at ha
    rcases ha with ha | rfl
    · exact .inl ha
    · right
      cases e : s.heap.get? s.heap.objs.size with
      | none => rfl
      | some o => exact absurd (Heap.lt_size e) (Nat.lt_irrefl _)

/-- a list display whose list is the frame's own -/
theorem EVA_list {es : List Expr} {p : Pos} {vs : List AV} (h : EVs C σ es vs) (hl : vs.length ≤ 1000) : EVA C σ (.List es p) (.own σ.hp.length) (σ.alloc vs) := by
  intro H ρ s Q E hg R hq
  refine wpAny_List (spliced_ok h hg R.e fun l s₁ k hp => ?_)
  have e := hp.length
  have hsz : l.length ≤ sizeLine := by rw [sizeLine_eq]; (first | lia | omega)
  have R₁ := R.keeps hg k
  have hv : VRs (Hh H ρ s₁.heap) ρ vs l.toArray := by
    refine ⟨by simpa using e.symm, by simpa using hsz, fun i x v e1 e2 => ?_⟩
    have e2' : l[i]? = some v := by simpa using e2
    clear h hl hq e hsz R R₁
    induction hp generalizing i with
    | nil => cases e1
    | cons a _ ih =>
      cases i with
      | zero => simp at e1 e2'; subst e1 e2'; exact a
      | succ i => exact ih i (by simpa using e1) (by simpa using e2') (by simpa using e2')
  obtain ⟨a, b, c⟩ := alloc_rel hg R₁ hv
  refine ⟨hsz, hq _ _ _ a ((Step.of_keeps k).trans b a.nmut) ((Up.of_keeps k).trans c) ?_⟩
  refine .own ?_
  rw [← R.len, List.getElem?_append_right (Nat.le_refl _)]; simp

/-- [[]] -/
theorem EVA_listlist {p q : Pos} (hs : starEach [.List [] q] C.env = (false, eval (.List [] q) C.env) :: starEach [] C.env) :
    EVA C σ (.List [.List [] q] p) (.own (σ.hp.length + 1)) ((σ.alloc []).alloc [.own σ.hp.length]) := by
  intro H ρ s Q E hg R hq
  have h0 : EVA C σ (.List [] q) (.own σ.hp.length) (σ.alloc []) := EVA_list .nil (by simp)
  refine wpAny_List (spliced_more (h0 H ρ s _ E hg R fun x ρ₁ s₁ R₁ st₁ up₁ hx => spliced_none ⟨by rw [sizeLine_eq]; simp, ?_⟩) hs)
  have hv : VRs (Hh H ρ₁ s₁.heap) ρ₁ [.own σ.hp.length] [x].toArray := by
    refine ⟨rfl, by rw [sizeLine_eq]; simp, fun i y v e1 e2 => ?_⟩
    cases i with
    | zero => simp at e1 e2; subst e1 e2; exact hx
    | succ i => simp at e1
  obtain ⟨a, b, c⟩ := alloc_rel hg R₁ hv
  refine hq _ _ _ a (st₁.trans b a.nmut) (up₁.trans c) (.own ?_)
  have : ρ₁.length = σ.hp.length + 1 := by rw [R₁.len]; simp [St.alloc]
  rw [← this, List.getElem?_append_right (Nat.le_refl _)]; simp

/-! tuples of values, for an assignment of many names -/
inductive EVAs (C : Cx) : St → List Expr → List AV → St → Prop
  | nil {σ : St} : EVAs C σ [] [] σ
  | cons {σ σ₁ σ₂ : St} {e : Expr} {es : List Expr} {v : AV} {vs : List AV} (h : EVA C σ e v σ₁) (r : EVAs C σ₁ es vs σ₂) (hs : starEach (e :: es) C.env = (false, eval e C.env) :: starEach es C.env) : EVAs C σ (e :: es) (v :: vs) σ₂

theorem splicedA_ok {pos : Pos} {σ σ' : St} {es : List Expr} {vs : List AV} (h : EVAs C σ es vs σ') : ∀ {H : List Addr} {ρ : List Addr} {s : Shared} {Q : List Value → Shared → Prop} {E : Value → Shared → Prop}, COk C → Rel C H ρ σ s →
    (∀ l ρ' s', Rel C H ρ' σ' s' → Step C ρ s ρ' s' → Up H ρ s ρ' s' → Paired (VR (Hh H ρ' s'.heap) ρ') vs l → Q l s') → wpAny (model C.prog C.w) C.A (spliced (backTo pos (starEach es C.env))) Q E s := by
  induction h with
  | nil => intro H ρ s Q E hg R hq; exact spliced_none (hq [] ρ s R .refl (fun _ _ r => r) .nil)
  | cons h r hs ih =>
    intro H ρ s Q E hg R hq
    refine spliced_more (h H ρ s _ E hg R fun x ρ₁ s₁ R₁ st₁ up₁ hx => ih hg R₁ fun l ρ₂ s₂ R₂ st₂ up₂ hl => ?_) hs
    exact hq _ ρ₂ s₂ R₂ (st₁.trans st₂ R₂.nmut) (up₁.trans up₂) (.cons (up₂ _ _ hx) hl)

noncomputable def setAll (σ : St) : List Str → List AV → St
  | x :: xs, v :: vs => setAll (σ.set x v) xs vs
  | _, _ => σ

/-- many names, one behind the other -/
theorem stores_ok : ∀ {xs : List Str} {vs : List AV} {l : List Value} {σ : St} {H : List Addr} {ρ : List Addr} {s : Shared} {Q : Unit → Shared → Prop} {E : Value → Shared → Prop}, COk C → Rel C H ρ σ s → Paired (VR (Hh H ρ s.heap) ρ) vs l → xs.length = vs.length →
    (∀ x ∈ xs, C.env.kindOf x = some .local) → (∀ s', Rel C H ρ (setAll σ xs vs) s' → Step C ρ s ρ s' → Q () s') →
    wpAny (model C.prog C.w) C.A (assignInOrder (xs.map fun n => bindName C.env n) l) Q E s
  | [], [], _, σ, H, ρ, s, Q, E, _, R, .nil, _, _, h => wpAny_pure (h s R .refl)
  | x :: xs, v :: vs, _, σ, H, ρ, s, Q, E, hg, R, .cons (b := w) (l₂ := l) a r, hl, hk, h => by
    show wpAny _ _ (do holding l (bindName C.env x w); assignInOrder (xs.map fun n => bindName C.env n) l) Q E s
    refine wpAny_bind (wpAny_holding (wpAny_bindName (store_ok hg R a (hk x (List.mem_cons_self ..)) fun s₁ R₁ st₁ => ?_)))
    have hr : Paired (VR (Hh H ρ s₁.heap) ρ) vs l := r.mono fun _ _ q => by
      obtain ⟨h', tk, rfl⟩ := st₁.same
      refine q.mono fun b o e => ?_
      have hb : b ∉ ρ ++ H := fun m => by unfold Hh at e; rw [hideAll_none _ m] at e; cases e
      refine hideAll_get _ (st₁.keep b o (fun m => hb (List.mem_append.mpr (.inl m))) (fun m => hb (List.mem_append.mpr (.inr (R.sub _ m)))) (fun m => hb (List.mem_append.mpr (.inr (R.out _ m).1))) (of_hideAll _ e)) hb
    exact stores_ok hg R₁ hr (by simpa using hl) (fun y hy => hk y (List.mem_cons_of_mem _ hy)) fun s₂ R₂ st₂ => h s₂ R₂ (st₁.trans st₂ R₂.nmut)
  | [], _ :: _, _, _, _, _, _, _, _, _, _, _, e, _, _ => by simp at e
  | _ :: _, [], _, _, _, _, _, _, _, _, _, _, e, _, _ => by simp at e
end Mine
end
/-! Ex3 -/
section
open PySem PySem.W PyProof.Rows PySem.Builtin PySem.Builtin.Str
namespace Mine
variable {C : Cx} {σ : St} {P : Out → St → Prop}

theorem assigns_ok : ∀ {xs : List (Str × Pos)} {vs : List AV} {l : List Value} {σ : St} {H : List Addr} {ρ : List Addr} {s : Shared} {Q : Unit → Shared → Prop} {E : Value → Shared → Prop}, COk C → Rel C H ρ σ s → Paired (VR (Hh H ρ s.heap) ρ) vs l → xs.length = vs.length →
    (∀ x ∈ xs, C.env.kindOf x.1 = some .local) → (∀ s', Rel C H ρ (setAll σ (xs.map (·.1)) vs) s' → Step C ρ s ρ s' → Q () s') →
    wpAny (model C.prog C.w) C.A (assignInOrder (xs.map fun n => assign (.Name n.1 n.2) C.env) l) Q E s
  | [], [], _, σ, H, ρ, s, Q, E, _, R, .nil, _, _, h => wpAny_pure (h s R .refl)
  | x :: xs, v :: vs, _, σ, H, ρ, s, Q, E, hg, R, .cons (b := w) (l₂ := l) a r, hl, hk, h => by
    show wpAny _ _ (do holding l (assign (.Name x.1 x.2) C.env w); assignInOrder (xs.map fun n => assign (.Name n.1 n.2) C.env) l) Q E s
    refine wpAny_bind (wpAny_holding (PySem.wpAny_assign_Name (store_ok hg R a (hk x (List.mem_cons_self ..)) fun s₁ R₁ st₁ => ?_)))
    have hr : Paired (VR (Hh H ρ s₁.heap) ρ) vs l := r.mono fun _ _ q => by
      obtain ⟨h', tk, rfl⟩ := st₁.same
      refine q.mono fun b o e => ?_
      have hb : b ∉ ρ ++ H := fun m => by unfold Hh at e; rw [hideAll_none _ m] at e; cases e
      refine hideAll_get _ (st₁.keep b o (fun m => hb (List.mem_append.mpr (.inl m))) (fun m => hb (List.mem_append.mpr (.inr (R.sub _ m)))) (fun m => hb (List.mem_append.mpr (.inr (R.out _ m).1))) (of_hideAll _ e)) hb
    exact assigns_ok hg R₁ hr (by simpa using hl) (fun y hy => hk y (List.mem_cons_of_mem _ hy)) fun s₂ R₂ st₂ => h s₂ R₂ (st₁.trans st₂ R₂.nmut)
  | [], _ :: _, _, _, _, _, _, _, _, _, _, _, e, _, _ => by simp at e
  | _ :: _, [], _, _, _, _, _, _, _, _, _, _, e, _, _ => by simp at e

theorem extBut_size {s : Shared} {h' : Heap} (x : Heap.ExtBut s.heap.objs.size s.heap h') : Keeps s { s with heap := h' } :=
  ⟨h', s.toks, rfl, fun b o e => x b o (Nat.ne_of_lt (Heap.lt_size e)) e⟩

/-- a tuple of many values made; then they are handed on -/
theorem tupled_ok {es : List Expr} {vs : List AV} {σ' : St} {k : Nat} {tp : Pos} (h : EVAs C σ es vs σ') (hlen : vs.length ≤ 1000) {H : List Addr} {ρ : List Addr} {s : Shared} {Q : Value → Shared → Prop} {E : Value → Shared → Prop} (hg : COk C) (R : Rel C H ρ σ s)
    (hq : ∀ t (l : List Value) ρ' s', Rel C H ρ' σ' s' → Step C ρ s ρ' s' → s'.heap.IsTuple t l.toArray → Paired (VR (Hh H ρ' s'.heap) ρ') vs l → Q (.ref t) s') :
    wpAny (model C.prog C.w) C.A (eval (.Tuple es k tp) C.env) Q E s := by
  refine wpAny_Tuple (splicedA_ok h hg R fun l ρ' s' R' st' up' hl => ?_)
  have e := hl.length
  refine ⟨by rw [sizeLine_eq]; (first | lia | omega), ?_⟩
  have kk := keeps_push s' { cls := .type "tuple", data := .seq l.toArray }
  exact hq _ l ρ' _ (R'.keeps hg kk) (st'.trans (.of_keeps kk) R'.nmut) ⟨_, Heap.get?_push_size _ rfl, rfl, _, rfl⟩ (hl.mono fun _ _ r => (Up.of_keeps kk) _ _ r)

theorem paired_rev {α β : Type} {F : α → β → Prop} {xs : List α} {l : List β} (h : Paired F xs l) : Paired F xs.reverse l.reverse := by
  induction h with
  | nil => exact .nil
  | cons a _ ih => rw [List.reverse_cons, List.reverse_cons]; exact Paired.snoc ih a

/-- a, b = (e, f): the stores exchanged -/
theorem EX1_tuple_swapped {elts es : List Expr} {k k' : Nat} {tp tp' p : Pos} {names : List Str} {vs : List AV} {σ' : St} (h : EVAs C σ es vs σ') (hlen : names.length = vs.length) (hl : vs.length ≤ 1000)
    (hk : ∀ x ∈ names, C.env.kindOf x = some .local) (hs : swapsWithSole [.Tuple elts k tp] (.Tuple es k' tp') p.line C.env = pure false)
    (hw : swappedStores [.Tuple elts k tp] (.Tuple es k' tp') C.env = pure (some names)) (hp : P .next (setAll σ' names.reverse vs.reverse)) :
    EX1 C σ (.Assign [.Tuple elts k tp] (.Tuple es k' tp') p) P := by
  intro H ρ s hg R
  refine Assign_Tuple_swapped (tupled_ok h hl hg R fun t l ρ₁ s₁ R₁ st₁ ht hv => ?_) hs hw
  have e : names.length = l.toArray.size := by rw [hlen, List.size_toArray]; exact hv.length
  rw [e]
  refine wpAny_unpackItems_tuple hg.hh ht fun h' hx => ?_
  have kk := extBut_size hx
  refine stores_ok hg (R₁.keeps hg kk) (vs := vs.reverse) (by simpa using paired_rev (hv.mono fun _ _ r => (Up.of_keeps kk) _ _ r)) (by simpa using hlen) (fun x hx => hk x (by simpa using hx)) fun s₂ R₂ st₂ => ?_
  exact ⟨ρ₁, _, .next, R₂, st₁.trans ((Step.of_keeps kk).trans st₂ R₂.nmut) R₂.nmut, .next, hp⟩

/-- a, b = (e, f): in order -/
theorem EX1_tuple {elts es : List Expr} {k k' : Nat} {tp tp' p : Pos} {ps : List (Str × Pos)} {vs : List AV} {σ' : St} (h : EVAs C σ es vs σ') (hlen : ps.length = vs.length) (hl : vs.length ≤ 1000)
    (hk : ∀ x ∈ ps, C.env.kindOf x.1 = some .local) (hs : swapsWithSole [.Tuple elts k tp] (.Tuple es k' tp') p.line C.env = pure false)
    (hw : swappedStores [.Tuple elts k tp] (.Tuple es k' tp') C.env = pure none) (he : (assignEach elts C.env).map (·.2) = ps.map fun n => assign (.Name n.1 n.2) C.env)
    (he' : (assignEach elts C.env).findIdx? (·.1) = none) (hp : P .next (setAll σ' (ps.map (·.1)) vs)) :
    EX1 C σ (.Assign [.Tuple elts k tp] (.Tuple es k' tp') p) P := by
  intro H ρ s hg R
  refine PyProof.Rows.Assign_Tuple (tupled_ok h hl hg R fun t l ρ₁ s₁ R₁ st₁ ht hv => ?_) hs hw
  have e0 : (assignEach elts C.env).length = ps.length := by have := congrArg List.length he; simpa using this
  refine wpAny_assign_Tuple hg.hh ht (by rw [e0, hlen, List.size_toArray]; exact hv.length) he' fun h' hx => ?_
  have kk := extBut_size hx
  rw [he]
  refine assigns_ok hg (R₁.keeps hg kk) (hv.mono fun _ _ r => (Up.of_keeps kk) _ _ r) hlen hk fun s₂ R₂ st₂ => ?_
  exact ⟨ρ₁, _, .next, R₂, st₁.trans ((Step.of_keeps kk).trans st₂ R₂.nmut) R₂.nmut, .next, hp⟩

/-- x = an expression that may make lists of the frame's own -/
theorem EX1_assignA {x : Str} {p q : Pos} {e : Expr} {v : AV} {σ' : St} (he : EVA C σ e v σ') (hl : C.env.kindOf x = some .local) (hs : swapsWith e (some (.Name x p)) q.line C.env = pure false) (h : P .next (σ'.set x v)) :
    EX1 C σ (.Assign [.Name x p] e q) P := by
  intro H ρ s hg R
  refine wpAny_Assign_Name (he H ρ s _ _ hg R fun y ρ₁ s₁ R₁ st₁ _ hy => store_ok hg R₁ hy hl fun s₂ R₂ st => ?_) hs
  exact ⟨ρ₁, _, .next, R₂, st₁.trans st R₂.nmut, .next, h⟩

/-- x = y = e -/
theorem EX1_assign2 {x y : Str} {p p' q : Pos} {e : Expr} {v : AV} (he : EV C σ e v) (hl : C.env.kindOf x = some .local) (hl' : C.env.kindOf y = some .local) 
    (hw : swappedStores [.Name x p, .Name y p'] e C.env = pure none) (h : P .next ((σ.set x v).set y v)) :
    EX1 C σ (.Assign [.Name x p, .Name y p'] e q) P := by
  intro H ρ s hg R
  refine wpAny_Assign_two (he H ρ s _ _ hg R.e fun w s₁ k hw' => ?_) rfl hw
  have R₁ := R.keeps hg k
  refine PySem.wpAny_assign_Name (store_ok hg R₁ hw' hl fun s₂ R₂ st₂ => PySem.wpAny_assign_Name (store_ok hg R₂ (v := v) ?_ hl' fun s₃ R₃ st₃ => ?_))
  · obtain ⟨h', tk, rfl⟩ := st₂.same
    refine hw'.mono fun b o e => ?_
    have hb : b ∉ ρ ++ H := fun m => by unfold Hh at e; rw [hideAll_none _ m] at e; cases e
    exact hideAll_get _ (st₂.keep b o (fun m => hb (List.mem_append.mpr (.inl m))) (fun m => hb (List.mem_append.mpr (.inr (R.sub _ m)))) (fun m => hb (List.mem_append.mpr (.inr (R.out _ m).1))) (of_hideAll _ e)) hb
  · exact ⟨ρ, _, .next, R₃, (Step.of_keeps k).trans (st₂.trans st₃ R₃.nmut) R₃.nmut, .next, h⟩

/-- a text that stands alone -/
theorem EX1_doc {x : Str} {k : Nat} {p q : Pos} (hi : interactive C.env = false) (hs : swapsWith (.Constant (.str x) k p) none q.line C.env = pure false) (h : P .next σ) : EX1 C σ (.Expr (.Constant (.str x) k p) q) P := by
  intro H ρ s hg R
  exact wpAny_Expr (wpAny_Constant_str ⟨ρ, σ, .next, R.keeps hg (keeps_tok s _), .of_keeps (keeps_tok s _), .next, h⟩) hi hs

/-! x += e, ints -/
noncomputable def augFV : Operator → Int → Int → Option Int
  | .Add, a, b => some (a + b)
  | .Sub, a, b => some (a - b)
  | .Mult, a, b => if a.natAbs ≤ big then some (a * b) else none
  | .FloorDiv, a, b => if b ≠ 0 ∧ b.natAbs ≤ 1000000000 then some (a.fdiv b) else none
  | _, _, _ => none

theorem aug_ok {op : Operator} {a b r : Int} (e : augFV op a b = some r) {s : Shared} {t u : Tok} {Q : Value → Shared → Prop} {E : Value → Shared → Prop} (h : ∀ t' tk, Q (.int r t') { s with toks := tk }) :
    wpAny (model C.prog C.w) C.A (inplaceOp op (.int a t) (.int b u)) Q E s := by
  unfold augFV at e
  split at e
  · cases e; exact iadd_int (h _ _)
  · cases e; exact isub_int (h _ _)
  · split at e
    · rename_i hb; cases e
      refine imul_int (h _ _) (IntMulOk.of_left (intBits_le_64 ?_ ?_)) <;> simp only [big] at hb <;> (first | lia | omega)
    · cases e
  · split at e
    · rename_i hb; cases e
      refine PySem.AutoIntOps.ifloordiv_1 (by simpa using hb.1) ?_ (h _ _)
      rw [PyProof.noPylong_small (by (first | lia | omega))]; simp
    · cases e
  · cases e

theorem loadName_ok {x : Str} {v : AV} (hv : σ.loc x = some v) {H : List Addr} {ρ : List Addr} {s : Shared} {Q : Value → Shared → Prop} {E : Value → Shared → Prop} (hg : COk C) (R : RelE C H ρ σ s) (h : ∀ w, VR (Hh H ρ s.heap) ρ v w → Q w s) :
    wpAny (model C.prog C.w) C.A (loadName C.env x) Q E s := by
  obtain ⟨w, hw, hl⟩ := R.names x v hv
  rcases hl with ⟨a, m, b, c⟩ | ⟨a, c, b, d⟩ | ⟨a, n, c, b, d⟩
  · exact wpAny_loadName_local hg.fk a b c (h w hw)
  · exact wpAny_loadName_cell hg.fk a b d (h w hw)
  · exact wpAny_loadName_free hg.fk a b d (h w hw) n

theorem EX1_aug {x : Str} {p q : Pos} {op : Operator} {e : Expr} {a b r : Int} (hx : σ.loc x = some (.fv (.int a))) (he : EV C σ e (.fv (.int b))) (hr : augFV op a b = some r) (hl : C.env.kindOf x = some .local)
    (h : P .next (σ.set x (.fv (.int r)))) : EX1 C σ (.AugAssign (.Name x p) op e q) P := by
  intro H ρ s hg R
  refine wpAny_AugAssign_Name (loadName_ok hx hg R.e fun w hw => ?_)
  cases hw with | fv hw =>
  cases hw with | int _ t =>
  refine he H ρ s _ _ hg R.e fun y s₁ k hy => ?_
  cases hy with | fv hy =>
  cases hy with | int _ u =>
  refine aug_ok hr fun t' tk => ?_
  have kk := keeps_trans k (keeps_tok s₁ tk)
  refine store_ok hg (R.keeps hg kk) (.fv (.int r t')) hl fun s₂ R₂ st => ?_
  exact ⟨ρ, _, .next, R₂, (Step.of_keeps kk).trans st R₂.nmut, .next, h⟩
end Mine
end
/-! Ex4a -/
section
open PySem PySem.W PyProof.Rows PySem.Builtin PySem.Builtin.Str
namespace Mine
namespace App

theorem slot_md_get : Slot "method_descriptor" "__get__" "method_descriptor.__get__" :=
  .of (owner := "method_descriptor") (n := "__get__") (by rw [typeLookup_type, builtinLookup_eq_fast]; kernel_rfl) (by decide +kernel) (by decide +kernel) (by decide +kernel)
    (by first | exact .inl (by decide +kernel) | exact .inr (by decide +kernel)) (by rw [isSubtype_type]; kernel_rfl)
theorem entry_md_get : entryFor table "method_descriptor.__get__" = some Builtin.«method_descriptor.__get__» := entryFor_of_tree (by kernel_rfl)
theorem args_md_get (a b c : Value) : argsOk "method_descriptor.__get__" ⟨[a, b, c], []⟩ := by unfold argsOk; kernel_rfl
theorem md_noset : typeLookup (.type "method_descriptor") "__set__" = pure none := by rw [typeLookup_type, builtinLookup_eq_fast]; kernel_rfl
theorem md_nodel : typeLookup (.type "method_descriptor") "__delete__" = pure none := by rw [typeLookup_type, builtinLookup_eq_fast]; kernel_rfl

theorem owner_append : (".".intercalate ("list.append".cutAt '.').dropLast) = "list" := by
  have e0 : "list.append".cutAt '.' = ["list", "append"] := by first | rfl | decide +kernel
  rw [e0]; decide +kernel
theorem sub_list : isSubtype (.type "list") (.type "list") = pure true := by rw [isSubtype_type]; kernel_rfl

variable {prog : Program} {w : World} {A : Around} {E : Value → Shared → Prop} {h : Heap} {g : Array GenState} {d : Drawn} {t : Nat} {os : OsState} {a : Addr} {xs : Array Value} {k : Nat}

theorem get_call {R : Result → Shared → Prop} (hx : h.get? a = some { cls := .type "list", dict := none, data := .seq xs k, slots := #[] })
    (hq : R (.ok (.ret (.ref h.objs.size))) ⟨h.push (appObj a), g, d, t, os⟩) :
    codeAny (model prog w) A (.call (.builtin "method_descriptor.__get__") ⟨[.builtin "list.append", .ref a, .type "list"], []⟩) R ⟨h, g, d, t, os⟩ := by
  have hT : (⟨h, g, d, t, os⟩ : Shared).TypeIs (.ref a) "list" := ⟨_, hx, rfl⟩
  have hT5 : (⟨h, g, d, t, os⟩ : Shared).TypeIs (.builtin "list.append") "method_descriptor" := PySem.F.type_list_append
  refine codeAny_call_builtin slot_md_get.plain entry_md_get (slot_md_get.check _ _ _ _ _ _ _ _ hT5 (args_md_get _ _ _) ?_)
  unfold Builtin.«method_descriptor.__get__»
  repeat (any_goals (first | assumption | wp_step))
  have f8 : isSubtype (.type "list") (.type (".".intercalate ("list.append".cutAt '.').dropLast)) = pure true := by rw [owner_append]; exact sub_list
  refine wpAny_of_eq f8 ?_
  simp only [Bool.not_true, Bool.false_eq_true, if_false]
  refine wpAny_pure ?_
  refine wpAny_bind (wpAny_newObj_type ?_)
  exact wpAny_pure hq

theorem getattribute {tk : Tok} {Q : Fin → Shared → Prop} (hx : h.get? a = some { cls := .type "list", dict := none, data := .seq xs k, slots := #[] })
    (hq : Q (.done (.ret (.ref h.objs.size))) ⟨h.push (appObj a), g, d, t, os⟩) :
    wpAny (model prog w) A (Builtin.«object.__getattribute__» ⟨[.ref a, .str "append" tk], []⟩) Q E ⟨h, g, d, t, os⟩ := by
  have hT : (⟨h, g, d, t, os⟩ : Shared).TypeIs (.ref a) "list" := ⟨_, hx, rfl⟩
  have hT5 : (⟨h, g, d, t, os⟩ : Shared).TypeIs (.builtin "list.append") "method_descriptor" := PySem.F.type_list_append
  have f4 := PySem.F.slot_list_append.lookup
  have f5 := PySem.F.type_list_append
  have f6 := slot_md_get.lookup
  have f7 := md_noset
  have f8 := md_nodel
  unfold Builtin.«object.__getattribute__»
  repeat (any_goals (first | assumption | wp_step))
  refine get_call hx ?_
  exact wpAny_pure hq

theorem entry_call {tk : Tok} {R : Result → Shared → Prop} (hx : h.get? a = some { cls := .type "list", dict := none, data := .seq xs k, slots := #[] })
    (hq : R (.ok (.ret (.ref h.objs.size))) ⟨h.push (appObj a), g, d, t, os⟩) :
    codeAny (model prog w) A (.call (.builtin "list.__getattribute__") ⟨[.ref a, .str "append" tk], []⟩) R ⟨h, g, d, t, os⟩ :=
  codeAny_call_builtin PySem.F.slot_list_getattribute.plain am_entry_list_getattribute (PySem.F.slot_list_getattribute.check _ _ _ _ _ _ _ _ (show (⟨h, g, d, t, os⟩ : Shared).TypeIs (.ref a) "list" from ⟨_, hx, rfl⟩) (PySem.F.args_list_getattribute_2 _ _) (getattribute hx hq))

theorem by_name {tk : Tok} {fill expr : Bool} {Q : Value → Shared → Prop} (hx : h.get? a = some { cls := .type "list", dict := none, data := .seq xs k, slots := #[] })
    (hq : Q (.ref h.objs.size) ⟨h.push (appObj a), g, d, t, os⟩) : wpAny (model prog w) A (getAttrBy (.ref a) (.str "append" tk) fill expr) Q E ⟨h, g, d, t, os⟩ := by
  have hT : (⟨h, g, d, t, os⟩ : Shared).TypeIs (.ref a) "list" := ⟨_, hx, rfl⟩
  have f2 := PySem.F.slot_list_getattribute.lookup
  have f3 := PySem.F.slot_list_getattribute.bind (.ref a)
  have f5 := am_list_getattr_none
  have hx0 : (expr && onTheHeap (Value.builtin "list.__getattribute__")) = false := by cases expr <;> rfl
  repeat (any_goals (first | assumption | wp_step))
  refine entry_call hx ?_
  repeat (any_goals (first | assumption | wp_step))

theorem attr {s : Shared} {expr : Bool} {Q : Value → Shared → Prop} (hp : s.heap.PlainList a xs)
    (hq : Q (.ref s.heap.objs.size) { s with heap := s.heap.push (appObj a), toks := s.toks + 1 }) : wpAny (model prog w) A (getAttr (.ref a) "append" expr) Q E s := by
  obtain ⟨n, hx⟩ := hp
  obtain ⟨h, g, d, t, os⟩ := s
  unfold getAttr
  repeat (any_goals (first | assumption | with_reducible apply by_name hx | wp_step))

theorem sub_module : isSubtype (.type "list") (.type "module") = pure false := by rw [isSubtype_type]; kernel_rfl

theorem sig_check (a : Addr) (x : Value) : (match Manifest.signature? "list.append" with
    | some sig => Bind.checkArgs "list.append" { sig with full := s!"{Bind.lastOf "list"}.{Bind.lastOf "list.append"}" } ⟨[.ref a, x], []⟩
    | none => pure ()) = (pure () : Sem Unit) := by kernel_rfl

theorem bound_check {s : Shared} {x : Value} {Q : Unit → Shared → Prop} (hp : s.heap.PlainList a xs) (h : Q () s) : wpAny (model prog w) A (checkBoundCall "list.append" ⟨[.ref a, x], []⟩) Q E s := by
  obtain ⟨n, hx⟩ := hp
  obtain ⟨h0, g, d, t, os⟩ := s
  have hT : (⟨h0, g, d, t, os⟩ : Shared).TypeIs (.ref a) "list" := ⟨_, hx, rfl⟩
  have f1 := sub_module
  have hk : builtinKind "list.append" = some .method := by kernel_rfl
  have hv : Manifest.varargsMethods.contains "list.append" = false := by decide +kernel
  have hc := sig_check a x
  unfold checkBoundCall
  cases hs : Manifest.signature? "list.append" with
  | none => exact wpAny_pure h
  | some sig =>
    rw [hs] at hc
    simp only [hk, hv]
    repeat (any_goals (first | assumption | wp_step))

theorem bound_append {s : Shared} {b : Addr} {x : Value} {Q : Value → Shared → Prop} (hb : s.heap.get? b = some (appObj a)) (hp : s.heap.PlainList a xs) (hsz : xs.size ≤ sizeLine)
    (hQ : ∀ h', h'.PlainList a (xs.push x) → Heap.SameBut a s.heap h' → Q .none { s with heap := h' }) : wpAny (model prog w) A (call (.ref b) [x]) Q E s := by
  refine wpAny_call (codeAny_of_tree ?_)
  show wpAny _ _ (callAny (.ref b) ⟨[x], []⟩) _ _ _
  unfold callAny
  refine wpAny_bind (wpAny_load hb ?_)
  simp only [appObj]
  have e1 : (Value.type "builtin_function_or_method" == Value.type "method" || Value.type "builtin_function_or_method" == Value.type "builtin_function_or_method" || Value.type "builtin_function_or_method" == Value.type "method-wrapper") = true := by decide
  simp only [e1, if_true]
  have e2 : (Value.type "builtin_function_or_method" != Value.type "method") = true := by decide
  simp only [List.getElem?_toArray, List.getElem?_cons_zero, List.getElem?_cons_succ, e2, if_true]
  refine wpAny_bind (bound_check hp (wpAny_pure ⟨Code.quiet_builtin _ (by decide +kernel), codeAny_builtin entry_list_append ?_⟩))
  obtain ⟨n, ho⟩ := hp
  show wpAny _ _ (updateSeq a (·.push x) >>= fun _ => ret .none) _ _ s
  refine wpAny_bind (wpAny_updateSeq ho rfl (wpAny_pure (hQ _ ⟨n + 1, ?_⟩ (Heap.SameBut.update ..))))
  rw [Heap.get?_update_self _ ho (by rw [Obj.mapSeq_push_plain]; rfl), Obj.mapSeq_push_plain]
end App
end Mine
end
/-! Ex4 -/
section
open PySem PySem.W PyProof.Rows PySem.Builtin PySem.Builtin.Str
namespace Mine
variable {C : Cx} {σ : St} {P : Out → St → Prop}

theorem nodup_inj {α : Type} {l : List α} (h : l.Nodup) {i j : Nat} {a : α} (hi : l[i]? = some a) (hj : l[j]? = some a) : i = j := by
  obtain ⟨li, ei⟩ := List.getElem?_eq_some_iff.mp hi
  obtain ⟨lj, ej⟩ := List.getElem?_eq_some_iff.mp hj
  have hp := List.pairwise_iff_getElem.mp h
  rcases Nat.lt_trichotomy i j with q | q | q
  · exact absurd (ei.trans ej.symm) (hp i j li lj q)
  · exact q
  · exact absurd (ej.trans ei.symm) (hp j i lj li q)

/-- a list of the frame's own has changed -/
theorem put_rel {H : List Addr} {ρ : List Addr} {s : Shared} (hg : COk C) (R : Rel C H ρ σ s) {k : Nat} {a : Addr} {xs' : List AV} {vs' : Array Value} {h' : Heap} {tk : Nat} (ha : ρ[k]? = some a) (hs : Heap.SameBut a s.heap h') (hp : h'.PlainList a vs')
    (hv : VRs (Hh H ρ s.heap) ρ xs' vs') : Rel C H ρ (σ.put k xs') { s with heap := h', toks := tk } ∧ Step C ρ s ρ { s with heap := h', toks := tk } ∧ Up H ρ s ρ { s with heap := h', toks := tk } := by
  have hmem : a ∈ ρ ++ H := List.mem_append.mpr (.inl (List.mem_of_getElem? ha))
  have eh := Hh_same (ρ := ρ) hmem hs
  have hnd := R.nd
  have other : ∀ b o, b ≠ a → s.heap.get? b = some o → h'.get? b = some o := fun b o hb e => (hs.2 b hb).trans e
  have haL : a ∉ H := fun m => hnd.2.2 a (List.mem_of_getElem? ha) a m rfl
  have hlist : ∃ vs, s.heap.PlainList a vs := by
    have hlt : k < σ.hp.length := by rw [← R.len]; exact (List.getElem?_eq_some_iff.mp ha).1
    obtain ⟨b, us, e1, hp, _⟩ := R.e.own k _ (List.getElem?_eq_getElem hlt)
    rw [ha] at e1; cases e1
    exact ⟨us, hp⟩
  obtain ⟨vs0, n0, hn0⟩ := hlist
  refine ⟨⟨⟨hg.gm _ _ eh R.e.g, fun b hb => ?_, fun y av e => ?_, fun j ys e => ?_⟩, R.nd, by simp [St.put, R.len], ?_, R.loc, R.sub, cells_to R.cl fun c _ o hm e _ => other c o (fun q => haL (q ▸ R.sub _ hm)) e, R.out⟩, ⟨⟨_, _, rfl⟩, fun b o hb _ e => kept_of (other b o (fun q => hb (q ▸ List.mem_of_getElem? ha)) e), fun _ h => .inl h, fun _ _ _ e => e⟩, fun w y r => r.mono eh⟩
  · by_cases q : b = a
    · subst q; obtain ⟨n, hn⟩ := hp; exact ⟨_, hn⟩
    · obtain ⟨o, e⟩ := R.e.low b hb; exact ⟨o, other b o q e⟩
  · obtain ⟨u, r, b⟩ := R.e.names y av e
    refine ⟨u, r.mono eh, ?_⟩
    rcases b with ⟨b1, m', b2, b3⟩ | ⟨b1, c, b2, b3⟩ | ⟨b1, b0, c, b2, b3⟩
    · refine .inl ⟨b1, m', b2.at' fun o e => other _ o (fun q => haL (q ▸ R.sub _ R.loc)) e, b3⟩
    · refine .inr (.inl ⟨b1, c, b2, ?_⟩)
      obtain ⟨o, q1, q2⟩ := b3
      exact ⟨o, other c o (fun q => by rw [q, hn0] at q1; cases q1; cases q2) q1, q2⟩
    · refine .inr (.inr ⟨b1, b0, c, b2, ?_⟩)
      obtain ⟨o, q1, q2⟩ := b3
      exact ⟨o, other c o (fun q => by rw [q, hn0] at q1; cases q1; cases q2) q1, q2⟩
  · simp only [St.put] at e
    by_cases q : j = k
    · subst q
      have hlt : j < σ.hp.length := by rw [← R.len]; exact (List.getElem?_eq_some_iff.mp ha).1
      rw [List.getElem?_set_self hlt] at e
      cases e
      exact ⟨a, vs', ha, hp, hv.mono eh⟩
    · rw [List.getElem?_set_ne (Ne.symm q)] at e
      obtain ⟨b, us, e1, hp1, hu⟩ := R.e.own j ys e
      refine ⟨b, us, e1, hp1.at fun o e => other b o (fun e2 => ?_) e, hu.mono eh⟩
      subst e2
      exact q (nodup_inj hnd.1 e1 ha)
  · obtain ⟨m, hm⟩ := R.ns
    exact ⟨m, hm.at' fun o e => other _ o (fun q => haL (q ▸ R.sub _ R.loc)) e⟩

theorem VRs.push1 {h : Heap} {ρ : List Addr} {xs : List AV} {vs : Array Value} {x : AV} {v : Value} (r : VRs h ρ xs vs) (hx : VR h ρ x v) (hs : xs.length + 1 ≤ sizeLine) : VRs h ρ (xs ++ [x]) (vs.push v) := by
  refine ⟨by simp [r.1], by rw [Array.size_push, r.1]; exact hs, fun i y u e1 e2 => ?_⟩
  by_cases hi : i < xs.length
  · rw [List.getElem?_append_left hi] at e1
    rw [Array.getElem?_push_lt (by rw [r.1]; exact hi)] at e2
    refine r.2.2 i y u e1 ?_
    rw [Array.getElem?_eq_getElem (by rw [r.1]; exact hi)]; exact e2
  · have hi' : i = xs.length := by
      have := (List.getElem?_eq_some_iff.mp e1).1
      simp at this; (first | lia | omega)
    subst hi'
    rw [List.getElem?_append_right (Nat.le_refl _)] at e1
    simp at e1
    subst e1
    rw [← r.1] at e2
    simp at e2
    subst e2
    exact hx

/-- o.append(e) -/
theorem EX1_append {o e : Expr} {ap p q : Pos} {k : Nat} {xs : List AV} {v : AV} (ho : EV C σ o (.own k)) (he : EV C σ e v) (hk : σ.hp[k]? = some xs) (hl : xs.length ≤ 100000)
    (hbase : attributeBase o "append" C.env (eval o C.env) = eval o C.env) (hline : (ap.endLine == p.line) = true) (ht : backTo p (starEach [e] C.env) = [(false, eval e C.env)])
    (hi : interactive C.env = false) (hs : swapsWith (.Call (.Attribute o "append" ap) [e] [] p) none q.line C.env = pure false) (h : P .next (σ.put k (xs ++ [v]))) :
    EX1 C σ (.Expr (.Call (.Attribute o "append" ap) [e] [] p) q) P := by
  intro H ρ s hg R
  refine wpAny_Expr (wpAny_Call_method1_late hbase hline ht (ho H ρ s _ _ hg R.e fun x s₁ k₁ hx => ?_)) hi hs
  cases hx with | own eo =>
  have R₁ := R.keeps hg k₁
  obtain ⟨a, vs, e2, hp, hv⟩ := R₁.e.own k xs hk
  rw [eo] at e2; cases e2
  have hp0 := hp
  obtain ⟨n, hn⟩ := hp
  refine ⟨"list", "list.append", PySem.F.plainAttrs_list, PySem.F.slot_list_append, PySem.F.type_list_append, hp0.isList.typeIs, fun b hb => (by cases hb; exact ⟨_, hn, rfl⟩), ?_⟩
  refine Calls.callWith_builtin rfl (Calls.evalArgs_plain (Calls.spliced_cons (he H ρ _ _ _ hg R₁.e fun y s₂ k₂ hy => Calls.spliced_nil ?_)))
  have R₂ := R₁.keeps hg k₂
  have hp2 := hp0.at fun o q => keeps_ext k₂ _ o q
  refine wpAny_list_append_plain hp2 (fun h' hp' hs' => ?_) hv.2.1
  have hv2 : VRs (Hh H ρ s₂.heap) ρ (xs ++ [v]) (vs.push y) := (hv.mono (Hh_keeps k₂)).push1 hy (by rw [sizeLine_eq]; (first | lia | omega))
  obtain ⟨A, B, _⟩ := put_rel (tk := s₂.toks) hg R₂ eo hs' hp' hv2
  exact ⟨ρ, _, .next, A, (Step.of_keeps (keeps_trans k₁ k₂)).trans B R₂.nmut, .next, h⟩

/-- add(e), add a bound append -/
theorem EX1_add {x : Str} {np p q : Pos} {e : Expr} {k : Nat} {xs : List AV} {v : AV} (hx : σ.loc x = some (.app k)) (hd : (x == ("__debug__" : Str)) = false) (he : EV C σ e v) (hk : σ.hp[k]? = some xs) (hl : xs.length ≤ 100000)
    (hse : starEach [e] C.env = [(false, eval e C.env)]) (hi : interactive C.env = false) (hs : swapsWith (.Call (.Name x np) [e] [] p) none q.line C.env = pure false) (h : P .next (σ.put k (xs ++ [v]))) :
    EX1 C σ (.Expr (.Call (.Name x np) [e] [] p) q) P := by
  intro H ρ s hg R
  refine wpAny_Expr (wpAny_Call_NameR ((EV_name (p := np) hx hd) H ρ s _ _ hg R.e fun f s₁ k₁ hf => ?_)) hi hs
  cases hf with | @app _ a b eo hb =>
  have R₁ := R.keeps hg k₁
  have hb1 := of_hideAll _ hb
  have hplain : ((backTo p (starEach [e] C.env)).any (·.1)) = false := by rw [hse]; rfl
  unfold callWith
  refine wpAny_bind (wpAny_holding ?_)
  rw [show backTo p (starEach [e] C.env) = [(false, eval e C.env)] by rw [hse]; rfl]
  refine Calls.evalArgs_plain (Calls.spliced_cons (he H ρ _ _ _ hg R₁.e fun y s₂ k₂ hy => Calls.spliced_nil ?_))
  have R₂ := R₁.keeps hg k₂
  refine wpAny_bind (wpAny_standAt ?_)
  have hb2 := keeps_ext k₂ _ _ hb1
  refine wpAny_bind ?_
  unfold keeperOf
  refine wpAny_bind (wpAny_load hb2 ?_)
  simp only [appObj]
  have e1 : (Value.type "builtin_function_or_method" != Value.type "method") = true := by decide
  have e2 : (Value.type "builtin_function_or_method" == Value.type "builtin_function_or_method" || Value.type "builtin_function_or_method" == Value.type "method-wrapper") = true := by decide
  simp only [e1, e2, if_true]
  refine wpAny_pure ?_
  simp only [List.any_cons, List.any_nil, Bool.or_false]
  obtain ⟨a', vs, e3, hp, hv⟩ := R₂.e.own k xs hk
  rw [eo] at e3; cases e3
  refine wpAny_bind (App.bound_append hb2 hp hv.2.1 fun h' hp' hs' => ?_)
  refine wpAny_bind (wpAny_holding (wpAny_point (wpAny_pure ?_)))
  have hv2 : VRs (Hh H ρ s₂.heap) ρ (xs ++ [v]) (vs.push y) := hv.push1 hy (by rw [sizeLine_eq]; (first | lia | omega))
  obtain ⟨A, B, _⟩ := put_rel (tk := s₂.toks) hg R₂ eo hs' hp' hv2
  exact ⟨ρ, _, .next, A, (Step.of_keeps (keeps_trans k₁ k₂)).trans B R₂.nmut, .next, h⟩

/-- res.append as a value -/
theorem EV_attr_append {x : Str} {np p : Pos} {k : Nat} {xs : List AV} (hx : σ.loc x = some (.own k)) (hd : (x == ("__debug__" : Str)) = false) (hk : σ.hp[k]? = some xs) : EV C σ (.Attribute (.Name x np) "append" p) (.app k) := by
  intro H ρ s Q E hg R h
  refine PyProof.Rows.Attribute_name ((EV_name (p := np) hx hd) H ρ s _ _ hg R fun f s₁ k₁ hf => ?_)
  cases hf with | own eo =>
  have R₁ := R.keeps hg.gm k₁
  obtain ⟨a, vs, e2, hp, hv⟩ := R₁.own k xs hk
  rw [eo] at e2; cases e2
  refine App.attr hp (h _ _ (keeps_trans k₁ (keeps_push_tok s₁ _ _)) (.app eo (Hh_new R₁ (Nat.le_refl _) (Heap.get?_push_size _ rfl))))
end Mine
end
/-! Ex5 -/
section
open PySem PySem.W PyProof.Rows PySem.Builtin PySem.Builtin.Str
namespace Mine
variable {C : Cx} {σ : St} {P : Out → St → Prop}

theorem Step.hext {H ρ ρ' : List Addr} {s s' : Shared} (R : Rel C H ρ σ s) (st : Step C ρ s ρ' s') : HExt (Hh H ρ s.heap) (Hh H ρ' s'.heap) := by
  intro b o e
  have hb : b ∉ ρ ++ H := fun m => by unfold Hh at e; rw [hideAll_none _ m] at e; cases e
  have he := of_hideAll _ e
  simp only [List.mem_append, not_or] at hb
  refine hideAll_get _ (st.keep b o hb.1 (fun m => hb.2 (R.sub _ m)) (fun m => hb.2 (R.out _ m).1) he) ?_
  simp only [List.mem_append, not_or]
  refine ⟨fun m => ?_, hb.2⟩
  rcases st.fresh b m with q | q
  · exact hb.1 q
  · rw [he] at q; cases q

inductive WI (C : Cx) (H ρ : List Addr) (s : Shared) (I : Nat → St → Prop) (n : Nat) (s' : Shared) : Prop
  | mk (ρ' : List Addr) (σ' : St) (R : Rel C H ρ' σ' s') (st : Step C ρ s ρ' s') (h : I n σ')
/-- while test: body, by what holds at each test and a measure -/
theorem EX1_while {t : Expr} {body : List Stmt} {p : Pos} (I : Nat → St → Prop) (n : Nat) (h0 : I n σ)
    (turn : ∀ n σ', I n σ' → ∃ b, EVb C σ' t b ∧ (b = true → EX C σ' body (Turn (Less I n) P)) ∧ (b = false → P .next σ')) : EX1 C σ (.While t body [] p) P := by
  intro H ρ s hg R
  refine wpAny_While (codeAny_mono (codeAny_whileLoop (R := PostR C H ρ s P) (WI C H ρ s I) ?_ n ⟨ρ, σ, R, .refl, h0⟩) ?_)
  · rintro n s₁ ⟨ρ₁, σ₁, R₁, st₁, h₁⟩
    obtain ⟨b, hb, ht, hf⟩ := turn n σ₁ h₁
    refine hb H ρ₁ s₁ _ _ hg R₁.e fun s₂ k₂ => ?_
    have R₂ := R₁.keeps hg k₂
    have st₂ := st₁.trans (Step.of_keeps (C := C) k₂) R₁.nmut
    cases b with
    | false =>
      exact wpAny_execs_nil ⟨.next, rfl, ρ₁, σ₁, .next, R₂, st₂, .next, hf rfl⟩
    | true =>
      refine wpAny_mono (ht rfl H ρ₁ s₂ hg R₂) (fun f s₃ q => ?_) fun _ _ e => e.elim
      obtain ⟨ρ₃, σ₃, o, R₃, st₃, oi, hp⟩ := q
      have st := st₂.trans st₃ R₃.nmut
      cases oi with
      | next => obtain ⟨m, hm, hi⟩ := hp; exact ⟨m, hm, ρ₃, σ₃, R₃, st, hi⟩
      | cont => obtain ⟨m, hm, hi⟩ := hp; exact ⟨m, hm, ρ₃, σ₃, R₃, st, hi⟩
      | brk => exact ⟨.next, rfl, ρ₃, σ₃, .next, R₃, st, .next, hp⟩
      | ret r => exact ⟨.ret _, rfl, ρ₃, σ₃, _, R₃, st, .ret r, hp⟩
  · rintro r s' ⟨f, rfl, hp⟩
    exact hp

noncomputable def bindAll (m : Str → Option Value) (bs : List (Str × Value)) : Str → Option Value := bs.foldl (fun m p => fun y => if y = p.1 then some p.2 else m y) m
noncomputable def RowR (h : Heap) (p : Str × FV) (q : Str × Value) : Prop := p.1 = q.1 ∧ FR h p.2 q.2

/-- an iterator whose turns bind a target's names -/
structure Turner (prog : Program) (w : World) (A : Around) (target : Expr) (I : Addr) (fp wr : List Addr) (rows : List (List (Str × FV))) (hf : Heap) (T : Nat → Heap → Prop) : Prop where
  sub : ∀ b ∈ wr, b ∈ fp
  frame : ∀ i h h', T i h → (∀ b ∈ fp, ∀ o, h.get? b = some o → h'.get? b = some o) → T i h'
  live : ∀ i h, T i h → ∀ b ∈ fp, ∃ o, h.get? b = some o
  turn : ∀ (i : Nat) r (env : Env) m (s : Shared) (Q : Shared → Prop) (E : Value → Shared → Prop), rows[i]? = some r → T i s.heap → hpFor env → (∀ p ∈ r, env.kindOf p.1 = some .local) → s.heap.Ns env.locals m → env.locals ∉ fp →
    (∀ bs h' tk, Paired (RowR hf) r bs → T (i + 1) h' → h'.Ns env.locals (bindAll m bs) → (∀ b o, b ∉ wr → b ≠ env.locals → s.heap.get? b = some o → h'.get? b = some o) → Q { s with heap := h', toks := tk }) →
    wpAny (model prog w) A (pyNext (.ref I)) (fun x s₁ => ∃ v, x = some v ∧ wpAny (model prog w) A (letOwnedTupleGo target (.ref I) v) (fun _ s₂ => wpAny (model prog w) A (assign target env v) (fun _ s₃ => Q s₃) E s₂) E s₁) E s
  done : ∀ (s : Shared) (Q : Option Value → Shared → Prop) (E : Value → Shared → Prop), T rows.length s.heap →
    (∀ h' tk, (∀ b o, b ∉ wr → s.heap.get? b = some o → h'.get? b = some o) → Q none { s with heap := h', toks := tk }) → wpAny (model prog w) A (pyNext (.ref I)) Q E s
  self : ∀ i (s : Shared) (Q : Value → Shared → Prop) (E : Value → Shared → Prop), T i s.heap → Q (.ref I) s → wpAny (model prog w) A (pyIter (.ref I)) Q E s

/-- a source of turns -/
noncomputable def SRC (C : Cx) (σ : St) (iter target : Expr) (rows : List (List (Str × FV))) : Prop :=
  ∀ (H : List Addr) (ρ : List Addr) (s : Shared) (Q : Value → Shared → Prop) (E : Value → Shared → Prop), COk C → RelE C H ρ σ s →
    (∀ s₂ I fp wr hf T, Keeps s s₂ → Turner C.prog C.w C.A target I fp wr rows hf T → T 0 s₂.heap → (∀ b ∈ fp, b ∉ ρ ++ H) → (∀ b ∈ wr, s.heap.get? b = none) →
      (∀ b o, hf.get? b = some o → (Hh H ρ s₂.heap).get? b = some o ∧ b ∉ wr) → rows.length ≤ sizeLine → Q (.ref I) s₂) →
    wpAny (model C.prog C.w) C.A (eval iter C.env) (fun x s₁ => wpAny (model C.prog C.w) C.A (pyIter x) Q E s₁) E s

noncomputable def setRow (σ : St) (r : List (Str × FV)) : St := r.foldl (fun σ p => σ.set p.1 (.fv p.2)) σ
theorem setRow_hp (σ : St) (r : List (Str × FV)) : (setRow σ r).hp = σ.hp := by
  induction r generalizing σ with
  | nil => rfl
  | cons p r ih => exact ih (σ.set p.1 (.fv p.2))

theorem Ns.uniq {h : Heap} {a : Addr} {m m' : Str → Option Value} (x : h.Ns a m) (y : h.Ns a m') : m = m' := by
  obtain ⟨o, es, ep, p1, p2, p3, p4⟩ := x
  obtain ⟨o', es', ep', r1, r2, r3, r4⟩ := y
  rw [p1] at r1; cases r1
  rw [p2] at r2; cases r2
  funext z
  rw [← p4, ← r4]

/-- what the names of a turn are -/
theorem row_loc {h' : Heap} {env : Env} {y : Str} {av : AV} {ρ : List Addr} : ∀ (r : List (Str × FV)) (bs : List (Str × Value)) (σ : St) (m : Str → Option Value), Paired (RowR h') r bs → (∀ p ∈ r, env.kindOf p.1 = some .local) → (setRow σ r).loc y = some av →
    (∃ v, VR h' ρ av v ∧ env.kindOf y = some .local ∧ bindAll m bs y = some v) ∨ (σ.loc y = some av ∧ bindAll m bs y = m y) := by
  intro r bs σ m hp
  induction hp generalizing σ m with
  | nil => intro _ e; exact .inr ⟨e, rfl⟩
  | @cons p q r bs hpq _ ih =>
    intro hk e
    obtain ⟨p1, p2⟩ := p
    obtain ⟨q1, q2⟩ := q
    obtain ⟨e0, hv⟩ := hpq
    simp only at e0 hv
    subst e0
    rcases ih (σ.set p1 (.fv p2)) (fun y => if y = p1 then some q2 else m y) (fun z hz => hk z (List.mem_cons_of_mem _ hz)) e with h1 | ⟨h1, h2⟩
    · exact .inl h1
    · have e2 : bindAll m ((p1, q2) :: bs) y = if y = p1 then some q2 else m y := h2
      by_cases q : y = p1
      · subst q
        simp [St.set] at h1
        subst h1
        exact .inl ⟨q2, .fv hv, hk _ (List.mem_cons_self ..), by rw [e2]; simp⟩
      · simp [St.set, q] at h1
        exact .inr ⟨h1, by rw [e2]; simp [q]⟩

/-- more is hidden: new addresses -/
theorem hide_more {H ρ wr : List Addr} {s s₂ : Shared} (hg : COk C) (R : Rel C H ρ σ s) (k : Keeps s s₂) (hw : ∀ b ∈ wr, s.heap.get? b = none) (hl : ∀ b ∈ wr, ∃ o, s₂.heap.get? b = some o) : Rel C (H ++ wr) ρ σ s₂ := by
  have ke := keeps_ext k
  have hx : HExt (Hh H ρ s.heap) (Hh (H ++ wr) ρ s₂.heap) := by
    intro b o e
    have hb : b ∉ ρ ++ H := fun m => by unfold Hh at e; rw [hideAll_none _ m] at e; cases e
    have he := of_hideAll _ e
    refine hideAll_get _ (ke _ _ he) ?_
    simp only [List.mem_append, not_or] at hb ⊢
    exact ⟨hb.1, hb.2, fun m => by rw [hw b m] at he; cases he⟩
  refine ⟨⟨hg.gm _ _ hx R.e.g, fun a ha => ?_, fun x av e => ?_, fun j xs e => ?_⟩, ⟨R.nd.1, trivial, fun a ha b hb e => ?_⟩, R.len, let ⟨m, q⟩ := R.ns; ⟨m, q.keeps ke⟩, R.loc, fun a ha => List.mem_append.mpr (.inl (R.sub a ha)), cells_to R.cl fun c _ o _ e _ => ke c o e, fun b hb => ⟨List.mem_append.mpr (.inl (R.out b hb).1), (R.out b hb).2⟩⟩
  · rcases List.mem_append.mp ha with h | h
    · obtain ⟨o, q⟩ := R.e.low a (List.mem_append.mpr (.inl h)); exact ⟨o, ke _ _ q⟩
    · rcases List.mem_append.mp h with h | h
      · obtain ⟨o, q⟩ := R.e.low a (List.mem_append.mpr (.inr h)); exact ⟨o, ke _ _ q⟩
      · exact hl a h
  · obtain ⟨v, a, b⟩ := R.e.names x av e
    exact ⟨v, a.mono hx, b.mono ke⟩
  · obtain ⟨a, vs, p1, p2, p3⟩ := R.e.own j xs e
    exact ⟨a, vs, p1, p2.at fun o q => ke _ o q, p3.mono hx⟩
  · subst e
    rcases List.mem_append.mp hb with h | h
    · exact R.nd.2.2 a ha a h rfl
    · obtain ⟨o, q⟩ := R.e.low a (List.mem_append.mpr (.inl ha))
      rw [hw a h] at q; cases q

theorem hh_less {H wr ρ : List Addr} {h : Heap} : HExt (Hh (H ++ wr) ρ h) (Hh H ρ h) := by
  intro b o e
  have hb : b ∉ ρ ++ (H ++ wr) := fun m => by unfold Hh at e; rw [hideAll_none _ m] at e; cases e
  refine hideAll_get _ (of_hideAll _ e) ?_
  simp only [List.mem_append, not_or] at hb ⊢
  exact ⟨hb.1, hb.2.1⟩

theorem hide_less {H ρ wr : List Addr} {s : Shared} (hg : COk C) (R : Rel C (H ++ wr) ρ σ s) (hs : ∀ a ∈ C.mu, a ∈ H) (ho : ∀ b ∈ C.out, b ∈ H) : Rel C H ρ σ s := by
  refine ⟨⟨hg.gm _ _ hh_less R.e.g, fun a ha => R.e.low a ?_, fun x av e => ?_, fun j xs e => ?_⟩, ⟨R.nd.1, trivial, fun a ha b hb => R.nd.2.2 a ha b (List.mem_append.mpr (.inl hb))⟩, R.len, R.ns, R.loc, hs, R.cl, fun b hb => ⟨ho b hb, (R.out b hb).2⟩⟩
  · rcases List.mem_append.mp ha with h | h
    · exact List.mem_append.mpr (.inl h)
    · exact List.mem_append.mpr (.inr (List.mem_append.mpr (.inl h)))
  · obtain ⟨v, a, b⟩ := R.e.names x av e
    exact ⟨v, a.mono hh_less, b⟩
  · obtain ⟨a, vs, p1, p2, p3⟩ := R.e.own j xs e
    exact ⟨a, vs, p1, p2, p3.mono hh_less⟩

/-- the heap turned at hidden addresses (iterators) and at the locals -/
theorem turn_rel {H ρ wr : List Addr} {s : Shared} (hg : COk C) (R : Rel C (H ++ wr) ρ σ s) {m : Str → Option Value} (hn : s.heap.Ns C.env.locals m) {r : List (Str × FV)} {bs : List (Str × Value)} {h' : Heap} {tk : Nat}
    (hk : ∀ p ∈ r, C.env.kindOf p.1 = some .local) (hb : Paired (RowR (Hh (H ++ wr) ρ h')) r bs) (hn' : h'.Ns C.env.locals (bindAll m bs)) (hwm : ∀ b ∈ wr, b ∉ C.mu) (hwl : ∀ b ∈ wr, ∃ o, h'.get? b = some o)
    (keep : ∀ b o, b ∉ wr → b ≠ C.env.locals → s.heap.get? b = some o → h'.get? b = some o) :
    Rel C (H ++ wr) ρ (setRow σ r) { s with heap := h', toks := tk } := by
  have hx : HExt (Hh (H ++ wr) ρ s.heap) (Hh (H ++ wr) ρ h') := by
    intro b o e
    have hb : b ∉ ρ ++ (H ++ wr) := fun m => by unfold Hh at e; rw [hideAll_none _ m] at e; cases e
    refine hideAll_get _ (keep b o (fun m => hb (List.mem_append.mpr (.inr (List.mem_append.mpr (.inr m))))) (fun q => hb (List.mem_append.mpr (.inr (q ▸ R.sub _ R.loc)))) (of_hideAll _ e)) hb
  refine ⟨⟨hg.gm _ _ hx R.e.g, fun a ha => ?_, fun y av e => ?_, fun j ys e => ?_⟩, R.nd, by rw [setRow_hp]; exact R.len, ⟨_, hn'⟩, R.loc, R.sub, cells_to R.cl fun c _ o hm e d => keep c o (fun m => hwm c m hm) (ns_ne_cell hn e d) e, R.out⟩
  · by_cases q : a = C.env.locals
    · subst q; obtain ⟨o, _, _, e, _⟩ := hn'; exact ⟨o, e⟩
    · by_cases q2 : a ∈ wr
      · exact hwl a q2
      · obtain ⟨o, e⟩ := R.e.low a ha
        exact ⟨o, keep a o q2 q e⟩
  · rcases row_loc (ρ := ρ) (env := C.env) r bs σ m hb hk e with ⟨v, a, b, c⟩ | ⟨h1, h2⟩
    · exact ⟨v, a, .inl ⟨b, _, hn', c⟩⟩
    · obtain ⟨u, a, b⟩ := R.e.names y av h1
      refine ⟨u, a.mono hx, ?_⟩
      have cell : ∀ c v, C.env.cells.lookup y = some c → s.heap.IsCell c (some v) → h'.IsCell c (some v) := by
        rintro c v b2 ⟨o, q1, q2⟩
        obtain ⟨o', _, _, r1, r2, _⟩ := hn
        exact ⟨o, keep c o (fun q => hwm c q (R.cl y c b2).1) (fun q => by rw [q, r1] at q1; cases q1; rw [q2] at r2; cases r2) q1, q2⟩
      rcases b with ⟨b1, m', b2, b3⟩ | ⟨b1, c, b2, b3⟩ | ⟨b1, b0, c, b2, b3⟩
      · refine .inl ⟨b1, _, hn', ?_⟩
        rw [h2, ← Ns.uniq b2 hn]; exact b3
      · exact .inr (.inl ⟨b1, c, b2, cell c u b2 b3⟩)
      · exact .inr (.inr ⟨b1, b0, c, b2, cell c u b2 b3⟩)
  · rw [setRow_hp] at e
    obtain ⟨a, us, e1, hp, hu⟩ := R.e.own j ys e
    have hm := List.mem_of_getElem? e1
    exact ⟨a, us, e1, hp.at fun o q => keep a o (fun m => R.nd.2.2 a hm a (List.mem_append.mpr (.inr m)) rfl) (fun q => R.nd.2.2 a hm a (q ▸ R.sub _ R.loc) rfl) q, hu.mono hx⟩

/-- the iterators' last turn -/
theorem done_rel {H ρ wr : List Addr} {s : Shared} (hg : COk C) (R : Rel C (H ++ wr) ρ σ s) (hs : ∀ a ∈ C.mu, a ∈ H) (ho : ∀ b ∈ C.out, b ∈ H) (hH : ∀ b ∈ H, b ∉ wr) {h' : Heap} {tk : Nat} (keep : ∀ b o, b ∉ wr → s.heap.get? b = some o → h'.get? b = some o) :
    Rel C H ρ σ { s with heap := h', toks := tk } := by
  have hx : HExt (Hh (H ++ wr) ρ s.heap) (Hh H ρ h') := by
    intro b o e
    have hb : b ∉ ρ ++ (H ++ wr) := fun m => by unfold Hh at e; rw [hideAll_none _ m] at e; cases e
    refine hideAll_get _ (keep b o (fun m => hb (List.mem_append.mpr (.inr (List.mem_append.mpr (.inr m))))) (of_hideAll _ e)) ?_
    simp only [List.mem_append, not_or] at hb ⊢
    exact ⟨hb.1, hb.2.1⟩
  have hL : C.env.locals ∉ wr := hH _ (hs _ R.loc)
  have hρ : ∀ a ∈ ρ, a ∉ wr := fun a ha m => R.nd.2.2 a ha a (List.mem_append.mpr (.inr m)) rfl
  refine ⟨⟨hg.gm _ _ hx R.e.g, fun a ha => ?_, fun y av e => ?_, fun j ys e => ?_⟩, ⟨R.nd.1, trivial, fun a ha b hb => R.nd.2.2 a ha b (List.mem_append.mpr (.inl hb))⟩, R.len, ?_, R.loc, hs, cells_to R.cl fun c _ o hm e _ => keep c o (hH c (hs c hm)) e, fun b hb => ⟨ho b hb, (R.out b hb).2⟩⟩
  · rcases List.mem_append.mp ha with h | h
    · obtain ⟨o, e⟩ := R.e.low a (List.mem_append.mpr (.inl h)); exact ⟨o, keep a o (hρ a h) e⟩
    · obtain ⟨o, e⟩ := R.e.low a (List.mem_append.mpr (.inr (List.mem_append.mpr (.inl h)))); exact ⟨o, keep a o (hH a h) e⟩
  · obtain ⟨u, a, b⟩ := R.e.names y av e
    refine ⟨u, a.mono hx, ?_⟩
    rcases b with ⟨b1, m', b2, b3⟩ | ⟨b1, c, b2, o, b3, b4⟩ | ⟨b1, b0, c, b2, o, b3, b4⟩
    · exact .inl ⟨b1, m', b2.at' fun o e => keep _ o hL e, b3⟩
    · exact .inr (.inl ⟨b1, c, b2, o, keep c o (hH c (hs c (R.cl y c b2).1)) b3, b4⟩)
    · exact .inr (.inr ⟨b1, b0, c, b2, o, keep c o (hH c (hs c (R.cl y c b2).1)) b3, b4⟩)
  · obtain ⟨a, us, e1, hp, hu⟩ := R.e.own j ys e
    exact ⟨a, us, e1, hp.at fun o q => keep a o (hρ a (List.mem_of_getElem? e1)) q, hu.mono hx⟩
  · obtain ⟨m, hm⟩ := R.ns
    exact ⟨m, hm.at' fun o e => keep _ o hL e⟩

inductive FI (C : Cx) (H ρ : List Addr) (s : Shared) (I : Nat → St → Prop) (wr fp : List Addr) (T : Nat → Heap → Prop) (len : Nat) (hf : Heap) (n : Nat) (s' : Shared) : Prop
  | mk (i : Nat) (ρ' : List Addr) (σ' : St) (R : Rel C (H ++ wr) ρ' σ' s') (st : Step C ρ s ρ' s') (hT : T i s'.heap) (hI : I i σ') (hi : i ≤ len) (hn : n = len + 1 - i) (hfp : ∀ b ∈ fp, b ∉ ρ') (hx : HExt hf (Hh (H ++ wr) ρ' s'.heap))
theorem EX1_for {iter target : Expr} {body : List Stmt} {p : Pos} {rows : List (List (Str × FV))} (hsrc : SRC C σ iter target rows) (hfs : ∀ x, foldedSetIterable iter C.env x = pure x) (hk : ∀ r ∈ rows, ∀ p ∈ r, C.env.kindOf p.1 = some .local)
    (I : Nat → St → Prop) (h0 : I 0 σ)
    (turn : ∀ i r σ', rows[i]? = some r → I i σ' → EX C (setRow σ' r) body (Turn (I (i + 1)) P))
    (done : ∀ σ', I rows.length σ' → P .next σ') : EX1 C σ (.For target iter body [] p) P := by
  intro H ρ s hg R
  refine wpAny_For (hsrc H ρ s _ _ hg R.e fun s₂ J fp wr hf T k₂ W hT hfp hwr hhf _ => ?_) hfs
  have hl0 : ∀ b ∈ wr, ∃ o, s₂.heap.get? b = some o := fun b hb => W.live 0 _ hT b (W.sub b hb)
  have R₂ := hide_more hg R k₂ hwr hl0
  have hfmu : ∀ b ∈ fp, b ∉ C.mu := fun b hb m => hfp b hb (List.mem_append.mpr (.inr (R.sub b m)))
  have hfout : ∀ b ∈ fp, b ∉ C.out := fun b hb m => hfp b hb (List.mem_append.mpr (.inr (R.out b m).1))
  have hfρ : ∀ b ∈ fp, b ∉ ρ := fun b hb m => hfp b hb (List.mem_append.mpr (.inl m))
  have hx0 : HExt hf (Hh (H ++ wr) ρ s₂.heap) := by
    intro b o e
    obtain ⟨e1, e2⟩ := hhf b o e
    have hb : b ∉ ρ ++ H := fun m => by unfold Hh at e1; rw [hideAll_none _ m] at e1; cases e1
    refine hideAll_get _ (of_hideAll _ e1) ?_
    simp only [List.mem_append, not_or] at hb ⊢
    exact ⟨hb.1, hb.2, e2⟩
  refine codeAny_mono (codeAny_forLoop_any (R := PostR C H ρ s P) (FI C H ρ s I wr fp T rows.length hf) ?_ (rows.length + 1)
    ⟨0, ρ, σ, R₂, .of_keeps k₂, hT, h0, Nat.zero_le _, rfl, hfρ, hx0⟩) ?_
  · rintro n s₁ ⟨i, ρ₁, σ₁, R₁, st₁, hT₁, hI, hi, rfl, hf₁, hx₁⟩
    obtain ⟨m, hm⟩ := R₁.ns
    by_cases hlt : i < rows.length
    · have hr : rows[i]? = some rows[i] := List.getElem?_eq_getElem hlt
      have hkr : ∀ p ∈ rows[i], C.env.kindOf p.1 = some .local := hk _ (List.getElem_mem hlt)
      refine wpAny_mono (W.turn i rows[i] C.env m s₁ (fun s₃ => wpAny _ _ (execs body C.env) _ _ s₃) _ hr hT₁ (hpFor_fn hg.fk) hkr hm (fun q => hfmu _ q R₁.loc) fun bs h' tk hb hT' hn' keep => ?_) (fun x s' q => by obtain ⟨v, rfl, q⟩ := q; exact q) fun _ _ e => e
      have hx₁' : HExt hf (Hh (H ++ wr) ρ₁ h') := by
        intro b o e
        have e1 := hx₁ b o e
        have hb' : b ∉ ρ₁ ++ (H ++ wr) := fun m => by unfold Hh at e1; rw [hideAll_none _ m] at e1; cases e1
        exact hideAll_get _ (keep b o (fun m => hb' (List.mem_append.mpr (.inr (List.mem_append.mpr (.inr m))))) (fun q => hb' (List.mem_append.mpr (.inr (q ▸ R₁.sub _ R₁.loc)))) (of_hideAll _ e1)) hb'
      have hwm : ∀ b ∈ wr, b ∉ C.mu := fun b hb => hfmu b (W.sub b hb)
      have R₃ := turn_rel (tk := tk) hg R₁ hm hkr (hb.mono fun _ _ q => ⟨q.1, q.2.mono hx₁'⟩) hn' hwm (fun b hb => W.live _ _ hT' b (W.sub b hb)) keep
      have st₃ : Step C ρ s ρ₁ { s₁ with heap := h', toks := tk } := by
        obtain ⟨h1, tk1, rfl⟩ := st₁.same
        refine ⟨⟨h', tk, rfl⟩, fun b o hb hm e => kept_trans (st₁.kept b o hb hm e) fun o₂ e₂ => kept_of (keep b o₂ (fun m => by rw [hwr b m] at e; cases e) (fun q => hm (q ▸ R₁.loc)) e₂), st₁.fresh, st₁.pre⟩
      refine wpAny_mono (turn i rows[i] σ₁ hr hI (H ++ wr) ρ₁ _ hg R₃) (fun f s₄ q => ?_) fun _ _ e => e.elim
      obtain ⟨ρ₄, σ₄, o, R₄, st₄, oi, hp⟩ := q
      have st := st₃.trans st₄ R₄.nmut
      have hf₄ : ∀ b ∈ fp, b ∉ ρ₄ := fun b hb m => by
        rcases st₄.fresh b m with q | q
        · exact hf₁ b hb q
        · obtain ⟨o, e⟩ := W.live _ _ hT' b hb
          have : h'.get? b = none := q
          rw [this] at e; cases e
      have hT₄ : T (i + 1) s₄.heap := W.frame _ _ _ hT' fun b hb o e => st₄.keep b o (hf₁ b hb) (hfmu b hb) (hfout b hb) e
      have hx₄ : HExt hf (Hh (H ++ wr) ρ₄ s₄.heap) := hx₁'.trans (st₄.hext R₃)
      cases oi with
      | next => exact ⟨rows.length + 1 - (i + 1), by (first | lia | omega), i + 1, ρ₄, σ₄, R₄, st, hT₄, hp, hlt, rfl, hf₄, hx₄⟩
      | cont => exact ⟨rows.length + 1 - (i + 1), by (first | lia | omega), i + 1, ρ₄, σ₄, R₄, st, hT₄, hp, hlt, rfl, hf₄, hx₄⟩
      | brk => exact ⟨.next, rfl, ρ₄, σ₄, .next, hide_less hg R₄ R.sub (fun b hb => (R.out b hb).1), st, .next, hp⟩
      | ret r => exact ⟨.ret _, rfl, ρ₄, σ₄, _, hide_less hg R₄ R.sub (fun b hb => (R.out b hb).1), st, .ret (r.mono hh_less), hp⟩
    · have hin : i = rows.length := by (first | lia | omega)
      subst hin
      refine W.done s₁ _ _ hT₁ fun h' tk keep => ?_
      have hH : ∀ b ∈ H, b ∉ wr := fun b hb m => by
        obtain ⟨o, e⟩ := R.e.low b (List.mem_append.mpr (.inr hb))
        rw [hwr b m] at e; cases e
      have R₃ := done_rel (tk := tk) hg R₁ R.sub (fun b hb => (R.out b hb).1) hH keep
      have st₃ : Step C ρ s ρ₁ { s₁ with heap := h', toks := tk } := by
        obtain ⟨h1, tk1, rfl⟩ := st₁.same
        exact ⟨⟨h', tk, rfl⟩, fun b o hb hm e => kept_trans (st₁.kept b o hb hm e) fun o₂ e₂ => kept_of (keep b o₂ (fun m => by rw [hwr b m] at e; cases e) e₂), st₁.fresh, st₁.pre⟩
      exact wpAny_execs_nil ⟨.next, rfl, ρ₁, σ₁, .next, R₃, st₃, .next, done σ₁ hI⟩
  · rintro r s' ⟨f, rfl, hp⟩
    exact hp
end Mine
end
/-! Ex6 -/
section
open PySem PySem.W PyProof.Rows PySem.Builtin PySem.Builtin.Str
namespace Mine
variable {C : Cx} {σ : St} {P : Out → St → Prop}

theorem paired_get {α β : Type} {F : α → β → Prop} {xs : List α} {l : List β} (h : Paired F xs l) {i : Nat} {x : α} {v : β} (e1 : xs[i]? = some x) (e2 : l[i]? = some v) : F x v := by
  induction h generalizing i with
  | nil => cases e1
  | cons a _ ih =>
    cases i with
    | zero => simp at e1 e2; subst e1 e2; exact a
    | succ i => exact ih (by simpa using e1) (by simpa using e2)

/-- a plain name as the target -/
theorem Turner.name {prog : Program} {w : World} {A : Around} {x : Str} {px : Pos} {I : Addr} {fp wr : List Addr} {n : Nat} {Pv : Nat → Value → Prop} {T : Nat → Heap → Prop} {hf : Heap} {fs : List FV} (W : Walks prog w A I fp wr n Pv T) (hn : fs.length = n)
    (hlive : ∀ i h, T i h → ∀ b ∈ fp, ∃ o, h.get? b = some o) (hP : ∀ i f v, fs[i]? = some f → Pv i v → FR hf f v) : Turner prog w A (.Name x px) I fp wr (fs.map fun f => [(x, f)]) hf T where
  sub := W.sub
  frame := W.frame
  live := hlive
  turn := by
    intro i r env m s Q E hr hT hp hk hns hL h
    rw [List.getElem?_map] at hr
    obtain ⟨f, hf', rfl⟩ := Option.map_eq_some_iff.mp hr
    have hi : i < n := by rw [← hn]; exact (List.getElem?_eq_some_iff.mp hf').1
    refine W.item i s _ E hi hT fun v h₁ tk₁ hPv hT₁ hk₁ => ⟨v, rfl, ?_⟩
    refine wpAny_of_eq (a := ()) rfl ?_
    have hLw : env.locals ∉ wr := fun q => hL (W.sub _ q)
    refine PySem.wpAny_assign_Name (wpAny_storeName_local (hk _ (List.mem_cons_self ..)) (hns.at' fun o e => hk₁ _ o hLw e) (fun h₂ hn₂ hs₂ => ?_) hp)
    refine h [(x, v)] h₂ _ (.cons ⟨rfl, hP i f v hf' hPv⟩ .nil) ?_ hn₂ fun b o hb hbL e => (hs₂.2 b hbL).trans (hk₁ b o hb e)
    exact W.frame _ _ _ hT₁ fun b hb o e => (hs₂.2 b fun q => hL (q ▸ hb)).trans e
  done := by
    intro s Q E hT h
    refine W.done s Q E ?_ h
    rw [List.length_map, hn] at hT; exact hT
  self := W.self

theorem SRC_list {iter : Expr} {x : Str} {px : Pos} {xs : List FV} (he : EV C σ iter (.fv (.list xs))) : SRC C σ iter (.Name x px) (xs.map fun f => [(x, f)]) := by
  intro H ρ s Q E hg R h
  refine he H ρ s _ E hg R fun v s₁ k₁ hv => ?_
  cases hv with | fv hv =>
  obtain ⟨a, vs, rfl, hp, hs, hf⟩ := hv.list_inv
  have R₁ := R.keeps hg.gm k₁
  have hl := (hide_plain hp).isList
  obtain ⟨n, hn⟩ := hide_plain hp
  have hlt : a < s₁.heap.objs.size := Heap.lt_size hn
  refine wpAny_pyIter_list hl ?_
  have k2 := keeps_push s₁ { cls := .type "list_iterator", data := .fields #[.ref a, .int 0 0] }
  have hne : a ≠ s₁.heap.objs.size := Nat.ne_of_lt hlt
  have e1 := hf.length
  refine h _ s₁.heap.objs.size [s₁.heap.objs.size, a] [s₁.heap.objs.size] (Hh H ρ s₁.heap) (fun i h => h.IsListIter s₁.heap.objs.size a i ∧ h.IsList a vs) (keeps_trans k₁ k2) ?_ ?_ ?_ ?_ ?_ ?_
  · refine Turner.name (Walks.list hg.hh _ a hne vs) (by simpa using e1) (fun i h hT b hb => ?_) fun i f v h1 h2 => ?_
    · simp only [List.mem_cons, List.not_mem_nil, or_false] at hb
      rcases hb with rfl | rfl
      · obtain ⟨o, q, _⟩ := hT.1; exact ⟨o, q⟩
      · obtain ⟨o, q, _⟩ := hT.2; exact ⟨o, q⟩
    · exact paired_get hf h1 (by simpa using h2)
  · exact ⟨⟨_, Heap.get?_push_size _ rfl, rfl, rfl⟩, hl.at fun o e => Heap.get?_push_of_some _ e⟩
  · intro b hb m
    obtain ⟨o, q⟩ := R₁.low b m
    simp only [List.mem_cons, List.not_mem_nil, or_false] at hb
    rcases hb with rfl | rfl
    · exact absurd (Heap.lt_size q) (Nat.lt_irrefl _)
    · obtain ⟨n', hn'⟩ := hp
      unfold Hh at hn'
      rw [hideAll_none _ m] at hn'; cases hn'
  · intro b hb
    rw [List.mem_singleton.mp hb]
    cases e : s.heap.get? s₁.heap.objs.size with
    | none => rfl
    | some o => exact absurd (Heap.lt_size (keeps_ext k₁ _ _ e)) (Nat.lt_irrefl _)
  · intro b o e
    refine ⟨Hh_keeps k2 b o e, fun m => ?_⟩
    rw [List.mem_singleton.mp m] at e
    exact absurd (Heap.lt_size (of_hideAll _ e)) (Nat.lt_irrefl _)
  · rw [List.length_map, e1]; simpa using hs

/-- a range, once it is made -/
theorem range_turns {x : Str} {px : Pos} {a b c : Int} {n : Nat} {H ρ : List Addr} {s s₁ : Shared} {r : Addr} {t u v : Tok} {Q : Value → Shared → Prop} {E : Value → Shared → Prop} (hg : COk C) (R : RelE C H ρ σ s) (k₁ : Keeps s s₁) (hr : IsRange s₁.heap r a b c t u v)
    (hs : Builtin.Range.small a b c = true) (hn : Builtin.Range.rangeSize a b c = n) (hb : n ≤ sizeLine)
    (h : ∀ s₂ I fp wr hf T, Keeps s s₂ → Turner C.prog C.w C.A (.Name x px) I fp wr ((List.range n).map fun i : Nat => [(x, FV.int (a + i * c))]) hf T → T 0 s₂.heap → (∀ b ∈ fp, b ∉ ρ ++ H) → (∀ b ∈ wr, s.heap.get? b = none) →
      (∀ b o, hf.get? b = some o → (Hh H ρ s₂.heap).get? b = some o ∧ b ∉ wr) → ((List.range n).map fun i : Nat => [(x, FV.int (a + i * c))]).length ≤ sizeLine → Q (.ref I) s₂) :
    wpAny (model C.prog C.w) C.A (pyIter (.ref r)) Q E s₁ := by
  refine wpAny_pyIter_range hr hs ?_
  rw [hn]
  have R₁ := R.keeps hg.gm k₁
  have k2 := keeps_push s₁ { cls := .type "range_iterator", data := .fields #[rawInt a, rawInt (n : Int), rawInt c] }
  have e : ((List.range n).map fun i : Nat => [(x, FV.int (a + i * c))]) = ((List.range n).map fun i : Nat => FV.int (a + i * c)).map fun f => [(x, f)] := by rw [List.map_map]; rfl
  rw [e] at h
  refine h _ s₁.heap.objs.size [s₁.heap.objs.size] [s₁.heap.objs.size] (Hh H ρ s₁.heap) (fun i h => IsRangeIter h s₁.heap.objs.size (a + (i : Nat) * c) ((n : Int) - (i : Nat)) c) (keeps_trans k₁ k2) ?_ ?_ ?_ ?_ ?_ ?_
  · refine Turner.name (Walks.range hg.hh _ a c n) (by simp) (fun i h hT b hb => ?_) fun i f v h1 h2 => ?_
    · rw [List.mem_singleton.mp hb]; exact ⟨_, hT⟩
    · obtain ⟨t', rfl⟩ := h2
      rw [List.getElem?_map] at h1
      obtain ⟨j, q, rfl⟩ := Option.map_eq_some_iff.mp h1
      have : j = i := by
        have := List.getElem?_eq_some_iff.mp q
        obtain ⟨_, q2⟩ := this
        simpa using q2.symm
      subst this
      exact .int _ _
  · simpa using Heap.get?_push_size s₁.heap (o := { cls := .type "range_iterator", data := .fields #[rawInt a, rawInt (n : Int), rawInt c] }) rfl
  · intro b hb m
    rw [List.mem_singleton.mp hb] at m
    obtain ⟨o, q⟩ := R₁.low _ m
    exact absurd (Heap.lt_size q) (Nat.lt_irrefl _)
  · intro b hb
    rw [List.mem_singleton.mp hb]
    cases e : s.heap.get? s₁.heap.objs.size with
    | none => rfl
    | some o => exact absurd (Heap.lt_size (keeps_ext k₁ _ _ e)) (Nat.lt_irrefl _)
  · intro b o e
    refine ⟨Hh_keeps k2 b o e, fun m => ?_⟩
    rw [List.mem_singleton.mp m] at e
    exact absurd (Heap.lt_size (of_hideAll _ e)) (Nat.lt_irrefl _)
  · simpa using hb

/-- range(n) -/
theorem SRC_range1 {x : Str} {px np p : Pos} {e : Expr} {m : Int} (b : Bi C "range" (.type "range")) (he : EV C σ e (.fv (.int m))) (hb : m ≤ 100000) (hlo : -100000 ≤ m) (hs : starEach [e] C.env = [(false, eval e C.env)]) :
    SRC C σ (.Call (.Name "range" np) [e] [] p) (.Name x px) ((List.range m.toNat).map fun i : Nat => [(x, FV.int i)]) := by
  intro H ρ s Q E hg R h
  refine wpAny_Call_NameR (glob_builtin hg R b.hx b.hd b.hm b.hn b.hb ?_)
  refine PyProof.Rows.callWith_type1 (PyProof.Rows.spliced_more (he H ρ s _ E hg R fun y s₁ k₁ hy => PyProof.Rows.spliced_none ?_) hs) hs
  cases hy with | fv hy =>
  cases hy with | int _ t =>
  refine call_range_1 ?_
  have k2 := keeps_push_tok s₁ { cls := .type "range", data := .fields #[.int 0 s₁.toks, .int m t, .int 1 (s₁.toks + 1)] } (s₁.toks + 1 + 1)
  have e : ((List.range m.toNat).map fun i : Nat => [(x, FV.int i)]) = ((List.range m.toNat).map fun i : Nat => [(x, FV.int (0 + i * 1))]) := by simp
  rw [e] at h
  refine range_turns (c := 1) (a := 0) (b := m) hg R (keeps_trans k₁ k2) (Heap.get?_push_size _ rfl) (small_one (by (first | lia | omega)) (by (first | lia | omega)) (by (first | lia | omega)) (by (first | lia | omega))) (by rw [rangeSize_nat]; simp) (by rw [sizeLine_eq]; (first | lia | omega)) h

/-- range(a, b) -/
theorem SRC_range2 {x : Str} {px np p : Pos} {e f : Expr} {a m : Int} (b : Bi C "range" (.type "range")) (he : EV C σ e (.fv (.int a))) (hf : EV C σ f (.fv (.int m))) (ha : -100000 ≤ a ∧ a ≤ 100000) (hb : -100000 ≤ m ∧ m ≤ 100000)
    (hs : starEach [e, f] C.env = (false, eval e C.env) :: starEach [f] C.env) (hs' : starEach [f] C.env = (false, eval f C.env) :: starEach [] C.env) :
    SRC C σ (.Call (.Name "range" np) [e, f] [] p) (.Name x px) ((List.range (m - a).toNat).map fun i : Nat => [(x, FV.int (a + i))]) := by
  intro H ρ s Q E hg R h
  refine wpAny_Call_NameR (glob_builtin hg R b.hx b.hd b.hm b.hn b.hb ?_)
  refine PyProof.Rows.callWith_type1 (PyProof.Rows.spliced_more (he H ρ s _ E hg R fun y s₁ k₁ hy => PyProof.Rows.spliced_more (hf H ρ s₁ _ E hg (R.keeps hg.gm k₁) fun z s₂ k₂ hz => PyProof.Rows.spliced_none ?_) hs') hs) hs (by rw [hs']; rfl)
  cases hy with | fv hy =>
  cases hy with | int _ t =>
  cases hz with | fv hz =>
  cases hz with | int _ u =>
  refine call_range_2 ?_
  have k2 := keeps_push_tok s₂ { cls := .type "range", data := .fields #[.int a t, .int m u, .int 1 s₂.toks] } (s₂.toks + 1)
  have e : ((List.range (m - a).toNat).map fun i : Nat => [(x, FV.int (a + i))]) = ((List.range (m - a).toNat).map fun i : Nat => [(x, FV.int (a + i * 1))]) := by simp
  rw [e] at h
  refine range_turns (c := 1) (a := a) (b := m) hg R (keeps_trans (keeps_trans k₁ k₂) k2) (Heap.get?_push_size _ rfl) (small_one (by (first | lia | omega)) (by (first | lia | omega)) (by (first | lia | omega)) (by (first | lia | omega))) (rangeSize_nat a m) (by rw [sizeLine_eq]; (first | lia | omega)) h

/-- range(a, b, -1) -/
theorem SRC_down {x : Str} {px np p : Pos} {e f g : Expr} {a m : Int} (b : Bi C "range" (.type "range")) (he : EV C σ e (.fv (.int a))) (hf : EV C σ f (.fv (.int m))) (hg' : EV C σ g (.fv (.int (-1)))) (ha : -100000 ≤ a ∧ a ≤ 100000) (hb : -100000 ≤ m ∧ m ≤ 100000)
    (hs : starEach [e, f, g] C.env = (false, eval e C.env) :: starEach [f, g] C.env) (hs' : starEach [f, g] C.env = (false, eval f C.env) :: starEach [g] C.env) (hs'' : starEach [g] C.env = (false, eval g C.env) :: starEach [] C.env) :
    SRC C σ (.Call (.Name "range" np) [e, f, g] [] p) (.Name x px) ((List.range (a - m).toNat).map fun i : Nat => [(x, FV.int (a - i))]) := by
  intro H ρ s Q E hg R h
  refine wpAny_Call_NameR (glob_builtin hg R b.hx b.hd b.hm b.hn b.hb ?_)
  refine PyProof.Rows.callWith_type1 (PyProof.Rows.spliced_more (he H ρ s _ E hg R fun y s₁ k₁ hy => PyProof.Rows.spliced_more (hf H ρ s₁ _ E hg (R.keeps hg.gm k₁) fun z s₂ k₂ hz => PyProof.Rows.spliced_more (hg' H ρ s₂ _ E hg ((R.keeps hg.gm k₁).keeps hg.gm k₂) fun w s₃ k₃ hw => PyProof.Rows.spliced_none ?_) hs'') hs') hs) hs (by rw [hs', hs'']; rfl)
  cases hy with | fv hy =>
  cases hy with | int _ t =>
  cases hz with | fv hz =>
  cases hz with | int _ u =>
  cases hw with | fv hw =>
  cases hw with | int _ v =>
  refine PySem.call_range_3 (by decide) ?_ (.inl (PyProof.noPylong_small (by decide)))
  have k2 := keeps_push_tok s₃ { cls := .type "range", data := .fields #[.int a t, .int m u, .int (-1) v] } s₃.toks
  have e : ((List.range (a - m).toNat).map fun i : Nat => [(x, FV.int (a - i))]) = ((List.range (a - m).toNat).map fun i : Nat => [(x, FV.int (a + i * (-1)))]) := by
    refine List.map_congr_left fun i _ => ?_
    rw [show a - (i : Int) = a + i * (-1) by (first | lia | omega)]
  rw [e] at h
  refine range_turns (c := -1) (a := a) (b := m) hg R (keeps_trans (keeps_trans k₁ (keeps_trans k₂ k₃)) k2) (Heap.get?_push_size _ rfl) (small_down (by (first | lia | omega)) (by (first | lia | omega)) (by (first | lia | omega)) (by (first | lia | omega))) (rangeSize_downNat a m) (by rw [sizeLine_eq]; (first | lia | omega)) h
end Mine
end
/-! Ex7 -/
section
open PySem PySem.W PyProof.Rows PySem.Builtin PySem.Builtin.Str
namespace Mine

mutual
noncomputable def resolve (σ : St) : Nat → AV → Option FV
  | _, .fv f => some f
  | n + 1, .own k => match σ.hp[k]? with
    | some xs => (resolves σ n xs).map .list
    | none => none
  | 0, .own _ => none
  | _, .app _ => none
noncomputable def resolves (σ : St) : Nat → List AV → Option (List FV)
  | _, [] => some []
  | n, x :: xs => match resolve σ n x, resolves σ n xs with
    | some f, some fs => some (f :: fs)
    | _, _ => none
end

theorem resolves_get {σ : St} {n : Nat} : ∀ {xs : List AV} {fs : List FV}, resolves σ n xs = some fs → xs.length = fs.length ∧ ∀ (i : Nat) x f, xs[i]? = some x → fs[i]? = some f → resolve σ n x = some f
  | [], fs, e => by rw [resolves] at e; cases e; exact ⟨rfl, fun i x f h => by cases h⟩
  | x :: xs, fs, e => by
    rw [resolves] at e
    split at e
    · rename_i f gs h1 h2
      cases e
      obtain ⟨a, b⟩ := resolves_get h2
      refine ⟨by simp [a], fun i y g e1 e2 => ?_⟩
      cases i with
      | zero => simp at e1 e2; subst e1 e2; exact h1
      | succ i => exact b i y g (by simpa using e1) (by simpa using e2)
    · cases e

theorem resolve_ok {C : Cx} {σ : St} {H H0 ρ : List Addr} {s : Shared} (R : Rel C H ρ σ s) (hs : ∀ a ∈ H0, a ∈ H) : ∀ (n : Nat) (v : AV) (x : Value) (r : FV), resolve σ n v = some r → VR (Hh H ρ s.heap) ρ v x → FR (hideAll s.heap H0) r x := by
  have hx : HExt (Hh H ρ s.heap) (hideAll s.heap H0) := by
    intro b o e
    have hb : b ∉ ρ ++ H := fun m => by unfold Hh at e; rw [hideAll_none _ m] at e; cases e
    exact hideAll_get _ (of_hideAll _ e) fun m => hb (List.mem_append.mpr (.inr (hs b m)))
  intro n
  induction n with
  | zero =>
    intro v x r e hv
    cases v with
    | fv f => rw [resolve] at e; cases e; cases hv with | fv q => exact q.mono hx
    | own k => rw [resolve] at e; cases e
    | app k => rw [resolve] at e; cases e
  | succ n ih =>
    intro v x r e hv
    cases v with
    | fv f => rw [resolve] at e; cases e; cases hv with | fv q => exact q.mono hx
    | app k => rw [resolve] at e; cases e
    | own k =>
      rw [resolve] at e
      split at e
      · rename_i xs hk
        obtain ⟨fs, h1, rfl⟩ := Option.map_eq_some_iff.mp e
        cases hv with | own eo =>
        obtain ⟨a, vs, e2, hp, hsz, hb, hi⟩ := R.e.own k xs hk
        have e3 := Option.some.inj (e2.symm.trans eo)
        subst e3
        obtain ⟨hl, hg⟩ := resolves_get h1
        have ha : a ∉ H0 := fun m => R.nd.2.2 a (List.mem_of_getElem? eo) a (hs a m) rfl
        obtain ⟨n', hn'⟩ := hp
        refine .list ⟨n', hideAll_get _ hn' ha⟩ (by rw [hsz, hl]) hb fun i y u e1 e2 => ?_
        have hlt : i < xs.length := by rw [hl]; exact (List.getElem?_eq_some_iff.mp e1).1
        have ex : xs[i]? = some xs[i] := List.getElem?_eq_getElem hlt
        exact ih _ u y (hg i _ y ex e1) (hi i _ u ex e2)
      · cases e

noncomputable def envAt (name : Str) (scope : Scope) (L a : Addr) (cd : Value) : Env := envOf name scope L a cd

/-- the activation of a def without captured names -/
noncomputable def cx (K : Frag) (mg mb : Str → Option Value) (prog : Program) (w : World) (d : Nat) (name : Str) (scope : Scope) (f : Addr) (cd : Value) (A : Around) (L : Addr) : Cx :=
  { prog, w, A, env := envOf name scope L f cd, mu := [L], K, mg, mb, d }

noncomputable def st0 (names : List Str) (args : List FV) : St := { loc := fun x => (names.zip (args.map AV.fv)).lookup x, hp := [] }

noncomputable def Returns (r : FV) (o : Out) (σ : St) : Prop := match o with
  | .ret v => ∃ n, resolve σ n v = some r
  | .next => r = .none
  | _ => False

theorem lookup_zip {α β : Type} {F : α → β → Prop} {x : Str} : ∀ {names : List Str} {as : List α} {bs : List β}, Paired F as bs → names.Nodup → ∀ {a : α}, (names.zip as).lookup x = some a → ∃ b, (names.zip bs).reverse.lookup x = some b ∧ F a b ∧ x ∈ names
  | [], _, _, _, _, _, e => by simp at e
  | _ :: _, _, _, .nil, _, _, e => by simp at e
  | n :: ns, _, _, .cons (a := a) (b := b) h r, hd, c, e => by
    obtain ⟨h1, h2⟩ := List.nodup_cons.mp hd
    rw [List.zip_cons_cons, List.lookup_cons] at e
    rw [List.zip_cons_cons, List.reverse_cons]
    by_cases q : x = n
    · subst q
      simp at e
      subst e
      refine ⟨b, ?_, h, List.mem_cons_self ..⟩
      have hnone : ∀ (l : List (Str × _)), (∀ p ∈ l, p.1 ≠ x) → (l ++ [(x, b)]).lookup x = some b := by
        intro l
        induction l with
        | nil => intro _; simp
        | cons p l ih =>
          intro hp
          have : (x == p.1) = false := by simpa using fun e => hp p (List.mem_cons_self ..) e.symm
          rw [List.cons_append, List.lookup_cons, this]
          exact ih fun q hq => hp q (List.mem_cons_of_mem _ hq)
      refine hnone _ fun p hp => ?_
      have := List.of_mem_zip (List.mem_reverse.mp hp)
      exact fun e => h1 (e ▸ this.1)
    · have : (x == n) = false := by simpa using q
      rw [this] at e
      obtain ⟨b', e1, e2, e3⟩ := lookup_zip r h2 e
      refine ⟨b', ?_, e2, List.mem_cons_of_mem _ e3⟩
      have happ : ∀ (l : List (Str × _)), l.lookup x = some b' → (l ++ [(n, b)]).lookup x = some b' := by
        intro l
        induction l with
        | nil => intro h; cases h
        | cons p l ih =>
          intro hp
          rw [List.cons_append, List.lookup_cons]
          rw [List.lookup_cons] at hp
          by_cases q2 : (x == p.1) = true
          · rw [q2] at hp ⊢; exact hp
          · simp only [Bool.not_eq_true] at q2
            rw [q2] at hp ⊢; exact ih hp
      exact happ _ e1

theorem callsTo_plain {K : Frag} {mg mb : Str → Option Value} {prog : Program} {w : World} {d : Nat} {f c : Addr} {args : List FV} {r : FV} {name : Str} {params : Arguments} {body : List Stmt} {scope : Scope} {pm doc : Value} {oc : Obj} {vs : Array Value} {t : Tok} {names : List Str} {o : Obj}
    (hK : K.lookup f = some o) (hdat : o.data = .func (Calls.docDef name params body scope pm (.ref c) doc)) (hC : K.lookup c = some oc) (hcd : oc.data = .fields vs) (hc1 : vs[1]? = some (.str name t))
    (hbind : ∀ vs : List Value, vs.length = names.length → bindArgs (Calls.docDef name params body scope pm (.ref c) doc) ⟨vs, []⟩ = pure (names.zip vs)) (hnd : names.Nodup) (hlen : args.length = names.length)
    (hloc : ∀ x ∈ names, scope.names.lookup x = some .local) (hco : scope.isCoroutine = false) (hgen : scope.isGenerator = false) (hk : scope.kind = .function) (hcell : ∀ x ∈ scope.names, x.2 ≠ .cell)
    (hbody : ∀ A L, EX (cx K mg mb prog w d name scope f (.ref c) A L) (st0 names args) body (Returns r)) : CallsTo K mg mb prog w (d + 1) f args r := by
  intro A hid s us Q E hh hdp hun hbb hG hlow hargs hq
  have hG' : Gl K mg mb s.heap := hG.mono fun _ _ e => of_hideAll _ e
  have hul : us.length = names.length := by rw [← hargs.length, hlen]
  refine wpAny_call ?_
  refine call_plain_ret (hroom := by (first | lia | omega)) (hG'.inK _ _ hK) hdat hG'.nolimit ⟨c, oc, vs, t, rfl, hG'.inK _ _ hC, hcd, hc1⟩ (hbind us hul) (fun x hx => hloc x.1 (List.of_mem_zip hx).1) (fun h₁ F => ?_) hco hgen hk hcell
  have hL : ∀ b o, s.heap.get? b = some o → b ≠ s.heap.objs.size := fun b o e => Nat.ne_of_lt (Heap.lt_size e)
  have hx : HExt (hideAll s.heap hid) (hideAll h₁ (s.heap.objs.size :: hid)) := by
    intro b o e
    have hb : b ∉ hid := fun m => by rw [hideAll_none _ m] at e; cases e
    have he := of_hideAll _ e
    refine hideAll_get _ (F.keep b o he) ?_
    simp only [List.mem_cons, not_or]
    exact ⟨hL b o he, hb⟩
  have hC : COk (cx K mg mb prog w d name scope f (.ref c) (A.deeper (envOf name scope s.heap.objs.size f (.ref c))) s.heap.objs.size) :=
    ⟨hh, (by show A.depth + 1 + d < recursionLimit; (first | lia | omega)), (by show A.units + 3 + 10 * d + 100 < cLine; (first | lia | omega)), hk, rfl, rfl, hbb⟩
  have R : Rel (cx K mg mb prog w d name scope f (.ref c) (A.deeper (envOf name scope s.heap.objs.size f (.ref c))) s.heap.objs.size) (s.heap.objs.size :: hid) [] (st0 names args)
      { s with heap := h₁, toks := s.toks + (names.zip us).length } := by
    refine ⟨⟨hG.mono hx, fun a ha => ?_, fun x av e => ?_, fun k xs e => ?_⟩, ⟨List.nodup_nil, trivial, fun a h => (by cases h)⟩, rfl, ⟨_, F.ns⟩, List.mem_singleton.mpr rfl, fun a ha => ?_, fun x c e => (by cases e), fun b hb => (by cases hb)⟩
    · simp only [List.nil_append, List.mem_cons] at ha
      rcases ha with rfl | ha
      · obtain ⟨o, _, _, e, _⟩ := F.ns; exact ⟨o, e⟩
      · obtain ⟨o, e⟩ := hlow a ha; exact ⟨o, F.keep a o e⟩
    · have hp : Paired (VR (hideAll s.heap hid) []) (args.map AV.fv) us := by
        clear hq hbody hlen hul e F
        induction hargs with
        | nil => exact .nil
        | cons a _ ih => exact .cons (.fv a) ih
      obtain ⟨v, e1, e2, e3⟩ := lookup_zip hp hnd e
      exact ⟨v, e2.mono hx, .inl ⟨hloc x e3, _, F.ns, e1⟩⟩
    · cases e
    · exact List.mem_cons.mpr (.inl (List.mem_singleton.mp ha))
  refine wpAny_mono (hbody _ _ _ _ _ hC R) (fun fl s' hp => ?_) fun _ _ e => e
  obtain ⟨ρ', σ', oo, R', st, oi, hr⟩ := hp
  have kk : Keeps s s' := by
    obtain ⟨h', tk, rfl⟩ := st.same
    exact ⟨h', tk, rfl, fun b o e => st.keep b o (by simp) (fun m => hL b o e (List.mem_singleton.mp m)) (fun m => by cases m) (F.keep b o e)⟩
  cases oi with
  | ret v =>
    obtain ⟨n, hn⟩ := hr
    exact hq _ _ kk (resolve_ok R' (fun a ha => List.mem_cons_of_mem _ ha) n _ _ r hn v)
  | next => cases hr; exact hq _ _ kk .none
  | brk => exact hr.elim
  | cont => exact hr.elim
end Mine
end
/-! Hn -/
section
open PySem PySem.W PyProof.Rows
set_option maxHeartbeats 0
namespace Mine

/-! the part of the heap behind the top that the walk looks at; bodies by their place in the row's program -/
noncomputable def stAt (i : Nat) : Stmt := PySem.Challenge.pw_ij0108_02.main.body.getD i (.Pass default)
noncomputable def inCls : Stmt → Nat → Stmt
  | .ClassDef _ _ _ b _ _ _ _ _ _ _, i => b.getD i (.Pass default)
  | s, _ => s
noncomputable def fnOf : Stmt → FuncData → FuncData
  | .FunctionDef _ a b _ _ _ sc _ _ _, d => { d with params := a, body := .stmts b, scope := sc }
  | _, d => d
noncomputable def docV : Stmt → Tok → Value
  | .FunctionDef _ _ (.Expr (.Constant (.str x) _ _) _ :: _) _ _ _ _ _ _ _, t => .str x t
  | _, _ => .none
noncomputable def frag : Params → Frag := fun P =>
   (nat_lit 2, { cls := PySem.Value.none, data := PySem.Data.dict #[{ hash := PySem.PyData.keyHash P (PySem.Str.ofString "\x69mport.loaded._sre"), key := PySem.Value.str (PySem.Str.ofString "\x69mport.loaded._sre") 183, val := PySem.Value.bool true }, { hash := PySem.PyData.keyHash P (PySem.Str.ofString "class._frozen_importlib.BuiltinImporter"), key := PySem.Value.str (PySem.Str.ofString "class._frozen_importlib.BuiltinImporter") 185, val := PySem.Value.ref 14 }, { hash := PySem.PyData.keyHash P (PySem.Str.ofString "watched.\x69mport"), key := PySem.Value.str (PySem.Str.ofString "watched.\x69mport") 206, val := PySem.Value.ref 18 }, { hash := PySem.PyData.keyHash P (PySem.Str.ofString "class._frozen_importlib.ModuleSpec"), key := PySem.Value.str (PySem.Str.ofString "class._frozen_importlib.ModuleSpec") 216, val := PySem.Value.ref 22 }, { hash := PySem.PyData.keyHash P (PySem.Str.ofString "sys.modules.booked-epoch"), key := PySem.Value.str (PySem.Str.ofString "sys.modules.booked-epoch") 245, val := PySem.Value.int 3 0 }, { hash := PySem.PyData.keyHash P (PySem.Str.ofString "\x69mport.later-laid._sre"), key := PySem.Value.str (PySem.Str.ofString "\x69mport.later-laid._sre") 270, val := PySem.Value.bool true }, { hash := PySem.PyData.keyHash P (PySem.Str.ofString "watched.library"), key := PySem.Value.str (PySem.Str.ofString "watched.library") 272, val := PySem.Value.ref 27 }, { hash := PySem.PyData.keyHash P (PySem.Str.ofString "watched.library-objects"), key := PySem.Value.str (PySem.Str.ofString "watched.library-objects") 0, val := PySem.Value.str (PySem.Str.ofString "\x0c") 0 }, { hash := PySem.PyData.keyHash P (PySem.Str.ofString "watched.library-deep._sre"), key := PySem.Value.str (PySem.Str.ofString "watched.library-deep._sre") 273, val := PySem.Value.str (PySem.Str.ofString "\x04\x00\x00\x0b\x04\x00\x00\x0b\x04\x00\x00\x03\x04\x00\x00\x0b\x08\x04dict\x02") 0 }] 9 }) ::
   (nat_lit 3, { cls := PySem.Value.type "dict", data := PySem.Data.dict #[{ hash := PySem.PyData.keyHash P (PySem.Str.ofString "__name__"), key := PySem.Value.str (PySem.Str.ofString "__name__") 165, val := PySem.Value.str (PySem.Str.ofString "law_ij0108_02") 749 }, { hash := PySem.PyData.keyHash P (PySem.Str.ofString "__doc__"), key := PySem.Value.str (PySem.Str.ofString "__doc__") 166, val := PySem.Value.none }, { hash := PySem.PyData.keyHash P (PySem.Str.ofString "__package__"), key := PySem.Value.str (PySem.Str.ofString "__package__") 167, val := PySem.Value.none }, { hash := PySem.PyData.keyHash P (PySem.Str.ofString "__loader__"), key := PySem.Value.str (PySem.Str.ofString "__loader__") 168, val := PySem.Value.builtin "__main__.__loader__#opaque" }, { hash := PySem.PyData.keyHash P (PySem.Str.ofString "__spec__"), key := PySem.Value.str (PySem.Str.ofString "__spec__") 169, val := PySem.Value.none }, { hash := PySem.PyData.keyHash P (PySem.Str.ofString "__annotations__"), key := PySem.Value.str (PySem.Str.ofString "__annotations__") 170, val := PySem.Value.ref 6 }, { hash := PySem.PyData.keyHash P (PySem.Str.ofString "__builtins__"), key := PySem.Value.str (PySem.Str.ofString "__builtins__") 171, val := PySem.Value.ref 4 }, { hash := PySem.PyData.keyHash P (PySem.Str.ofString "__file__"), key := PySem.Value.str (PySem.Str.ofString "__file__") 173, val := PySem.Value.str (PySem.Str.ofString "/claim/cut.py") 172 }, { hash := PySem.PyData.keyHash P (PySem.Str.ofString "__cached__"), key := PySem.Value.str (PySem.Str.ofString "__cached__") 174, val := PySem.Value.none }, { hash := PySem.PyData.keyHash P (PySem.Str.ofString "_sre"), key := PySem.Value.str (PySem.Str.ofString "_sre") 275, val := PySem.Value.ref 12 }, { hash := PySem.PyData.keyHash P (PySem.Str.ofString "_wall"), key := PySem.Value.str (PySem.Str.ofString "_wall") 288, val := PySem.Value.ref 38 }, { hash := PySem.PyData.keyHash P (PySem.Str.ofString "_tuplegetter"), key := PySem.Value.str (PySem.Str.ofString "_tuplegetter") 347, val := PySem.Value.ref 77 }, { hash := PySem.PyData.keyHash P (PySem.Str.ofString "unorderable_list_difference"), key := PySem.Value.str (PySem.Str.ofString "unorderable_list_difference") 358, val := PySem.Value.ref 88 }, { hash := PySem.PyData.keyHash P (PySem.Str.ofString "Mismatch"), key := PySem.Value.str (PySem.Str.ofString "Mismatch") 486, val := PySem.Value.ref 159 }, { hash := PySem.PyData.keyHash P (PySem.Str.ofString "_Mismatch"), key := PySem.Value.str (PySem.Str.ofString "_Mismatch") 487, val := PySem.Value.ref 159 }, { hash := PySem.PyData.keyHash P (PySem.Str.ofString "_count_diff_all_purpose"), key := PySem.Value.str (PySem.Str.ofString "_count_diff_all_purpose") 509, val := PySem.Value.ref 169 }, { hash := PySem.PyData.keyHash P (PySem.Str.ofString "_twin_re_1"), key := PySem.Value.str (PySem.Str.ofString "_twin_re_1") 549, val := PySem.Value.ref 174 }, { hash := PySem.PyData.keyHash P (PySem.Str.ofString "translate"), key := PySem.Value.str (PySem.Str.ofString "translate") 559, val := PySem.Value.ref 181 }, { hash := PySem.PyData.keyHash P (PySem.Str.ofString "_special_chars_map"), key := PySem.Value.str (PySem.Str.ofString "_special_chars_map") 707, val := PySem.Value.ref 183 }, { hash := PySem.PyData.keyHash P (PySem.Str.ofString "escape"), key := PySem.Value.str (PySem.Str.ofString "escape") 714, val := PySem.Value.ref 193 }, { hash := PySem.PyData.keyHash P (PySem.Str.ofString "_translate"), key := PySem.Value.str (PySem.Str.ofString "_translate") 735, val := PySem.Value.ref 200 }, { hash := PySem.PyData.keyHash P (PySem.Str.ofString "_join_translated_parts"), key := PySem.Value.str (PySem.Str.ofString "_join_translated_parts") 748, val := PySem.Value.ref 207 }, { hash := PySem.PyData.keyHash P (PySem.Str.ofString "_law_signs"), key := PySem.Value.str (PySem.Str.ofString "_law_signs") 756, val := PySem.Value.ref 212 }, { hash := PySem.PyData.keyHash P (PySem.Str.ofString "_law_pieces"), key := PySem.Value.str (PySem.Str.ofString "_law_pieces") 770, val := PySem.Value.ref 219 }, { hash := PySem.PyData.keyHash P (PySem.Str.ofString "_law_fits"), key := PySem.Value.str (PySem.Str.ofString "_law_fits") 776, val := PySem.Value.ref 224 }, { hash := PySem.PyData.keyHash P (PySem.Str.ofString "_law_takes"), key := PySem.Value.str (PySem.Str.ofString "_law_takes") 787, val := PySem.Value.ref 231 }, { hash := PySem.PyData.keyHash P (PySem.Str.ofString "_law_orders"), key := PySem.Value.str (PySem.Str.ofString "_law_orders") 800, val := PySem.Value.ref 238 }, { hash := PySem.PyData.keyHash P (PySem.Str.ofString "_law_product"), key := PySem.Value.str (PySem.Str.ofString "_law_product") 809, val := PySem.Value.ref 245 }, { hash := PySem.PyData.keyHash P (PySem.Str.ofString "_law_amount"), key := PySem.Value.str (PySem.Str.ofString "_law_amount") 819, val := PySem.Value.ref 252 }, { hash := PySem.PyData.keyHash P (PySem.Str.ofString "_law_together"), key := PySem.Value.str (PySem.Str.ofString "_law_together") 825, val := PySem.Value.ref 257 }, { hash := PySem.PyData.keyHash P (PySem.Str.ofString "law"), key := PySem.Value.str (PySem.Str.ofString "law") 831, val := PySem.Value.ref 262 }] 31 }) ::
   (nat_lit 32, { cls := PySem.Value.type "tuple", data := PySem.Data.seq #[] }) ::
   (nat_lit 34, { cls := PySem.Value.type "tuple", data := PySem.Data.seq #[PySem.Value.str (PySem.Str.ofString "k") 285] }) ::
   (nat_lit 35, { cls := PySem.Value.type "tuple", data := PySem.Data.seq #[] }) ::
   (nat_lit 37, { cls := PySem.Value.type "code", data := PySem.Data.fields #[PySem.Value.str (PySem.Str.ofString "_wall") 282, PySem.Value.str (PySem.Str.ofString "_wall") 283, PySem.Value.str (PySem.Str.ofString "/claim/cut.py") 284, PySem.Value.int 2 0, PySem.Value.int 1 0, PySem.Value.int 0 0, PySem.Value.int 0 0, PySem.Value.int 3 0, PySem.Value.ref 32, PySem.Value.bool true, PySem.Value.int 276 0, PySem.Value.ref 33, PySem.Value.none, PySem.Value.ref 34, PySem.Value.ref 35, PySem.Value.ref 36, PySem.Value.int 286 0, PySem.Value.int 2 0, PySem.Value.str (PySem.Str.ofString "/claim/cut.py") 287] }) ::
   (nat_lit 38, { cls := PySem.Value.type "function", data := PySem.Data.func (fnOf (stAt 1) { params := default, body := .stmts [], scope := default, name := PySem.Str.ofString "_wall", qualname := PySem.Str.ofString "_wall", globals := 3, closure := [], defaults := PySem.Value.none, kwdefaults := PySem.Value.none, pyModule := PySem.Value.str (PySem.Str.ofString "__main__") 164, code := PySem.Value.ref 37 }) }) ::
   (nat_lit 46, { cls := PySem.Value.type "tuple", data := PySem.Data.seq #[] }) ::
   (nat_lit 48, { cls := PySem.Value.type "tuple", data := PySem.Data.seq #[PySem.Value.str (PySem.Str.ofString "self") 306, PySem.Value.str (PySem.Str.ofString "index") 307, PySem.Value.str (PySem.Str.ofString "doc") 308] }) ::
   (nat_lit 49, { cls := PySem.Value.type "tuple", data := PySem.Data.seq #[] }) ::
   (nat_lit 51, { cls := PySem.Value.type "code", data := PySem.Data.fields #[PySem.Value.str (PySem.Str.ofString "__init__") 303, PySem.Value.str (PySem.Str.ofString "_tuplegetter.__init__") 304, PySem.Value.str (PySem.Str.ofString "/claim/cut.py") 305, PySem.Value.int 8 0, PySem.Value.int 3 0, PySem.Value.int 0 0, PySem.Value.int 0 0, PySem.Value.int 3 0, PySem.Value.ref 46, PySem.Value.bool true, PySem.Value.int 276 0, PySem.Value.ref 47, PySem.Value.none, PySem.Value.ref 48, PySem.Value.ref 49, PySem.Value.ref 50, PySem.Value.int 309 0, PySem.Value.int 8 0, PySem.Value.str (PySem.Str.ofString "/claim/cut.py") 310] }) ::
   (nat_lit 52, { cls := PySem.Value.type "function", data := PySem.Data.func (fnOf (inCls (stAt 3) 0) { params := default, body := .stmts [], scope := default, name := PySem.Str.ofString "__init__", qualname := PySem.Str.ofString "_tuplegetter.__init__", globals := 3, closure := [], defaults := PySem.Value.none, kwdefaults := PySem.Value.none, pyModule := PySem.Value.str (PySem.Str.ofString "cpy313.unittest.util") 289, code := PySem.Value.ref 51 }) }) ::
   (nat_lit 53, { cls := PySem.Value.type "tuple", data := PySem.Data.seq #[PySem.Value.none] }) ::
   (nat_lit 54, { cls := PySem.Value.type "tuple", data := PySem.Data.seq #[] }) ::
   (nat_lit 56, { cls := PySem.Value.type "tuple", data := PySem.Data.seq #[PySem.Value.str (PySem.Str.ofString "self") 315, PySem.Value.str (PySem.Str.ofString "obj") 316, PySem.Value.str (PySem.Str.ofString "objtype") 317] }) ::
   (nat_lit 57, { cls := PySem.Value.type "tuple", data := PySem.Data.seq #[] }) ::
   (nat_lit 59, { cls := PySem.Value.type "code", data := PySem.Data.fields #[PySem.Value.str (PySem.Str.ofString "__get__") 312, PySem.Value.str (PySem.Str.ofString "_tuplegetter.__get__") 313, PySem.Value.str (PySem.Str.ofString "/claim/cut.py") 314, PySem.Value.int 12 0, PySem.Value.int 3 0, PySem.Value.int 0 0, PySem.Value.int 0 0, PySem.Value.int 3 0, PySem.Value.ref 54, PySem.Value.bool true, PySem.Value.int 276 0, PySem.Value.ref 55, PySem.Value.none, PySem.Value.ref 56, PySem.Value.ref 57, PySem.Value.ref 58, PySem.Value.int 318 0, PySem.Value.int 12 0, PySem.Value.str (PySem.Str.ofString "/claim/cut.py") 319] }) ::
   (nat_lit 60, { cls := PySem.Value.type "function", data := PySem.Data.func (fnOf (inCls (stAt 3) 1) { params := default, body := .stmts [], scope := default, name := PySem.Str.ofString "__get__", qualname := PySem.Str.ofString "_tuplegetter.__get__", globals := 3, closure := [], defaults := PySem.Value.ref 53, kwdefaults := PySem.Value.none, pyModule := PySem.Value.str (PySem.Str.ofString "cpy313.unittest.util") 289, code := PySem.Value.ref 59 }) }) ::
   (nat_lit 61, { cls := PySem.Value.type "tuple", data := PySem.Data.seq #[] }) ::
   (nat_lit 63, { cls := PySem.Value.type "tuple", data := PySem.Data.seq #[PySem.Value.str (PySem.Str.ofString "self") 324, PySem.Value.str (PySem.Str.ofString "obj") 325, PySem.Value.str (PySem.Str.ofString "value") 326] }) ::
   (nat_lit 64, { cls := PySem.Value.type "tuple", data := PySem.Data.seq #[] }) ::
   (nat_lit 66, { cls := PySem.Value.type "code", data := PySem.Data.fields #[PySem.Value.str (PySem.Str.ofString "__set__") 321, PySem.Value.str (PySem.Str.ofString "_tuplegetter.__set__") 322, PySem.Value.str (PySem.Str.ofString "/claim/cut.py") 323, PySem.Value.int 19 0, PySem.Value.int 3 0, PySem.Value.int 0 0, PySem.Value.int 0 0, PySem.Value.int 3 0, PySem.Value.ref 61, PySem.Value.bool true, PySem.Value.int 276 0, PySem.Value.ref 62, PySem.Value.none, PySem.Value.ref 63, PySem.Value.ref 64, PySem.Value.ref 65, PySem.Value.int 327 0, PySem.Value.int 19 0, PySem.Value.str (PySem.Str.ofString "/claim/cut.py") 328] }) ::
   (nat_lit 67, { cls := PySem.Value.type "function", data := PySem.Data.func (fnOf (inCls (stAt 3) 2) { params := default, body := .stmts [], scope := default, name := PySem.Str.ofString "__set__", qualname := PySem.Str.ofString "_tuplegetter.__set__", globals := 3, closure := [], defaults := PySem.Value.none, kwdefaults := PySem.Value.none, pyModule := PySem.Value.str (PySem.Str.ofString "cpy313.unittest.util") 289, code := PySem.Value.ref 66 }) }) ::
   (nat_lit 68, { cls := PySem.Value.type "tuple", data := PySem.Data.seq #[] }) ::
   (nat_lit 70, { cls := PySem.Value.type "tuple", data := PySem.Data.seq #[PySem.Value.str (PySem.Str.ofString "self") 333, PySem.Value.str (PySem.Str.ofString "obj") 334] }) ::
   (nat_lit 71, { cls := PySem.Value.type "tuple", data := PySem.Data.seq #[] }) ::
   (nat_lit 73, { cls := PySem.Value.type "code", data := PySem.Data.fields #[PySem.Value.str (PySem.Str.ofString "__delete__") 330, PySem.Value.str (PySem.Str.ofString "_tuplegetter.__delete__") 331, PySem.Value.str (PySem.Str.ofString "/claim/cut.py") 332, PySem.Value.int 22 0, PySem.Value.int 2 0, PySem.Value.int 0 0, PySem.Value.int 0 0, PySem.Value.int 3 0, PySem.Value.ref 68, PySem.Value.bool true, PySem.Value.int 276 0, PySem.Value.ref 69, PySem.Value.none, PySem.Value.ref 70, PySem.Value.ref 71, PySem.Value.ref 72, PySem.Value.int 335 0, PySem.Value.int 22 0, PySem.Value.str (PySem.Str.ofString "/claim/cut.py") 336] }) ::
   (nat_lit 74, { cls := PySem.Value.type "function", data := PySem.Data.func (fnOf (inCls (stAt 3) 3) { params := default, body := .stmts [], scope := default, name := PySem.Str.ofString "__delete__", qualname := PySem.Str.ofString "_tuplegetter.__delete__", globals := 3, closure := [], defaults := PySem.Value.none, kwdefaults := PySem.Value.none, pyModule := PySem.Value.str (PySem.Str.ofString "cpy313.unittest.util") 289, code := PySem.Value.ref 73 }) }) ::
   (nat_lit 75, { cls := PySem.Value.type "tuple", data := PySem.Data.seq #[PySem.Value.str (PySem.Str.ofString "__doc__") 338, PySem.Value.str (PySem.Str.ofString "index") 339] }) ::
   (nat_lit 76, { cls := PySem.Value.type "dict", data := PySem.Data.dict #[{ hash := PySem.PyData.keyHash P (PySem.Str.ofString "__module__"), key := PySem.Value.str (PySem.Str.ofString "__module__") 298, val := PySem.Value.str (PySem.Str.ofString "cpy313.unittest.util") 289 }, { hash := PySem.PyData.keyHash P (PySem.Str.ofString "__firstlineno__"), key := PySem.Value.str (PySem.Str.ofString "__firstlineno__") 302, val := PySem.Value.int 6 301 }, { hash := PySem.PyData.keyHash P (PySem.Str.ofString "__init__"), key := PySem.Value.str (PySem.Str.ofString "__init__") 311, val := PySem.Value.ref 52 }, { hash := PySem.PyData.keyHash P (PySem.Str.ofString "__get__"), key := PySem.Value.str (PySem.Str.ofString "__get__") 320, val := PySem.Value.ref 60 }, { hash := PySem.PyData.keyHash P (PySem.Str.ofString "__set__"), key := PySem.Value.str (PySem.Str.ofString "__set__") 329, val := PySem.Value.ref 67 }, { hash := PySem.PyData.keyHash P (PySem.Str.ofString "__delete__"), key := PySem.Value.str (PySem.Str.ofString "__delete__") 337, val := PySem.Value.ref 74 }, { hash := PySem.PyData.keyHash P (PySem.Str.ofString "__static_attributes__"), key := PySem.Value.str (PySem.Str.ofString "__static_attributes__") 340, val := PySem.Value.ref 75 }, { hash := PySem.PyData.keyHash P (PySem.Str.ofString "__dict__"), key := PySem.Value.str (PySem.Str.ofString "__dict__") 342, val := PySem.Value.ref 78 }, { hash := PySem.PyData.keyHash P (PySem.Str.ofString "__weakref__"), key := PySem.Value.str (PySem.Str.ofString "__weakref__") 344, val := PySem.Value.ref 79 }, { hash := PySem.PyData.keyHash P (PySem.Str.ofString "__doc__"), key := PySem.Value.str (PySem.Str.ofString "__doc__") 345, val := PySem.Value.none }] 4 }) ::
   (nat_lit 77, { cls := PySem.Value.type "type", data := PySem.Data.cls { name := PySem.Str.ofString "_tuplegetter", bases := [PySem.Value.type "object"], mro := [PySem.Value.ref 77, PySem.Value.type "object"], ns := 76, qualname := PySem.Str.ofString "_tuplegetter" }, slots := #[none, none, some (PySem.Value.str (PySem.Str.ofString "_tuplegetter") 291), some (PySem.Value.str (PySem.Str.ofString "_tuplegetter") 299), some (PySem.Value.builtin "object.__new__"), some (PySem.Value.bool true)] }) ::
   (nat_lit 82, { cls := PySem.Value.type "tuple", data := PySem.Data.seq #[] }) ::
   (nat_lit 84, { cls := PySem.Value.type "tuple", data := PySem.Data.seq #[PySem.Value.str (PySem.Str.ofString "expected") 351, PySem.Value.str (PySem.Str.ofString "actual") 352, PySem.Value.str (PySem.Str.ofString "missing") 353, PySem.Value.str (PySem.Str.ofString "item") 354] }) ::
   (nat_lit 85, { cls := PySem.Value.type "tuple", data := PySem.Data.seq #[] }) ::
   (nat_lit 87, { cls := PySem.Value.type "code", data := PySem.Data.fields #[PySem.Value.str (PySem.Str.ofString "unorderable_list_difference") 348, PySem.Value.str (PySem.Str.ofString "unorderable_list_difference") 349, PySem.Value.str (PySem.Str.ofString "/claim/cut.py") 350, PySem.Value.int 24 0, PySem.Value.int 2 0, PySem.Value.int 0 0, PySem.Value.int 0 0, PySem.Value.int 3 0, PySem.Value.ref 82, PySem.Value.bool true, PySem.Value.int 276 0, PySem.Value.ref 83, PySem.Value.none, PySem.Value.ref 84, PySem.Value.ref 85, PySem.Value.ref 86, PySem.Value.int 355 0, PySem.Value.int 24 0, PySem.Value.str (PySem.Str.ofString "/claim/cut.py") 356] }) ::
   (nat_lit 88, { cls := PySem.Value.type "function", data := PySem.Data.func (fnOf (stAt 4) { params := default, body := .stmts [], scope := default, name := PySem.Str.ofString "unorderable_list_difference", qualname := PySem.Str.ofString "unorderable_list_difference", globals := 3, closure := [], defaults := PySem.Value.none, kwdefaults := PySem.Value.none, doc := docV (stAt 4) 357, pyModule := PySem.Value.str (PySem.Str.ofString "cpy313.unittest.util") 289, code := PySem.Value.ref 87 }) }) ::
   (nat_lit 89, { cls := PySem.Value.type "tuple", data := PySem.Data.seq #[PySem.Value.type "tuple"] }) ::
   (nat_lit 92, { cls := PySem.Value.type "cell", data := PySem.Data.cell (some (PySem.Value.ref 159)) }) ::
   (nat_lit 97, { cls := PySem.Value.type "tuple", data := PySem.Data.seq #[] }) ::
   (nat_lit 98, { cls := PySem.Value.type "tuple", data := PySem.Data.seq #[PySem.Value.str (PySem.Str.ofString "actual") 375, PySem.Value.str (PySem.Str.ofString "expected") 376, PySem.Value.str (PySem.Str.ofString "value") 377] }) ::
   (nat_lit 99, { cls := PySem.Value.type "dict", data := PySem.Data.dict #[] }) ::
   (nat_lit 100, { cls := PySem.Value.type "tuple", data := PySem.Data.seq #[] }) ::
   (nat_lit 102, { cls := PySem.Value.type "tuple", data := PySem.Data.seq #[PySem.Value.str (PySem.Str.ofString "_cls") 383, PySem.Value.str (PySem.Str.ofString "actual") 384, PySem.Value.str (PySem.Str.ofString "expected") 385, PySem.Value.str (PySem.Str.ofString "value") 386] }) ::
   (nat_lit 103, { cls := PySem.Value.type "tuple", data := PySem.Data.seq #[] }) ::
   (nat_lit 105, { cls := PySem.Value.type "code", data := PySem.Data.fields #[PySem.Value.str (PySem.Str.ofString "__new__") 380, PySem.Value.str (PySem.Str.ofString "Mismatch.__new__") 381, PySem.Value.str (PySem.Str.ofString "/claim/cut.py") 382, PySem.Value.int 44 0, PySem.Value.int 4 0, PySem.Value.int 0 0, PySem.Value.int 0 0, PySem.Value.int 3 0, PySem.Value.ref 100, PySem.Value.bool true, PySem.Value.int 276 0, PySem.Value.ref 101, PySem.Value.none, PySem.Value.ref 102, PySem.Value.ref 103, PySem.Value.ref 104, PySem.Value.int 387 0, PySem.Value.int 44 0, PySem.Value.str (PySem.Str.ofString "/claim/cut.py") 388] }) ::
   (nat_lit 106, { cls := PySem.Value.type "function", data := PySem.Data.func (fnOf (inCls (stAt 5) 4) { params := default, body := .stmts [], scope := default, name := PySem.Str.ofString "__new__", qualname := PySem.Str.ofString "Mismatch.__new__", globals := 3, closure := [], defaults := PySem.Value.none, kwdefaults := PySem.Value.none, doc := docV (inCls (stAt 5) 4) 389, pyModule := PySem.Value.str (PySem.Str.ofString "cpy313.unittest.util") 289, code := PySem.Value.ref 105 }) }) ::
   (nat_lit 107, { cls := PySem.Value.type "tuple", data := PySem.Data.seq #[] }) ::
   (nat_lit 109, { cls := PySem.Value.type "tuple", data := PySem.Data.seq #[PySem.Value.str (PySem.Str.ofString "cls") 394, PySem.Value.str (PySem.Str.ofString "iterable") 395, PySem.Value.str (PySem.Str.ofString "result") 396] }) ::
   (nat_lit 110, { cls := PySem.Value.type "tuple", data := PySem.Data.seq #[] }) ::
   (nat_lit 112, { cls := PySem.Value.type "code", data := PySem.Data.fields #[PySem.Value.str (PySem.Str.ofString "_make") 391, PySem.Value.str (PySem.Str.ofString "Mismatch._make") 392, PySem.Value.str (PySem.Str.ofString "/claim/cut.py") 393, PySem.Value.int 48 0, PySem.Value.int 2 0, PySem.Value.int 0 0, PySem.Value.int 0 0, PySem.Value.int 3 0, PySem.Value.ref 107, PySem.Value.bool true, PySem.Value.int 276 0, PySem.Value.ref 108, PySem.Value.none, PySem.Value.ref 109, PySem.Value.ref 110, PySem.Value.ref 111, PySem.Value.int 397 0, PySem.Value.int 48 0, PySem.Value.str (PySem.Str.ofString "/claim/cut.py") 398] }) ::
   (nat_lit 113, { cls := PySem.Value.type "function", data := PySem.Data.func (fnOf (inCls (stAt 5) 5) { params := default, body := .stmts [], scope := default, name := PySem.Str.ofString "_make", qualname := PySem.Str.ofString "Mismatch._make", globals := 3, closure := [], defaults := PySem.Value.none, kwdefaults := PySem.Value.none, doc := docV (inCls (stAt 5) 5) 399, pyModule := PySem.Value.str (PySem.Str.ofString "cpy313.unittest.util") 289, annotations := some 116, code := PySem.Value.ref 112 }) }) ::
   (nat_lit 114, { cls := PySem.Value.type "dict", data := PySem.Data.dict #[{ hash := PySem.PyData.keyHash P (PySem.Str.ofString "__module__"), key := PySem.Value.str (PySem.Str.ofString "__module__") 401, val := PySem.Value.str (PySem.Str.ofString "cpy313.unittest.util") 289 }, { hash := PySem.PyData.keyHash P (PySem.Str.ofString "__name__"), key := PySem.Value.str (PySem.Str.ofString "__name__") 404, val := PySem.Value.str (PySem.Str.ofString "_make") 403 }, { hash := PySem.PyData.keyHash P (PySem.Str.ofString "__qualname__"), key := PySem.Value.str (PySem.Str.ofString "__qualname__") 407, val := PySem.Value.str (PySem.Str.ofString "Mismatch._make") 406 }, { hash := PySem.PyData.keyHash P (PySem.Str.ofString "__doc__"), key := PySem.Value.str (PySem.Str.ofString "__doc__") 409, val := PySem.Value.str (PySem.Str.ofString "Make a new Mismatch object from a sequence or iterable") 399 }, { hash := PySem.PyData.keyHash P (PySem.Str.ofString "__annotations__"), key := PySem.Value.str (PySem.Str.ofString "__annotations__") 411, val := PySem.Value.ref 116 }] 5 }) ::
   (nat_lit 115, { cls := PySem.Value.type "classmethod", dict := some 114, data := PySem.Data.fields #[PySem.Value.ref 113, PySem.Value.bool false] }) ::
   (nat_lit 116, { cls := PySem.Value.type "dict", data := PySem.Data.dict #[] }) ::
   (nat_lit 117, { cls := PySem.Value.type "tuple", data := PySem.Data.seq #[PySem.Value.ref 92] }) ::
   (nat_lit 118, { cls := PySem.Value.type "tuple", data := PySem.Data.seq #[PySem.Value.str (PySem.Str.ofString "__class__") 416] }) ::
   (nat_lit 120, { cls := PySem.Value.type "tuple", data := PySem.Data.seq #[PySem.Value.str (PySem.Str.ofString "self") 417, PySem.Value.str (PySem.Str.ofString "kwds") 418, PySem.Value.str (PySem.Str.ofString "result") 419] }) ::
   (nat_lit 121, { cls := PySem.Value.type "tuple", data := PySem.Data.seq #[] }) ::
   (nat_lit 123, { cls := PySem.Value.type "code", data := PySem.Data.fields #[PySem.Value.str (PySem.Str.ofString "_replace") 413, PySem.Value.str (PySem.Str.ofString "Mismatch._replace") 414, PySem.Value.str (PySem.Str.ofString "/claim/cut.py") 415, PySem.Value.int 56 0, PySem.Value.int 1 0, PySem.Value.int 1 0, PySem.Value.int 0 0, PySem.Value.int 11 0, PySem.Value.ref 118, PySem.Value.bool true, PySem.Value.int 276 0, PySem.Value.ref 119, PySem.Value.none, PySem.Value.ref 120, PySem.Value.ref 121, PySem.Value.ref 122, PySem.Value.int 420 0, PySem.Value.int 56 0, PySem.Value.str (PySem.Str.ofString "/claim/cut.py") 421] }) ::
   (nat_lit 124, { cls := PySem.Value.type "function", data := PySem.Data.func (fnOf (inCls (stAt 5) 6) { params := default, body := .stmts [], scope := default, name := PySem.Str.ofString "_replace", qualname := PySem.Str.ofString "Mismatch._replace", globals := 3, closure := [(PySem.Str.ofString "__class__", 92)], defaults := PySem.Value.none, kwdefaults := PySem.Value.none, doc := docV (inCls (stAt 5) 6) 422, pyModule := PySem.Value.str (PySem.Str.ofString "cpy313.unittest.util") 289, code := PySem.Value.ref 123, closureTuple := PySem.Value.ref 117 }) }) ::
   (nat_lit 125, { cls := PySem.Value.type "tuple", data := PySem.Data.seq #[] }) ::
   (nat_lit 127, { cls := PySem.Value.type "tuple", data := PySem.Data.seq #[PySem.Value.str (PySem.Str.ofString "self") 428] }) ::
   (nat_lit 128, { cls := PySem.Value.type "tuple", data := PySem.Data.seq #[] }) ::
   (nat_lit 130, { cls := PySem.Value.type "code", data := PySem.Data.fields #[PySem.Value.str (PySem.Str.ofString "__repr__") 425, PySem.Value.str (PySem.Str.ofString "Mismatch.__repr__") 426, PySem.Value.str (PySem.Str.ofString "/claim/cut.py") 427, PySem.Value.int 67 0, PySem.Value.int 1 0, PySem.Value.int 0 0, PySem.Value.int 0 0, PySem.Value.int 3 0, PySem.Value.ref 125, PySem.Value.bool true, PySem.Value.int 276 0, PySem.Value.ref 126, PySem.Value.none, PySem.Value.ref 127, PySem.Value.ref 128, PySem.Value.ref 129, PySem.Value.int 429 0, PySem.Value.int 67 0, PySem.Value.str (PySem.Str.ofString "/claim/cut.py") 430] }) ::
   (nat_lit 131, { cls := PySem.Value.type "function", data := PySem.Data.func (fnOf (inCls (stAt 5) 8) { params := default, body := .stmts [], scope := default, name := PySem.Str.ofString "__repr__", qualname := PySem.Str.ofString "Mismatch.__repr__", globals := 3, closure := [], defaults := PySem.Value.none, kwdefaults := PySem.Value.none, doc := docV (inCls (stAt 5) 8) 431, pyModule := PySem.Value.str (PySem.Str.ofString "cpy313.unittest.util") 289, code := PySem.Value.ref 130 }) }) ::
   (nat_lit 132, { cls := PySem.Value.type "tuple", data := PySem.Data.seq #[] }) ::
   (nat_lit 134, { cls := PySem.Value.type "tuple", data := PySem.Data.seq #[PySem.Value.str (PySem.Str.ofString "self") 436] }) ::
   (nat_lit 135, { cls := PySem.Value.type "tuple", data := PySem.Data.seq #[] }) ::
   (nat_lit 137, { cls := PySem.Value.type "code", data := PySem.Data.fields #[PySem.Value.str (PySem.Str.ofString "_asdict") 433, PySem.Value.str (PySem.Str.ofString "Mismatch._asdict") 434, PySem.Value.str (PySem.Str.ofString "/claim/cut.py") 435, PySem.Value.int 71 0, PySem.Value.int 1 0, PySem.Value.int 0 0, PySem.Value.int 0 0, PySem.Value.int 3 0, PySem.Value.ref 132, PySem.Value.bool true, PySem.Value.int 276 0, PySem.Value.ref 133, PySem.Value.none, PySem.Value.ref 134, PySem.Value.ref 135, PySem.Value.ref 136, PySem.Value.int 437 0, PySem.Value.int 71 0, PySem.Value.str (PySem.Str.ofString "/claim/cut.py") 438] }) ::
   (nat_lit 138, { cls := PySem.Value.type "function", data := PySem.Data.func (fnOf (inCls (stAt 5) 9) { params := default, body := .stmts [], scope := default, name := PySem.Str.ofString "_asdict", qualname := PySem.Str.ofString "Mismatch._asdict", globals := 3, closure := [], defaults := PySem.Value.none, kwdefaults := PySem.Value.none, pyModule := PySem.Value.str (PySem.Str.ofString "cpy313.unittest.util") 289, code := PySem.Value.ref 137 }) }) ::
   (nat_lit 139, { cls := PySem.Value.type "tuple", data := PySem.Data.seq #[] }) ::
   (nat_lit 141, { cls := PySem.Value.type "tuple", data := PySem.Data.seq #[PySem.Value.str (PySem.Str.ofString "self") 443] }) ::
   (nat_lit 142, { cls := PySem.Value.type "tuple", data := PySem.Data.seq #[] }) ::
   (nat_lit 144, { cls := PySem.Value.type "code", data := PySem.Data.fields #[PySem.Value.str (PySem.Str.ofString "__getnewargs__") 440, PySem.Value.str (PySem.Str.ofString "Mismatch.__getnewargs__") 441, PySem.Value.str (PySem.Str.ofString "/claim/cut.py") 442, PySem.Value.int 74 0, PySem.Value.int 1 0, PySem.Value.int 0 0, PySem.Value.int 0 0, PySem.Value.int 3 0, PySem.Value.ref 139, PySem.Value.bool true, PySem.Value.int 276 0, PySem.Value.ref 140, PySem.Value.none, PySem.Value.ref 141, PySem.Value.ref 142, PySem.Value.ref 143, PySem.Value.int 444 0, PySem.Value.int 74 0, PySem.Value.str (PySem.Str.ofString "/claim/cut.py") 445] }) ::
   (nat_lit 145, { cls := PySem.Value.type "function", data := PySem.Data.func (fnOf (inCls (stAt 5) 10) { params := default, body := .stmts [], scope := default, name := PySem.Str.ofString "__getnewargs__", qualname := PySem.Str.ofString "Mismatch.__getnewargs__", globals := 3, closure := [], defaults := PySem.Value.none, kwdefaults := PySem.Value.none, doc := docV (inCls (stAt 5) 10) 446, pyModule := PySem.Value.str (PySem.Str.ofString "cpy313.unittest.util") 289, code := PySem.Value.ref 144 }) }) ::
   (nat_lit 146, { cls := PySem.Value.type "tuple", data := PySem.Data.seq #[PySem.Value.str (PySem.Str.ofString "actual") 448, PySem.Value.str (PySem.Str.ofString "expected") 449, PySem.Value.str (PySem.Str.ofString "value") 450] }) ::
   (nat_lit 147, { cls := PySem.Value.type "dict", data := PySem.Data.dict #[{ hash := PySem.PyData.keyHash P (PySem.Str.ofString "index"), key := PySem.Value.str (PySem.Str.ofString "index") 458, val := PySem.Value.int 0 452 }, { hash := PySem.PyData.keyHash P (PySem.Str.ofString "__doc__"), key := PySem.Value.str (PySem.Str.ofString "__doc__") 460, val := PySem.Value.str (PySem.Str.ofString "Alias for field number 0") 453 }] 2 }) ::
   (nat_lit 148, { cls := PySem.Value.ref 77, dict := some 147 }) ::
   (nat_lit 150, { cls := PySem.Value.type "dict", data := PySem.Data.dict #[{ hash := PySem.PyData.keyHash P (PySem.Str.ofString "index"), key := PySem.Value.str (PySem.Str.ofString "index") 468, val := PySem.Value.int 1 462 }, { hash := PySem.PyData.keyHash P (PySem.Str.ofString "__doc__"), key := PySem.Value.str (PySem.Str.ofString "__doc__") 470, val := PySem.Value.str (PySem.Str.ofString "Alias for field number 1") 463 }] 2 }) ::
   (nat_lit 151, { cls := PySem.Value.ref 77, dict := some 150 }) ::
   (nat_lit 153, { cls := PySem.Value.type "dict", data := PySem.Data.dict #[{ hash := PySem.PyData.keyHash P (PySem.Str.ofString "index"), key := PySem.Value.str (PySem.Str.ofString "index") 478, val := PySem.Value.int 2 472 }, { hash := PySem.PyData.keyHash P (PySem.Str.ofString "__doc__"), key := PySem.Value.str (PySem.Str.ofString "__doc__") 480, val := PySem.Value.str (PySem.Str.ofString "Alias for field number 2") 473 }] 2 }) ::
   (nat_lit 154, { cls := PySem.Value.ref 77, dict := some 153 }) ::
   (nat_lit 156, { cls := PySem.Value.type "tuple", data := PySem.Data.seq #[] }) ::
   (nat_lit 158, { cls := PySem.Value.type "dict", data := PySem.Data.dict #[{ hash := PySem.PyData.keyHash P (PySem.Str.ofString "__module__"), key := PySem.Value.str (PySem.Str.ofString "__module__") 366, val := PySem.Value.str (PySem.Str.ofString "cpy313.unittest.util") 289 }, { hash := PySem.PyData.keyHash P (PySem.Str.ofString "__firstlineno__"), key := PySem.Value.str (PySem.Str.ofString "__firstlineno__") 370, val := PySem.Value.int 38 369 }, { hash := PySem.PyData.keyHash P (PySem.Str.ofString "__doc__"), key := PySem.Value.str (PySem.Str.ofString "__doc__") 372, val := PySem.Value.str (PySem.Str.ofString "Mismatch(actual, expected, value)") 371 }, { hash := PySem.PyData.keyHash P (PySem.Str.ofString "__slots__"), key := PySem.Value.str (PySem.Str.ofString "__slots__") 374, val := PySem.Value.ref 97 }, { hash := PySem.PyData.keyHash P (PySem.Str.ofString "_fields"), key := PySem.Value.str (PySem.Str.ofString "_fields") 378, val := PySem.Value.ref 98 }, { hash := PySem.PyData.keyHash P (PySem.Str.ofString "_field_defaults"), key := PySem.Value.str (PySem.Str.ofString "_field_defaults") 379, val := PySem.Value.ref 99 }, { hash := PySem.PyData.keyHash P (PySem.Str.ofString "__new__"), key := PySem.Value.str (PySem.Str.ofString "__new__") 390, val := PySem.Value.ref 160 }, { hash := PySem.PyData.keyHash P (PySem.Str.ofString "_make"), key := PySem.Value.str (PySem.Str.ofString "_make") 412, val := PySem.Value.ref 115 }, { hash := PySem.PyData.keyHash P (PySem.Str.ofString "_replace"), key := PySem.Value.str (PySem.Str.ofString "_replace") 423, val := PySem.Value.ref 124 }, { hash := PySem.PyData.keyHash P (PySem.Str.ofString "__replace__"), key := PySem.Value.str (PySem.Str.ofString "__replace__") 424, val := PySem.Value.ref 124 }, { hash := PySem.PyData.keyHash P (PySem.Str.ofString "__repr__"), key := PySem.Value.str (PySem.Str.ofString "__repr__") 432, val := PySem.Value.ref 131 }, { hash := PySem.PyData.keyHash P (PySem.Str.ofString "_asdict"), key := PySem.Value.str (PySem.Str.ofString "_asdict") 439, val := PySem.Value.ref 138 }, { hash := PySem.PyData.keyHash P (PySem.Str.ofString "__getnewargs__"), key := PySem.Value.str (PySem.Str.ofString "__getnewargs__") 447, val := PySem.Value.ref 145 }, { hash := PySem.PyData.keyHash P (PySem.Str.ofString "__match_args__"), key := PySem.Value.str (PySem.Str.ofString "__match_args__") 451, val := PySem.Value.ref 146 }, { hash := PySem.PyData.keyHash P (PySem.Str.ofString "actual"), key := PySem.Value.str (PySem.Str.ofString "actual") 461, val := PySem.Value.ref 148 }, { hash := PySem.PyData.keyHash P (PySem.Str.ofString "expected"), key := PySem.Value.str (PySem.Str.ofString "expected") 471, val := PySem.Value.ref 151 }, { hash := PySem.PyData.keyHash P (PySem.Str.ofString "value"), key := PySem.Value.str (PySem.Str.ofString "value") 481, val := PySem.Value.ref 154 }, { hash := PySem.PyData.keyHash P (PySem.Str.ofString "__static_attributes__"), key := PySem.Value.str (PySem.Str.ofString "__static_attributes__") 482, val := PySem.Value.ref 156 }] 2 }) ::
   (nat_lit 159, { cls := PySem.Value.type "type", data := PySem.Data.cls { name := PySem.Str.ofString "Mismatch", bases := [PySem.Value.type "tuple"], mro := [PySem.Value.ref 159, PySem.Value.type "tuple", PySem.Value.type "object"], ns := 158, qualname := PySem.Str.ofString "Mismatch", hasDict := false }, slots := #[some (PySem.Value.ref 89), none, some (PySem.Value.str (PySem.Str.ofString "Mismatch") 359), some (PySem.Value.str (PySem.Str.ofString "Mismatch") 367), some PySem.Value.none, some (PySem.Value.bool false)] }) ::
   (nat_lit 160, { cls := PySem.Value.type "staticmethod", data := PySem.Data.fields #[PySem.Value.ref 106] }) ::
   (nat_lit 163, { cls := PySem.Value.type "tuple", data := PySem.Data.seq #[] }) ::
   (nat_lit 165, { cls := PySem.Value.type "tuple", data := PySem.Data.seq #[PySem.Value.str (PySem.Str.ofString "actual") 491, PySem.Value.str (PySem.Str.ofString "expected") 492, PySem.Value.str (PySem.Str.ofString "s") 493, PySem.Value.str (PySem.Str.ofString "t") 494, PySem.Value.str (PySem.Str.ofString "m") 495, PySem.Value.str (PySem.Str.ofString "n") 496, PySem.Value.str (PySem.Str.ofString "NULL") 497, PySem.Value.str (PySem.Str.ofString "result") 498, PySem.Value.str (PySem.Str.ofString "i") 499, PySem.Value.str (PySem.Str.ofString "elem") 500, PySem.Value.str (PySem.Str.ofString "cnt_s") 501, PySem.Value.str (PySem.Str.ofString "cnt_t") 502, PySem.Value.str (PySem.Str.ofString "j") 503, PySem.Value.str (PySem.Str.ofString "other_elem") 504, PySem.Value.str (PySem.Str.ofString "diff") 505] }) ::
   (nat_lit 166, { cls := PySem.Value.type "tuple", data := PySem.Data.seq #[] }) ::
   (nat_lit 168, { cls := PySem.Value.type "code", data := PySem.Data.fields #[PySem.Value.str (PySem.Str.ofString "_count_diff_all_purpose") 488, PySem.Value.str (PySem.Str.ofString "_count_diff_all_purpose") 489, PySem.Value.str (PySem.Str.ofString "/claim/cut.py") 490, PySem.Value.int 82 0, PySem.Value.int 2 0, PySem.Value.int 0 0, PySem.Value.int 0 0, PySem.Value.int 3 0, PySem.Value.ref 163, PySem.Value.bool true, PySem.Value.int 276 0, PySem.Value.ref 164, PySem.Value.none, PySem.Value.ref 165, PySem.Value.ref 166, PySem.Value.ref 167, PySem.Value.int 506 0, PySem.Value.int 82 0, PySem.Value.str (PySem.Str.ofString "/claim/cut.py") 507] }) ::
   (nat_lit 169, { cls := PySem.Value.type "function", data := PySem.Data.func (fnOf (stAt 7) { params := default, body := .stmts [], scope := default, name := PySem.Str.ofString "_count_diff_all_purpose", qualname := PySem.Str.ofString "_count_diff_all_purpose", globals := 3, closure := [], defaults := PySem.Value.none, kwdefaults := PySem.Value.none, doc := docV (stAt 7) 508, pyModule := PySem.Value.str (PySem.Str.ofString "cpy313.unittest.util") 289, code := PySem.Value.ref 168 }) }) ::
   (nat_lit 173, { cls := PySem.Value.type "tuple", data := PySem.Data.seq #[PySem.Value.int 14 0, PySem.Value.int 14 0, PySem.Value.int 4 0, PySem.Value.int 1 0, PySem.Value.int 1 0, PySem.Value.int 9 0, PySem.Value.int 0 0, PySem.Value.int 64 0, PySem.Value.int 0 0, PySem.Value.int 1342177280 0, PySem.Value.int 0 0, PySem.Value.int 0 0, PySem.Value.int 0 0, PySem.Value.int 0 0, PySem.Value.int 0 0, PySem.Value.int 17 0, PySem.Value.int 0 0, PySem.Value.int 13 0, PySem.Value.int 11 0, PySem.Value.int 9 0, PySem.Value.int 0 0, PySem.Value.int 64 0, PySem.Value.int 0 0, PySem.Value.int 1342177280 0, PySem.Value.int 0 0, PySem.Value.int 0 0, PySem.Value.int 0 0, PySem.Value.int 0 0, PySem.Value.int 0 0, PySem.Value.int 17 0, PySem.Value.int 1 0, PySem.Value.int 1 0] }) ::
   (nat_lit 175, { cls := PySem.Value.type "tuple", data := PySem.Data.seq #[] }) ::
   (nat_lit 177, { cls := PySem.Value.type "tuple", data := PySem.Data.seq #[PySem.Value.str (PySem.Str.ofString "pat") 553, PySem.Value.str (PySem.Str.ofString "STAR") 554, PySem.Value.str (PySem.Str.ofString "parts") 555] }) ::
   (nat_lit 178, { cls := PySem.Value.type "tuple", data := PySem.Data.seq #[] }) ::
   (nat_lit 180, { cls := PySem.Value.type "code", data := PySem.Data.fields #[PySem.Value.str (PySem.Str.ofString "translate") 550, PySem.Value.str (PySem.Str.ofString "translate") 551, PySem.Value.str (PySem.Str.ofString "/claim/cut.py") 552, PySem.Value.int 116 0, PySem.Value.int 1 0, PySem.Value.int 0 0, PySem.Value.int 0 0, PySem.Value.int 3 0, PySem.Value.ref 175, PySem.Value.bool true, PySem.Value.int 276 0, PySem.Value.ref 176, PySem.Value.none, PySem.Value.ref 177, PySem.Value.ref 178, PySem.Value.ref 179, PySem.Value.int 556 0, PySem.Value.int 116 0, PySem.Value.str (PySem.Str.ofString "/claim/cut.py") 557] }) ::
   (nat_lit 181, { cls := PySem.Value.type "function", data := PySem.Data.func (fnOf (stAt 10) { params := default, body := .stmts [], scope := default, name := PySem.Str.ofString "translate", qualname := PySem.Str.ofString "translate", globals := 3, closure := [], defaults := PySem.Value.none, kwdefaults := PySem.Value.none, doc := docV (stAt 10) 558, pyModule := PySem.Value.str (PySem.Str.ofString "cpy313.fnmatch") 510, code := PySem.Value.ref 180 }) }) ::
   (nat_lit 183, { cls := PySem.Value.type "dict", data := PySem.Data.dict #[{ hash := 40, key := PySem.Value.int 40 563, val := PySem.Value.str (PySem.Str.ofString "\\(") 567 }, { hash := 41, key := PySem.Value.int 41 569, val := PySem.Value.str (PySem.Str.ofString "\\)") 573 }, { hash := 91, key := PySem.Value.int 91 575, val := PySem.Value.str (PySem.Str.ofString "\\[") 579 }, { hash := 93, key := PySem.Value.int 93 581, val := PySem.Value.str (PySem.Str.ofString "\\]") 585 }, { hash := 123, key := PySem.Value.int 123 587, val := PySem.Value.str (PySem.Str.ofString "\\{") 591 }, { hash := 125, key := PySem.Value.int 125 593, val := PySem.Value.str (PySem.Str.ofString "\\}") 597 }, { hash := 63, key := PySem.Value.int 63 599, val := PySem.Value.str (PySem.Str.ofString "\\?") 603 }, { hash := 42, key := PySem.Value.int 42 605, val := PySem.Value.str (PySem.Str.ofString "\\*") 609 }, { hash := 43, key := PySem.Value.int 43 611, val := PySem.Value.str (PySem.Str.ofString "\\+") 615 }, { hash := 45, key := PySem.Value.int 45 617, val := PySem.Value.str (PySem.Str.ofString "\\-") 621 }, { hash := 124, key := PySem.Value.int 124 623, val := PySem.Value.str (PySem.Str.ofString "\\|") 627 }, { hash := 94, key := PySem.Value.int 94 629, val := PySem.Value.str (PySem.Str.ofString "\\^") 633 }, { hash := 36, key := PySem.Value.int 36 635, val := PySem.Value.str (PySem.Str.ofString "\\$") 639 }, { hash := 92, key := PySem.Value.int 92 641, val := PySem.Value.str (PySem.Str.ofString "\\\\") 645 }, { hash := 46, key := PySem.Value.int 46 647, val := PySem.Value.str (PySem.Str.ofString "\\.") 651 }, { hash := 38, key := PySem.Value.int 38 653, val := PySem.Value.str (PySem.Str.ofString "\\&") 657 }, { hash := 126, key := PySem.Value.int 126 659, val := PySem.Value.str (PySem.Str.ofString "\\~") 663 }, { hash := 35, key := PySem.Value.int 35 665, val := PySem.Value.str (PySem.Str.ofString "\\#") 669 }, { hash := 32, key := PySem.Value.int 32 671, val := PySem.Value.str (PySem.Str.ofString "\\ ") 675 }, { hash := 9, key := PySem.Value.int 9 677, val := PySem.Value.str (PySem.Str.ofString "\\\t") 681 }, { hash := 10, key := PySem.Value.int 10 683, val := PySem.Value.str (PySem.Str.ofString "\\\n") 687 }, { hash := 13, key := PySem.Value.int 13 689, val := PySem.Value.str (PySem.Str.ofString "\\\x0d") 693 }, { hash := 11, key := PySem.Value.int 11 695, val := PySem.Value.str (PySem.Str.ofString "\\\x0b") 699 }, { hash := 12, key := PySem.Value.int 12 701, val := PySem.Value.str (PySem.Str.ofString "\\\x0c") 705 }] 24 }) ::
   (nat_lit 187, { cls := PySem.Value.type "tuple", data := PySem.Data.seq #[] }) ::
   (nat_lit 189, { cls := PySem.Value.type "tuple", data := PySem.Data.seq #[PySem.Value.str (PySem.Str.ofString "pattern") 711] }) ::
   (nat_lit 190, { cls := PySem.Value.type "tuple", data := PySem.Data.seq #[] }) ::
   (nat_lit 192, { cls := PySem.Value.type "code", data := PySem.Data.fields #[PySem.Value.str (PySem.Str.ofString "escape") 708, PySem.Value.str (PySem.Str.ofString "escape") 709, PySem.Value.str (PySem.Str.ofString "/claim/cut.py") 710, PySem.Value.int 126 0, PySem.Value.int 1 0, PySem.Value.int 0 0, PySem.Value.int 0 0, PySem.Value.int 3 0, PySem.Value.ref 187, PySem.Value.bool true, PySem.Value.int 276 0, PySem.Value.ref 188, PySem.Value.none, PySem.Value.ref 189, PySem.Value.ref 190, PySem.Value.ref 191, PySem.Value.int 712 0, PySem.Value.int 126 0, PySem.Value.str (PySem.Str.ofString "/claim/cut.py") 713] }) ::
   (nat_lit 193, { cls := PySem.Value.type "function", data := PySem.Data.func (fnOf (stAt 13) { params := default, body := .stmts [], scope := default, name := PySem.Str.ofString "escape", qualname := PySem.Str.ofString "escape", globals := 3, closure := [], defaults := PySem.Value.none, kwdefaults := PySem.Value.none, pyModule := PySem.Value.str (PySem.Str.ofString "re") 560, code := PySem.Value.ref 192 }) }) ::
   (nat_lit 194, { cls := PySem.Value.type "tuple", data := PySem.Data.seq #[] }) ::
   (nat_lit 196, { cls := PySem.Value.type "tuple", data := PySem.Data.seq #[PySem.Value.str (PySem.Str.ofString "pat") 720, PySem.Value.str (PySem.Str.ofString "STAR") 721, PySem.Value.str (PySem.Str.ofString "QUESTION_MARK") 722, PySem.Value.str (PySem.Str.ofString "res") 723, PySem.Value.str (PySem.Str.ofString "add") 724, PySem.Value.str (PySem.Str.ofString "i") 725, PySem.Value.str (PySem.Str.ofString "n") 726, PySem.Value.str (PySem.Str.ofString "c") 727, PySem.Value.str (PySem.Str.ofString "j") 728, PySem.Value.str (PySem.Str.ofString "stuff") 729, PySem.Value.str (PySem.Str.ofString "chunks") 730, PySem.Value.str (PySem.Str.ofString "k") 731, PySem.Value.str (PySem.Str.ofString "chunk") 732] }) ::
   (nat_lit 197, { cls := PySem.Value.type "tuple", data := PySem.Data.seq #[] }) ::
   (nat_lit 199, { cls := PySem.Value.type "code", data := PySem.Data.fields #[PySem.Value.str (PySem.Str.ofString "_translate") 717, PySem.Value.str (PySem.Str.ofString "_translate") 718, PySem.Value.str (PySem.Str.ofString "/claim/cut.py") 719, PySem.Value.int 133 0, PySem.Value.int 3 0, PySem.Value.int 0 0, PySem.Value.int 0 0, PySem.Value.int 3 0, PySem.Value.ref 194, PySem.Value.bool true, PySem.Value.int 276 0, PySem.Value.ref 195, PySem.Value.none, PySem.Value.ref 196, PySem.Value.ref 197, PySem.Value.ref 198, PySem.Value.int 733 0, PySem.Value.int 133 0, PySem.Value.str (PySem.Str.ofString "/claim/cut.py") 734] }) ::
   (nat_lit 200, { cls := PySem.Value.type "function", data := PySem.Data.func (fnOf (stAt 15) { params := default, body := .stmts [], scope := default, name := PySem.Str.ofString "_translate", qualname := PySem.Str.ofString "_translate", globals := 3, closure := [], defaults := PySem.Value.none, kwdefaults := PySem.Value.none, pyModule := PySem.Value.str (PySem.Str.ofString "cpy313.fnmatch") 715, code := PySem.Value.ref 199 }) }) ::
   (nat_lit 201, { cls := PySem.Value.type "tuple", data := PySem.Data.seq #[] }) ::
   (nat_lit 203, { cls := PySem.Value.type "tuple", data := PySem.Data.seq #[PySem.Value.str (PySem.Str.ofString "inp") 739, PySem.Value.str (PySem.Str.ofString "STAR") 740, PySem.Value.str (PySem.Str.ofString "res") 741, PySem.Value.str (PySem.Str.ofString "add") 742, PySem.Value.str (PySem.Str.ofString "i") 743, PySem.Value.str (PySem.Str.ofString "n") 744, PySem.Value.str (PySem.Str.ofString "fixed") 745] }) ::
   (nat_lit 204, { cls := PySem.Value.type "tuple", data := PySem.Data.seq #[] }) ::
   (nat_lit 206, { cls := PySem.Value.type "code", data := PySem.Data.fields #[PySem.Value.str (PySem.Str.ofString "_join_translated_parts") 736, PySem.Value.str (PySem.Str.ofString "_join_translated_parts") 737, PySem.Value.str (PySem.Str.ofString "/claim/cut.py") 738, PySem.Value.int 195 0, PySem.Value.int 2 0, PySem.Value.int 0 0, PySem.Value.int 0 0, PySem.Value.int 3 0, PySem.Value.ref 201, PySem.Value.bool true, PySem.Value.int 276 0, PySem.Value.ref 202, PySem.Value.none, PySem.Value.ref 203, PySem.Value.ref 204, PySem.Value.ref 205, PySem.Value.int 746 0, PySem.Value.int 195 0, PySem.Value.str (PySem.Str.ofString "/claim/cut.py") 747] }) ::
   (nat_lit 207, { cls := PySem.Value.type "function", data := PySem.Data.func (fnOf (stAt 16) { params := default, body := .stmts [], scope := default, name := PySem.Str.ofString "_join_translated_parts", qualname := PySem.Str.ofString "_join_translated_parts", globals := 3, closure := [], defaults := PySem.Value.none, kwdefaults := PySem.Value.none, pyModule := PySem.Value.str (PySem.Str.ofString "cpy313.fnmatch") 715, code := PySem.Value.ref 206 }) }) ::
   (nat_lit 208, { cls := PySem.Value.type "tuple", data := PySem.Data.seq #[] }) ::
   (nat_lit 211, { cls := PySem.Value.type "code", data := PySem.Data.fields #[PySem.Value.str (PySem.Str.ofString "_law_signs") 751, PySem.Value.str (PySem.Str.ofString "_law_signs") 752, PySem.Value.str (PySem.Str.ofString "/claim/cut.py") 753, PySem.Value.int 223 0, PySem.Value.int 2 0, PySem.Value.int 0 0, PySem.Value.int 0 0, PySem.Value.int 3 0, PySem.Value.ref 208, PySem.Value.bool true, PySem.Value.int 276 0, PySem.Value.ref 209, PySem.Value.none, PySem.Value.none, PySem.Value.none, PySem.Value.ref 210, PySem.Value.int 754 0, PySem.Value.int 223 0, PySem.Value.str (PySem.Str.ofString "/claim/cut.py") 755] }) ::
   (nat_lit 212, { cls := PySem.Value.type "function", data := PySem.Data.func (fnOf (stAt 18) { params := default, body := .stmts [], scope := default, name := PySem.Str.ofString "_law_signs", qualname := PySem.Str.ofString "_law_signs", globals := 3, closure := [], defaults := PySem.Value.none, kwdefaults := PySem.Value.none, pyModule := PySem.Value.str (PySem.Str.ofString "law_ij0108_02") 749, code := PySem.Value.ref 211 }) }) ::
   (nat_lit 213, { cls := PySem.Value.type "tuple", data := PySem.Data.seq #[] }) ::
   (nat_lit 215, { cls := PySem.Value.type "tuple", data := PySem.Data.seq #[PySem.Value.str (PySem.Str.ofString "text") 760, PySem.Value.str (PySem.Str.ofString "body") 761, PySem.Value.str (PySem.Str.ofString "place") 762, PySem.Value.str (PySem.Str.ofString "held") 763, PySem.Value.str (PySem.Str.ofString "last") 764, PySem.Value.str (PySem.Str.ofString "pieces") 765, PySem.Value.str (PySem.Str.ofString "sound") 766, PySem.Value.str (PySem.Str.ofString "step") 767] }) ::
   (nat_lit 216, { cls := PySem.Value.type "tuple", data := PySem.Data.seq #[] }) ::
   (nat_lit 218, { cls := PySem.Value.type "code", data := PySem.Data.fields #[PySem.Value.str (PySem.Str.ofString "_law_pieces") 757, PySem.Value.str (PySem.Str.ofString "_law_pieces") 758, PySem.Value.str (PySem.Str.ofString "/claim/cut.py") 759, PySem.Value.int 225 0, PySem.Value.int 1 0, PySem.Value.int 0 0, PySem.Value.int 0 0, PySem.Value.int 3 0, PySem.Value.ref 213, PySem.Value.bool true, PySem.Value.int 276 0, PySem.Value.ref 214, PySem.Value.none, PySem.Value.ref 215, PySem.Value.ref 216, PySem.Value.ref 217, PySem.Value.int 768 0, PySem.Value.int 225 0, PySem.Value.str (PySem.Str.ofString "/claim/cut.py") 769] }) ::
   (nat_lit 219, { cls := PySem.Value.type "function", data := PySem.Data.func (fnOf (stAt 19) { params := default, body := .stmts [], scope := default, name := PySem.Str.ofString "_law_pieces", qualname := PySem.Str.ofString "_law_pieces", globals := 3, closure := [], defaults := PySem.Value.none, kwdefaults := PySem.Value.none, pyModule := PySem.Value.str (PySem.Str.ofString "law_ij0108_02") 749, code := PySem.Value.ref 218 }) }) ::
   (nat_lit 220, { cls := PySem.Value.type "tuple", data := PySem.Data.seq #[] }) ::
   (nat_lit 223, { cls := PySem.Value.type "code", data := PySem.Data.fields #[PySem.Value.str (PySem.Str.ofString "_law_fits") 771, PySem.Value.str (PySem.Str.ofString "_law_fits") 772, PySem.Value.str (PySem.Str.ofString "/claim/cut.py") 773, PySem.Value.int 243 0, PySem.Value.int 3 0, PySem.Value.int 0 0, PySem.Value.int 0 0, PySem.Value.int 3 0, PySem.Value.ref 220, PySem.Value.bool true, PySem.Value.int 276 0, PySem.Value.ref 221, PySem.Value.none, PySem.Value.none, PySem.Value.none, PySem.Value.ref 222, PySem.Value.int 774 0, PySem.Value.int 243 0, PySem.Value.str (PySem.Str.ofString "/claim/cut.py") 775] }) ::
   (nat_lit 224, { cls := PySem.Value.type "function", data := PySem.Data.func (fnOf (stAt 20) { params := default, body := .stmts [], scope := default, name := PySem.Str.ofString "_law_fits", qualname := PySem.Str.ofString "_law_fits", globals := 3, closure := [], defaults := PySem.Value.none, kwdefaults := PySem.Value.none, pyModule := PySem.Value.str (PySem.Str.ofString "law_ij0108_02") 749, code := PySem.Value.ref 223 }) }) ::
   (nat_lit 225, { cls := PySem.Value.type "tuple", data := PySem.Data.seq #[] }) ::
   (nat_lit 227, { cls := PySem.Value.type "tuple", data := PySem.Data.seq #[PySem.Value.str (PySem.Str.ofString "pieces") 780, PySem.Value.str (PySem.Str.ofString "name") 781, PySem.Value.str (PySem.Str.ofString "place") 782, PySem.Value.str (PySem.Str.ofString "piece") 783, PySem.Value.str (PySem.Str.ofString "final") 784] }) ::
   (nat_lit 228, { cls := PySem.Value.type "tuple", data := PySem.Data.seq #[] }) ::
   (nat_lit 230, { cls := PySem.Value.type "code", data := PySem.Data.fields #[PySem.Value.str (PySem.Str.ofString "_law_takes") 777, PySem.Value.str (PySem.Str.ofString "_law_takes") 778, PySem.Value.str (PySem.Str.ofString "/claim/cut.py") 779, PySem.Value.int 247 0, PySem.Value.int 2 0, PySem.Value.int 0 0, PySem.Value.int 0 0, PySem.Value.int 3 0, PySem.Value.ref 225, PySem.Value.bool true, PySem.Value.int 276 0, PySem.Value.ref 226, PySem.Value.none, PySem.Value.ref 227, PySem.Value.ref 228, PySem.Value.ref 229, PySem.Value.int 785 0, PySem.Value.int 247 0, PySem.Value.str (PySem.Str.ofString "/claim/cut.py") 786] }) ::
   (nat_lit 231, { cls := PySem.Value.type "function", data := PySem.Data.func (fnOf (stAt 21) { params := default, body := .stmts [], scope := default, name := PySem.Str.ofString "_law_takes", qualname := PySem.Str.ofString "_law_takes", globals := 3, closure := [], defaults := PySem.Value.none, kwdefaults := PySem.Value.none, pyModule := PySem.Value.str (PySem.Str.ofString "law_ij0108_02") 749, code := PySem.Value.ref 230 }) }) ::
   (nat_lit 232, { cls := PySem.Value.type "tuple", data := PySem.Data.seq #[] }) ::
   (nat_lit 234, { cls := PySem.Value.type "tuple", data := PySem.Data.seq #[PySem.Value.str (PySem.Str.ofString "name") 791, PySem.Value.str (PySem.Str.ofString "orders") 792, PySem.Value.str (PySem.Str.ofString "sign") 793, PySem.Value.str (PySem.Str.ofString "fresh") 794, PySem.Value.str (PySem.Str.ofString "order") 795, PySem.Value.str (PySem.Str.ofString "place") 796, PySem.Value.str (PySem.Str.ofString "longer") 797] }) ::
   (nat_lit 235, { cls := PySem.Value.type "tuple", data := PySem.Data.seq #[] }) ::
   (nat_lit 237, { cls := PySem.Value.type "code", data := PySem.Data.fields #[PySem.Value.str (PySem.Str.ofString "_law_orders") 788, PySem.Value.str (PySem.Str.ofString "_law_orders") 789, PySem.Value.str (PySem.Str.ofString "/claim/cut.py") 790, PySem.Value.int 259 0, PySem.Value.int 1 0, PySem.Value.int 0 0, PySem.Value.int 0 0, PySem.Value.int 3 0, PySem.Value.ref 232, PySem.Value.bool true, PySem.Value.int 276 0, PySem.Value.ref 233, PySem.Value.none, PySem.Value.ref 234, PySem.Value.ref 235, PySem.Value.ref 236, PySem.Value.int 798 0, PySem.Value.int 259 0, PySem.Value.str (PySem.Str.ofString "/claim/cut.py") 799] }) ::
   (nat_lit 238, { cls := PySem.Value.type "function", data := PySem.Data.func (fnOf (stAt 22) { params := default, body := .stmts [], scope := default, name := PySem.Str.ofString "_law_orders", qualname := PySem.Str.ofString "_law_orders", globals := 3, closure := [], defaults := PySem.Value.none, kwdefaults := PySem.Value.none, pyModule := PySem.Value.str (PySem.Str.ofString "law_ij0108_02") 749, code := PySem.Value.ref 237 }) }) ::
   (nat_lit 239, { cls := PySem.Value.type "tuple", data := PySem.Data.seq #[] }) ::
   (nat_lit 241, { cls := PySem.Value.type "tuple", data := PySem.Data.seq #[PySem.Value.str (PySem.Str.ofString "number") 804, PySem.Value.str (PySem.Str.ofString "product") 805, PySem.Value.str (PySem.Str.ofString "factor") 806] }) ::
   (nat_lit 242, { cls := PySem.Value.type "tuple", data := PySem.Data.seq #[] }) ::
   (nat_lit 244, { cls := PySem.Value.type "code", data := PySem.Data.fields #[PySem.Value.str (PySem.Str.ofString "_law_product") 801, PySem.Value.str (PySem.Str.ofString "_law_product") 802, PySem.Value.str (PySem.Str.ofString "/claim/cut.py") 803, PySem.Value.int 270 0, PySem.Value.int 1 0, PySem.Value.int 0 0, PySem.Value.int 0 0, PySem.Value.int 3 0, PySem.Value.ref 239, PySem.Value.bool true, PySem.Value.int 276 0, PySem.Value.ref 240, PySem.Value.none, PySem.Value.ref 241, PySem.Value.ref 242, PySem.Value.ref 243, PySem.Value.int 807 0, PySem.Value.int 270 0, PySem.Value.str (PySem.Str.ofString "/claim/cut.py") 808] }) ::
   (nat_lit 245, { cls := PySem.Value.type "function", data := PySem.Data.func (fnOf (stAt 23) { params := default, body := .stmts [], scope := default, name := PySem.Str.ofString "_law_product", qualname := PySem.Str.ofString "_law_product", globals := 3, closure := [], defaults := PySem.Value.none, kwdefaults := PySem.Value.none, pyModule := PySem.Value.str (PySem.Str.ofString "law_ij0108_02") 749, code := PySem.Value.ref 244 }) }) ::
   (nat_lit 246, { cls := PySem.Value.type "tuple", data := PySem.Data.seq #[] }) ::
   (nat_lit 248, { cls := PySem.Value.type "tuple", data := PySem.Data.seq #[PySem.Value.str (PySem.Str.ofString "rows") 813, PySem.Value.str (PySem.Str.ofString "size") 814, PySem.Value.str (PySem.Str.ofString "amount") 815, PySem.Value.str (PySem.Str.ofString "row") 816] }) ::
   (nat_lit 249, { cls := PySem.Value.type "tuple", data := PySem.Data.seq #[] }) ::
   (nat_lit 251, { cls := PySem.Value.type "code", data := PySem.Data.fields #[PySem.Value.str (PySem.Str.ofString "_law_amount") 810, PySem.Value.str (PySem.Str.ofString "_law_amount") 811, PySem.Value.str (PySem.Str.ofString "/claim/cut.py") 812, PySem.Value.int 275 0, PySem.Value.int 2 0, PySem.Value.int 0 0, PySem.Value.int 0 0, PySem.Value.int 3 0, PySem.Value.ref 246, PySem.Value.bool true, PySem.Value.int 276 0, PySem.Value.ref 247, PySem.Value.none, PySem.Value.ref 248, PySem.Value.ref 249, PySem.Value.ref 250, PySem.Value.int 817 0, PySem.Value.int 275 0, PySem.Value.str (PySem.Str.ofString "/claim/cut.py") 818] }) ::
   (nat_lit 252, { cls := PySem.Value.type "function", data := PySem.Data.func (fnOf (stAt 24) { params := default, body := .stmts [], scope := default, name := PySem.Str.ofString "_law_amount", qualname := PySem.Str.ofString "_law_amount", globals := 3, closure := [], defaults := PySem.Value.none, kwdefaults := PySem.Value.none, pyModule := PySem.Value.str (PySem.Str.ofString "law_ij0108_02") 749, code := PySem.Value.ref 251 }) }) ::
   (nat_lit 253, { cls := PySem.Value.type "tuple", data := PySem.Data.seq #[] }) ::
   (nat_lit 256, { cls := PySem.Value.type "code", data := PySem.Data.fields #[PySem.Value.str (PySem.Str.ofString "_law_together") 820, PySem.Value.str (PySem.Str.ofString "_law_together") 821, PySem.Value.str (PySem.Str.ofString "/claim/cut.py") 822, PySem.Value.int 280 0, PySem.Value.int 1 0, PySem.Value.int 0 0, PySem.Value.int 0 0, PySem.Value.int 3 0, PySem.Value.ref 253, PySem.Value.bool true, PySem.Value.int 276 0, PySem.Value.ref 254, PySem.Value.none, PySem.Value.none, PySem.Value.none, PySem.Value.ref 255, PySem.Value.int 823 0, PySem.Value.int 280 0, PySem.Value.str (PySem.Str.ofString "/claim/cut.py") 824] }) ::
   (nat_lit 257, { cls := PySem.Value.type "function", data := PySem.Data.func (fnOf (stAt 25) { params := default, body := .stmts [], scope := default, name := PySem.Str.ofString "_law_together", qualname := PySem.Str.ofString "_law_together", globals := 3, closure := [], defaults := PySem.Value.none, kwdefaults := PySem.Value.none, pyModule := PySem.Value.str (PySem.Str.ofString "law_ij0108_02") 749, code := PySem.Value.ref 256 }) }) ::
   (nat_lit 258, { cls := PySem.Value.type "tuple", data := PySem.Data.seq #[] }) ::
   (nat_lit 261, { cls := PySem.Value.type "code", data := PySem.Data.fields #[PySem.Value.str (PySem.Str.ofString "law") 826, PySem.Value.str (PySem.Str.ofString "law") 827, PySem.Value.str (PySem.Str.ofString "/claim/cut.py") 828, PySem.Value.int 284 0, PySem.Value.int 1 0, PySem.Value.int 0 0, PySem.Value.int 0 0, PySem.Value.int 3 0, PySem.Value.ref 258, PySem.Value.bool true, PySem.Value.int 276 0, PySem.Value.ref 259, PySem.Value.none, PySem.Value.none, PySem.Value.none, PySem.Value.ref 260, PySem.Value.int 829 0, PySem.Value.int 284 0, PySem.Value.str (PySem.Str.ofString "/claim/cut.py") 830] }) ::
   (nat_lit 262, { cls := PySem.Value.type "function", data := PySem.Data.func (fnOf (stAt 26) { params := default, body := .stmts [], scope := default, name := PySem.Str.ofString "law", qualname := PySem.Str.ofString "law", globals := 3, closure := [], defaults := PySem.Value.none, kwdefaults := PySem.Value.none, pyModule := PySem.Value.str (PySem.Str.ofString "law_ij0108_02") 749, code := PySem.Value.ref 261 }) }) :: []

noncomputable def addrs : List Addr := [2, 3, 32, 34, 35, 37, 38, 46, 48, 49, 51, 52, 53, 54, 56, 57, 59, 60, 61, 63, 64, 66, 67, 68, 70, 71, 73, 74, 75, 76, 77, 82, 84, 85, 87, 88, 89, 92, 97, 98, 99, 100, 102, 103, 105, 106, 107, 109, 110, 112, 113, 114, 115, 116, 117, 118, 120, 121, 123, 124, 125, 127, 128, 130, 131, 132, 134, 135, 137, 138, 139, 141, 142, 144, 145, 146, 147, 148, 150, 151, 153, 154, 156, 158, 159, 160, 163, 165, 166, 168, 169, 173, 175, 177, 178, 180, 181, 183, 187, 189, 190, 192, 193, 194, 196, 197, 199, 200, 201, 203, 204, 206, 207, 208, 211, 212, 213, 215, 216, 218, 219, 220, 223, 224, 225, 227, 228, 230, 231, 232, 234, 235, 237, 238, 239, 241, 242, 244, 245, 246, 248, 249, 251, 252, 253, 256, 257, 258, 261, 262]
noncomputable def viewQ : Program := view PySem.Challenge.pw_ij0108_02 [0, 1, 2, 4, 7, 8, 10, 11, 13, 14, 15, 16, 17, 18, 19, 20, 21, 22, 23, 24, 25, 26]
noncomputable def looseL : List Str := [Str.ofString "_tuplegetter", Str.ofString "Mismatch", Str.ofString "_Mismatch", Str.ofString "_twin_re_1", Str.ofString "_special_chars_map"]
theorem addrsOk : ∀ P, addrs = (frag P).map (·.1) := fun _ => by kernel_rfl
@[reducible] noncomputable def hookQ : Hook := kmHook frag addrs addrsOk [195]
end Mine
end
/-! Ex8 -/
section
open PySem PySem.W PyProof.Rows PySem.Builtin PySem.Builtin.Str
namespace Mine

noncomputable def gm (P : Params) : Str → Option Value := fun x => match (frag P).lookup 3 with
  | some o => (match o.data with | .dict es _ => nsFind es x | _ => none)
  | none => none

theorem loc_same (σ : St) (x : Str) (v : AV) : (σ.set x v).loc x = some v := if_pos rfl
theorem loc_ne {σ : St} {x y : Str} {v : AV} (h : y ≠ x) : (σ.set x v).loc y = σ.loc y := if_neg h
theorem loc_alloc (σ : St) (xs : List AV) (x : Str) : (σ.alloc xs).loc x = σ.loc x := rfl
theorem loc_put (σ : St) (k : Nat) (xs : List AV) (x : Str) : (σ.put k xs).loc x = σ.loc x := rfl
theorem hp_set (σ : St) (x : Str) (v : AV) : (σ.set x v).hp = σ.hp := rfl
theorem st0_same (x : Str) (ns : List Str) (a : FV) (as : List FV) : (st0 (x :: ns) (a :: as)).loc x = some (.fv a) := by
  show List.lookup x ((x, AV.fv a) :: _) = _
  rw [List.lookup_cons, beq_self_eq_true]
theorem st0_ne {x y : Str} {ns : List Str} {a : FV} {as : List FV} (h : y ≠ x) : (st0 (x :: ns) (a :: as)).loc y = (st0 ns as).loc y := by
  show List.lookup y ((x, AV.fv a) :: _) = _
  rw [List.lookup_cons, beq_eq_false_iff_ne.mpr h]
  rfl
theorem loc_ne' {σ : St} {x y : Str} {v : AV} {r : Option AV} (h : y ≠ x) (e : σ.loc y = r) : (σ.set x v).loc y = r := (loc_ne h).trans e
theorem loc_alloc' {σ : St} {xs : List AV} {x : Str} {r : Option AV} (e : σ.loc x = r) : (σ.alloc xs).loc x = r := e
theorem loc_put' {σ : St} {k : Nat} {xs : List AV} {x : Str} {r : Option AV} (e : σ.loc x = r) : (σ.put k xs).loc x = r := e
theorem st0_ne' {x y : Str} {ns : List Str} {a : FV} {as : List FV} {r : Option AV} (h : y ≠ x) (e : (st0 ns as).loc y = r) : (st0 (x :: ns) (a :: as)).loc y = r := (st0_ne h).trans e
theorem EV_lit {C : Cx} {σ : St} {x : Str} {l : List Nat} {k : Nat} {p : Pos} (hx : x.cps.toList = l) (hl : okS l) : EV C σ (.Constant (.str x) k p) (.fv (.str l)) := by
  subst hx; exact EV_str hl

theorem bin_mul {a b : Int} (h : a.natAbs ≤ big) : binFV .Mult (.int a) (.int b) = some (.int (a * b)) := if_pos h
theorem aug_mul {a b : Int} (h : a.natAbs ≤ big) : augFV .Mult a b = some (a * b) := if_pos h

theorem EX1_forR {C : Cx} {σ : St} {P : Out → St → Prop} {iter target : Expr} {body : List Stmt} {p : Pos} {x : Str} {n : Nat} {g : Nat → FV} (hsrc : SRC C σ iter target ((List.range n).map fun i => [(x, g i)])) (hfs : ∀ x, foldedSetIterable iter C.env x = pure x)
    (hk : C.env.kindOf x = some .local) (I : Nat → St → Prop) (h0 : I 0 σ)
    (turn : ∀ i σ', i < n → I i σ' → EX C (σ'.set x (.fv (g i))) body (Turn (I (i + 1)) P))
    (done : ∀ σ', I n σ' → P .next σ') : EX1 C σ (.For target iter body [] p) P := by
  refine EX1_for hsrc hfs (fun r hr p hp => ?_) I h0 (fun i r σ' hr hi => ?_) (by simpa using done)
  · obtain ⟨i, _, rfl⟩ := List.mem_map.mp hr
    cases List.mem_singleton.mp hp
    exact hk
  · rw [List.getElem?_map] at hr
    obtain ⟨j, hj, rfl⟩ := Option.map_eq_some_iff.mp hr
    obtain ⟨h1, h2⟩ := List.getElem?_eq_some_iff.mp hj
    simp only [List.length_range] at h1
    simp only [List.getElem_range] at h2
    subst h2
    exact turn i σ' h1 hi
theorem EX1_forL {C : Cx} {σ : St} {P : Out → St → Prop} {iter target : Expr} {body : List Stmt} {p : Pos} {x : Str} {xs : List FV} (hsrc : SRC C σ iter target (xs.map fun f => [(x, f)])) (hfs : ∀ x, foldedSetIterable iter C.env x = pure x)
    (hk : C.env.kindOf x = some .local) (I : Nat → St → Prop) (h0 : I 0 σ)
    (turn : ∀ i f σ', xs[i]? = some f → I i σ' → EX C (σ'.set x (.fv f)) body (Turn (I (i + 1)) P))
    (done : ∀ σ', I xs.length σ' → P .next σ') : EX1 C σ (.For target iter body [] p) P := by
  refine EX1_for hsrc hfs (fun r hr p hp => ?_) I h0 (fun i r σ' hr hi => ?_) (by simpa using done)
  · obtain ⟨i, _, rfl⟩ := List.mem_map.mp hr
    cases List.mem_singleton.mp hp
    exact hk
  · rw [List.getElem?_map] at hr
    obtain ⟨j, hj, rfl⟩ := Option.map_eq_some_iff.mp hr
    exact turn i j σ' hj hi
end Mine
end
/-! Ec1 -/
section
open PySem PySem.W PyProof.Rows PySem.Builtin PySem.Builtin.Str
namespace Mine

theorem compLoop_own {prog : Program} {w : World} {A : Around} {R : Result → Shared → Prop} {s : Shared} {elt target iter : Expr} {ifs : List Expr} {scope : Scope} {pos : Pos} {it acc : Value} {env : Env} (I : Nat → Shared → Prop)
    (turn : ∀ n s, I n s → wpAny (model prog w) A (pyNext it) (fun r s₁ => match r with
      | none => R (.ok .next) s₁
      | some v => wpAny (model prog w) A (letOwnedTupleGo target it v) (fun _ s₁ => wpAny (model prog w) A (assign target env v) (fun _ s₂ =>
          wpAny (model prog w) A (forIn ifs true fun c r => if r = true then do let ok ← isTrue c env (eval c env); pure (ForInStep.yield ok) else pure (ForInStep.yield r)) (fun ok s₃ =>
            if ok = true then wpAny (model prog w) A (eval elt env) (fun x s₄ =>
              wpAny (model prog w) A (call (.builtin "list.append") [acc, x]) (fun _ s₅ => ∃ m, m < n ∧ I m s₅) (notedBy (model prog w) A env fun e s' => R (.error e) s') s₄) (notedBy (model prog w) A env fun e s' => R (.error e) s') s₃
            else ∃ m, m < n ∧ I m s₃) (notedBy (model prog w) A env fun e s' => R (.error e) s') s₂) (notedBy (model prog w) A env fun e s' => R (.error e) s') s₁) (notedBy (model prog w) A env fun e s' => R (.error e) s') s₁) (notedBy (model prog w) A env fun e s' => R (.error e) s') s)
    (n : Nat) (h : I n s) :
    codeAny (model prog w) A (.compLoop (.ListComp elt [⟨target, iter, ifs, 0⟩] scope pos) 0 it acc env) R s := by
  refine codeAny_loop rfl I (fun n s hI => ?_) n h
  show wpAny _ A ((compTurn (.ListComp elt [⟨target, iter, ifs, 0⟩] scope pos) 0 it acc env).onRaise (fun x => do noteFrame x env; theTreesLotGoes x)) _ _ s
  refine wpAny_noted ?_
  rw [compTurn_list]
  refine wpAny_bind (wpAny_standAt (wpAny_bind (wpAny_mono (turn n s hI) (fun r s₁ h₁ => ?_) fun _ _ h' => h')))
  cases r with
  | none => exact wpAny_pure h₁
  | some v =>
    refine wpAny_bind (wpAny_mono h₁ (fun _ s₁' h₁' => ?_) fun _ _ h' => h')
    refine wpAny_bind (wpAny_mono h₁' (fun _ s₂ h₂ => wpAny_bind (wpAny_mono h₂ (fun ok s₃ h₃ => ?_) fun _ _ h' => h')) fun _ _ h' => h')
    cases ok with
    | false => exact wpAny_pure ⟨rfl, h₃⟩
    | true =>
      exact wpAny_bind (wpAny_bind (wpAny_mono h₃ (fun x s₄ h₄ => wpAny_bind (wpAny_mono h₄ (fun _ s₅ h₅ => wpAny_pure (wpAny_pure ⟨rfl, h₅⟩)) fun _ _ h' => h')) fun _ _ h' => h'))

noncomputable def EVt (C : Cx) (σ : St) (ifs : List Expr) (b : Bool) : Prop :=
  ∀ (H : List Addr) (ρ : List Addr) (s : Shared) (Q : Bool → Shared → Prop) (E : Value → Shared → Prop), COk C → RelE C H ρ σ s →
    (∀ s', Keeps s s' → Q b s') → wpAny (model C.prog C.w) C.A (forIn ifs true fun c r => if r = true then do let ok ← isTrue c C.env (eval c C.env); pure (ForInStep.yield ok) else pure (ForInStep.yield r)) Q E s
theorem EVt_nil {C : Cx} {σ : St} : EVt C σ [] true := fun _ _ s _ _ _ _ h => wpAny_tests_nil (h s (keeps_refl s))
theorem EVt_one {C : Cx} {σ : St} {e : Expr} {b : Bool} (h : EVb C σ e b) : EVt C σ [e] b := fun H ρ s Q E hg R hq => wpAny_tests_one (h H ρ s Q E hg R hq)

noncomputable def Cx.comp (C : Cx) (scope : Scope) (cl : List (Str × Addr)) (L : Addr) : Cx := { C with env := compEnvC scope cl L C.env, mu := [L] }
noncomputable def frees (σ : St) (fre : List Str) : St := { loc := fun x => if x ∈ fre then (match σ.loc x with | some (.fv f) => some (.fv f) | _ => none) else none, hp := [] }

/-- what a comprehension's turns give -/
structure Comp (C : Cx) (σ : St) (elt target : Expr) (ifs : List Expr) (scope : Scope) (cl : List (Str × Addr)) (fre : List Str) (rows : List (List (Str × FV))) (outs : List (Option FV)) : Prop where
  cell : ∀ y ∈ scope.names, y.2 ≠ .cell
  kind : scope.kind = .function
  names : ∀ y ∈ scope.names, y.2 = .local → scope.names.lookup y.1 = some .local
  hfre : ∀ x ∈ fre, C.env.kindOf x = some .cell ∧ cl.lookup x = C.env.cells.lookup x ∧ (relabel scope C.env).names.lookup x = some .cell
  hrows : ∀ r ∈ rows, ∀ p ∈ r, scope.names.lookup p.1 = some .local
  len : outs.length = rows.length
  turn : ∀ (i : Nat) (r : List (Str × FV)) (o : Option FV), rows[i]? = some r → outs[i]? = some o → ∀ L, EVt (C.comp scope cl L) (setRow (frees σ fre) r) ifs o.isSome ∧ ∀ f, o = some f → EV (C.comp scope cl L) (setRow (frees σ fre) r) elt (.fv f)

theorem f2_snoc {α β : Type} {F : α → β → Prop} {xs : List α} {l : List β} {x : α} {v : β} (h : Paired F xs l) (q : F x v) : Paired F (xs ++ [x]) (l ++ [v]) := Paired.snoc h q

inductive CI (s₂ : Shared) (T : Nat → Heap → Prop) (D L : Addr) (hid : List Addr) (outs : List (Option FV)) (len : Nat) (wr : List Addr) (k : Nat) (s' : Shared) : Prop
  | mk (i : Nat) (h' : Heap) (tk : Nat) (m' : Str → Option Value) (ys : Array Value) (hs : s' = { s₂ with heap := h', toks := tk }) (hT : T i h') (hD : h'.PlainList D ys) (hL : h'.Ns L m')
      (hP : Paired (FR (hideAll h' hid)) ((outs.take i).filterMap id) ys.toList) (hi : i ≤ len) (hk : k = len + 1 - i) (hg : ∀ b o, b ∉ wr → s₂.heap.get? b = some o → h'.get? b = some o)
theorem comp_core {C : Cx} {σ : St} {elt target iter : Expr} {ifs : List Expr} {scope : Scope} {cl : List (Str × Addr)} {fre : List Str} {pos : Pos} {rows : List (List (Str × FV))} {outs : List (Option FV)}
    (K : Comp C σ elt target ifs scope cl fre rows outs) {H ρ : List Addr} {s s₂ : Shared} (hg : COk C) (R : RelE C H ρ σ s) (k₂ : Keeps s s₂) {I : Addr} {fp wr : List Addr} {hf : Heap} {T : Nat → Heap → Prop}
    (W : Turner C.prog C.w C.A target I fp wr rows hf T) (hT : T 0 s₂.heap) (hwr : ∀ b ∈ wr, s.heap.get? b = none) (hhf : ∀ b o, hf.get? b = some o → (Hh H ρ s₂.heap).get? b = some o ∧ b ∉ wr)
    (hsz : rows.length ≤ sizeLine) {RR : Value → Addr → Result → Shared → Prop}
    (hRR : ∀ D L h' tk m' ys, s₂.heap.get? D = none → s₂.heap.get? L = none → D ≠ L → h'.Ns L m' → h'.PlainList D ys → Paired (FR (hideAll h' (wr ++ D :: L :: (ρ ++ H)))) (outs.filterMap id) ys.toList →
      (∀ b o, b ∉ wr → s₂.heap.get? b = some o → h'.get? b = some o) → RR (.ref D) L (.ok .next) { s₂ with heap := h', toks := tk }) {E : Value → Shared → Prop} :
    wpAny (model C.prog C.w) C.A (newList []) (fun acc s₃ => wpAny (model C.prog C.w) C.A (newFunctionEnv scope C.env.globals cl [] C.env.qual none .none (some C.env)) (fun cenv s₄ =>
      codeAny (model C.prog C.w) C.A (.compStart (.ListComp elt [⟨target, iter, ifs, 0⟩] scope pos) 0 (.ref I) acc { cenv with scope := relabel scope C.env }) (RR acc cenv.locals) s₄) E s₃) E s₂ := by
  refine wpAny_newObj_type (wpAny_newFunctionEnv K.cell (by intro y hy; simp at hy) (fun h₁ hns₁ hsb₁ => ?_) K.kind)
  dsimp only at hns₁ hsb₁ ⊢
  generalize hH2 : s₂.heap.push { cls := .type "list", dict := none, data := .seq ([] : List Value).toArray } = H2 at hns₁ hsb₁ ⊢
  generalize hD : s₂.heap.objs.size = D
  generalize hL : H2.objs.size = L at hsb₁ hns₁ ⊢
  have hC : L = D + 1 := by rw [← hL, ← hD, ← hH2, Heap.size_push]
  have hDL : D ≠ L := by (first | lia | omega)
  have below : ∀ b o, s₂.heap.get? b = some o → b ≠ L ∧ b ≠ D := fun b o e => by
    have h : @LT.lt Nat _ b D := hD ▸ Heap.lt_size e
    exact ⟨fun q => by subst q; (first | lia | omega), fun q => by subst q; (first | lia | omega)⟩
  have hlive : ∀ b ∈ fp, ∃ o, s₂.heap.get? b = some o := W.live 0 _ hT
  have hDf : D ∉ fp := fun m => by obtain ⟨o, e⟩ := hlive _ m; exact (below _ _ e).2 rfl
  have hLf : L ∉ fp := fun m => by obtain ⟨o, e⟩ := hlive _ m; exact (below _ _ e).1 rfl
  have old : ∀ b o, s₂.heap.get? b = some o → h₁.get? b = some o := fun b o e => hsb₁.extBut b o (below b o e).1 (Heap.get?_push_of_some _ (hH2 ▸ Heap.get?_push_of_some _ e))
  have hacc : h₁.PlainList D #[] := ⟨_, hsb₁.extBut _ _ hDL (Heap.get?_push_of_some _ (hH2 ▸ hD ▸ Heap.get?_push_size _ rfl))⟩
  have fresh : ∀ a, D ≤ a → s₂.heap.get? a = none := fun a ha => by
    cases e : s₂.heap.get? a with
    | none => rfl
    | some o' => exact absurd (hD ▸ Heap.lt_size e : @LT.lt Nat _ a D) (Nat.not_lt.mpr ha)
  have ks := keeps_ext k₂
  have hwlive : ∀ b ∈ wr, ∃ o, s₂.heap.get? b = some o := fun b hb => hlive b (W.sub b hb)
  have hkind : (relabel scope C.env).kind = .function := by show scope.kind = _; exact K.kind
  have hcok : COk (C.comp scope cl L) := ⟨hg.hh, hg.depth, hg.units, hkind, hg.eg, hg.eb, hg.bb⟩
  -- what the outer activation sees is seen in a turn
  have see : ∀ h : Heap, (∀ b o, b ∉ wr → s₂.heap.get? b = some o → h.get? b = some o) → HExt (Hh H ρ s.heap) (hideAll h (wr ++ D :: L :: (ρ ++ H))) := by
    intro h hk b o e
    have hb : b ∉ ρ ++ H := fun m => by unfold Hh at e; rw [hideAll_none _ m] at e; cases e
    have he := of_hideAll _ e
    have he₂ := ks _ _ he
    have hw : b ∉ wr := fun m => by rw [hwr b m] at he; cases he
    refine hideAll_get _ (hk b o hw he₂) ?_
    simp only [List.mem_append, List.mem_cons, not_or] at hb ⊢
    exact ⟨hw, (below b o he₂).2, (below b o he₂).1, hb⟩
  have seef : ∀ h : Heap, (∀ b o, b ∉ wr → s₂.heap.get? b = some o → h.get? b = some o) → HExt hf (hideAll h (wr ++ D :: L :: (ρ ++ H))) := by
    intro h hk b o e
    obtain ⟨e1, hw⟩ := hhf b o e
    have hb : b ∉ ρ ++ H := fun m => by unfold Hh at e1; rw [hideAll_none _ m] at e1; cases e1
    have he₂ := of_hideAll _ e1
    refine hideAll_get _ (hk b o hw he₂) ?_
    simp only [List.mem_append, List.mem_cons, not_or] at hb ⊢
    exact ⟨hw, (below b o he₂).2, (below b o he₂).1, hb⟩
  have hlr : ∀ p : Str × FV, scope.names.lookup p.1 = some .local → (compEnvC scope cl L C.env).kindOf p.1 = some .local := fun p hp => lookup_relabel_local hp
  have mkR : ∀ (h : Heap) (tk : Nat) (m : Str → Option Value) (r : List (Str × FV)) bs, Paired (RowR hf) r bs → r ∈ rows → h.Ns L (bindAll m bs) → (∃ o, h.get? D = some o) → (∀ b ∈ wr, ∃ o, h.get? b = some o) →
      (∀ b o, b ∉ wr → s₂.heap.get? b = some o → h.get? b = some o) → RelE (C.comp scope cl L) (wr ++ D :: L :: (ρ ++ H)) [] (setRow (frees σ fre) r) { s₂ with heap := h, toks := tk } := by
    intro h tk m r bs hb hr hn hD' hw' hk
    refine ⟨?_, fun a ha => ?_, fun y av e => ?_, fun k xs e => ?_⟩
    · exact R.g.mono (see h hk)
    · simp only [List.nil_append, List.mem_append, List.mem_cons] at ha
      rcases ha with h1 | rfl | rfl | h1
      · exact hw' a h1
      · exact hD'
      · obtain ⟨o, _, _, e, _⟩ := hn; exact ⟨o, e⟩
      · obtain ⟨o, e⟩ := R.low a (List.mem_append.mpr h1)
        exact ⟨o, hk a o (fun m => by rw [hwr a m] at e; cases e) (ks _ _ e)⟩
    · rcases row_loc (ρ := []) (env := (compEnvC scope cl L C.env)) r bs (frees σ fre) m (hb.mono fun _ _ q => ⟨q.1, q.2.mono (seef h hk)⟩) (fun p hp => hlr p (K.hrows r hr p hp)) e with ⟨v, a, b, c⟩ | ⟨h1, h2⟩
      · exact ⟨v, a, .inl ⟨b, _, hn, c⟩⟩
      · simp only [frees] at h1
        split at h1
        · rename_i hy
          split at h1
          · rename_i f hf'
            cases h1
            obtain ⟨v, hv, hl⟩ := R.names y _ hf'
            obtain ⟨q1, q2, q3⟩ := K.hfre y hy
            cases hv with | fv hv =>
            refine ⟨v, .fv (hv.mono (see h hk)), ?_⟩
            rcases hl with ⟨b1, _⟩ | ⟨b1, c, b2, o, b3, b4⟩ | ⟨b1, _⟩
            · rw [q1] at b1; cases b1
            · exact .inr (.inl ⟨q3, c, q2.trans b2, o, hk c o (fun m => by rw [hwr c m] at b3; cases b3) (ks _ _ b3), b4⟩)
            · rw [q1] at b1; cases b1
          · cases h1
        · cases h1
    · rw [setRow_hp] at e; cases e
  have hLw : L ∉ wr := fun m => hLf (W.sub _ m)
  have hDw : D ∉ wr := fun m => hDf (W.sub _ m)
  have loop : ∀ s₃ : Shared, s₃ = { s₂ with heap := h₁, toks := s₂.toks + ([] : List (Str × Value)).length } →
      codeAny (model C.prog C.w) C.A (.compLoop (.ListComp elt [⟨target, iter, ifs, 0⟩] scope pos) 0 (.ref I) (.ref D) (compEnvC scope cl L C.env))
        (RR (.ref D) L) s₃ := by
    rintro s₃ rfl
    refine compLoop_own
      (CI s₂ T D L (wr ++ D :: L :: (ρ ++ H)) outs rows.length wr) ?_ (rows.length + 1)
      ⟨0, h₁, s₂.toks + 0, _, #[], rfl, W.frame _ _ _ hT fun b _ o e => old b o e, hacc, hns₁, by simpa using Paired.nil, Nat.zero_le _, rfl, fun b o _ e => old b o e⟩
    rintro k s' ⟨i, h, tk, m, ys, rfl, hT', hacc', hn', hP, hi, rfl, hk⟩
    by_cases hlt : i < rows.length
    · have hr : rows[i]? = some rows[i] := List.getElem?_eq_getElem hlt
      have hlo : i < outs.length := by rw [K.len]; exact hlt
      have ho : outs[i]? = some outs[i] := List.getElem?_eq_getElem hlo
      have hm := List.getElem_mem hlt
      obtain ⟨ht, he⟩ := K.turn i _ _ hr ho L
      have htake : (outs.take (i + 1)).filterMap id = (outs.take i).filterMap id ++ (match outs[i] with | some f => [f] | none => []) := by
        rw [List.take_add_one, ho]
        simp only [Option.toList, List.filterMap_append]
        congr 1
        cases outs[i] <;> rfl
      refine wpAny_mono (W.turn i rows[i] (compEnvC scope cl L C.env) m _ (fun s₃ => wpAny _ _ (forIn ifs true fun c r => if r = true then do let ok ← isTrue c (compEnvC scope cl L C.env) (eval c (compEnvC scope cl L C.env)); pure (ForInStep.yield ok) else pure (ForInStep.yield r)) _ _ s₃) _ hr hT' (hpFor_fn hkind) (fun p hp => hlr p (K.hrows _ hm p hp)) hn' hLf fun bs h₃ tk₃ hb hT₃ hn₃ keep₃ => ?_) (fun x s' q => by obtain ⟨v, rfl, q⟩ := q; exact q) fun _ _ e => e
      have hk₃ : ∀ b o, b ∉ wr → s₂.heap.get? b = some o → h₃.get? b = some o := fun b o hw e => keep₃ b o hw (below b o e).1 (hk b o hw e)
      have hacc₃ : h₃.PlainList D ys := hacc'.at fun o e => keep₃ D o hDw hDL e
      have R₃ := mkR h₃ tk₃ m rows[i] bs hb hm hn₃ (let ⟨n, e⟩ := hacc₃; ⟨_, e⟩) (fun b hb => W.live _ _ hT₃ b (W.sub b hb)) hk₃
      have hx₃ : HExt (hideAll h (wr ++ D :: L :: (ρ ++ H))) (hideAll h₃ (wr ++ D :: L :: (ρ ++ H))) := by
        intro b o e
        have hb : b ∉ wr ++ D :: L :: (ρ ++ H) := fun m => by rw [hideAll_none _ m] at e; cases e
        have hb' := hb
        simp only [List.mem_append, List.mem_cons, not_or] at hb'
        exact hideAll_get _ (keep₃ b o hb'.1 hb'.2.2.1 (of_hideAll _ e)) hb
      refine ht _ [] _ _ _ hcok R₃ fun s₄ k₄ => ?_
      obtain ⟨h₄, tk₄, rfl, q₄⟩ := id k₄
      have R₄ := R₃.keeps hcok.gm k₄
      have hP₄ : Paired (FR (hideAll h₄ (wr ++ D :: L :: (ρ ++ H)))) ((outs.take i).filterMap id) ys.toList := hP.mono fun _ _ q => (q.mono hx₃).mono (hide_mono q₄ _)
      have hT₄ : T (i + 1) h₄ := W.frame _ _ _ hT₃ fun b _ o e => q₄ b o e
      cases hoi : outs[i] with
      | none =>
        simp only [Option.isSome_none, Bool.false_eq_true, if_false]
        refine ⟨rows.length + 1 - (i + 1), by (first | lia | omega), i + 1, h₄, tk₄, _, ys, rfl, hT₄, hacc₃.at fun o e => q₄ _ o e, hn₃.keeps q₄, ?_, hlt, rfl, fun b o hw e => q₄ b o (hk₃ b o hw e)⟩
        rw [htake, hoi]
        simpa using hP₄
      | some f =>
        simp only [Option.isSome_some, if_true]
        refine he f hoi _ [] _ _ _ hcok R₄ fun y s₅ k₅ hy => ?_
        obtain ⟨h₅, tk₅, rfl, q₅⟩ := id k₅
        cases hy with | fv hy =>
        have hys : ys.size ≤ sizeLine := by
          have e1 := hP.length
          have e2 : ((outs.take i).filterMap id).length ≤ (outs.take i).length := List.length_filterMap_le _ _
          have e3 : (outs.take i).length ≤ i := List.length_take_le _ _
          have e4 : ys.toList.length = ys.size := by simp
          (first | lia | omega)
        refine wpAny_list_append_plain (hsz := hys) ((hacc₃.at fun o e => q₄ _ o e).at fun o e => q₅ _ o e) fun h₆ hl₆ hs₆ => ?_
        have hx₆ : HExt (hideAll h₅ (wr ++ D :: L :: (ρ ++ H))) (hideAll h₆ (wr ++ D :: L :: (ρ ++ H))) := by
          intro b o e
          have hb : b ∉ wr ++ D :: L :: (ρ ++ H) := fun m => by rw [hideAll_none _ m] at e; cases e
          have hb' := hb
          simp only [List.mem_append, List.mem_cons, not_or] at hb'
          exact hideAll_get _ (hs₆.extBut b o hb'.2.1 (of_hideAll _ e)) hb
        refine ⟨rows.length + 1 - (i + 1), by (first | lia | omega), i + 1, h₆, tk₅, _, ys.push y, rfl, ?_, hl₆, ((hn₃.keeps q₄).keeps q₅).sameBut hs₆ (Ne.symm hDL), ?_, hlt, rfl, fun b o hw e => hs₆.extBut b o (below b o e).2 (q₅ b o (q₄ b o (hk₃ b o hw e)))⟩
        · exact W.frame _ _ _ hT₄ fun b hb o e => hs₆.extBut b o (fun q => hDf (q ▸ hb)) (q₅ b o e)
        · rw [htake, hoi, Array.toList_push]
          exact f2_snoc (hP₄.mono fun _ _ q => (q.mono (hide_mono q₅ _)).mono hx₆) (hy.mono hx₆)
    · have hin : i = rows.length := by (first | lia | omega)
      subst hin
      refine W.done _ _ _ hT' fun h₃ tk₃ keep => ?_
      have hx₃ : HExt (hideAll h (wr ++ D :: L :: (ρ ++ H))) (hideAll h₃ (wr ++ D :: L :: (ρ ++ H))) := by
        intro b o e
        have hb : b ∉ wr ++ D :: L :: (ρ ++ H) := fun m => by rw [hideAll_none _ m] at e; cases e
        have hb' := hb
        simp only [List.mem_append, List.mem_cons, not_or] at hb'
        exact hideAll_get _ (keep b o hb'.1 (of_hideAll _ e)) hb
      refine hRR D L h₃ tk₃ m ys (fresh D (Nat.le_refl _)) (fresh L (by (first | lia | omega))) hDL (hn'.at' fun o e => keep _ o hLw e) (hacc'.at fun o e => keep _ o hDw e) ?_ fun b o hw e => keep b o hw (hk b o hw e)
      rw [← K.len, List.take_length] at hP
      exact hP.mono fun _ _ q => q.mono hx₃
  exact codeAny_compStart_list (loop _ rfl) (W.self 0 _ _ _ (W.frame _ _ _ hT fun b _ o e => old b o e) (loop _ rfl))
end Mine
end
/-! Ec2 -/
section
open PySem PySem.W PyProof.Rows PySem.Builtin PySem.Builtin.Str
namespace Mine

theorem comp_sz {C : Cx} {σ : St} {elt target : Expr} {ifs : List Expr} {scope : Scope} {cl : List (Str × Addr)} {fre : List Str} {rows : List (List (Str × FV))} {outs : List (Option FV)}
    (K : Comp C σ elt target ifs scope cl fre rows outs) (hsz : rows.length ≤ sizeLine) {F : FV → Value → Prop} {ys : Array Value} (hp : Paired F (outs.filterMap id) ys.toList) : ys.size ≤ sizeLine := by
  have e1 := hp.length
  have e2 : (outs.filterMap id).length ≤ outs.length := List.length_filterMap_le _ _
  have e3 := K.len
  have e4 : ys.toList.length = ys.size := by simp
  (first | lia | omega)

theorem EV_comp {C : Cx} {σ : St} {elt target iter : Expr} {ifs : List Expr} {scope : Scope} {cl : List (Str × Addr)} {fre : List Str} {pos : Pos} {rows : List (List (Str × FV))} {outs : List (Option FV)}
    (hclos : closureFor scope C.env = pure cl) (hsrc : SRC C σ iter target rows) (hfs : ∀ x, foldedSetIterable iter C.env x = pure x) (K : Comp C σ elt target ifs scope cl fre rows outs) :
    EV C σ (.ListComp elt [⟨target, iter, ifs, 0⟩] scope pos) (.fv (.list (outs.filterMap id))) := by
  intro H ρ s Q E hg R hq
  rw [eval_ListComp]
  refine wpAny_comprehension_free (use := none) rfl hfs hclos K.kind K.names (hsrc H ρ s _ _ hg R fun s₂ I fp wr hf T k₂ W hT hfp hwr hhf hsz => comp_core (RR := fun acc L => compPost (model C.prog C.w) C.A E none Q acc L) K hg R k₂ W hT hwr hhf hsz ?_)
  intro D L h' tk m' ys hD hL hDL hn hp hF hk
  refine ⟨m', hn, fun h'' hs'' => ?_⟩
  have ks := keeps_ext k₂
  have keep : ∀ b o, s.heap.get? b = some o → h''.get? b = some o := fun b o e =>
    hs''.extBut b o (fun q => by subst q; rw [ks _ _ e] at hL; cases hL) (hk b o (fun m => by rw [hwr b m] at e; cases e) (ks _ _ e))
  obtain ⟨h₂, tk₂, rfl, _⟩ := id k₂
  refine hq _ _ ⟨h'', tk, rfl, keep⟩ (.fv (FR.list_mk (a := D) (vs := ys) ?_ (comp_sz K hsz hF) (hF.mono fun _ _ q => q.mono ?_)))
  · obtain ⟨n, e⟩ := hp
    refine ⟨n, hideAll_get _ (hs''.extBut D _ hDL e) fun m => ?_⟩
    obtain ⟨o, e⟩ := R.low D m
    have := ks _ _ e
    rw [hD] at this; cases this
  · intro b o e
    have hb : b ∉ wr ++ D :: L :: (ρ ++ H) := fun m => by rw [hideAll_none _ m] at e; cases e
    simp only [List.mem_append, List.mem_cons, not_or] at hb
    refine hideAll_get _ (hs''.extBut b o hb.2.2.1 (of_hideAll _ e)) ?_
    simp only [List.mem_append, not_or]
    exact hb.2.2.2

theorem EX1_assign_comp {C : Cx} {σ : St} {P : Out → St → Prop} {elt target iter : Expr} {ifs : List Expr} {scope : Scope} {cl : List (Str × Addr)} {fre : List Str} {pos spos py : Pos} {y : Str} {rows : List (List (Str × FV))} {outs : List (Option FV)}
    (hclos : closureFor scope C.env = pure cl) (hsrc : SRC C σ iter target rows) (hfs : ∀ x, foldedSetIterable iter C.env x = pure x) (K : Comp C σ elt target ifs scope cl fre rows outs)
    (hsw : swapsWith (.ListComp elt [⟨target, iter, ifs, 0⟩] scope pos) (some (.Name y py)) spos.line C.env = pure true) (hy : C.env.kindOf y = some .local)
    (h : P .next (σ.set y (.fv (.list (outs.filterMap id))))) :
    EX1 C σ (.Assign [.Name y py] (.ListComp elt [⟨target, iter, ifs, 0⟩] scope pos) spos) P := by
  intro H ρ s hg R
  rw [exec_Assign_Name_used _ _ _ _ hsw]
  refine wpAny_bind (wpAny_standAt (wpAny_bind ?_))
  show wpAny _ C.A (do let _ ← comprehension (.ListComp elt [⟨target, iter, ifs, 0⟩] scope pos) scope C.env _ (newList []) false (eval iter C.env) (some (assign (.Name y py) C.env))) _ _ s
  refine wpAny_bind (wpAny_mono (wpAny_comprehension_free (use := some (assign (.Name y py) C.env)) (Q := fun _ s' => Post C H ρ s P .next s') rfl hfs hclos K.kind K.names
    (hsrc H ρ s _ _ hg R.e fun s₂ I fp wr hf T k₂ W hT hfp hwr hhf hsz => comp_core (RR := fun acc L => compPost (model C.prog C.w) C.A _ (some (assign (.Name y py) C.env)) _ acc L) K hg R.e k₂ W hT hwr hhf hsz ?_))
      (fun _ s' hq => wpAny_pure (wpAny_pure hq)) fun _ _ e => e)
  intro D L h' tk m' ys hD hL hDL hn hp hF hk
  have ks := keeps_ext k₂
  have keep : ∀ b o, s.heap.get? b = some o → h'.get? b = some o := fun b o e => hk b o (fun m => by rw [hwr b m] at e; cases e) (ks _ _ e)
  obtain ⟨h₂, tk₂, rfl, _⟩ := id k₂
  have hLs : s.heap.get? L = none := by
    cases e : s.heap.get? L with
    | none => rfl
    | some o => have := ks _ _ e; rw [hL] at this; cases this
  have k' : Keeps s { s with heap := h', toks := tk } := ⟨h', tk, rfl, keep⟩
  have hLo : ∃ o, h'.get? L = some o := by obtain ⟨o, _, _, e, _⟩ := hn; exact ⟨o, e⟩
  have R' : Rel C (H ++ [L]) ρ σ { s with heap := h', toks := tk } := hide_more hg R k' (fun b hb => by cases List.mem_singleton.mp hb; exact hLs) (fun b hb => by cases List.mem_singleton.mp hb; exact hLo)
  have hv : VR (Hh (H ++ [L]) ρ h') ρ (.fv (.list (outs.filterMap id))) (.ref D) := by
    refine .fv (FR.list_mk (a := D) (vs := ys) ?_ (comp_sz K hsz hF) (hF.mono fun _ _ q => q.mono ?_))
    · obtain ⟨n, e⟩ := hp
      refine ⟨n, hideAll_get _ e fun m => ?_⟩
      simp only [← List.append_assoc, List.mem_append, List.mem_singleton] at m
      rcases m with m | m
      · obtain ⟨o, e⟩ := R.e.low D (List.mem_append.mpr m)
        have := ks _ _ e
        rw [hD] at this; cases this
      · exact hDL m
    · intro b o e
      have hb : b ∉ wr ++ D :: L :: (ρ ++ H) := fun m => by rw [hideAll_none _ m] at e; cases e
      simp only [List.mem_append, List.mem_cons, not_or] at hb
      refine hideAll_get _ (of_hideAll _ e) ?_
      simp only [List.mem_append, List.mem_singleton, not_or]
      exact ⟨hb.2.2.2.1, hb.2.2.2.2, hb.2.2.1⟩
  have hlocL : C.env.locals ≠ L := fun q => by
    obtain ⟨m, o, _, _, e, _⟩ := R.ns
    rw [q, hLs] at e; cases e
  show wpAny _ C.A (assign (.Name y py) C.env (.ref D)) _ _ _
  refine wpAny_assign_Name (store_ok2 hg R' hv hy fun s₆ R₆ st₆ sb₆ => ⟨m', hn.sameBut sb₆ (Ne.symm hlocL), fun h₇ hs₇ => ?_⟩)
  have R₇ : Rel C H ρ _ { s₆ with heap := h₇, toks := s₆.toks } := done_rel (wr := [L]) hg R₆ R.sub (fun b hb => (R.out b hb).1) (fun b hb m => by cases List.mem_singleton.mp m; obtain ⟨o, e⟩ := R.e.low L (List.mem_append.mpr (.inr hb)); rw [hLs] at e; cases e)
    (fun b o hb e => hs₇.extBut b o (fun q => hb (List.mem_singleton.mpr q)) e)
  refine ⟨ρ, _, .next, R₇, ⟨?_, fun b o hb hm e => ?_, fun x hx => .inl hx, st₆.pre⟩, .next, h⟩
  · obtain ⟨h6, tk6, rfl⟩ := st₆.same
    exact ⟨h₇, _, rfl⟩
  · exact kept_trans (st₆.kept b o hb hm (keep b o e)) fun o₂ e₂ => kept_of (hs₇.extBut b o₂ (fun q => by subst q; rw [hLs] at e; cases e) e₂)
end Mine
end
/-! Es1 -/
section
open PySem PySem.W PyProof.Rows PySem.Builtin PySem.Builtin.Str
namespace Mine

theorem Turner.pair {prog : Program} {w : World} {A : Around} {x y : Str} {px py tp : Pos} {kt : Nat} {I : Addr} {fp wr : List Addr} {n : Nat} {Pt : Nat → Array Value → Prop} {T : Nat → Heap → Prop} {Mid : Nat → Addr → Heap → Prop} {hf : Heap} {fs : List (FV × FV)}
    (W : WalksT prog w A I fp wr n Pt T Mid) (hh : A.handled = none) (hn : fs.length = n)
    (hlive : ∀ i h, T i h → ∀ b ∈ fp, ∃ o, h.get? b = some o) (hP : ∀ i f v, fs[i]? = some f → Pt i v → ∃ a b, v = #[a, b] ∧ FR hf f.1 a ∧ FR hf f.2 b) :
    Turner prog w A (.Tuple [.Name x px, .Name y py] kt tp) I fp wr (fs.map fun f => [(x, f.1), (y, f.2)]) hf T where
  sub := W.sub
  frame := W.frame
  live := hlive
  turn := by
    intro i r env m s Q E hr hT hp hk hns hL h
    rw [List.getElem?_map] at hr
    obtain ⟨f, hf', rfl⟩ := Option.map_eq_some_iff.mp hr
    have hi : i < n := by rw [← hn]; exact (List.getElem?_eq_some_iff.mp hf').1
    refine W.item i s _ E hi hT fun t v h₁ tk₁ hPv hTlt htup hM hk₁ => ⟨_, rfl, ?_⟩
    obtain ⟨a, b, rfl, ha, hb⟩ := hP i f v hf' hPv
    have hLw : env.locals ∉ wr := fun q => hL (W.sub _ q)
    refine W.go _ _ _ i t _ _ E hM fun h₂ hT₂ hk₂ => ?_
    have ht₂ : h₂.IsTuple t #[a, b] := htup.at fun o e => hk₂ t o (W.apart i t h₁ hM) e
    refine wpAny_assign_Tuple hh ht₂ rfl rfl fun h₃ hx₃ => ?_
    have hk₃ : ∀ b o, h₂.get? b = some o → h₃.get? b = some o := fun b o e => hx₃ b o (Nat.ne_of_lt (Heap.lt_size e)) e
    have hns₃ : h₃.Ns env.locals m := hns.at' fun o e => hk₃ _ o (hk₂ _ o hLw (hk₁ _ o hLw e))
    have hT₃ : T (i + 1) h₃ := W.frame _ _ _ hT₂ fun b _ o e => hk₃ b o e
    show wpAny _ _ (do holding [b] (assign (.Name x px) env a); assignInOrder [assign (.Name y py) env] [b]) _ _ _
    refine wpAny_bind (wpAny_holding (PySem.wpAny_assign_Name (wpAny_storeName_local (hk _ (List.mem_cons_self ..)) hns₃ (fun h₄ hn₄ hs₄ => ?_) hp)))
    show wpAny _ _ (do holding [] (assign (.Name y py) env b); assignInOrder [] []) _ _ _
    refine wpAny_bind (wpAny_holding (PySem.wpAny_assign_Name (wpAny_storeName_local (hk (y, f.2) (List.mem_cons_of_mem _ (List.mem_cons_self ..))) hn₄ (fun h₅ hn₅ hs₅ => ?_) hp)))
    refine wpAny_pure ?_
    refine h [(x, a), (y, b)] h₅ _ (.cons ⟨rfl, ha⟩ (.cons ⟨rfl, hb⟩ .nil)) ?_ hn₅ fun b o hb hbL e => (hs₅.2 b hbL).trans ((hs₄.2 b hbL).trans (hk₃ b o (hk₂ b o hb (hk₁ b o hb e))))
    exact W.frame _ _ _ hT₃ fun b hb o e => (hs₅.2 b fun q => hL (q ▸ hb)).trans ((hs₄.2 b fun q => hL (q ▸ hb)).trans e)
  done := by
    intro s Q E hT h
    refine W.done s Q E ?_ h
    rw [List.length_map, hn] at hT; exact hT
  self := W.self

variable {C : Cx} {σ : St}
theorem zipIdx_get {α : Type} {xs : List α} {i : Nat} {p : α × Nat} (h : (xs.zipIdx)[i]? = some p) : xs[i]? = some p.1 ∧ p.2 = i := by
  rw [List.getElem?_zipIdx] at h
  obtain ⟨a, h1, rfl⟩ := Option.map_eq_some_iff.mp h
  exact ⟨h1, by simp⟩

theorem SRC_enum {x y : Str} {px py tp np p : Pos} {kt : Nat} {e : Expr} {xs : List FV} (b : Bi C "enumerate" (.type "enumerate")) (he : EV C σ e (.fv (.list xs))) (hs : starEach [e] C.env = [(false, eval e C.env)]) :
    SRC C σ (.Call (.Name "enumerate" np) [e] [] p) (.Tuple [.Name x px, .Name y py] kt tp) (xs.zipIdx.map fun f => [(x, FV.int f.2), (y, f.1)]) := by
  intro H ρ s Q E hg R h
  refine wpAny_Call_NameR (glob_builtin hg R b.hx b.hd b.hm b.hn b.hb ?_)
  refine PyProof.Rows.callWith_type1 (PyProof.Rows.spliced_more (he H ρ s _ E hg R fun v s₁ k₁ hv => PyProof.Rows.spliced_none ?_) hs) hs
  cases hv with | fv hv =>
  obtain ⟨a, vs, rfl, hp, hsz, hf⟩ := hv.list_inv
  have R₁ := R.keeps hg.gm k₁
  obtain ⟨n, hn⟩ := hide_plain hp
  have hl : s₁.heap.IsList a vs := (hide_plain hp).isList
  have hlt : a < s₁.heap.objs.size := Heap.lt_size hn
  refine call_enumerate_1 hn fun h' hE hit hz' hk' => ?_
  have hsame : Keeps s₁ { s₁ with heap := h' } := ⟨h', s₁.toks, rfl, hk'⟩
  generalize hN : s₁.heap.objs.size = N at hE hit hz' hlt ⊢
  have hT : ({ s₁ with heap := h' } : Shared).TypeIs (.ref (N + 1)) "enumerate" := ⟨_, hE, rfl⟩
  refine wpAny_pyIter_enum hE ?_
  have e1 := hf.length
  have newN : ∀ b, b = N ∨ b = N + 1 → s.heap.get? b = none := fun b hb => by
    cases e : s.heap.get? b with
    | none => rfl
    | some o => have h2 : @LT.lt Nat _ b N := hN ▸ Heap.lt_size (keeps_ext k₁ _ _ e); rcases hb with rfl | rfl <;> (first | lia | omega)
  have newN₁ : ∀ b, b = N ∨ b = N + 1 → s₁.heap.get? b = none := fun b hb => by
    cases e : s₁.heap.get? b with
    | none => rfl
    | some o => have h2 : @LT.lt Nat _ b N := hN ▸ Heap.lt_size e; rcases hb with rfl | rfl <;> (first | lia | omega)
  have eqm : (xs.zipIdx.map fun f => [(x, FV.int f.2), (y, f.1)]) = (xs.zipIdx.map fun f => (FV.int f.2, f.1)).map fun f => [(x, f.1), (y, f.2)] := by rw [List.map_map]; rfl
  rw [eqm] at h
  refine h _ (N + 1) [N + 1, N, a] [N + 1, N] (Hh H ρ s₁.heap) _ (keeps_trans k₁ hsame) (Turner.pair (WalksT.enumerate hg.hh (N + 1) N a (Nat.succ_ne_self N) (Nat.ne_of_lt (Nat.lt_succ_of_lt hlt)) (Nat.ne_of_lt hlt) vs) hg.hh (by simpa using e1) (fun i h hT b hb => ?_) fun i f v h1 h2 => ?_) ?_ ?_ ?_ ?_ ?_
  · simp only [List.mem_cons, List.not_mem_nil, or_false] at hb
    obtain ⟨⟨old, he⟩, ⟨o, hi, _⟩, ⟨o', hl', _⟩⟩ := hT
    rcases hb with rfl | rfl | rfl
    · exact ⟨_, he⟩
    · exact ⟨o, hi⟩
    · exact ⟨o', hl'⟩
  · obtain ⟨t, z, h3, rfl⟩ := h2
    rw [List.getElem?_map] at h1
    obtain ⟨q, h4, rfl⟩ := Option.map_eq_some_iff.mp h1
    obtain ⟨h5, h6⟩ := zipIdx_get h4
    refine ⟨_, _, rfl, ?_, paired_get hf h5 (by simpa using h3)⟩
    rw [h6]; exact .int _ _
  · exact ⟨⟨_, hE⟩, hit, hl.at fun o e => hk' a o e⟩
  · intro b hb m
    obtain ⟨o, q⟩ := R₁.low b m
    simp only [List.mem_cons, List.not_mem_nil, or_false] at hb
    rcases hb with rfl | rfl | rfl
    · rw [newN₁ _ (.inr rfl)] at q; cases q
    · rw [newN₁ _ (.inl rfl)] at q; cases q
    · obtain ⟨n', hn'⟩ := hp
      unfold Hh at hn'
      rw [hideAll_none _ m] at hn'; cases hn'
  · intro b hb
    simp only [List.mem_cons, List.not_mem_nil, or_false] at hb
    exact newN b hb.symm
  · intro b o e
    refine ⟨Hh_keeps hsame b o e, fun m => ?_⟩
    simp only [List.mem_cons, List.not_mem_nil, or_false] at m
    have := of_hideAll _ e
    rw [newN₁ b m.symm] at this; cases this
  · simp only [List.length_map, List.length_zipIdx]; rw [e1]; simpa using hsz
end Mine
end
/-! Es2 -/
section
open PySem PySem.W PyProof.Rows PySem.Builtin PySem.Builtin.Str
namespace Mine
variable {prog : Program} {w : World} {A : Around} {E : Value → Shared → Prop} {s : Shared}

theorem sit_at {h h' : Heap} {a : Addr} {ty : String} {x : Str} {t : Tok} {i : Nat} (y : h.IsStrIter a ty x t i) (k : ∀ o, h.get? a = some o → h'.get? a = some o) : h'.IsStrIter a ty x t i :=
  let ⟨o, e, r⟩ := y; ⟨o, k o e, r⟩

theorem nextOf_str_item {it : Addr} {x : Str} {t : Tok} {i c : Nat} {Q : Value → Shared → Prop} (hit : s.heap.IsStrIter it (strIterType x) x t i) (hx : x.cps[i]? = some c)
    (hQ : ∀ h', h'.IsStrIter it (strIterType x) x t (i + 1) → Heap.SameBut it s.heap h' → Q (.str ⟨#[c]⟩ s.toks) { s with heap := h', toks := s.toks + 1 }) :
    wpAny (model prog w) A (Builtin.SmallTypes.nextOf (.ref it)) Q E s := by
  cases ha : x.cps.all (· < 128)
  · have e : strIterType x = "str_iterator" := by simp [strIterType, ha]
    rw [e] at hit hQ
    exact wpAny_nextOf_wide_item hit hx hQ
  · have e : strIterType x = "str_ascii_iterator" := by simp [strIterType, ha]
    rw [e] at hit hQ
    exact wpAny_nextOf_ascii_item hit hx hQ
theorem nextOf_str_end {it : Addr} {x : Str} {t : Tok} {i : Nat} {Q : Value → Shared → Prop} (hh : A.handled = none)
    (hit : s.heap.IsStrIter it (strIterType x) x t i) (hx : x.cps[i]? = none)
    (hE : ∀ h' e, Heap.ExtBut it s.heap h' → (∃ o, h'.get? e = some o ∧ o.cls = .type "StopIteration") → E (.ref e) { s with heap := h' }) :
    wpAny (model prog w) A (Builtin.SmallTypes.nextOf (.ref it)) Q E s := by
  cases ha : x.cps.all (· < 128)
  · have e : strIterType x = "str_iterator" := by simp [strIterType, ha]
    rw [e] at hit
    exact wpAny_nextOf_wide_end hh hit hx hE
  · have e : strIterType x = "str_ascii_iterator" := by simp [strIterType, ha]
    rw [e] at hit
    exact wpAny_nextOf_ascii_end hh hit hx hE

structure ZA (z TI TO i1 i2 l1 : Addr) : Prop where
  TIz : TI ≠ z
  TOz : TO ≠ z
  i1z : i1 ≠ z
  i2z : i2 ≠ z
  TITO : TI ≠ TO
  TIi1 : TI ≠ i1
  TIi2 : TI ≠ i2
  TOi1 : TO ≠ i1
  TOi2 : TO ≠ i2
  i12 : i1 ≠ i2
  l1z : l1 ≠ z
  l1TO : l1 ≠ TO
  l1i1 : l1 ≠ i1
  l1i2 : l1 ≠ i2

theorem zipS_item {z TI TO i1 i2 l1 : Addr} {k1 k2 c : Nat} {xs : Array Value} {v : Str} {t : Tok} {x a b : Value} {Q : Value → Shared → Prop} (D : ZA z TI TO i1 i2 l1)
    (hz : IsZip s.heap z TI TO .none) (hTI : IsPair s.heap TI (.ref i1) (.ref i2)) (hTO : IsPair s.heap TO a b)
    (h1 : s.heap.IsListIter i1 l1 k1) (h2 : s.heap.IsStrIter i2 (strIterType v) v t k2) (hl1 : s.heap.IsList l1 xs) (hx : xs[k1]? = some x) (hy : v.cps[k2]? = some c)
    (hQ : ∀ h' tk u, IsZip h' z TI TO (rawInt s.heap.objs.size) → IsPair h' TO x (.str ⟨#[c]⟩ u) → h'.IsListIter i1 l1 (k1 + 1) → h'.IsStrIter i2 (strIterType v) v t (k2 + 1) → IsPair h' s.heap.objs.size x (.str ⟨#[c]⟩ u) → h'.objs.size = s.heap.objs.size + 1 →
      (∀ c o, c ≠ z → c ≠ TO → c ≠ i1 → c ≠ i2 → s.heap.get? c = some o → h'.get? c = some o) → Q (.ref s.heap.objs.size) { s with heap := h', toks := tk }) :
    wpAny (model prog w) A (Builtin.«zip.__next__» ⟨[.ref z], []⟩) (fun fin s' => ∃ v, fin = .done (.ret v) ∧ Q v s') E s := by
  show wpAny _ _ (field (.ref z) 2 >>= _) _ _ _
  refine wpAny_bind (wpAny_field hz rfl (x := .bool false) rfl ?_)
  show wpAny _ _ (field (.ref z) 3 >>= _) _ _ _
  refine wpAny_bind (wpAny_field hz rfl (x := .ref TI) rfl ?_)
  refine wpAny_bind (wpAny_seqItems hTI rfl ?_)
  show wpAny _ _ (Builtin.SmallTypes.ownedTupleIsFree (.ref z) >>= _) _ _ _
  refine wpAny_bind ?_
  unfold Builtin.SmallTypes.ownedTupleIsFree
  refine wpAny_bind (wpAny_field hz rfl (x := .none) rfl (wpAny_pure ?_))
  simp only [if_true]
  refine wpAny_bind (wpAny_rule ?_)
  refine wpAny_bind (wpAny_field hz rfl (x := .ref TO) rfl ?_)
  refine wpAny_bind (wpAny_setField_rec hz (by simp) fun h₁ hz₁ hs₁ => ?_)
  replace hz₁ : IsZip h₁ z TI TO .ellipsis := hz₁
  refine wpAny_bind ?_
  simp only [List.zipIdx_cons, List.zipIdx_nil, List.forIn_cons, List.forIn_nil]
  refine wpAny_bind (wpAny_bind (wpAny_onRaise ?_))
  show wpAny _ _ (Builtin.SmallTypes.nextOf (.ref i1) >>= _) _ _ _
  refine wpAny_bind (wpAny_nextOf_list_item (h1.extBut hs₁.extBut D.i1z) (hl1.extBut hs₁.extBut D.l1z) hx fun h₂ h1₂ hs₂ => wpAny_pure ?_)
  have hTO₂ : IsPair h₂ TO a b := hs₂.extBut _ _ D.TOi1 (hs₁.extBut _ _ D.TOz hTO)
  refine wpAny_bind (wpAny_seqItems hTO₂ rfl ?_)
  refine wpAny_bind (wpAny_updateSeq_pair hTO₂ fun h₃ hTO₃ hs₃ => ?_)
  replace hTO₃ : IsPair h₃ TO x b := hTO₃
  refine wpAny_bind (wpAny_letGo (wpAny_pure ?_))
  refine wpAny_bind (wpAny_bind (wpAny_onRaise ?_))
  show wpAny _ _ (Builtin.SmallTypes.nextOf (.ref i2) >>= _) _ _ _
  refine wpAny_bind (nextOf_str_item (sit_at h2 fun o e => hs₃.extBut _ o D.TOi2.symm (hs₂.extBut _ o D.i12.symm (hs₁.extBut _ o D.i2z e))) hy fun h₄ h2₄ hs₄ => wpAny_pure ?_)
  have hTO₄ : IsPair h₄ TO x b := hs₄.extBut _ _ D.TOi2 hTO₃
  refine wpAny_bind (wpAny_seqItems hTO₄ rfl ?_)
  refine wpAny_bind (wpAny_updateSeq_pair hTO₄ fun h₅ hTO₅ hs₅ => ?_)
  replace hTO₅ : IsPair h₅ TO x (.str ⟨#[c]⟩ s.toks) := hTO₅
  refine wpAny_bind (wpAny_letGo (wpAny_pure (wpAny_pure ?_)))
  refine wpAny_bind (wpAny_seqItems hTO₅ rfl ?_)
  refine wpAny_bind (wpAny_newTuple ?_)
  have hsz : h₅.objs.size = s.heap.objs.size := by rw [hs₅.1, hs₄.1, hs₃.1, hs₂.1, hs₁.1]
  have hz₅ : IsZip h₅ z TI TO .ellipsis := hs₅.extBut _ _ D.TOz.symm (hs₄.extBut _ _ D.i2z.symm (hs₃.extBut _ _ D.TOz.symm (hs₂.extBut _ _ D.i1z.symm hz₁)))
  have hk₅ : ∀ c o, c ≠ z → c ≠ TO → c ≠ i1 → c ≠ i2 → s.heap.get? c = some o → h₅.get? c = some o := fun c o c1 c2 c3 c4 e =>
    hs₅.extBut _ _ c2 (hs₄.extBut _ _ c4 (hs₃.extBut _ _ c2 (hs₂.extBut _ _ c3 (hs₁.extBut _ _ c1 e))))
  have h1₅ : h₅.IsListIter i1 l1 (k1 + 1) := ((h1₂.extBut hs₃.extBut D.TOi1.symm).extBut hs₄.extBut D.i12).extBut hs₅.extBut D.TOi1.symm
  have h2₅ : h₅.IsStrIter i2 (strIterType v) v t (k2 + 1) := sit_at h2₄ fun o e => hs₅.extBut _ o D.TOi2.symm e
  have hzlt : z < h₅.objs.size := Heap.lt_size hz₅
  show wpAny _ _ (Builtin.SmallTypes.ownedTupleHandOut (.ref z) (.ref h₅.objs.size) >>= _) _ _ _
  refine wpAny_bind ?_
  unfold Builtin.SmallTypes.ownedTupleHandOut
  have hz₆ : IsZip (h₅.push { cls := .type "tuple", data := .seq #[x, .str ⟨#[c]⟩ s.toks] }) z TI TO .ellipsis := Heap.get?_push_of_some _ hz₅
  refine wpAny_bind (wpAny_setField_rec hz₆ (by simp) fun h₇ hz₇ hs₇ => ?_)
  replace hz₇ : IsZip h₇ z TI TO (rawInt h₅.objs.size) := hz₇
  refine wpAny_setField_rec hz₇ (by simp) fun h₈ hz₈ hs₈ => ?_
  replace hz₈ : IsZip h₈ z TI TO (rawInt h₅.objs.size) := hz₈
  have up : ∀ c o, c ≠ z → h₅.get? c = some o → h₈.get? c = some o := fun c o c1 e => hs₈.extBut _ _ c1 (hs₇.extBut _ _ c1 (Heap.get?_push_of_some _ e))
  have hT₈ : IsPair h₈ h₅.objs.size x (.str ⟨#[c]⟩ s.toks) := hs₈.extBut _ _ (Nat.ne_of_gt hzlt) (hs₇.extBut _ _ (Nat.ne_of_gt hzlt) (Heap.get?_push_size _ rfl))
  have hz8 : h₈.objs.size = h₅.objs.size + 1 := by rw [hs₈.1, hs₇.1, Heap.size_push]
  rw [hsz] at hz₈ hT₈ hz8
  refine wpAny_pure ⟨_, rfl, ?_⟩
  show Q (.ref h₅.objs.size) _
  rw [hsz]
  exact hQ h₈ _ _ hz₈ (up _ _ D.TOz hTO₅) (h1₅.at fun o e => up _ o D.i1z e) (sit_at h2₅ fun o e => up _ o D.i2z e) hT₈ hz8 fun c o c1 c2 c3 c4 e => up c o c1 (hk₅ c o c1 c2 c3 c4 e)

theorem zipS_end {z TI TO i1 i2 l1 : Addr} {k1 k2 : Nat} {xs : Array Value} {v : Str} {t : Tok} {a b : Value} {Q : Fin → Shared → Prop} (hh : A.handled = none) (D : ZA z TI TO i1 i2 l1)
    (hz : IsZip s.heap z TI TO .none) (hTI : IsPair s.heap TI (.ref i1) (.ref i2)) (hTO : IsPair s.heap TO a b)
    (h1 : s.heap.IsListIter i1 l1 k1) (h2 : s.heap.IsStrIter i2 (strIterType v) v t k2) (hl1 : s.heap.IsList l1 xs) (hend : xs[k1]? = none ∨ v.cps[k2]? = none)
    (hE : ∀ h' e tk, (∀ c o, c ≠ z → c ≠ TO → c ≠ i1 → c ≠ i2 → s.heap.get? c = some o → h'.get? c = some o) → (∃ o, h'.get? e = some o ∧ o.cls = .type "StopIteration") → E (.ref e) { s with heap := h', toks := tk }) :
    wpAny (model prog w) A (Builtin.«zip.__next__» ⟨[.ref z], []⟩) Q E s := by
  show wpAny _ _ (field (.ref z) 2 >>= _) _ _ _
  refine wpAny_bind (wpAny_field hz rfl (x := .bool false) rfl ?_)
  show wpAny _ _ (field (.ref z) 3 >>= _) _ _ _
  refine wpAny_bind (wpAny_field hz rfl (x := .ref TI) rfl ?_)
  refine wpAny_bind (wpAny_seqItems hTI rfl ?_)
  show wpAny _ _ (Builtin.SmallTypes.ownedTupleIsFree (.ref z) >>= _) _ _ _
  refine wpAny_bind ?_
  unfold Builtin.SmallTypes.ownedTupleIsFree
  refine wpAny_bind (wpAny_field hz rfl (x := .none) rfl (wpAny_pure ?_))
  simp only [if_true]
  refine wpAny_bind (wpAny_rule ?_)
  refine wpAny_bind (wpAny_field hz rfl (x := .ref TO) rfl ?_)
  refine wpAny_bind (wpAny_setField_rec hz (by simp) fun h₁ hz₁ hs₁ => ?_)
  replace hz₁ : IsZip h₁ z TI TO .ellipsis := hz₁
  refine wpAny_bind ?_
  simp only [List.zipIdx_cons, List.zipIdx_nil, List.forIn_cons, List.forIn_nil]
  refine wpAny_bind (wpAny_bind (wpAny_onRaise ?_))
  show wpAny _ _ (Builtin.SmallTypes.nextOf (.ref i1) >>= _) _ _ _
  cases hx : xs[k1]? with
  | none =>
    refine wpAny_bind (wpAny_nextOf_list_end hh (h1.extBut hs₁.extBut D.i1z) (hl1.extBut hs₁.extBut D.l1z) hx fun h₂ e hs₂ he => ?_)
    obtain ⟨oe, hoe, hce⟩ := he
    have hz₂ : IsZip h₂ z TI TO .ellipsis := hs₂ _ _ D.i1z.symm hz₁
    have hez : e ≠ z := fun x => by subst x; rw [hz₂] at hoe; cases hoe; simp at hce
    refine wpAny_setField_rec hz₂ (by simp) fun h₃ _ hs₃ => hE h₃ e _ (fun c o c1 _ c3 _ x => hs₃.extBut _ _ c1 (hs₂ _ _ c3 (hs₁.extBut _ _ c1 x))) ⟨oe, hs₃.extBut _ _ hez hoe, hce⟩
  | some x =>
    have hy : v.cps[k2]? = none := by rcases hend with h | h; rw [hx] at h; cases h; exact h
    refine wpAny_bind (wpAny_nextOf_list_item (h1.extBut hs₁.extBut D.i1z) (hl1.extBut hs₁.extBut D.l1z) hx fun h₂ h1₂ hs₂ => wpAny_pure ?_)
    have hTO₂ : IsPair h₂ TO a b := hs₂.extBut _ _ D.TOi1 (hs₁.extBut _ _ D.TOz hTO)
    refine wpAny_bind (wpAny_seqItems hTO₂ rfl ?_)
    refine wpAny_bind (wpAny_updateSeq_pair hTO₂ fun h₃ hTO₃ hs₃ => ?_)
    refine wpAny_bind (wpAny_letGo (wpAny_pure ?_))
    refine wpAny_bind (wpAny_bind (wpAny_onRaise ?_))
    show wpAny _ _ (Builtin.SmallTypes.nextOf (.ref i2) >>= _) _ _ _
    refine wpAny_bind (nextOf_str_end hh (sit_at h2 fun o e => hs₃.extBut _ o D.TOi2.symm (hs₂.extBut _ o D.i12.symm (hs₁.extBut _ o D.i2z e))) hy fun h₄ e hs₄ he => ?_)
    obtain ⟨oe, hoe, hce⟩ := he
    have hz₄ : IsZip h₄ z TI TO .ellipsis := hs₄ _ _ D.i2z.symm (hs₃.extBut _ _ D.TOz.symm (hs₂.extBut _ _ D.i1z.symm hz₁))
    have hez : e ≠ z := fun x => by subst x; rw [hz₄] at hoe; cases hoe; simp at hce
    refine wpAny_setField_rec hz₄ (by simp) fun h₅ _ hs₅ => hE h₅ e _ (fun c o c1 c2 c3 c4 x => hs₅.extBut _ _ c1 (hs₄ _ _ c4 (hs₃.extBut _ _ c2 (hs₂.extBut _ _ c3 (hs₁.extBut _ _ c1 x))))) ⟨oe, hs₅.extBut _ _ hez hoe, hce⟩

theorem WalksT.zipS (hh : A.handled = none) (z TI TO i1 i2 l1 : Addr) (D : ZA z TI TO i1 i2 l1) (xs : Array Value) (v : Str) (t : Tok) :
    WalksT prog w A z [z, TI, TO, i1, i2, l1] [z, TO, i1, i2] (min xs.size v.cps.size)
      (fun i vals => ∃ x c u, xs[i]? = some x ∧ v.cps[i]? = some c ∧ vals = #[x, .str ⟨#[c]⟩ u])
      (fun i h => IsZip h z TI TO .none ∧ IsPair h TI (.ref i1) (.ref i2) ∧ (∃ a b, IsPair h TO a b) ∧ h.IsListIter i1 l1 i ∧ h.IsStrIter i2 (strIterType v) v t i ∧ h.IsList l1 xs)
      (fun i T h => IsZip h z TI TO (rawInt T) ∧ IsPair h TI (.ref i1) (.ref i2) ∧ (∃ a b, IsPair h TO a b) ∧ h.IsListIter i1 l1 (i + 1) ∧ h.IsStrIter i2 (strIterType v) v t (i + 1) ∧ h.IsList l1 xs ∧
        T ≠ z ∧ T ≠ TO ∧ T ≠ i1 ∧ T ≠ i2) where
  sub := fun c hc => by simp at hc ⊢; rcases hc with rfl | rfl | rfl | rfl <;> simp
  frame := fun i h h' hst hk => by
    obtain ⟨hz, hTI, ⟨a, b, hTO⟩, h1, h2, hl1⟩ := hst
    exact ⟨hk z (by simp) _ hz, hk TI (by simp) _ hTI, ⟨a, b, hk TO (by simp) _ hTO⟩, h1.at fun o e => hk i1 (by simp) o e, sit_at h2 fun o e => hk i2 (by simp) o e,
      hl1.at fun o e => hk l1 (by simp) o e⟩
  item := fun i s Q E hi hst hQ => by
    obtain ⟨hz, hTI, ⟨a, b, hTO⟩, h1, h2, hl1⟩ := hst
    have hix : i < xs.size := Nat.lt_of_lt_of_le hi (Nat.min_le_left ..)
    have hiy : i < v.cps.size := Nat.lt_of_lt_of_le hi (Nat.min_le_right ..)
    have hT : s.TypeIs (.ref z) "zip" := ⟨_, hz, rfl⟩
    unfold pyNext
    refine wpAny_bind (wpAny_attempt (wpAny_callSpecial?_slot (name := Str.ofString "__next__") hT F.slot_zip_next
      (wpAny_call_entry F.slot_zip_next hT F.entry_zip_next
        (zipS_item D hz hTI hTO h1 h2 hl1 (Array.getElem?_eq_getElem hix) (Array.getElem?_eq_getElem hiy) fun h' tk u a1 a2 a3 a4 a5 a6 hk => wpAny_pure ?_) (F.args_zip_next_1 _))))
    have lt : ∀ {c o}, s.heap.get? c = some o → s.heap.objs.size ≠ c := fun e => Nat.ne_of_gt (Heap.lt_size e)
    exact hQ s.heap.objs.size #[xs[i], .str ⟨#[v.cps[i]]⟩ u] h' tk ⟨_, _, u, Array.getElem?_eq_getElem hix, Array.getElem?_eq_getElem hiy, rfl⟩ (Nat.le_refl _) ⟨_, a5, rfl, _, rfl⟩
      ⟨a1, hk _ _ D.TIz D.TITO D.TIi1 D.TIi2 hTI, ⟨_, _, a2⟩, a3, a4, hl1.at fun o e => hk _ o D.l1z D.l1TO D.l1i1 D.l1i2 e,
        lt hz, lt hTO, (by obtain ⟨_, e, _⟩ := h1; exact lt e), (by obtain ⟨_, e, _⟩ := h2; exact lt e)⟩
      fun c o hc e => hk c o (fun x => hc (by simp [x])) (fun x => hc (by simp [x])) (fun x => hc (by simp [x])) (fun x => hc (by simp [x])) e
  go := fun elts k pos i T s Q E hm hQ => by
    obtain ⟨hz, hTI, ⟨a, b, hTO⟩, h1, h2, hl1, _⟩ := hm
    refine wpAny_letOwnedTupleGo_zip hz fun h' hz' hs' => hQ h' ⟨hz', hs'.extBut _ _ D.TIz hTI, ⟨a, b, hs'.extBut _ _ D.TOz hTO⟩, h1.extBut hs'.extBut D.i1z, sit_at h2 fun o e => hs'.extBut _ o D.i2z e,
      hl1.extBut hs'.extBut D.l1z⟩ fun c o hc e => hs'.extBut _ _ (fun x => hc (by simp [x])) e
  apart := fun i T h hm hT => by
    obtain ⟨_, _, _, _, _, _, t1, t2, t3, t4⟩ := hm
    simp at hT
    rcases hT with rfl | rfl | rfl | rfl
    · exact t1 rfl
    · exact t2 rfl
    · exact t3 rfl
    · exact t4 rfl
  done := fun s Q E hst hQ => by
    obtain ⟨hz, hTI, ⟨a, b, hTO⟩, h1, h2, hl1⟩ := hst
    have hend : xs[min xs.size v.cps.size]? = none ∨ v.cps[min xs.size v.cps.size]? = none := by
      rcases Nat.le_total xs.size v.cps.size with h | h
      · exact .inl (by rw [Nat.min_eq_left h]; exact Array.getElem?_eq_none (Nat.le_refl _))
      · exact .inr (by rw [Nat.min_eq_right h]; exact Array.getElem?_eq_none (Nat.le_refl _))
    have hT : s.TypeIs (.ref z) "zip" := ⟨_, hz, rfl⟩
    unfold pyNext
    refine wpAny_bind (wpAny_attempt (wpAny_callSpecial?_slot (name := Str.ofString "__next__") hT F.slot_zip_next
      (wpAny_call_entry F.slot_zip_next hT F.entry_zip_next (zipS_end hh D hz hTI hTO h1 h2 hl1 hend fun h' e tk hk he => ?_) (F.args_zip_next_1 _))))
    obtain ⟨o, ho, hc⟩ := he
    refine wpAny_bind (wpAny_isInstance (T := "StopIteration") (b := true) ⟨o, ho, hc⟩ isSubtype_stop ?_)
    exact wpAny_pure (hQ _ _ fun c o hc e =>
      hk c o (fun x => hc (by simp [x])) (fun x => hc (by simp [x])) (fun x => hc (by simp [x])) (fun x => hc (by simp [x])) e)
  self := fun i s Q E hst hQ => wpAny_pyIter_zip hst.1 hQ
end Mine
end
/-! Es3 -/
section
open PySem PySem.W PyProof.Rows PySem.Builtin PySem.Builtin.Str
namespace Mine

noncomputable abbrev zH1 (h : Heap) (l1 : Addr) : Heap := h.push { cls := .type "list_iterator", data := .fields #[.ref l1, .int 0 0] }
noncomputable abbrev zH2 (h : Heap) (l1 : Addr) (v : Str) (t : Tok) : Heap := (zH1 h l1).push { cls := .type (strIterType v), data := .fields #[.str v t, .int 0 0] }
noncomputable abbrev zH3 (h : Heap) (l1 : Addr) (v : Str) (t : Tok) : Heap := (zH2 h l1 v t).push { cls := .type "tuple", data := .seq #[.ref h.objs.size, .ref (zH1 h l1).objs.size] }
noncomputable abbrev zH4 (h : Heap) (l1 : Addr) (v : Str) (t : Tok) : Heap := (zH3 h l1 v t).push { cls := .type "tuple", data := .seq #[.none, .none] }
noncomputable abbrev zH5 (h : Heap) (l1 : Addr) (v : Str) (t : Tok) : Heap := (zH4 h l1 v t).push { cls := .type "zip", data := .fields #[.none, .bool false, .bool false, .ref (zH2 h l1 v t).objs.size, .ref (zH3 h l1 v t).objs.size] }

set_option maxHeartbeats 2000000 in
theorem meets_zip_newS (l1 : Addr) (xs : Array Value) (v : Str) (t : Tok) :
    Meets (Builtin.«zip.__new__» ⟨[.type "zip", .ref l1, .str v t], []⟩) (fun _ R s => s.heap.IsList l1 xs ∧
      R (.ok (.ret (.ref (zH4 s.heap l1 v t).objs.size))) { s with heap := zH5 s.heap l1 v t }) :=
  .of_wp fun prog w A R s h => by
    obtain ⟨hp, g, d, tk, os⟩ := s; obtain ⟨hl1, h⟩ := h
    have hsub := sub_zip
    have hL1 : Heap.IsList (Shared.heap ⟨hp, g, d, tk, os⟩) l1 xs := hl1
    wp_walk using wpAny_pyIter_list hL1, wpAny_pyIter_strU
    exact ⟨_, rfl, h⟩

theorem call_zipS {prog : Program} {w : World} {A : Around} {E : Value → Shared → Prop} {s : Shared} {l1 : Addr} {xs : Array Value} {v : Str} {t : Tok} {Q : Value → Shared → Prop} (hl1 : s.heap.IsList l1 xs)
    (h : ∀ h', IsZip h' (s.heap.objs.size + 4) (s.heap.objs.size + 2) (s.heap.objs.size + 3) .none → IsPair h' (s.heap.objs.size + 2) (.ref s.heap.objs.size) (.ref (s.heap.objs.size + 1)) →
      IsPair h' (s.heap.objs.size + 3) .none .none → h'.IsListIter s.heap.objs.size l1 0 → h'.IsStrIter (s.heap.objs.size + 1) (strIterType v) v t 0 → h'.objs.size = s.heap.objs.size + 5 →
      (∀ c o, s.heap.get? c = some o → h'.get? c = some o) → Q (.ref (s.heap.objs.size + 4)) { s with heap := h' }) :
    wpAny (model prog w) A (call (.type "zip") [.ref l1, .str v t]) Q E s := by
  refine callType_new F.called_zip (by decide) (F.typeCall_zip_2 _ _) (F.newCall_zip_2 _ _) (fun obj => F.args_object_init_3 obj _ _) F.entry_zip_new
    (meets_zip_newS l1 xs v t) ⟨hl1, ?_⟩
  have z1 : (zH1 s.heap l1).objs.size = s.heap.objs.size + 1 := Heap.size_push ..
  have z2 : (zH2 s.heap l1 v t).objs.size = s.heap.objs.size + 2 := by rw [Heap.size_push, z1]
  have z3 : (zH3 s.heap l1 v t).objs.size = s.heap.objs.size + 3 := by rw [Heap.size_push, z2]
  have z4 : (zH4 s.heap l1 v t).objs.size = s.heap.objs.size + 4 := by rw [Heap.size_push, z3]
  have z5 : (zH5 s.heap l1 v t).objs.size = s.heap.objs.size + 5 := by rw [Heap.size_push, z4]
  have g5 : (zH5 s.heap l1 v t).get? (zH4 s.heap l1 v t).objs.size = some _ := Heap.get?_push_size _ rfl
  have g4 : (zH5 s.heap l1 v t).get? (zH3 s.heap l1 v t).objs.size = some _ := Heap.get?_push_of_some _ (Heap.get?_push_size _ rfl)
  have g3 : (zH5 s.heap l1 v t).get? (zH2 s.heap l1 v t).objs.size = some _ := Heap.get?_push_of_some _ (Heap.get?_push_of_some _ (Heap.get?_push_size _ rfl))
  have g2 : (zH5 s.heap l1 v t).get? (zH1 s.heap l1).objs.size = some _ := Heap.get?_push_of_some _ (Heap.get?_push_of_some _ (Heap.get?_push_of_some _ (Heap.get?_push_size _ rfl)))
  have g1 : (zH5 s.heap l1 v t).get? s.heap.objs.size = some _ := Heap.get?_push_of_some _ (Heap.get?_push_of_some _ (Heap.get?_push_of_some _ (Heap.get?_push_of_some _ (Heap.get?_push_size _ rfl))))
  show _ ∧ _
  rw [z2, z3, z4] at g5
  rw [z1, z2] at g3
  rw [z3] at g4
  rw [z1] at g2
  rw [z4]
  exact ⟨⟨_, g5, rfl⟩, h _ g5 g3 g4 ⟨_, g1, rfl, rfl⟩ ⟨_, g2, rfl, rfl⟩ z5 fun c o x =>
    Heap.get?_push_of_some _ (Heap.get?_push_of_some _ (Heap.get?_push_of_some _ (Heap.get?_push_of_some _ (Heap.get?_push_of_some _ x))))⟩

theorem ZA.mk' (N a : Nat) (h : a < N) : ZA (N + 4) (N + 2) (N + 3) N (N + 1) a := by
  constructor <;> exact fun q => by have : @Eq Nat _ _ := q; (first | lia | omega)

variable {C : Cx} {σ : St}
theorem zip_get {α β : Type} {xs : List α} {l : List β} {i : Nat} {p : α × β} (h : (xs.zip l)[i]? = some p) : xs[i]? = some p.1 ∧ l[i]? = some p.2 := by
  obtain ⟨a, b⟩ := p
  exact List.getElem?_zip_eq_some.mp h

theorem SRC_zip {x y : Str} {px py tp np p : Pos} {kt : Nat} {e f : Expr} {xs : List FV} {l : List Nat} (b : Bi C "zip" (.type "zip")) (he : EV C σ e (.fv (.list xs))) (hf : EV C σ f (.fv (.str l)))
    (hs : starEach [e, f] C.env = (false, eval e C.env) :: starEach [f] C.env) (hs' : starEach [f] C.env = (false, eval f C.env) :: starEach [] C.env) :
    SRC C σ (.Call (.Name "zip" np) [e, f] [] p) (.Tuple [.Name x px, .Name y py] kt tp) ((xs.zip l).map fun f => [(x, f.1), (y, FV.str [f.2])]) := by
  intro H ρ s Q E hg R h
  refine wpAny_Call_NameR (glob_builtin hg R b.hx b.hd b.hm b.hn b.hb ?_)
  refine PyProof.Rows.callWith_type1 (PyProof.Rows.spliced_more (he H ρ s _ E hg R fun v s₁ k₁ hv => PyProof.Rows.spliced_more (hf H ρ s₁ _ E hg (R.keeps hg.gm k₁) fun u s₂ k₂ hu => PyProof.Rows.spliced_none ?_) hs') hs) hs (by rw [hs']; rfl)
  replace hv := hv.mono (Hh_keeps k₂)
  have k₁₂ := keeps_trans k₁ k₂
  clear hf he
  cases hv with | fv hv =>
  cases hu with | fv hu =>
  cases hu with | str _ t hok =>
  obtain ⟨a, vs, rfl, hp, hsz, hf⟩ := hv.list_inv
  have R₁ := R.keeps hg.gm k₁₂
  obtain ⟨n, hn⟩ := hide_plain hp
  have hl : s₂.heap.IsList a vs := (hide_plain hp).isList
  have hlt : a < s₂.heap.objs.size := Heap.lt_size hn
  refine call_zipS hl fun h' hz hTI hTO hi1 hi2 hz' hk' => ?_
  have hsame : Keeps s₂ { s₂ with heap := h' } := ⟨h', s₂.toks, rfl, hk'⟩
  generalize hN : s₂.heap.objs.size = N at hz hTI hTO hi1 hi2 hz' hlt ⊢
  refine wpAny_pyIter_zip hz ?_
  have e1 := hf.length
  have newN₁ : ∀ b, b ∈ [N + 4, N + 2, N + 3, N, N + 1] → s₂.heap.get? b = none := fun b hb => by
    cases e : s₂.heap.get? b with
    | none => rfl
    | some o =>
      have h2 : @LT.lt Nat _ b N := hN ▸ Heap.lt_size e
      simp only [List.mem_cons, List.not_mem_nil, or_false] at hb
      rcases hb with hb | hb | hb | hb | hb <;> (have hb : @Eq Nat _ _ := hb; (first | lia | omega))
  have newN : ∀ b, b ∈ [N + 4, N + 2, N + 3, N, N + 1] → s.heap.get? b = none := fun b hb => by
    cases e : s.heap.get? b with
    | none => rfl
    | some o => have := keeps_ext k₁₂ _ _ e; rw [newN₁ b hb] at this; cases this
  have eqm : ((xs.zip l).map fun f => [(x, f.1), (y, FV.str [f.2])]) = ((xs.zip l).map fun f => (f.1, FV.str [f.2])).map fun f => [(x, f.1), (y, f.2)] := by rw [List.map_map]; rfl
  rw [eqm] at h
  refine h _ (N + 4) [N + 4, N + 2, N + 3, N, N + 1, a] [N + 4, N + 3, N, N + 1] (Hh H ρ s₂.heap) _ (keeps_trans k₁₂ hsame) (Turner.pair (WalksT.zipS hg.hh (N + 4) (N + 2) (N + 3) N (N + 1) a (ZA.mk' N a hlt) vs ⟨l.toArray⟩ t) hg.hh (by simp; rw [e1]; simp) (fun i h hT b hb => ?_) fun i f v h1 h2 => ?_) ?_ ?_ ?_ ?_ ?_
  · obtain ⟨q1, q2, ⟨_, _, q3⟩, ⟨_, q4, _⟩, ⟨_, q5, _⟩, ⟨_, q6, _⟩⟩ := hT
    simp only [List.mem_cons, List.not_mem_nil, or_false] at hb
    rcases hb with rfl | rfl | rfl | rfl | rfl | rfl
    · exact ⟨_, q1⟩
    · exact ⟨_, q2⟩
    · exact ⟨_, q3⟩
    · exact ⟨_, q4⟩
    · exact ⟨_, q5⟩
    · exact ⟨_, q6⟩
  · obtain ⟨z, c, u, h3, h4, rfl⟩ := h2
    rw [List.getElem?_map] at h1
    obtain ⟨q, h5, rfl⟩ := Option.map_eq_some_iff.mp h1
    obtain ⟨h6, h7⟩ := zip_get h5
    have h8 : l[i]? = some c := by simpa using h4
    have hc : c = q.2 := Option.some.inj (h8.symm.trans h7)
    subst hc
    exact ⟨_, _, rfl, paired_get hf h6 (by simpa using h3), .str [q.2] u ⟨by rw [sizeLine_eq]; simp, fun d hd => by cases List.mem_singleton.mp hd; exact hok.2 _ (List.mem_of_getElem? h8)⟩⟩
  · exact ⟨hz, hTI, ⟨_, _, hTO⟩, hi1, hi2, hl.at fun o e => hk' a o e⟩
  · intro b hb m
    obtain ⟨o, q⟩ := R₁.low b m
    have hb' : b ∈ [N + 4, N + 2, N + 3, N, N + 1] ∨ b = a := by
      simp only [List.mem_cons, List.not_mem_nil, or_false] at hb ⊢
      rcases hb with h | h | h | h | h | h
      · exact .inl (.inl h)
      · exact .inl (.inr (.inl h))
      · exact .inl (.inr (.inr (.inl h)))
      · exact .inl (.inr (.inr (.inr (.inl h))))
      · exact .inl (.inr (.inr (.inr (.inr h))))
      · exact .inr h
    rcases hb' with hb' | rfl
    · rw [newN₁ b hb'] at q; cases q
    · obtain ⟨n', hn'⟩ := hp
      unfold Hh at hn'
      rw [hideAll_none _ m] at hn'; cases hn'
  · intro b hb
    refine newN b ?_
    simp only [List.mem_cons, List.not_mem_nil, or_false] at hb ⊢
    rcases hb with h | h | h | h <;> simp [h]
  · intro b o e
    refine ⟨Hh_keeps hsame b o e, fun m => ?_⟩
    have := of_hideAll _ e
    have hb : b ∈ [N + 4, N + 2, N + 3, N, N + 1] := by
      simp only [List.mem_cons, List.not_mem_nil, or_false] at m ⊢
      rcases m with h | h | h | h <;> simp [h]
    rw [newN₁ b hb] at this; cases this
  · have e3 : vs.toList.length = vs.size := by simp
    simp only [List.length_map, List.length_zip]
    (first | lia | omega)
end Mine
end
/-! Ex9 -/
section
open PySem PySem.W PyProof.Rows PySem.Builtin PySem.Builtin.Str
namespace Mine

theorem str_beq (a b : List Nat) : ((⟨a.toArray⟩ : Str) == ⟨b.toArray⟩) = (a == b) := by
  rw [Bool.eq_iff_iff]
  simp

noncomputable def pyS (l : List Nat) : PyData := .str ⟨l.toArray⟩
theorem toPy_str (l : List Nat) : toPy (.str l) = some (pyS l) := by rw [toPy]; rfl
theorem toPys_strs : ∀ ls : List (List Nat), toPys (ls.map .str) = some (ls.map pyS)
  | [] => by rw [List.map_nil, toPys]; rfl
  | l :: ls => by rw [List.map_cons, toPys, toPy_str, toPys_strs ls]; rfl
theorem depth_strs : ∀ ls : List (List Nat), PyData.depthAll (ls.map pyS) = 0
  | [] => by rw [List.map_nil, PyData.depthAll]
  | l :: ls => by rw [List.map_cons, PyData.depthAll, depth_strs ls, pyS, PyData.depth]; rfl
theorem eqv_strs : ∀ ls ms : List (List Nat), PyData.eqvAll (ls.map pyS) (ms.map pyS) = (ls == ms)
  | [], [] => by simp [PyData.eqvAll]
  | [], _ :: _ => by simp [PyData.eqvAll]
  | _ :: _, [] => by simp [PyData.eqvAll]
  | l :: ls, m :: ms => by
    rw [List.map_cons, List.map_cons, PyData.eqvAll, eqv_strs ls ms, pyS, pyS, PyData.eqv, str_beq]
    rw [Bool.eq_iff_iff]; simp

theorem cmp_eq_str (a b : List Nat) : cmpFV .Eq (.str a) (.str b) = some (a == b) := by
  simp [cmpFV, eqPy, inPy, inFV, inStr, isFV, Option.map_some, toPy_str, pyS, PyData.depth, PyData.eqv, str_beq]
theorem cmp_eq_nil {xs : List FV} {ds : List PyData} (h : toPys xs = some ds) : cmpFV .Eq (.list xs) (.list []) = some xs.isEmpty := by
  have h0 : toPys [] = some [] := by rw [toPys]
  have h1 : toPy (.list []) = some (.list []) := by rw [toPy, h0]; rfl
  have h2 : toPy (.list xs) = some (.list ds) := by rw [toPy, h]; rfl
  simp only [cmpFV, eqPy, inPy, inFV, inStr, isFV, Option.map_some, h1, h2]
  rw [if_pos (by simp only [PyData.depth, PyData.depthAll]; (first | lia | omega))]
  congr 1
  cases xs with
  | nil => rw [h0] at h; cases h; simp [PyData.eqv, PyData.eqvAll]
  | cons x xs =>
    rw [toPys] at h
    split at h
    · cases h; simp [PyData.eqv, PyData.eqvAll]
    · cases h
theorem cmp_notin2 (a b c : List Nat) : cmpFV .NotIn (.str a) (.tup [.str b, .str c]) = some (!(b == a || c == a)) := by
  have h : toPys [.str b, .str c] = some [pyS b, pyS c] := toPys_strs [b, c]
  simp only [cmpFV, eqPy, inPy, inFV, inStr, isFV, Option.map_some, toPy_str, h]
  rw [if_pos (by simp [pyS, PyData.depth, PyData.depthAll])]
  simp [pyS, PyData.eqv, str_beq]
theorem cmp_notin_nq (f : FV) (q : List Nat) (hf : scal f = true) : cmpFV .NotIn f (.tup [.none, .str q]) = some (!(eqS f .none || eqS f (.str q))) := by
  have h : toPys [.none, .str q] = some [.none, pyS q] := by rw [toPys, toPy]; simp [toPys_strs [q] |> (show toPys [.str q] = some [pyS q] from ·)]
  cases f with
  | none =>
    have h1 : toPy .none = some .none := by rw [toPy]
    simp only [cmpFV, eqPy, inPy, inFV, inStr, isFV, Option.map_some, h1, h]
    rw [if_pos (by simp [pyS, PyData.depth, PyData.depthAll])]
    simp [pyS, PyData.eqv, eqS]
  | str a =>
    simp only [cmpFV, eqPy, inPy, inFV, inStr, isFV, Option.map_some, toPy_str, h]
    rw [if_pos (by simp [pyS, PyData.depth, PyData.depthAll])]
    simp [pyS, PyData.eqv, eqS, str_beq]
    exact Bool.beq_comm
  | _ => cases hf
theorem cmp_notin_strs (a : List Nat) (ls : List (List Nat)) : cmpFV .NotIn (.str a) (.list (ls.map .str)) = some (!ls.contains a) := by
  simp only [cmpFV, eqPy, inPy, inFV, inStr, isFV, Option.map_some, toPy_str, toPys_strs]
  rw [if_pos (by rw [depth_strs]; simp), Option.map_some]
  congr 2
  induction ls with
  | nil => rfl
  | cons l ls ih =>
    rw [List.map_cons, List.any_cons, ih, List.contains_cons, pyS, pyS, PyData.eqv, str_beq]
    congr 1
    exact Bool.beq_comm
theorem cmp_ne_pair (a b c d : List (List Nat)) : cmpFV .NotEq (.tup [.list (a.map .str), .list (b.map .str)]) (.tup [.list (c.map .str), .list (d.map .str)]) = some (!(a == c && b == d)) := by
  have h : ∀ x y : List (List Nat), toPy (.tup [.list (x.map .str), .list (y.map .str)]) = some (.tuple [.list (x.map pyS), .list (y.map pyS)]) := by
    intro x y
    simp [toPy, toPys, toPys_strs]
  simp only [cmpFV, eqPy, inPy, inFV, inStr, isFV, Option.map_some, h]
  rw [if_pos (by simp [PyData.depth, PyData.depthAll, depth_strs])]
  simp [PyData.eqv, PyData.eqvAll, eqv_strs]

theorem Comp.map {α : Type} {C : Cx} {σ : St} {elt target : Expr} {ifs : List Expr} {scope : Scope} {cl : List (Str × Addr)} {fre : List Str} (ps : List α) (f : α → List (Str × FV)) (g : α → Option FV) (xs : List Str)
    (cell : ∀ y ∈ scope.names, y.2 ≠ .cell) (kind : scope.kind = .function) (names : ∀ y ∈ scope.names, y.2 = .local → scope.names.lookup y.1 = some .local)
    (hfre : ∀ x ∈ fre, C.env.kindOf x = some .cell ∧ cl.lookup x = C.env.cells.lookup x ∧ (relabel scope C.env).names.lookup x = some .cell)
    (hx : ∀ p, (f p).map Prod.fst = xs) (hl : ∀ x ∈ xs, scope.names.lookup x = some .local)
    (turn : ∀ p ∈ ps, ∀ L, EVt (C.comp scope cl L) (setRow (frees σ fre) (f p)) ifs (g p).isSome ∧ ∀ r, g p = some r → EV (C.comp scope cl L) (setRow (frees σ fre) (f p)) elt (.fv r)) :
    Comp C σ elt target ifs scope cl fre (ps.map f) (ps.map g) := by
  refine ⟨cell, kind, names, hfre, fun r hr p hp => ?_, by simp, fun i r o hr ho L => ?_⟩
  · obtain ⟨q, _, rfl⟩ := List.mem_map.mp hr
    exact hl _ (hx q ▸ List.mem_map_of_mem hp)
  · rw [List.getElem?_map] at hr ho
    obtain ⟨q, h1, rfl⟩ := Option.map_eq_some_iff.mp hr
    obtain ⟨q', h2, rfl⟩ := Option.map_eq_some_iff.mp ho
    have e := Option.some.inj (h1.symm.trans h2)
    subst e
    exact turn q (List.mem_of_getElem? h1) L
theorem outs_map {α : Type} (ps : List α) (g : α → Option FV) : (ps.map g).filterMap id = ps.filterMap g := by
  rw [List.filterMap_map]; rfl
theorem nofree {C : Cx} {scope : Scope} {cl : List (Str × Addr)} : ∀ x ∈ ([] : List Str), C.env.kindOf x = some .cell ∧ cl.lookup x = C.env.cells.lookup x ∧ (relabel scope C.env).names.lookup x = some .cell := fun _ h => by cases h

theorem EV_comp0 {α : Type} {C : Cx} {σ : St} {elt target iter : Expr} {ifs : List Expr} {scope : Scope} {pos : Pos} {rows : List (List (Str × FV))} (ps : List α) (f : α → List (Str × FV)) (g : α → Option FV) (xs : List Str)
    (hsrc : SRC C σ iter target rows) (hrows : rows = ps.map f) (hfs : ∀ x, foldedSetIterable iter C.env x = pure x)
    (hfree : ∀ x ∈ scope.names, x.2 ≠ .free) (cell : ∀ y ∈ scope.names, y.2 ≠ .cell) (kind : scope.kind = .function) (names : ∀ y ∈ scope.names, y.2 = .local → scope.names.lookup y.1 = some .local)
    (hx : ∀ p, (f p).map Prod.fst = xs) (hl : ∀ x ∈ xs, scope.names.lookup x = some .local)
    (turn : ∀ p ∈ ps, ∀ L, EVt (C.comp scope [] L) (setRow (frees σ []) (f p)) ifs (g p).isSome ∧ ∀ r, g p = some r → EV (C.comp scope [] L) (setRow (frees σ []) (f p)) elt (.fv r)) :
    EV C σ (.ListComp elt [⟨target, iter, ifs, 0⟩] scope pos) (.fv (.list (ps.filterMap g))) := by
  rw [← outs_map]
  exact EV_comp (closureFor_none hfree) (hrows ▸ hsrc) hfs (Comp.map ps f g xs cell kind names nofree hx hl turn)
theorem EX1_assign_comp0 {α : Type} {C : Cx} {σ : St} {P : Out → St → Prop} {elt target iter : Expr} {ifs : List Expr} {scope : Scope} {pos py spos : Pos} {y : Str} {rows : List (List (Str × FV))} (ps : List α) (f : α → List (Str × FV)) (g : α → Option FV) (xs : List Str)
    (hsrc : SRC C σ iter target rows) (hrows : rows = ps.map f) (hfs : ∀ x, foldedSetIterable iter C.env x = pure x)
    (hfree : ∀ x ∈ scope.names, x.2 ≠ .free) (cell : ∀ y ∈ scope.names, y.2 ≠ .cell) (kind : scope.kind = .function) (names : ∀ y ∈ scope.names, y.2 = .local → scope.names.lookup y.1 = some .local)
    (hx : ∀ p, (f p).map Prod.fst = xs) (hl : ∀ x ∈ xs, scope.names.lookup x = some .local)
    (turn : ∀ p ∈ ps, ∀ L, EVt (C.comp scope [] L) (setRow (frees σ []) (f p)) ifs (g p).isSome ∧ ∀ r, g p = some r → EV (C.comp scope [] L) (setRow (frees σ []) (f p)) elt (.fv r))
    (hsw : swapsWith (.ListComp elt [⟨target, iter, ifs, 0⟩] scope pos) (some (.Name y py)) spos.line C.env = pure true) (hy : C.env.kindOf y = some .local)
    (h : P .next (σ.set y (.fv (.list (ps.filterMap g))))) :
    EX1 C σ (.Assign [.Name y py] (.ListComp elt [⟨target, iter, ifs, 0⟩] scope pos) spos) P :=
  EX1_assign_comp (closureFor_none hfree) (hrows ▸ hsrc) hfs (Comp.map ps f g xs cell kind names nofree hx hl turn) hsw hy (by rw [outs_map]; exact h)

theorem row2 (σ : St) (x y : Str) (a b : FV) : setRow σ [(x, a), (y, b)] = (σ.set x (.fv a)).set y (.fv b) := rfl
theorem row1 (σ : St) (x : Str) (a : FV) : setRow σ [(x, a)] = σ.set x (.fv a) := rfl
theorem nil_list {C : Cx} {σ : St} {p : Pos} : EV C σ (.List [] p) (.fv (.list [])) := EV_list (xs := []) .nil (by decide)

theorem clip_nat (n k : Nat) : clipAt n (k : Int) = min k n := by
  unfold clipAt
  split <;> (first | lia | omega)
theorem cutN_from {α : Type} (l : List α) (k : Nat) : cutN l (some (k : Int)) none = l.drop k := by
  simp only [cutN, Option.elim, clip_nat]
  rw [List.take_of_length_le (by rw [List.length_drop]; (first | lia | omega))]
  rcases Nat.le_total k l.length with h | h
  · rw [Nat.min_eq_left h]
  · rw [Nat.min_eq_right h, List.drop_of_length_le h, List.drop_of_length_le (Nat.le_refl _)]
theorem cutN_to {α : Type} (l : List α) (k : Nat) : cutN l none (some (k : Int)) = l.take k := by
  simp only [cutN, Option.elim, clip_nat, List.drop_zero, Nat.sub_zero]
  rcases Nat.le_total k l.length with h | h
  · rw [Nat.min_eq_left h]
  · rw [Nat.min_eq_right h, List.take_of_length_le h, List.take_of_length_le (Nat.le_refl _)]
theorem cutN_btw {α : Type} (l : List α) (j k : Nat) : cutN l (some (j : Int)) (some (k : Int)) = (l.drop j).take (k - j) := by
  simp only [cutN, Option.elim, clip_nat]
  rcases Nat.le_total j l.length with h | h
  · rw [Nat.min_eq_left h]
    rcases Nat.le_total k l.length with h' | h'
    · rw [Nat.min_eq_left h']
    · rw [Nat.min_eq_right h', List.take_of_length_le (by rw [List.length_drop]; (first | lia | omega)), List.take_of_length_le (by rw [List.length_drop]; (first | lia | omega))]
  · rw [Nat.min_eq_right h, List.drop_of_length_le (Nat.le_refl _), List.drop_of_length_le h]
    simp

theorem itemOf_nat {α : Type} {xs : List α} {k : Nat} {x : α} (h : xs[k]? = some x) : itemOf xs (k : Int) = some x := by
  have hk := (List.getElem?_eq_some_iff.mp h).1
  have e : seqIndex? (k : Int) xs.length = some k := by
    unfold seqIndex?
    rw [if_neg (by (first | lia | omega) : ¬ ((k : Int) < 0))]
    rw [if_pos (by rw [Bool.and_eq_true, decide_eq_true_eq, decide_eq_true_eq]; (first | lia | omega))]
    rfl
  rw [itemOf, e]
  exact h
theorem itemOf_last {α : Type} {xs : List α} {x : α} (h : xs.getLast? = some x) : itemOf xs (-1) = some x := by
  have hne : xs.length ≠ 0 := fun q => by rw [List.length_eq_zero_iff.mp q] at h; cases h
  rw [List.getLast?_eq_getElem?] at h
  have e : seqIndex? (-1) xs.length = some (xs.length - 1) := by
    unfold seqIndex?
    rw [if_pos (by (first | lia | omega) : ((-1 : Int) < 0))]
    rw [if_pos (by rw [Bool.and_eq_true, decide_eq_true_eq, decide_eq_true_eq]; (first | lia | omega))]
    congr 1
    (first | lia | omega)
  rw [itemOf, e]
  exact h
theorem item_list_nat {σ : St} {xs : List FV} {k : Nat} {x : FV} (h : xs[k]? = some x) : itemAV σ (.fv (.list xs)) (k : Int) = some (.fv x) := by
  rw [itemAV, itemOf_nat h]; rfl
theorem item_str_nat {σ : St} {xs : List Nat} {k : Nat} {x : Nat} (h : xs[k]? = some x) : itemAV σ (.fv (.str xs)) (k : Int) = some (.fv (.str [x])) := by
  rw [itemAV, itemOf_nat h]; rfl
theorem item_list_last {σ : St} {xs : List FV} {x : FV} (h : xs.getLast? = some x) : itemAV σ (.fv (.list xs)) (-1) = some (.fv x) := by
  rw [itemAV, itemOf_last h]; rfl
theorem item_str_last {σ : St} {xs : List Nat} {x : Nat} (h : xs.getLast? = some x) : itemAV σ (.fv (.str xs)) (-1) = some (.fv (.str [x])) := by
  rw [itemAV, itemOf_last h]; rfl
theorem cutN_mid {α : Type} (l : List α) (h : 2 ≤ l.length) : cutN l (some 1) (some (-1)) = (l.drop 1).take (l.length - 2) := by
  simp only [cutN, Option.elim]
  rw [show (1 : Int) = ((1 : Nat) : Int) from rfl, clip_nat, Nat.min_eq_left (by (first | lia | omega))]
  have : clipAt l.length (-((1 : Nat) : Int)) = l.length - 1 := by
    unfold clipAt
    split <;> (first | lia | omega)
  rw [this]
  congr 1
theorem Bx {C : Cx} {σ : St} {e : Expr} {a b : Bool} (h : EVb C σ e a) (q : a = b) : EVb C σ e b := q ▸ h
theorem Vx {C : Cx} {σ : St} {e : Expr} {a b : AV} (h : EV C σ e a) (q : a = b) : EV C σ e b := q ▸ h

theorem EV_call1 {C : Cx} {σ : St} {x : Str} {np p : Pos} {f : Addr} {e₁ : Expr} {a₁ : FV} {r : FV} {d : Nat} (D : Df C x f) (hc : CallsTo C.K C.mg C.mb C.prog C.w d f [a₁] r) (hd : d ≤ C.d) (h₁ : EV C σ e₁ (.fv a₁))
    (s₁ : starEach [e₁] C.env = (false, eval e₁ C.env) :: starEach [] C.env) : EV C σ (.Call (.Name x np) [e₁] [] p) (.fv r) :=
  EV_call D hc hd (.cons h₁ .nil s₁) s₁
theorem EV_call2 {C : Cx} {σ : St} {x : Str} {np p : Pos} {f : Addr} {e₁ e₂ : Expr} {a₁ a₂ : FV} {r : FV} {d : Nat} (D : Df C x f) (hc : CallsTo C.K C.mg C.mb C.prog C.w d f [a₁, a₂] r) (hd : d ≤ C.d) (h₁ : EV C σ e₁ (.fv a₁)) (h₂ : EV C σ e₂ (.fv a₂))
    (s₁ : starEach [e₁, e₂] C.env = (false, eval e₁ C.env) :: starEach [e₂] C.env) (s₂ : starEach [e₂] C.env = (false, eval e₂ C.env) :: starEach [] C.env) : EV C σ (.Call (.Name x np) [e₁, e₂] [] p) (.fv r) :=
  EV_call D hc hd (.cons h₁ (.cons h₂ .nil s₂) s₁) s₁
theorem EV_call3 {C : Cx} {σ : St} {x : Str} {np p : Pos} {f : Addr} {e₁ e₂ e₃ : Expr} {a₁ a₂ a₃ : FV} {r : FV} {d : Nat} (D : Df C x f) (hc : CallsTo C.K C.mg C.mb C.prog C.w d f [a₁, a₂, a₃] r) (hd : d ≤ C.d) (h₁ : EV C σ e₁ (.fv a₁)) (h₂ : EV C σ e₂ (.fv a₂)) (h₃ : EV C σ e₃ (.fv a₃))
    (s₁ : starEach [e₁, e₂, e₃] C.env = (false, eval e₁ C.env) :: starEach [e₂, e₃] C.env) (s₂ : starEach [e₂, e₃] C.env = (false, eval e₂ C.env) :: starEach [e₃] C.env) (s₃ : starEach [e₃] C.env = (false, eval e₃ C.env) :: starEach [] C.env) : EV C σ (.Call (.Name x np) [e₁, e₂, e₃] [] p) (.fv r) :=
  EV_call D hc hd (.cons h₁ (.cons h₂ (.cons h₃ .nil s₃) s₂) s₁) s₁
theorem EX1_ift {C : Cx} {σ : St} {P : Out → St → Prop} {t : Expr} {a b : List Stmt} {p : Pos} {c : Bool} (ht : EVb C σ t c) (h1 : c = true → EX C σ a P) (h2 : c = false → EX C σ b P) : EX1 C σ (.If t a b p) P := by
  refine EX1_if ht ?_
  cases c with
  | true => exact h1 rfl
  | false => exact h2 rfl

theorem cmp_eq_int (a b : Int) : cmpFV .Eq (.int a) (.int b) = some (a == b) := by
  simp [cmpFV, eqPy, inPy, inFV, inStr, isFV, Option.map_some, toPy, PyData.depth, PyData.eqv]
theorem EX_one {C : Cx} {σ : St} {P : Out → St → Prop} {st : Stmt} (h : EX1 C σ st fun o σ' => P o σ') : EX C σ [st] P := by
  refine EX_cons (h.mono fun o σ' hp => ?_)
  cases o with
  | next => exact EX_nil hp
  | _ => exact hp
end Mine
end
/-! Ey0 -/
section
open PySem PySem.W PyProof.Rows PySem.Builtin PySem.Builtin.Str
namespace Mine

noncomputable def thaw (n : Nat) (fs : List FV) : AV → Option AV
  | .fv f => some (.fv f)
  | .own k => if k = n then some (.fv (.list fs)) else some (.own k)
  | .app k => if k = n then none else some (.app k)
noncomputable def St.freeze (σ : St) (hp0 : List (List AV)) (fs : List FV) : St := { loc := fun x => (σ.loc x).bind (thaw hp0.length fs), hp := hp0 }

theorem freeze_rel {C : Cx} {σ : St} {H ρ : List Addr} {s : Shared} (hg : COk C) (R : Rel C H ρ σ s) {hp0 : List (List AV)} {fs : List FV} (h : σ.hp = hp0 ++ [fs.map .fv]) (h0 : ∀ xs ∈ hp0, ∀ v ∈ xs, ∃ f, v = AV.fv f) :
    Rel C H ρ.dropLast (σ.freeze hp0 fs) s := by
  have hlen : ρ.length = hp0.length + 1 := by rw [R.len, h]; simp
  have hl0 : ρ.dropLast.length = hp0.length := by rw [List.length_dropLast, hlen]; rfl
  have hsub : ∀ a ∈ ρ.dropLast, a ∈ ρ := fun a ha => List.dropLast_subset ρ ha
  have hx : HExt (Hh H ρ s.heap) (Hh H ρ.dropLast s.heap) := by
    intro b o e
    have hb : b ∉ ρ ++ H := fun m => by unfold Hh at e; rw [hideAll_none _ m] at e; cases e
    refine hideAll_get _ (of_hideAll _ e) fun m => hb ?_
    rcases List.mem_append.mp m with m | m
    · exact List.mem_append.mpr (.inl (hsub b m))
    · exact List.mem_append.mpr (.inr m)
  have hget : ∀ {k : Nat} {a : Addr}, k < hp0.length → ρ[k]? = some a → ρ.dropLast[k]? = some a := by
    intro k a hk e
    rw [List.getElem?_dropLast, if_pos (by (first | lia | omega))]; exact e
  have hlast : ∀ {a : Addr}, ρ[hp0.length]? = some a → a ∉ ρ.dropLast ++ H := by
    intro a e m
    rcases List.mem_append.mp m with m | m
    · obtain ⟨j, hj, ej⟩ := List.mem_iff_getElem.mp m
      have e2 : ρ[j]? = some a := by
        have : ρ.dropLast[j]? = some a := by rw [List.getElem?_eq_getElem hj, ej]
        rw [List.getElem?_dropLast] at this
        split at this
        · exact this
        · cases this
      have := nodup_inj R.nd.1 e e2
      (first | lia | omega)
    · exact R.nd.2.2 a (List.mem_of_getElem? e) a m rfl
  have key : ∀ {av av' : AV} {v : Value}, thaw hp0.length fs av = some av' → VR (Hh H ρ s.heap) ρ av v → VR (Hh H ρ.dropLast s.heap) ρ.dropLast av' v := by
    intro av av' v ht hv
    cases hv with
    | fv r => cases ht; exact .fv (r.mono hx)
    | @own k a e =>
      have hk : k < ρ.length := (List.getElem?_eq_some_iff.mp e).1
      simp only [thaw] at ht
      split at ht
      · rename_i q; subst q; cases ht
        obtain ⟨a', vs, e', hp, hs, hb, hi⟩ := R.e.own hp0.length (fs.map .fv) (by rw [h]; simp)
        have e2 := Option.some.inj (e'.symm.trans e)
        subst e2
        obtain ⟨n, hn⟩ := hp
        refine .fv (.list ⟨n, hideAll_get _ hn (hlast e)⟩ (by simpa using hs) hb fun i x v e1 e2 => ?_)
        have := hi i (.fv x) v (by rw [List.getElem?_map, e1]; rfl) e2
        cases this with | fv r => exact r.mono hx
      · cases ht; exact .own (hget (by (first | lia | omega)) e)
    | @app k a b e hb =>
      have hk : k < ρ.length := (List.getElem?_eq_some_iff.mp e).1
      simp only [thaw] at ht
      split at ht
      · cases ht
      · cases ht; exact .app (hget (by (first | lia | omega)) e) (hx _ _ hb)
  refine ⟨⟨hg.gm _ _ hx R.e.g, fun a ha => R.e.low a ?_, fun x av e => ?_, fun k xs e => ?_⟩, ⟨R.nd.1.sublist (List.dropLast_sublist ρ), trivial, fun a ha => R.nd.2.2 a (hsub a ha)⟩, hl0, R.ns, R.loc, R.sub, R.cl, R.out⟩
  · rcases List.mem_append.mp ha with m | m
    · exact List.mem_append.mpr (.inl (hsub a m))
    · exact List.mem_append.mpr (.inr m)
  · obtain ⟨av0, e1, e2⟩ := Option.bind_eq_some_iff.mp e
    obtain ⟨v, a, b⟩ := R.e.names x av0 e1
    exact ⟨v, key e2 a, b⟩
  · have e : hp0[k]? = some xs := e
    have hk : k < hp0.length := (List.getElem?_eq_some_iff.mp e).1
    obtain ⟨a, vs, e1, hp, hs, hb, hi⟩ := R.e.own k xs (by rw [h, List.getElem?_append_left hk]; exact e)
    refine ⟨a, vs, hget hk e1, hp, hs, hb, fun i x v e1 e2 => ?_⟩
    obtain ⟨f, rfl⟩ := h0 xs (List.mem_of_getElem? e) x (List.mem_of_getElem? e1)
    have := hi i _ v e1 e2
    cases this with | fv r => exact .fv (r.mono hx)

theorem EX_freeze {C : Cx} {σ : St} {P : Out → St → Prop} {b : List Stmt} (hp0 : List (List AV)) (fs : List FV) (hkn : C.kn ≤ hp0.length) (h : σ.hp = hp0 ++ [fs.map .fv]) (h0 : ∀ xs ∈ hp0, ∀ v ∈ xs, ∃ f, v = AV.fv f) (hb : EX C (σ.freeze hp0 fs) b P) : EX C σ b P := by
  intro H ρ s hg R
  refine wpAny_mono (hb H ρ.dropLast s hg (freeze_rel hg R h h0)) (fun f s' hp => Post.pre ?_ hp) fun _ _ e => e
  refine ⟨⟨_, _, rfl⟩, fun _ _ _ _ e => kept_of e, fun x hx => .inl (List.dropLast_subset ρ hx), fun k a hk e => ?_⟩
  have hlen : ρ.length = hp0.length + 1 := by rw [R.len, h]; simp
  rw [List.getElem?_dropLast, if_pos (by (first | lia | omega))]; exact e

theorem loc_freeze_fv {σ : St} {hp0 : List (List AV)} {fs : List FV} {x : Str} {f : FV} (h : σ.loc x = some (.fv f)) : (σ.freeze hp0 fs).loc x = some (.fv f) := by
  show (σ.loc x).bind _ = _
  rw [h]; rfl
theorem loc_freeze_last {σ : St} {hp0 : List (List AV)} {fs : List FV} {x : Str} {k : Nat} (h : σ.loc x = some (.own k)) (hk : k = hp0.length) : (σ.freeze hp0 fs).loc x = some (.fv (.list fs)) := by
  show (σ.loc x).bind _ = _
  rw [h]; simp [thaw, hk]
theorem loc_freeze_own {σ : St} {hp0 : List (List AV)} {fs : List FV} {x : Str} {k : Nat} (h : σ.loc x = some (.own k)) (hk : k ≠ hp0.length) : (σ.freeze hp0 fs).loc x = some (.own k) := by
  show (σ.loc x).bind _ = _
  rw [h]; simp [thaw, hk]
theorem loc_freeze_app {σ : St} {hp0 : List (List AV)} {fs : List FV} {x : Str} {k : Nat} (h : σ.loc x = some (.app k)) (hk : k ≠ hp0.length) : (σ.freeze hp0 fs).loc x = some (.app k) := by
  show (σ.loc x).bind _ = _
  rw [h]; simp [thaw, hk]

theorem EVb_notin_own {C : Cx} {σ : St} {l r : Expr} {p : Pos} {a : List Nat} {k : Nat} {ls : List (List Nat)} (hl : EV C σ l (.fv (.str a))) (hr : EV C σ r (.own k)) (hk : σ.hp[k]? = some (ls.map fun l => AV.fv (.str l))) (hm : behindInMarks .NotIn r = false) :
    EVb C σ (.Compare l [.NotIn] [r] p) (!ls.contains a) := by
  intro H ρ s Q E hg R h
  refine wpAny_isTrue_Compare1 (ev_two hl hr hg R fun x y s' k' hx hy => ?_) hm
  have R' := R.keeps hg.gm k'
  cases hx with | fv hx => cases hy with | own eo =>
  obtain ⟨ad, vs, e2, hp, hs, hb, hi⟩ := R'.own k _ hk
  have e3 := Option.some.inj (eo.symm.trans e2)
  subst e3
  have up : HExt (Hh H ρ s'.heap) s'.heap := fun _ _ e => of_hideAll _ e
  have hf : FR s'.heap (.list (ls.map .str)) (.ref _) := .list hp (by simpa using hs) hb fun i x v e1 e2 => by
    have e1' : (ls.map fun l => AV.fv (.str l))[i]? = some (.fv x) := by
      rw [List.getElem?_map] at e1 ⊢
      obtain ⟨a, h1, rfl⟩ := Option.map_eq_some_iff.mp e1
      rw [h1]; rfl
    have := hi i (.fv x) v e1' e2
    cases this with | fv r => exact r.mono up
  obtain ⟨⟨as, ra⟩, ca⟩ := reads_of (hx.mono up) (toPy_str a)
  obtain ⟨⟨bs, rb⟩, cb⟩ := reads_of hf (d := .list (ls.map pyS)) (by rw [toPy, toPys_strs]; rfl)
  refine PySem.SeqAt.notIn_list_reads rb ra (by simpa [PyData.canLay0] using cb) ca (by rw [depth_strs]; have := hg.units; (first | lia | omega)) ?_
  have e := cmp_notin_strs a ls
  simp only [cmpFV, eqPy, inPy, inFV, inStr, isFV, Option.map_some, toPy_str, toPys_strs] at e
  rw [if_pos (by rw [depth_strs]; simp), Option.map_some] at e
  rw [Option.some.inj e]
  exact wpAny_truthy_bool (h _ k')

/-- o.append(a fresh list) -/
theorem EX1_appendA {C : Cx} {σ σ' : St} {P : Out → St → Prop} {o e : Expr} {ap p q : Pos} {k : Nat} {xs : List AV} {v : AV} (ho : EV C σ o (.own k)) (he : EVA C σ e v σ') (hk : σ'.hp[k]? = some xs) (hl : xs.length ≤ 100000)
    (hk0 : ∃ ys, σ.hp[k]? = some ys)
    (hbase : attributeBase o "append" C.env (eval o C.env) = eval o C.env) (hline : (ap.endLine == p.line) = true) (ht : backTo p (starEach [e] C.env) = [(false, eval e C.env)])
    (hi : interactive C.env = false) (hs : swapsWith (.Call (.Attribute o "append" ap) [e] [] p) none q.line C.env = pure false) (h : P .next (σ'.put k (xs ++ [v]))) :
    EX1 C σ (.Expr (.Call (.Attribute o "append" ap) [e] [] p) q) P := by
  intro H ρ s hg R
  refine wpAny_Expr (wpAny_Call_method1_late hbase hline ht (ho H ρ s _ _ hg R.e fun x s₁ k₁ hx => ?_)) hi hs
  cases hx with | own eo =>
  have R₁ := R.keeps hg k₁
  obtain ⟨ys, hys⟩ := hk0
  obtain ⟨a, us, e2, hp, _⟩ := R₁.e.own k ys hys
  have e3 := Option.some.inj (e2.symm.trans eo)
  subst e3
  have hp0 := hp
  obtain ⟨n, hn⟩ := hp
  refine ⟨"list", "list.append", PySem.F.plainAttrs_list, PySem.F.slot_list_append, PySem.F.type_list_append, hp0.isList.typeIs, fun b hb => (by cases hb; exact ⟨_, hn, rfl⟩), ?_⟩
  refine Calls.callWith_builtin rfl (Calls.evalArgs_plain (Calls.spliced_cons (he H ρ _ _ _ hg R₁ fun y ρ₂ s₂ R₂ st₂ up₂ hy => Calls.spliced_nil ?_)))
  have eo2 : ρ₂[k]? = some a := by
    have := up₂ (.own k) (.ref a) (.own eo)
    cases this with | own e => exact e
  obtain ⟨a', vs, e4, hp2, hv⟩ := R₂.e.own k xs hk
  have e5 := Option.some.inj (e4.symm.trans eo2)
  subst e5
  refine wpAny_list_append_plain hp2 (fun h' hp' hs' => ?_) hv.2.1
  have hv2 : VRs (Hh H ρ₂ s₂.heap) ρ₂ (xs ++ [v]) (vs.push y) := hv.push1 hy (by rw [sizeLine_eq]; (first | lia | omega))
  obtain ⟨A, B, _⟩ := put_rel (tk := s₂.toks) hg R₂ eo2 hs' hp' hv2
  exact ⟨ρ₂, _, .next, A, ((Step.of_keeps k₁).trans st₂ R₂.nmut).trans B A.nmut, .next, h⟩
end Mine
end
/-! Et1 -/
section
open PySem PySem.W PyProof.Rows PySem.Builtin PySem.Builtin.Str
namespace Mine
variable {prog : Program} {w : World} {A : Around} {E : Value → Shared → Prop} {s : Shared}

theorem tl_hit {d : Addr} {f : Int → Option Value} {c : Nat} {t : Str} {u : Tok} {Q : Mapped → Shared → Prop} (hm : s.heap.MapOf (intKind prog w) d f) (hv : f (c : Int) = some (.str t u))
    (h : Q (.text t) { s with toks := s.toks + 1 + 1 }) : wpAny (model prog w) A (tableLookup (.ref d) c) Q E s := by
  unfold tableLookup
  refine wpAny_bind (wpAny_attempt (wpAny_bind (wpAny_mkInt (wpAny_getItem_of (intKind_is prog w c _) hm hv ?_))))
  show wpAny _ _ (asInt? (.str t u) >>= _) _ _ _
  refine wpAny_bind (wpAny_of_eq (a := none) rfl ?_)
  show wpAny _ _ (asStr? (.str t u) >>= _) _ _ _
  exact wpAny_bind (wpAny_of_eq (a := some t) rfl (wpAny_pure h))
theorem tl_miss {d : Addr} {f : Int → Option Value} {c : Nat} {Q : Mapped → Shared → Prop} (hh : A.handled = none) (hd : (d == sysModules) = false) (hm : s.heap.MapOf (intKind prog w) d f) (hv : f (c : Int) = none)
    (h : ∀ h', (∀ b o, s.heap.get? b = some o → h'.get? b = some o) → Q .keep { s with heap := h', toks := s.toks + 1 + 1 }) : wpAny (model prog w) A (tableLookup (.ref d) c) Q E s := by
  unfold tableLookup
  refine wpAny_bind (wpAny_attempt (wpAny_bind (wpAny_mkInt (wpAny_getItem_missing_of (intKind_is prog w c _) hd hh hm hv fun h' e N => ?_))))
  obtain ⟨ob, t, h1, h2, _⟩ := N.there
  have hT : Shared.TypeIs { s with heap := h', toks := s.toks + 1 + 1 } (.ref e) "KeyError" := ⟨_, h1, h2⟩
  refine wpAny_bind (wpAny_isInstance (T := "KeyError") (b := true) hT (by rw [isSubtype_type]; kernel_rfl) ?_)
  exact wpAny_bind (wpAny_rule (wpAny_pure (h h' N.keeps)))
theorem tl_hit' {d : Addr} {f : Int → Option Value} {c c' : Nat} {t : Str} {u : Tok} {Q : Mapped → Shared → Prop} (hm : s.heap.MapOf (intKind prog w) d f) (hv : f (c : Int) = some (.str t u))
    (h : c' = c ∧ Q (.text t) { s with toks := s.toks + 1 + 1 }) : wpAny (model prog w) A (tableLookup (.ref d) c') Q E s := by
  obtain ⟨rfl, h⟩ := h
  exact tl_hit hm hv h
theorem tl_miss' {d : Addr} {f : Int → Option Value} {c c' : Nat} {Q : Mapped → Shared → Prop} (hh : A.handled = none) (hd : (d == sysModules) = false) (hm : s.heap.MapOf (intKind prog w) d f) (hv : f (c : Int) = none)
    (h : c' = c ∧ ∀ h', (∀ b o, s.heap.get? b = some o → h'.get? b = some o) → Q .keep { s with heap := h', toks := s.toks + 1 + 1 }) : wpAny (model prog w) A (tableLookup (.ref d) c') Q E s := by
  obtain ⟨rfl, h⟩ := h
  exact tl_miss hh hd hm hv h
theorem tr_hit {d : Addr} {f : Int → Option Value} {c : Nat} {t : Str} {u v : Tok} {Q : Fin → Shared → Prop} (hm : s.heap.MapOf (intKind prog w) d f) (hv : f (c : Int) = some (.str t u)) (ht : t.length = 2) (hc : c < 128)
    (h : ∀ tk' u', Q (.done (.ret (.str t u'))) { s with toks := tk' }) : wpAny (model prog w) A (Builtin.«str.translate» ⟨[.str ⟨#[c]⟩ v, .ref d], []⟩) Q E s := by
  have hall : (({ cps := #[c] } : Str).cps.all fun x => decide (x < 128)) = true := by simp [hc]
  have hs : sizeLine = 2 ^ 24 := sizeLine_eq
  unfold Builtin.«str.translate»
  wp_walk using tl_hit' hm hv
  refine ⟨rfl, ?_⟩
  have h2 : (t.length == 1 && t.cps.all fun x => decide (x < 128)) = false := by rw [ht]; rfl
  dsimp only
  rw [h2]
  wp_walk using tl_hit' (s := { s with toks := s.toks + 1 + 1 }) hm hv
  refine ⟨rfl, ?_⟩
  dsimp only
  wp_walk
  have hl : tooLong (0 + t.length) = false := by rw [ht]; decide +kernel
  rw [if_neg (by simpa using hl)]
  have e : (⟨List.foldl (fun acc p => acc ++ p.cps) #[] ([t] : List Str).reverse⟩ : Str) = t := by cases t; simp
  dsimp only
  rw [e]
  unfold retStr
  refine wpAny_bind (wpAny_mkStr ?_ (by rw [ht]; decide +kernel))
  exact wpAny_pure (h _ _)
theorem tr_miss {d : Addr} {f : Int → Option Value} {c : Nat} {v : Tok} {Q : Fin → Shared → Prop} (hh : A.handled = none) (hd : (d == sysModules) = false) (hm : s.heap.MapOf (intKind prog w) d f) (hv : f (c : Int) = none) (hc : c < 128)
    (h : ∀ h' tk' u', (∀ b o, s.heap.get? b = some o → h'.get? b = some o) → Q (.done (.ret (.str ⟨#[c]⟩ u'))) { s with heap := h', toks := tk' }) : wpAny (model prog w) A (Builtin.«str.translate» ⟨[.str ⟨#[c]⟩ v, .ref d], []⟩) Q E s := by
  have hall : (({ cps := #[c] } : Str).cps.all fun x => decide (x < 128)) = true := by simp [hc]
  unfold Builtin.«str.translate»
  wp_walk using tl_miss' hh hd hm hv
  refine ⟨rfl, fun h' keep => ?_⟩
  dsimp only
  wp_walk
  exact h _ _ _ keep
end Mine
end
/-! Et2 -/
section
open PySem PySem.W PyProof.Rows PySem.Builtin PySem.Builtin.Str
namespace Mine

theorem EV_translate {C : Cx} {σ : St} {o : Expr} {x : Str} {np ap p : Pos} {c : Nat} {d : Addr} {oo : Obj} {f : Int → Option Value} {r : List Nat} (ho : EV C σ o (.fv (.str [c]))) (hc : c < 128)
    (hx : C.env.kindOf x = some .globalImplicit) (hdb : (x == ("__debug__" : Str)) = false) (hm : C.mg x = some (.ref d)) (hK : C.K.lookup d = some oo) (hmap : ∀ h : Heap, h.get? d = some oo → h.MapOf (intKind C.prog C.w) d f) (hd : (d == sysModules) = false)
    (hv : (f (c : Int) = none ∧ r = [c]) ∨ ∃ t u, f (c : Int) = some (.str t u) ∧ t.length = 2 ∧ r = t.cps.toList ∧ okS r)
    (hbase : attributeBase o "translate" C.env (eval o C.env) = eval o C.env) (hline : (ap.endLine == p.line) = true) (ht : backTo p (starEach [.Name x np] C.env) = [(false, eval (.Name x np) C.env)]) :
    EV C σ (.Call (.Attribute o "translate" ap) [.Name x np] [] p) (.fv (.str r)) := by
  intro H ρ s Q E hg R hq
  refine wpAny_Call_method1_late hbase hline ht (ho H ρ s _ E hg R fun y s₁ k₁ hy => ?_)
  cases hy with | fv hy =>
  cases hy with | str _ tk hok =>
  have R₁ := R.keeps hg.gm k₁
  have hT : s₁.TypeIs (.str ⟨[c].toArray⟩ tk) "str" := typeIs_str _ _ _
  refine ⟨"str", "str.translate", PySem.F.plainAttrs_str, PySem.F.slot_str_translate, PySem.F.type_str_translate, hT, fun b hb => (by cases hb), ?_⟩
  refine Calls.callWith_builtin rfl (Calls.evalArgs_plain (Calls.spliced_cons (glob_def hg R₁ hx hdb hm (Calls.spliced_nil ?_))))
  have hget : s₁.heap.get? d = some oo := (Hh_g R₁).inK _ _ hK
  have hM := hmap _ hget
  refine wpAny_call_entry PySem.F.slot_str_translate hT PySem.F.entry_str_translate ?_ (PySem.F.args_str_translate_2 _ _)
  rcases hv with ⟨h1, rfl⟩ | ⟨t, u, h1, h2, rfl, h3⟩
  · refine tr_miss (show C.A.in1.handled = none from hg.hh) hd hM h1 hc fun h' tk' u' keep => ⟨_, rfl, ?_⟩
    exact hq _ _ (keeps_trans k₁ ⟨h', tk', rfl, keep⟩) (.fv (.str [c] u' hok))
  · refine tr_hit hM h1 h2 hc fun tk' u' => ⟨_, rfl, ?_⟩
    refine hq _ _ (keeps_trans k₁ (keeps_tok _ tk')) (.fv ?_)
    have := FR.str (h := Hh H ρ s₁.heap) t.cps.toList u' h3
    rw [str_eq] at this
    exact this

theorem EV_isstr {C : Cx} {σ : St} {np sp p : Pos} {e : Expr} {l : List Nat} (b : Bi C "isinstance" (.builtin "isinstance")) (bs : Bi C "str" (.type "str")) (he : EV C σ e (.fv (.str l)))
    (hs : starEach [e, .Name (Str.ofString "str") sp] C.env = (false, eval e C.env) :: starEach [.Name (Str.ofString "str") sp] C.env) (hs' : starEach [.Name (Str.ofString "str") sp] C.env = (false, eval (.Name (Str.ofString "str") sp) C.env) :: starEach [] C.env) :
    EV C σ (.Call (.Name (Str.ofString "isinstance") np) [e, .Name (Str.ofString "str") sp] [] p) (.fv (.bool true)) := by
  intro H ρ s Q E hg R hq
  refine wpAny_Call_NameR (glob_builtin hg R b.hx b.hd b.hm b.hn b.hb ?_)
  refine PyProof.Rows.callWith_builtin1 (PyProof.Rows.spliced_more (he H ρ s _ E hg R fun y s₁ k₁ hy => PyProof.Rows.spliced_more (glob_builtin hg (R.keeps hg.gm k₁) bs.hx bs.hd bs.hm bs.hn bs.hb (PyProof.Rows.spliced_none ?_)) hs') hs) hs (by rw [hs']; rfl)
  cases hy with | fv hy =>
  cases hy with | str _ tk hok =>
  exact call_isinstance_yes (typeIs_str _ _ _) (by kernel_rfl) (by rw [isSubtype_type]; kernel_rfl) (hq _ _ k₁ (.fv (.bool true)))
end Mine
end
local macro_rules | `(tactic| walk_at "loc") => `(tactic| with_reducible first
  | assumption
  | exact Mine.loc_same _ _ _
  | exact Mine.st0_same _ _ _ _
  | ((first | refine Mine.loc_ne' (by decide +kernel) ?_ | refine Mine.loc_alloc' ?_ | refine Mine.loc_put' ?_ | refine Mine.st0_ne' (by decide +kernel) ?_); walk_at "loc"))
local macro_rules | `(tactic| walk_at "ev") => `(tactic| with_reducible first
  | assumption
  | exact Mine.EV_int
  | exact Mine.EV_none
  | exact Mine.EV_bool
  | ((show Mine.EV _ _ (.Name _ _) _); refine Mine.EV_name (by walk_at "loc") (by decide +kernel)))
/-! Ey5 -/
section
open PySem PySem.W PyProof.Rows PySem.Builtin PySem.Builtin.Str
namespace Mine
noncomputable def oFV : Option (List Nat) → FV
  | none => .none
  | some s => .str s
noncomputable def placesOf (ps : List (Option (List Nat))) : List Nat := ps.zipIdx.filterMap fun p => if p.1.isNone then some p.2 else none
noncomputable def betweenOf (ps : List (Option (List Nat))) : List (Option (List Nat)) :=
  match placesOf ps with
  | [] => []
  | p :: r => (ps.drop p).take ((p :: r).getLast?.getD 0 - p)
noncomputable def plainPart (x : Option (List Nat)) : Bool := !(x.isNone || x == some [63])
noncomputable def togetherB (ps : List (Option (List Nat))) : Bool := (betweenOf ps).all fun x => !plainPart x

theorem scal_o (x : Option (List Nat)) : scal (oFV x) = true := by cases x <;> rfl
theorem none_o (x : Option (List Nat)) : isNone (oFV x) = x.isNone := by cases x <;> rfl
theorem cmp_o (x : Option (List Nat)) : cmpFV .NotIn (oFV x) (.tup [.none, .str [63]]) = some (plainPart x) := by
  rw [cmp_notin_nq _ _ (scal_o x)]
  cases x <;> simp [oFV, eqS, plainPart]
theorem is_o (x : Option (List Nat)) : cmpFV .Is (oFV x) .none = some x.isNone := by cases x <;> rfl
theorem toPys_o : ∀ xs : List (Option (List Nat)), ∃ ds, toPys (xs.map oFV) = some ds
  | [] => ⟨[], by rw [List.map_nil, toPys]⟩
  | none :: xs => by obtain ⟨ds, e⟩ := toPys_o xs; exact ⟨_, by rw [List.map_cons, toPys, oFV, toPy, e]⟩
  | some s :: xs => by obtain ⟨ds, e⟩ := toPys_o xs; exact ⟨_, by rw [List.map_cons, toPys, oFV, toPy_str, e]⟩
theorem filt_o (ps : List (Option (List Nat))) : (ps.filterMap fun x => if plainPart x then some (oFV x) else none) = (ps.filter plainPart).map oFV := by
  induction ps with
  | nil => rfl
  | cons x ps ih =>
    rw [List.filterMap_cons, List.filter_cons]
    cases plainPart x <;> simp [ih]

set_option maxHeartbeats 1000000
theorem together_calls (P : Params) (mb : Str → Option Value) (prog : Program) (w : World) (ps : List (Option (List Nat))) :
    CallsTo (frag P) (gm P) mb prog w 1 257 [.list (ps.map oFV)] (.bool (togetherB ps)) := by
  refine callsTo_plain (names := ["parts"]) (hK := by rfl) (hdat := by rfl) (hC := by rfl) (hcd := by rfl) (hc1 := by rfl) (by (intro vs h; match vs, h with | [v], _ => kernel_rfl)) (by decide +kernel) (by rfl) (by decide +kernel) rfl rfl rfl (by decide +kernel) ?_
  intro A L
  have hrows : (ps.map oFV).zipIdx.map (fun f => [(Str.ofString "place", FV.int f.2), (Str.ofString "part", f.1)]) = ps.zipIdx.map (fun f => [(Str.ofString "place", FV.int f.2), (Str.ofString "part", oFV f.1)]) := by
    rw [List.zipIdx_map, List.map_map]; rfl
  refine EX_cons (EX1_assign_comp0 ps.zipIdx (fun f => [(Str.ofString "place", FV.int f.2), (Str.ofString "part", oFV f.1)]) (fun p => if p.1.isNone then some (FV.int p.2) else none) ["place", "part"]
    (SRC_enum (by (exact ⟨by kernel_rfl, by decide +kernel, by kernel_rfl, by decide +kernel, by decide +kernel⟩)) (by walk_at "ev") (by rfl)) hrows (by intro x; rfl) (by decide +kernel) (by decide +kernel) rfl (by decide +kernel) (fun _ => rfl) (by decide +kernel) ?_ (by kernel_rfl) (by kernel_rfl) ?_)
  · rintro ⟨x, j⟩ _ L'
    rw [row2]
    refine ⟨EVt_one ?_, fun r hr => ?_⟩
    · have : (if x.isNone then some (FV.int (j : Int)) else none).isSome = x.isNone := by cases x <;> rfl
      rw [this]
      exact EVb_cmp (by walk_at "ev") EV_none (is_o x) (by rfl)
    · dsimp only at hr
      split at hr
      · cases hr; walk_at "ev"
      · cases hr
  have hpl : (ps.zipIdx.filterMap fun p => if p.1.isNone then some (FV.int p.2) else none) = (placesOf ps).map fun k => FV.int (k : Nat) := by
    rw [placesOf, List.map_filterMap]
    congr 1
    funext p
    cases p.1 <;> rfl
  rw [hpl]
  refine EX_cons (EX1_assign (v := .fv (.list ((betweenOf ps).map oFV))) ?_ (by kernel_rfl) (by kernel_rfl) ?_)
  · refine EV_if (c := !((placesOf ps).map fun k => FV.int (k : Nat)).isEmpty) (EVb_value (v := .fv (.list ((placesOf ps).map fun k => FV.int (k : Nat)))) (by walk_at "ev") (by rfl) (by (intro _ _; rfl))) ?_
    cases hq : placesOf ps with
    | nil => rw [betweenOf, hq]; exact nil_list
    | cons p r =>
      obtain ⟨l, hl⟩ : ∃ l, (p :: r).getLast? = some l := ⟨_, List.getLast?_eq_some_getLast (by simp)⟩
      have hb : (betweenOf ps).map oFV = cutN (ps.map oFV) (some (p : Int)) (some (l : Int)) := by
        rw [cutN_btw, betweenOf, hq]
        simp only [hl, Option.getD_some, List.map_take, List.map_drop]
      rw [hb]
      refine EV_slice_list (by walk_at "ev") ?_ ?_
      · show EV _ _ _ _
        exact EV_sub (v := .fv (.list ((p :: r).map fun k => FV.int (k : Nat)))) (i := (0 : Nat)) (by rw [← hq]; walk_at "ev") EV_int (item_list_nat (k := 0) rfl) (by rfl) (by (intro _ _; rfl))
      · show EV _ _ _ _
        exact EV_sub (v := .fv (.list ((p :: r).map fun k => FV.int (k : Nat)))) (i := -1) (by rw [← hq]; walk_at "ev") (EV_neg EV_int) (item_list_last (by rw [List.getLast?_map, hl]; rfl)) (by rfl) (by (intro _ _; rfl))
  obtain ⟨ds, hds⟩ := toPys_o ((betweenOf ps).filter plainPart)
  refine EX_cons (EX1_return (EV_cmp (op := .Eq) (f := .list (((betweenOf ps).filter plainPart).map oFV)) (g := .list []) ?_ nil_list (cmp_eq_nil hds) (by rfl)) ⟨0, ?_⟩)
  · rw [← filt_o]
    refine EV_comp0 (betweenOf ps) (fun f => [(Str.ofString "part", oFV f)]) (fun x => if plainPart x then some (oFV x) else none) ["part"]
      (SRC_list (by walk_at "ev")) (by rw [List.map_map]; rfl) (by intro x; rfl) (by decide +kernel) (by decide +kernel) rfl (by decide +kernel) (fun _ => rfl) (by decide +kernel) ?_
    intro x _ L'
    rw [row1]
    refine ⟨EVt_one ?_, fun r hr => ?_⟩
    · have : (if plainPart x then some (oFV x) else none).isSome = plainPart x := by cases plainPart x <;> rfl
      rw [this]
      exact EVb_cmp (by walk_at "ev") (EV_tuple (xs := [.none, .str [63]]) (.cons EV_none (.cons (EV_lit (by decide +kernel) ⟨by decide, by decide⟩) .nil (by rfl)) (by rfl)) (by simp)) (cmp_o x) (by rfl)
    · split at hr
      · cases hr; walk_at "ev"
      · cases hr
  · rw [resolve, togetherB]
    congr 2
    generalize betweenOf ps = bs
    induction bs with
    | nil => rfl
    | cons x bs ih =>
      rw [List.filter_cons, List.all_cons]
      cases plainPart x
      · simpa using ih
      · simp
end Mine
end
/-! Ey6 -/
section
open PySem PySem.W PyProof.Rows PySem.Builtin PySem.Builtin.Str
namespace Mine
structure PSt where
  place : Nat
  held : Bool
  last : Bool
  sound : Bool
  init : List (List (List Nat))
  cur : List (List Nat)
noncomputable def metas : List Nat := [94, 36, 42, 43, 63, 123, 125, 91, 93, 124, 40]
noncomputable def pcStep (body : List Nat) (s : PSt) : PSt :=
  if (body.drop s.place).take 6 == [40, 63, 62, 46, 42, 63] then ⟨s.place + 6, true, s.last, !s.held && !s.last, s.init ++ [s.cur], []⟩
  else if (body.drop s.place).take 2 == [46, 42] then ⟨s.place + 2, s.held, true, !s.held && !s.last, s.init ++ [s.cur], []⟩
  else
    let c := body[s.place]?.getD 0
    if c == 41 then ⟨s.place + 1, false, s.last, s.held, s.init, s.cur⟩
    else
      let step := if c == 92 then 2 else 1
      ⟨s.place + step, s.held, s.last, (s.held || (s.last || s.init.isEmpty)) && (step == 2 || !metas.contains c), s.init,
        s.cur ++ [if c == 46 then [] else [((body.drop s.place).take step).getLast?.getD 0]]⟩
theorem pcStep_lt (body : List Nat) (s : PSt) : s.place < (pcStep body s).place := by
  unfold pcStep
  split
  · exact Nat.lt_add_of_pos_right (by decide)
  · split
    · exact Nat.lt_add_of_pos_right (by decide)
    · dsimp only
      split
      · exact Nat.lt_succ_self _
      · split <;> exact Nat.lt_add_of_pos_right (by decide)
noncomputable def pcRun (body : List Nat) (s : PSt) : PSt :=
  if _ : s.sound = true ∧ s.place < body.length then pcRun body (pcStep body s) else s
termination_by body.length - s.place
decreasing_by have := pcStep_lt body s; (first | lia | omega)
noncomputable def piecesOf (text : List Nat) : List (List (List Nat)) :=
  let body := cutN text (some 4) (some (-3))
  let f := pcRun body ⟨0, false, false, (cutN text none (some 4) ++ cutN text (some (-3)) none) == [40, 63, 115, 58, 41, 92, 90], [], []⟩
  if f.sound && (!f.held && (f.last == decide (1 < f.init.length + 1))) then f.init ++ [f.cur] else [[[110, 111, 110, 101]]]

noncomputable def sAV (l : List (List Nat)) : List AV := l.map fun s => .fv (.str s)
noncomputable def outer (m : Nat) : List AV := .own 0 :: (List.range m).map fun i => .own (i + 2)
noncomputable def hpOf (init : List (List (List Nat))) (cur : List (List Nat)) : List (List AV) :=
  match init with
  | [] => [sAV cur, outer 0]
  | p :: r => sAV p :: outer (r.length + 1) :: (r ++ [cur]).map sAV
noncomputable def curAt (init : List (List (List Nat))) : Nat := match init with
  | [] => 0
  | _ :: r => r.length + 2

theorem hp_new (init : List (List (List Nat))) (cur : List (List Nat)) : ((hpOf init cur) ++ [[]]).set 1 (outer init.length ++ [AV.own (init.length + 2)]) = hpOf (init ++ [cur]) [] := by
  cases init with
  | nil => rfl
  | cons p r =>
    simp only [hpOf, List.cons_append, List.length_cons, List.set_cons_succ, List.set_cons_zero, List.length_append, List.length_nil, List.map_append, List.map_cons, List.map_nil]
    congr 2
    simp only [outer, List.cons_append, List.range_succ, List.map_append, List.map_cons, List.map_nil]
theorem hp_len (init : List (List (List Nat))) (cur : List (List Nat)) : (hpOf init cur).length = init.length + 2 := by
  cases init <;> simp [hpOf]
theorem hp_outer (init : List (List (List Nat))) (cur : List (List Nat)) : (hpOf init cur)[1]? = some (outer init.length) := by
  cases init <;> rfl
theorem hp_cur (init : List (List (List Nat))) (cur : List (List Nat)) : (hpOf init cur)[curAt init]? = some (sAV cur) := by
  cases init with
  | nil => rfl
  | cons p r => simp [hpOf, curAt]
theorem hp_put (init : List (List (List Nat))) (cur : List (List Nat)) (x : List Nat) : (hpOf init cur).set (curAt init) (sAV cur ++ [.fv (.str x)]) = hpOf init (cur ++ [x]) := by
  cases init with
  | nil => simp [hpOf, curAt, sAV]
  | cons p r => simp [hpOf, curAt, sAV, List.set_append]
theorem outer_last (init : List (List (List Nat))) : (outer init.length).getLast? = some (.own (curAt init)) := by
  cases init with
  | nil => rfl
  | cons p r =>
    simp only [outer, curAt, List.length_cons, List.range_succ, List.map_append, List.map_cons, List.map_nil]
    rw [← List.cons_append, List.getLast?_concat]

theorem resolves_fv {σ : St} {n : Nat} : ∀ (l : List (List Nat)), resolves σ n (sAV l) = some (l.map .str)
  | [] => by rw [sAV, List.map_nil, resolves]; rfl
  | x :: l => by
    have e : sAV (x :: l) = .fv (.str x) :: sAV l := rfl
    rw [e, resolves, resolves_fv l]
    cases n <;> (rw [resolve]; rfl)
theorem resolve_own {σ : St} {k : Nat} {l : List (List Nat)} (h : σ.hp[k]? = some (sAV l)) : resolve σ 1 (.own k) = some (.list (l.map .str)) := by
  rw [resolve, h]
  dsimp only
  rw [resolves_fv]; rfl
theorem resolves_own {σ : St} : ∀ (ks : List Nat) (ls : List (List (List Nat))), ks.length = ls.length → (∀ (i : Nat) k l, ks[i]? = some k → ls[i]? = some l → σ.hp[k]? = some (sAV l)) → resolves σ 1 (ks.map .own) = some (ls.map fun l => .list (l.map .str))
  | [], [], _, _ => by rw [List.map_nil, resolves]; rfl
  | k :: ks, l :: ls, e, h => by
    rw [List.map_cons, resolves, resolve_own (h 0 k l rfl rfl), resolves_own ks ls (by simpa using e) fun i k l e1 e2 => h (i + 1) k l (by simpa using e1) (by simpa using e2)]
    rfl
  | [], _ :: _, e, _ => by simp at e
  | _ :: _, [], e, _ => by simp at e
theorem resolve_pieces {σ : St} {init : List (List (List Nat))} {cur : List (List Nat)} (h : σ.hp = hpOf init cur) : resolve σ 2 (.own 1) = some (.list ((init ++ [cur]).map fun l => .list (l.map .str))) := by
  have e : outer init.length = (0 :: (List.range init.length).map (· + 2)).map AV.own := by simp [outer]
  rw [resolve, h, hp_outer]
  dsimp only
  rw [e, resolves_own _ (init ++ [cur]) (by simp)]
  · rfl
  · intro i k l e1 e2
    rw [h]
    cases init with
    | nil =>
      cases i with
      | zero => simp at e1 e2; subst e1 e2; rfl
      | succ i => simp at e2
    | cons p r =>
      cases i with
      | zero => simp at e1 e2; subst e1 e2; rfl
      | succ i =>
        simp only [List.getElem?_cons_succ, List.getElem?_map] at e1
        obtain ⟨j, e3, rfl⟩ := Option.map_eq_some_iff.mp e1
        have : j = i := by
          obtain ⟨_, q⟩ := List.getElem?_eq_some_iff.mp e3
          simpa using q.symm
        subst this
        simp only [List.cons_append, List.getElem?_cons_succ] at e2
        show ((r ++ [cur]).map sAV)[j]? = _
        rw [List.getElem?_map, e2]; rfl
theorem EVbo_and {C : Cx} {σ : St} {pos : Pos} {e e' : Expr} {es : List Expr} {a b : Bool} (h : EV C σ e (.fv (.bool a))) (hr : a = true → EVbo C σ pos .And (e' :: es) (.fv (.bool b))) : EVbo C σ pos .And (e :: e' :: es) (.fv (.bool (a && b))) := by
  cases a with
  | true => exact EVbo_cons (b := true) (w := .fv (.bool b)) h rfl fun _ => hr rfl
  | false => exact EVbo_cons (b := false) (w := .fv (.bool b)) h rfl fun h => by cases h
theorem EVbo_or {C : Cx} {σ : St} {pos : Pos} {e e' : Expr} {es : List Expr} {a b : Bool} (h : EV C σ e (.fv (.bool a))) (hr : a = false → EVbo C σ pos .Or (e' :: es) (.fv (.bool b))) : EVbo C σ pos .Or (e :: e' :: es) (.fv (.bool (a || b))) := by
  cases a with
  | false => exact EVbo_cons (b := false) (w := .fv (.bool b)) h rfl fun _ => hr rfl
  | true => exact EVbo_cons (b := true) (w := .fv (.bool b)) h rfl fun h => by cases h
theorem cmp_eq_bool (a b : Bool) : cmpFV .Eq (.bool a) (.bool b) = some (a == b) := by
  simp [cmpFV, eqPy, inPy, inFV, inStr, isFV, Option.map_some, toPy, PyData.depth, PyData.eqv]
theorem cmp_notin_chr (c : Nat) (l : List Nat) : cmpFV .NotIn (.str [c]) (.str l) = some (!l.contains c) := by
  simp [cmpFV, eqPy, inPy, inFV, inStr, isFV, Option.map_some]
end Mine
end
/-! Ey8 -/
section
open PySem PySem.W PyProof.Rows PySem.Builtin PySem.Builtin.Str
namespace Mine
noncomputable def specials : List Nat := [40, 41, 91, 93, 123, 125, 63, 42, 43, 45, 124, 94, 36, 92, 46, 38, 126, 35, 32, 9, 10, 13, 11, 12]
noncomputable def escS (c : Nat) : List Nat := if specials.contains c then [92, c] else [c]
noncomputable def keysOk (es : Array DictEntry) : Bool := es.toList.all fun e => match e.key with
  | .int k _ => e.hash == hashInt k
  | _ => false
noncomputable def tabOk (f : Int → Option Value) : Bool := (List.range 128).all fun c => match f (c : Int) with
  | none => !specials.contains c
  | some (.str t _) => specials.contains c && t == ⟨#[92, c]⟩
  | _ => false
theorem keysOf_ok {prog : Program} {w : World} {es : Array DictEntry} (h : keysOk es = true) : KeysOf (intKind prog w) es := by
  intro e he
  have := List.all_eq_true.mp h e (by simpa using he)
  split at this
  · rename_i k t q
    exact ⟨k, by rw [q]; exact intKind_is prog w k t, (eq_of_beq this : e.hash = hashInt k)⟩
  · cases this
theorem tab_of {f : Int → Option Value} (h : tabOk f = true) {c : Nat} (hc : c < 128) : (f (c : Int) = none ∧ escS c = [c]) ∨ ∃ t u, f (c : Int) = some (.str t u) ∧ t.length = 2 ∧ escS c = t.cps.toList ∧ okS (escS c) := by
  have := List.all_eq_true.mp h c (List.mem_range.mpr hc)
  split at this
  · rename_i q
    refine .inl ⟨q, ?_⟩
    unfold escS
    rw [if_neg (by simpa using this)]
  · rename_i t u q
    simp only [Bool.and_eq_true, beq_iff_eq] at this
    obtain ⟨h1, rfl⟩ := this
    refine .inr ⟨_, u, q, rfl, ?_, ?_⟩
    · unfold escS; rw [if_pos h1]
    · unfold escS; rw [if_pos h1]
      refine ⟨by rw [sizeLine_eq]; simp, fun x hx => ?_⟩
      simp only [List.mem_cons, List.not_mem_nil, or_false] at hx
      rcases hx with rfl | rfl <;> (first | lia | omega)
  · cases this

set_option maxHeartbeats 1000000
theorem escape_calls (P : Params) (mb : Str → Option Value) (prog : Program) (w : World) (c : Nat) (hc : c < 128) :
    CallsTo (frag P) (gm P) mb prog w 1 193 [.str [c]] (.str (escS c)) := by
  refine callsTo_plain (names := ["pattern"]) (hK := by rfl) (hdat := by rfl) (hC := by rfl) (hcd := by rfl) (hc1 := by rfl) (by (intro vs h; match vs, h with | [v], _ => kernel_rfl)) (by decide +kernel) (by rfl) (by decide +kernel) rfl rfl rfl (by decide +kernel) ?_
  intro A L
  refine EX_one (EX1_ift (c := true) (EVb_value (EV_isstr (l := [c]) (by (exact ⟨by kernel_rfl, by decide +kernel, by kernel_rfl, by decide +kernel, by decide +kernel⟩)) (by (exact ⟨by kernel_rfl, by decide +kernel, by kernel_rfl, by decide +kernel, by decide +kernel⟩)) (by walk_at "ev") (by rfl) (by rfl)) (by rfl) (by (intro _ _; rfl))) (fun _ => ?_) (fun h => by cases h))
  refine EX_one (EX1_return (EV_translate (c := c) (d := 183) (r := escS c) (by walk_at "ev") hc (by kernel_rfl) (by decide +kernel) (by kernel_rfl) (by rfl) (fun h hh => ⟨_, _, _, hh, ⟨rfl, rfl, rfl⟩, rfl, keysOf_ok (by kernel_rfl), fun _ => rfl⟩) (by decide) (tab_of (by kernel_rfl) hc) (by rfl) (by rfl) (by rfl)) ⟨0, ?_⟩)
  rw [resolve]
end Mine
end
/-! Ey9 -/
section
open PySem PySem.W PyProof.Rows PySem.Builtin PySem.Builtin.Str
namespace Mine
noncomputable def trStep (qm : List Nat) (acc : List (Option (List Nat))) (c : Nat) : List (Option (List Nat)) :=
  if c == 42 then (if acc.isEmpty || acc.getLast?.join.isSome then acc ++ [none] else acc)
  else if c == 63 then acc ++ [some qm]
  else acc ++ [some (escS c)]
noncomputable def trans (qm : List Nat) (pat : List Nat) : List (Option (List Nat)) := pat.foldl (trStep qm) []
noncomputable def sFV (star : FV) : Option (List Nat) → FV
  | none => star
  | some s => .str s
noncomputable def Star (star : FV) : Prop := star = .none ∨ ∃ a, star = .obj a
theorem isnot_star {star : FV} (h : Star star) (x : Option (List Nat)) : cmpFV .IsNot (sFV star x) star = some x.isSome := by
  rcases h with rfl | ⟨a, rfl⟩ <;> cases x <;> simp [sFV, cmpFV, eqPy, inPy, inFV, inStr, isFV, Option.map_some, isNone]
theorem is_star {star : FV} (h : Star star) (x : Option (List Nat)) : cmpFV .Is (sFV star x) star = some x.isNone := by
  rcases h with rfl | ⟨a, rfl⟩ <;> cases x <;> simp [sFV, cmpFV, eqPy, inPy, inFV, inStr, isFV, Option.map_some, isNone]
theorem resolves_all {σ : St} {n : Nat} : ∀ (fs : List FV), resolves σ n (fs.map .fv) = some fs
  | [] => by rw [List.map_nil, resolves]
  | x :: l => by
    rw [List.map_cons, resolves, resolves_all l]
    cases n <;> (rw [resolve])
theorem trans_len (qm : List Nat) : ∀ (pat : List Nat) (acc : List (Option (List Nat))), (pat.foldl (trStep qm) acc).length ≤ acc.length + pat.length
  | [], acc => Nat.le_refl _
  | c :: pat, acc => by
    have h := trans_len qm pat (trStep qm acc c)
    have h2 : (trStep qm acc c).length ≤ acc.length + 1 := by
      unfold trStep; split
      · split <;> simp
      · split <;> simp
    rw [List.foldl_cons, List.length_cons]; (first | lia | omega)
theorem trans_snoc (qm : List Nat) {pat : List Nat} {i c : Nat} (h : pat[i]? = some c) : trans qm (pat.take (i + 1)) = trStep qm (trans qm (pat.take i)) c := by
  rw [trans, List.take_add_one, h, List.foldl_append]; rfl

inductive TI (pat qm : List Nat) (star : FV) (m : Nat) (σ : St) : Prop
  | mk (m1 : σ.loc "pat" = some (.fv (.str pat))) (m2 : σ.loc "STAR" = some (.fv star)) (m3 : σ.loc "QUESTION_MARK" = some (.fv (.str qm))) (m4 : σ.loc "res" = some (.own 0)) (m5 : σ.loc "add" = some (.app 0)) (m6 : σ.loc "n" = some (.fv (.int pat.length)))
    (i : Nat) (hi : i ≤ pat.length) (m7 : σ.loc "i" = some (.fv (.int i))) (m8 : σ.hp = [((trans qm (pat.take i)).map (sFV star)).map .fv]) (hm : m = pat.length - i)
set_option maxHeartbeats 1000000
theorem translate_calls (P : Params) (mb : Str → Option Value) (prog : Program) (w : World) (pat qm : List Nat) (star : FV) (hstar : Star star) (hlen : pat.length ≤ 1000) (hpat : ∀ c ∈ pat, c < 128 ∧ c ≠ 91) :
    CallsTo (frag P) (gm P) mb prog w 2 200 [.str pat, star, .str qm] (.list ((trans qm pat).map (sFV star))) := by
  refine callsTo_plain (names := ["pat", "STAR", "QUESTION_MARK"]) (hK := by rfl) (hdat := by rfl) (hC := by rfl) (hcd := by rfl) (hc1 := by rfl) (by (intro vs h; match vs, h with | [v, u, z], _ => kernel_rfl)) (by decide +kernel) (by rfl) (by decide +kernel) rfl rfl rfl (by decide +kernel) ?_
  intro A L
  refine EX_cons (EX1_assignA (EVA_list .nil (by decide)) (by kernel_rfl) (by kernel_rfl) ?_)
  show EX _ (St.set (St.alloc _ _) _ (.own 0)) _ _
  refine EX_cons (EX1_assign (EV_attr_append (k := 0) (xs := []) (by walk_at "loc") (by decide +kernel) (by rfl)) (by kernel_rfl) (by kernel_rfl) ?_)
  refine EX_cons (EX1_tuple_swapped (vs := [.fv (.int 0), .fv (.int pat.length)]) (names := ["i", "n"])
    (.cons (EVA_ev EV_int) (.cons (EVA_ev (EV_len (v := .fv (.str pat)) (n := pat.length) (by (exact ⟨by kernel_rfl, by decide +kernel, by kernel_rfl, by decide +kernel, by decide +kernel⟩)) (by walk_at "ev") (by rfl) (by rfl))) .nil (by rfl)) (by rfl)) (by rfl) (by simp) (fun x hx => by simp only [List.mem_cons, List.not_mem_nil, or_false] at hx; rcases hx with rfl | rfl <;> kernel_rfl) (by kernel_rfl) (by kernel_rfl) ?_)
  show EX _ ((St.set _ _ _).set _ _) _ _
  generalize hσ : (St.set (St.set _ _ _) _ _) = σ
  have l1 : σ.loc "pat" = some (.fv (.str pat)) := by subst hσ; walk_at "loc"
  have l2 : σ.loc "STAR" = some (.fv star) := by subst hσ; walk_at "loc"
  have l3 : σ.loc "QUESTION_MARK" = some (.fv (.str qm)) := by subst hσ; walk_at "loc"
  have l4 : σ.loc "res" = some (.own 0) := by subst hσ; walk_at "loc"
  have l5 : σ.loc "add" = some (.app 0) := by subst hσ; walk_at "loc"
  have l6 : σ.loc "i" = some (.fv (.int ((0 : Nat) : Int))) := by subst hσ; exact loc_same _ _ _
  have l7 : σ.loc "n" = some (.fv (.int pat.length)) := by subst hσ; walk_at "loc"
  have l8 : σ.hp = [((trans qm (pat.take 0)).map (sFV star)).map .fv] := by subst hσ; rfl
  clear hσ
  refine EX_cons (EX1_while (TI pat qm star) (pat.length - 0) ⟨l1, l2, l3, l4, l5, l7, 0, Nat.zero_le _, l6, l8, rfl⟩ ?_)
  rintro m σ₁ ⟨m1, m2, m3, m4, m5, m6, i, hi, m7, m8, rfl⟩
  refine ⟨decide ((i : Int) < pat.length), EVb_cmp (f := .int i) (g := .int pat.length) (by walk_at "ev") (by walk_at "ev") (by rfl) (by rfl), fun hb => ?_, fun hb => ?_⟩
  · have hlt : i < pat.length := by have := of_decide_eq_true hb; (first | lia | omega)
    obtain ⟨c, hc⟩ : ∃ c, pat[i]? = some c := ⟨_, List.getElem?_eq_getElem hlt⟩
    obtain ⟨hc1, hc2⟩ := hpat c (List.mem_of_getElem? hc)
    have hsn := trans_snoc qm hc
    have hl : (trans qm (pat.take i)).length ≤ 1000 := by
      have h1 := trans_len qm (pat.take i) []
      have h2 : (pat.take i).length ≤ pat.length := List.length_take_le' _ _
      have h3 : ([] : List (Option (List Nat))).length = 0 := rfl
      simp only [trans] at *
      (first | lia | omega)
    generalize trans qm (pat.take i) = acc at m8 hsn hl
    refine EX_cons (EX1_assign (v := .fv (.str [c])) (EV_sub (v := .fv (.str pat)) (i := i) (by walk_at "ev") (by walk_at "ev") (item_str_nat hc) (by rfl) (by (intro _ _; rfl))) (by kernel_rfl) (by kernel_rfl) ?_)
    refine EX_cons (EX1_assign (v := .fv (.int ((i + 1 : Nat) : Int))) (EV_bin (f := .int i) (g := .int 1) (by walk_at "ev") EV_int (by rfl)) (by kernel_rfl) (by kernel_rfl) ?_)
    have fin : ∀ (σ' : St), σ'.loc = ((σ₁.set "c" (.fv (.str [c]))).set "i" (.fv (.int ((i + 1 : Nat) : Int)))).loc → σ'.hp = [((trans qm (pat.take (i + 1))).map (sFV star)).map .fv] →
        ∃ m, m < pat.length - i ∧ TI pat qm star m σ' := fun σ' e1 e2 =>
      ⟨pat.length - (i + 1), by (first | lia | omega), by rw [e1]; walk_at "loc", by rw [e1]; walk_at "loc", by rw [e1]; walk_at "loc", by rw [e1]; walk_at "loc", by rw [e1]; walk_at "loc", by rw [e1]; walk_at "loc", i + 1, hlt, by rw [e1]; walk_at "loc", e2, rfl⟩
    rw [hsn] at fin
    have hget : ∀ σ' : St, σ'.hp = σ₁.hp → σ'.hp[0]? = some ((acc.map (sFV star)).map .fv) := fun σ' e => by rw [e, m8]; rfl
    refine EX_one (EX1_ift (c := [c] == [42]) (EVb_cmp (op := .Eq) (f := .str [c]) (by walk_at "ev") (EV_lit (by decide +kernel) ⟨by decide, by decide⟩) (cmp_eq_str _ _) (by rfl)) ?_ ?_)
    · intro h1
      have hc42 : c = 42 := by simpa using h1
      subst hc42
      have hst : trStep qm acc 42 = if acc.isEmpty || acc.getLast?.join.isSome then acc ++ [none] else acc := rfl
      rw [hst] at fin
      refine EX_one (EX1_ift (c := acc.isEmpty || (acc.getLast?.join.isSome || false)) (EVb_bool (EVall_or_cons (a := acc.isEmpty) ?_ fun hne => EVall_or_cons ?_ fun _ => EVall_or_nil)) ?_ ?_)
      · refine Bx (EVb_not (EVb_value (v := .own 0) (b := !((acc.map (sFV star)).map AV.fv).isEmpty) (by walk_at "ev") ?_ (by (intro _ _; rfl)))) (by simp)
        show (σ₁.hp[0]?).map _ = _
        rw [hget σ₁ rfl]; rfl
      · obtain ⟨x, hx⟩ : ∃ x, acc.getLast? = some x := ⟨_, List.getLast?_eq_some_getLast (by rintro rfl; cases hne)⟩
        rw [hx]
        refine EVb_cmp (f := sFV star x) (g := star) (EV_sub (v := .own 0) (i := -1) (by walk_at "ev") (EV_neg EV_int) ?_ (by rfl) (by (intro _ _; rfl))) (by walk_at "ev") (isnot_star hstar x) (by rfl)
        show (σ₁.hp[0]?).bind _ = _
        rw [hget σ₁ rfl]
        exact itemOf_last (by rw [List.getLast?_map, List.getLast?_map, hx]; rfl)
      · intro h
        rw [if_pos (by simpa using h)] at fin
        refine EX_one (EX1_add (k := 0) (xs := (acc.map (sFV star)).map .fv) (by walk_at "loc") (by decide +kernel) (by walk_at "ev") (hget _ rfl) (by simp; (first | lia | omega)) (by rfl) (by rfl) (by rfl) ?_)
        refine fin _ rfl ?_
        show σ₁.hp.set 0 _ = _
        rw [m8]; simp [sFV]
      · intro h
        rw [if_neg (by simpa using h)] at fin
        exact EX_nil (fin _ rfl m8)
    intro h1
    have hc42 : c ≠ 42 := by simpa using h1
    refine EX_one (EX1_ift (c := [c] == [63]) (EVb_cmp (op := .Eq) (f := .str [c]) (by walk_at "ev") (EV_lit (by decide +kernel) ⟨by decide, by decide⟩) (cmp_eq_str _ _) (by rfl)) ?_ ?_)
    · intro h2
      have hc63 : c = 63 := by simpa using h2
      subst hc63
      refine EX_one (EX1_add (k := 0) (xs := (acc.map (sFV star)).map .fv) (by walk_at "loc") (by decide +kernel) (by walk_at "ev") (hget _ rfl) (by simp; (first | lia | omega)) (by rfl) (by rfl) (by rfl) ?_)
      refine fin _ rfl ?_
      show σ₁.hp.set 0 _ = _
      rw [m8]; simp [sFV, trStep]
    intro h2
    have hc63 : c ≠ 63 := by simpa using h2
    refine EX_one (EX1_ift (c := [c] == [91]) (EVb_cmp (op := .Eq) (f := .str [c]) (by walk_at "ev") (EV_lit (by decide +kernel) ⟨by decide, by decide⟩) (cmp_eq_str _ _) (by rfl)) (fun h3 => absurd (by simpa using h3) hc2) ?_)
    intro h3
    refine EX_one (EX1_add (k := 0) (xs := (acc.map (sFV star)).map .fv) (v := .fv (.str (escS c))) (by walk_at "loc") (by decide +kernel) (EV_call1 (by (exact ⟨by kernel_rfl, by decide +kernel, by kernel_rfl, ⟨_, _, rfl, rfl⟩⟩)) (escape_calls P mb prog w c hc1) (by (exact Nat.le_of_ble_eq_true rfl)) (by walk_at "ev") (by rfl)) (hget _ rfl) (by simp; (first | lia | omega)) (by rfl) (by rfl) (by rfl) ?_)
    refine fin _ rfl ?_
    show σ₁.hp.set 0 _ = _
    rw [m8]; simp [sFV, trStep, hc42, hc63]
  · have hin : i = pat.length := by have := of_decide_eq_false hb; (first | lia | omega)
    subst hin
    refine EX_cons (EX1_assert (Bx (EVb_cmp (op := .Eq) (f := .int pat.length) (g := .int pat.length) (by walk_at "ev") (by walk_at "ev") (cmp_eq_int _ _) (by rfl)) (by simp)) ?_)
    refine EX_one (EX1_return (v := .own 0) (by walk_at "ev") ⟨1, ?_⟩)
    rw [resolve, m8]
    show (resolves _ _ _).map _ = _
    rw [resolves_all, List.take_length]; rfl
end Mine
end
/-! Ez1 -/
section
open PySem PySem.W PyProof.Rows PySem.Builtin PySem.Builtin.Str
namespace Mine
noncomputable def spanSome : List (Option (List Nat)) → List (List Nat) × List (Option (List Nat))
  | some x :: r => (x :: (spanSome r).1, (spanSome r).2)
  | r => ([], r)
theorem spanSome_le : ∀ r, (spanSome r).2.length ≤ r.length
  | [] => Nat.le_refl _
  | none :: r => Nat.le_refl _
  | some x :: r => Nat.le_succ_of_le (spanSome_le r)
noncomputable def joinGo (parts : List (Option (List Nat))) : List (List Nat) :=
  match parts with
  | [] => []
  | _ :: rest =>
    if rest = [] then [[46, 42]]
    else if (spanSome rest).2 = [] then [[46, 42], (spanSome rest).1.flatten]
    else ([40, 63, 62, 46, 42, 63] ++ ((spanSome rest).1.flatten ++ [41])) :: joinGo (spanSome rest).2
termination_by parts.length
decreasing_by have := spanSome_le rest; simp; (first | lia | omega)
noncomputable def joinTr (parts : List (Option (List Nat))) : List Nat :=
  [40, 63, 115, 58] ++ (((spanSome parts).1 ++ joinGo (spanSome parts).2).flatten ++ [41, 92, 90])
noncomputable def stops (r : List (Option (List Nat))) : Prop := ∀ x, r ≠ some x :: r.tail
theorem span_of {pre : List (List Nat)} {r : List (Option (List Nat))} (h : r = [] ∨ ∃ t, r = none :: t) : spanSome (pre.map some ++ r) = (pre, r) := by
  induction pre with
  | nil => rcases h with rfl | ⟨t, rfl⟩ <;> rfl
  | cons x pre ih => rw [List.map_cons, List.cons_append, spanSome, ih]
theorem span_eq : ∀ r, r = (spanSome r).1.map some ++ (spanSome r).2
  | [] => rfl
  | none :: r => rfl
  | some x :: r => by rw [spanSome, List.map_cons, List.cons_append, ← span_eq r]
/-- no two stars stand side by side -/
noncomputable def apart : List (Option (List Nat)) → Prop
  | none :: none :: _ => False
  | _ :: r => apart r
  | [] => True
theorem apart_tail {x : Option (List Nat)} {r : List (Option (List Nat))} (h : apart (x :: r)) : apart r := by
  cases x with
  | some s => exact h
  | none => cases r with
    | nil => trivial
    | cons y r => cases y with
      | none => exact h.elim
      | some s => exact h
theorem apart_drop {r : List (Option (List Nat))} (h : apart r) : ∀ k, apart (r.drop k) := by
  intro k
  induction k generalizing r with
  | zero => exact h
  | succ k ih => cases r with
    | nil => exact h
    | cons x r => exact ih (apart_tail h)
noncomputable def small (parts : List (Option (List Nat))) : Prop := ∀ s, some s ∈ parts → s.length ≤ 2
theorem flat_small : ∀ (l : List (List Nat)), (∀ s ∈ l, s.length ≤ 2) → l.flatten.length ≤ 2 * l.length
  | [], _ => Nat.le_refl _
  | x :: l, h => by
    have h1 := h x (List.mem_cons_self ..)
    have h2 := flat_small l fun s hs => h s (List.mem_cons_of_mem _ hs)
    rw [List.flatten_cons, List.length_append, List.length_cons]; (first | lia | omega)
theorem span_small {r : List (Option (List Nat))} (h : small r) : (∀ s ∈ (spanSome r).1, s.length ≤ 2) ∧ small (spanSome r).2 := by
  have e := span_eq r
  constructor
  · intro s hs
    refine h s ?_
    rw [e]
    exact List.mem_append.mpr (.inl (List.mem_map_of_mem hs))
  · intro s hs
    refine h s ?_
    rw [e]
    exact List.mem_append.mpr (.inr hs)
theorem span_len (r : List (Option (List Nat))) : (spanSome r).1.length + (spanSome r).2.length = r.length := by
  have e := congrArg List.length (span_eq r)
  simp only [List.length_append, List.length_map] at e
  (first | lia | omega)
theorem joinGo_len (n : Nat) : ∀ parts, parts.length ≤ n → small parts → (joinGo parts).flatten.length ≤ 9 * parts.length ∧ (joinGo parts).length ≤ 2 * parts.length := by
  induction n with
  | zero =>
    intro parts h _
    have : parts = [] := List.length_eq_zero_iff.mp (by (first | lia | omega))
    subst this; rw [joinGo]; exact ⟨Nat.le_refl _, Nat.le_refl _⟩
  | succ n ih =>
    intro parts h hs
    cases parts with
    | nil => rw [joinGo]; exact ⟨Nat.le_refl _, Nat.le_refl _⟩
    | cons x rest =>
      have hs' : small rest := fun s m => hs s (List.mem_cons_of_mem _ m)
      obtain ⟨a, b⟩ := span_small hs'
      have c := flat_small _ a
      have d := span_len rest
      rw [List.length_cons] at h
      rw [joinGo]
      split
      · simp; (first | lia | omega)
      · rename_i hr
        have hrl : 0 < rest.length := List.length_pos_iff.mpr hr
        split
        · simp only [List.flatten_cons, List.flatten_nil, List.append_nil, List.length_append, List.length_cons, List.length_nil]
          (first | lia | omega)
        · obtain ⟨e1, e2⟩ := ih (spanSome rest).2 (by (first | lia | omega)) b
          simp only [List.flatten_cons, List.length_append, List.length_cons, List.length_nil]
          (first | lia | omega)
theorem EVj_lit {C : Cx} {σ : St} {x : Str} {k : Nat} {p : Pos} {es : List Expr} {l l' : List Nat} (hx : x.cps.toList = l') (h : okS l') (r : EVj C σ es l) : EVj C σ (.Constant (.str x) k p :: es) (l' ++ l) := by
  subst hx; exact .lit h r
end Mine
end
/-! Ez2 -/
section
open PySem PySem.W PyProof.Rows PySem.Builtin PySem.Builtin.Str
namespace Mine
theorem sAV_eq (l : List (List Nat)) : sAV l = (l.map FV.str).map .fv := by rw [sAV, List.map_map]; rfl
inductive JA (parts : List (Option (List Nat))) (star : FV) (m : Nat) (σ : St) : Prop
  | mk (m1 : σ.loc "inp" = some (.fv (.list (parts.map (sFV star))))) (m2 : σ.loc "STAR" = some (.fv star)) (m4 : σ.loc "res" = some (.own 0)) (m5 : σ.loc "add" = some (.app 0)) (m6 : σ.loc "n" = some (.fv (.int parts.length)))
    (i : Nat) (pre : List (List Nat)) (hi : i ≤ parts.length) (m7 : σ.loc "i" = some (.fv (.int i))) (m8 : σ.hp = [sAV pre]) (m9 : parts = pre.map some ++ parts.drop i) (hm : m = parts.length - i)
inductive JB (parts : List (Option (List Nat))) (ALL : List (List Nat)) (o : Out) (σ : St) : Prop
  | mk (ho : o = .next) (d1 : σ.loc "res" = some (.own 0)) (d2 : σ.loc "i" = some (.fv (.int parts.length))) (d3 : σ.loc "n" = some (.fv (.int parts.length))) (d4 : σ.hp = [sAV ALL])
inductive JC (parts : List (Option (List Nat))) (star : FV) (ALL : List (List Nat)) (m : Nat) (σ : St) : Prop
  | mk (m1 : σ.loc "inp" = some (.fv (.list (parts.map (sFV star))))) (m2 : σ.loc "STAR" = some (.fv star)) (m4 : σ.loc "res" = some (.own 0)) (m5 : σ.loc "add" = some (.app 0)) (m6 : σ.loc "n" = some (.fv (.int parts.length)))
    (i : Nat) (done : List (List Nat)) (hi : i ≤ parts.length) (m7 : σ.loc "i" = some (.fv (.int i))) (m8 : σ.hp = [sAV done]) (m9 : done ++ joinGo (parts.drop i) = ALL) (hs : parts.drop i = [] ∨ ∃ t, parts.drop i = none :: t) (hm : m = parts.length - i)
inductive JD (parts : List (Option (List Nat))) (star : FV) (done : List (List Nat)) (i m : Nat) (σ : St) : Prop
  | mk (c1 : σ.loc "inp" = some (.fv (.list (parts.map (sFV star))))) (c2 : σ.loc "STAR" = some (.fv star)) (c4 : σ.loc "res" = some (.own 0)) (c5 : σ.loc "add" = some (.app 0)) (c6 : σ.loc "n" = some (.fv (.int parts.length))) (c10 : σ.loc "fixed" = some (.own 1))
    (k : Nat) (fx : List (List Nat)) (hk : k ≤ parts.length) (hik : i + 1 ≤ k) (c7 : σ.loc "i" = some (.fv (.int k))) (c8 : σ.hp = [sAV done, sAV fx]) (c9 : parts.drop (i + 1) = fx.map some ++ parts.drop k) (hm : m = parts.length - k)
set_option maxHeartbeats 2000000
theorem join_calls (P : Params) (mb : Str → Option Value) (prog : Program) (w : World) (parts : List (Option (List Nat))) (star : FV) (hstar : Star star) (hlen : parts.length ≤ 1000) (hap : apart parts) (hsm : small parts) :
    CallsTo (frag P) (gm P) mb prog w 1 207 [.list (parts.map (sFV star)), star] (.str (joinTr parts)) := by
  refine callsTo_plain (names := ["inp", "STAR"]) (hK := by rfl) (hdat := by rfl) (hC := by rfl) (hcd := by rfl) (hc1 := by rfl) (by (intro vs h; match vs, h with | [v, u], _ => kernel_rfl)) (by decide +kernel) (by rfl) (by decide +kernel) rfl rfl rfl (by decide +kernel) ?_
  intro A L
  have hsz : sizeLine = 2 ^ 24 := sizeLine_eq
  refine EX_cons (EX1_assignA (EVA_list .nil (by decide)) (by kernel_rfl) (by kernel_rfl) ?_)
  show EX _ (St.set (St.alloc _ _) _ (.own 0)) _ _
  refine EX_cons (EX1_assign (EV_attr_append (k := 0) (xs := []) (by walk_at "loc") (by decide +kernel) (by rfl)) (by kernel_rfl) (by kernel_rfl) ?_)
  refine EX_cons (EX1_tuple_swapped (vs := [.fv (.int 0), .fv (.int parts.length)]) (names := ["i", "n"])
    (.cons (EVA_ev EV_int) (.cons (EVA_ev (EV_len (v := .fv (.list (parts.map (sFV star)))) (n := parts.length) (by (exact ⟨by kernel_rfl, by decide +kernel, by kernel_rfl, by decide +kernel, by decide +kernel⟩)) (by walk_at "ev") (by simp [lenAV]) (by rfl))) .nil (by rfl)) (by rfl)) (by rfl) (by simp) (fun x hx => by simp only [List.mem_cons, List.not_mem_nil, or_false] at hx; rcases hx with rfl | rfl <;> kernel_rfl) (by kernel_rfl) (by kernel_rfl) ?_)
  show EX _ ((St.set _ _ _).set _ _) _ _
  generalize hσ : (St.set (St.set _ _ _) _ _) = σ
  have l1 : σ.loc "inp" = some (.fv (.list (parts.map (sFV star)))) := by subst hσ; walk_at "loc"
  have l2 : σ.loc "STAR" = some (.fv star) := by subst hσ; walk_at "loc"
  have l4 : σ.loc "res" = some (.own 0) := by subst hσ; walk_at "loc"
  have l5 : σ.loc "add" = some (.app 0) := by subst hσ; walk_at "loc"
  have l6 : σ.loc "i" = some (.fv (.int ((0 : Nat) : Int))) := by subst hσ; exact loc_same _ _ _
  have l7 : σ.loc "n" = some (.fv (.int parts.length)) := by subst hσ; walk_at "loc"
  have l8 : σ.hp = [sAV []] := by subst hσ; rfl
  clear hσ
  -- reading an item
  have rd : ∀ {C : Cx} (σ : St) (i : Nat) (x : Option (List Nat)) (p q r : Pos), σ.loc "inp" = some (.fv (.list (parts.map (sFV star)))) → σ.loc "i" = some (.fv (.int i)) → parts[i]? = some x →
      EV C σ (.Subscript (.Name (Str.ofString "inp") p) (.Name (Str.ofString "i") q) r) (.fv (sFV star x)) := fun σ i x p q r h1 h2 h3 =>
    EV_sub (v := .fv (.list (parts.map (sFV star)))) (i := i) (by walk_at "ev") (by walk_at "ev") (item_list_nat (by rw [List.getElem?_map, h3]; rfl)) (by rfl) (by (intro _ _; rfl))
  -- the test `i < n and inp[i] is not STAR`
  have tst : ∀ {C : Cx} (σ : St) (i : Nat) (p1 p2 p3 p4 p5 p6 p7 p8 p9 : Pos), σ.loc "inp" = some (.fv (.list (parts.map (sFV star)))) → σ.loc "STAR" = some (.fv star) → σ.loc "i" = some (.fv (.int i)) → σ.loc "n" = some (.fv (.int parts.length)) → 
      EVb C σ (.BoolOp .And [.Compare (.Name (Str.ofString "i") p1) [.Lt] [.Name (Str.ofString "n") p2] p3, .Compare (.Subscript (.Name (Str.ofString "inp") p4) (.Name (Str.ofString "i") p5) p6) [.IsNot] [.Name (Str.ofString "STAR") p7] p8] p9) (parts[i]?.join.isSome) := by
    intro C σ i p1 p2 p3 p4 p5 p6 p7 p8 p9 h1 h2 h3 h4
    by_cases hlt : i < parts.length
    · obtain ⟨x, hx⟩ : ∃ x, parts[i]? = some x := ⟨_, List.getElem?_eq_getElem hlt⟩
      rw [hx]
      refine Bx (EVb_bool (EVall_and_cons (a := true) (Bx (EVb_cmp (f := .int i) (g := .int parts.length) (by walk_at "ev") (by walk_at "ev") (by rfl) (by rfl)) (decide_eq_true (by (first | lia | omega)))) fun _ => EVall_and_cons (EVb_cmp (rd σ i x _ _ _ h1 h3 hx) (by walk_at "ev") (isnot_star hstar x) (by rfl)) fun _ => EVall_and_nil)) ?_
      simp
    · rw [List.getElem?_eq_none (by (first | lia | omega))]
      exact Bx (EVb_bool (EVall_and_cons (a := false) (b := false) (Bx (EVb_cmp (f := .int i) (g := .int parts.length) (by walk_at "ev") (by walk_at "ev") (by rfl) (by rfl)) (decide_eq_false (by (first | lia | omega)))) fun h => by cases h)) rfl
  have dropc : ∀ {i : Nat} {x : Option (List Nat)}, parts[i]? = some x → parts.drop i = x :: parts.drop (i + 1) := fun {i x} h => by
    have hlt := (List.getElem?_eq_some_iff.mp h).1
    rw [List.drop_eq_getElem_cons hlt]; congr 1
    exact (List.getElem?_eq_some_iff.mp h).2
  have dropn : ∀ {i : Nat}, parts[i]?.join.isSome = false → i ≤ parts.length → parts.drop i = [] ∨ ∃ t, parts.drop i = none :: t := fun {i} h hi => by
    cases e : parts[i]? with
    | none => exact .inl (List.drop_of_length_le (List.getElem?_eq_none_iff.mp e))
    | some x => cases x with
      | none => exact .inr ⟨_, dropc e⟩
      | some s => rw [e] at h; cases h
  refine EX_cons (EX1_while (JA parts star) (parts.length - 0) ⟨l1, l2, l4, l5, l7, 0, [], Nat.zero_le _, l6, l8, rfl, rfl⟩ ?_)
  rintro m σ₁ ⟨m1, m2, m4, m5, m6, i, pre, hi, m7, m8, m9, rfl⟩
  refine ⟨_, tst σ₁ i _ _ _ _ _ _ _ _ _ m1 m2 m7 m6, fun hb => ?_, fun hb => ?_⟩
  · obtain ⟨x, hx⟩ : ∃ x, parts[i]? = some (some x) := by
      cases e : parts[i]? with
      | none => rw [e] at hb; cases hb
      | some x => cases x with
        | none => rw [e] at hb; cases hb
        | some x => exact ⟨x, rfl⟩
    have hlt := (List.getElem?_eq_some_iff.mp hx).1
    have hpl : pre.length ≤ 1000 := by have := congrArg List.length m9; simp at this; (first | lia | omega)
    refine EX_cons (EX1_add (k := 0) (xs := sAV pre) (v := .fv (.str x)) (by walk_at "loc") (by decide +kernel) (rd σ₁ i (some x) _ _ _ m1 m7 hx) (by rw [m8]; rfl) (by simp [sAV]; (first | lia | omega)) (by rfl) (by rfl) (by rfl) ?_)
    refine EX_one (EX1_aug (op := .Add) (a := i) (b := 1) (r := ((i + 1 : Nat) : Int)) (by walk_at "loc") EV_int (by rfl) (by kernel_rfl) ?_)
    refine ⟨parts.length - (i + 1), by (first | lia | omega), by walk_at "loc", by walk_at "loc", by walk_at "loc", by walk_at "loc", by walk_at "loc", i + 1, pre ++ [x], hlt, by walk_at "loc", ?_, ?_, rfl⟩
    · show σ₁.hp.set 0 _ = _
      rw [m8]; simp [sAV]
    · rw [List.map_append, List.append_assoc]
      show parts = pre.map some ++ (some x :: parts.drop (i + 1))
      rw [← dropc hx]; exact m9
  have hsp : spanSome parts = (pre, parts.drop i) := (congrArg spanSome m9).trans (span_of (dropn hb hi))
  have hstop := dropn hb hi
  have htot : joinTr parts = [40, 63, 115, 58] ++ ((pre ++ joinGo (parts.drop i)).flatten ++ [41, 92, 90]) := by rw [joinTr, hsp]
  have hsmp : (∀ s ∈ pre, s.length ≤ 2) ∧ small (parts.drop i) := by have := span_small hsm; rw [hsp] at this; exact this
  have hjl := joinGo_len _ (parts.drop i) (Nat.le_refl _) hsmp.2
  have hdl : (parts.drop i).length = parts.length - i := List.length_drop ..
  have hpl : pre.length ≤ 1000 := by have := congrArg List.length m9; simp at this; (first | lia | omega)
  have hall : (pre ++ joinGo (parts.drop i)).length ≤ 3000 := by rw [List.length_append]; (first | lia | omega)
  have hfl : (pre ++ joinGo (parts.drop i)).flatten.length ≤ 11000 := by
    have := flat_small pre hsmp.1
    rw [List.flatten_append, List.length_append]; (first | lia | omega)
  generalize hALL : pre ++ joinGo (parts.drop i) = ALL at htot hall hfl
  refine EX_cons (EX1.mono (P := JB parts ALL)
    (EX1_while (JC parts star ALL) (parts.length - i) ⟨m1, m2, m4, m5, m6, i, pre, hi, m7, m8, hALL, hstop, rfl⟩ ?_) ?_)
  · clear m1 m2 m4 m5 m6 m7 m8 m9 hsp hb hstop hjl hdl hpl hALL hsmp htot hi
    clear i pre σ₁
    rintro m σ₁ ⟨m1, m2, m4, m5, m6, i, done, hi, m7, m8, m9, hstop, rfl⟩
    refine ⟨decide ((i : Int) < parts.length), EVb_cmp (f := .int i) (g := .int parts.length) (by walk_at "ev") (by walk_at "ev") (by rfl) (by rfl), fun hb => ?_, fun hb => ?_⟩
    · have hlt : i < parts.length := by have := of_decide_eq_true hb; (first | lia | omega)
      have hx : parts[i]? = some none := by
        obtain ⟨x, hx⟩ : ∃ x, parts[i]? = some x := ⟨_, List.getElem?_eq_getElem hlt⟩
        have := dropc hx
        rcases hstop with h | ⟨t, h⟩
        · rw [h] at this; cases this
        · rw [h] at this; cases this; exact hx
      have hd := dropc hx
      have hdonel : done.length ≤ 3000 := by have := congrArg List.length m9; rw [List.length_append] at this; (first | lia | omega)
      refine EX_cons (EX1_assert (EVb_cmp (rd σ₁ i none _ _ _ m1 m7 hx) (by walk_at "ev") (is_star hstar none) (by rfl)) ?_)
      refine EX_cons (EX1_aug (op := .Add) (a := i) (b := 1) (r := ((i + 1 : Nat) : Int)) (by walk_at "loc") EV_int (by rfl) (by kernel_rfl) ?_)
      refine EX_cons (EX1_ift (c := ((i + 1 : Nat) : Int) == (parts.length : Int)) (EVb_cmp (op := .Eq) (f := .int ((i + 1 : Nat) : Int)) (g := .int parts.length) (by walk_at "ev") (by walk_at "ev") (cmp_eq_int _ _) (by rfl)) ?_ ?_)
      · intro he
        have he : i + 1 = parts.length := by have := eq_of_beq he; (first | lia | omega)
        have hnil : parts.drop (i + 1) = [] := List.drop_of_length_le (by (first | lia | omega))
        have hj : joinGo (parts.drop i) = [[46, 42]] := by rw [hd, hnil, joinGo, if_pos rfl]
        refine EX_cons (EX1_add (k := 0) (xs := sAV done) (v := .fv (.str [46, 42])) (by walk_at "loc") (by decide +kernel) (EV_lit (by decide +kernel) ⟨by decide, by decide⟩) (by show σ₁.hp[0]? = _; rw [m8]; rfl) (by simp [sAV]; (first | lia | omega)) (by rfl) (by rfl) (by rfl) ?_)
        refine EX_one (EX1_break ⟨rfl, by walk_at "loc", ?_, by walk_at "loc", ?_⟩)
        · rw [← he]; walk_at "loc"
        · show σ₁.hp.set 0 _ = _
          rw [m8, ← m9, hj]; simp [sAV]
      intro he
      have he : i + 1 < parts.length := by have : ¬ i + 1 = parts.length := fun q => by rw [q] at he; simp at he
                                           (first | lia | omega)
      obtain ⟨y, hy⟩ : ∃ y, parts[i + 1]? = some (some y) := by
        obtain ⟨x, hx2⟩ : ∃ x, parts[i + 1]? = some x := ⟨_, List.getElem?_eq_getElem he⟩
        cases x with
        | some y => exact ⟨y, hx2⟩
        | none =>
          have := apart_drop hap i
          rw [hd, dropc hx2] at this
          exact this.elim
      refine EX_nil ?_
      refine EX_cons (EX1_assert (EVb_cmp (rd _ (i + 1) (some y) _ _ _ (by walk_at "loc") (by walk_at "loc") hy) (by walk_at "ev") (isnot_star hstar (some y)) (by rfl)) ?_)
      refine EX_cons (EX1_assignA (EVA_list .nil (by decide)) (by kernel_rfl) (by kernel_rfl) ?_)
      have hp1 : (σ₁.set (Str.ofString "i") (.fv (.int ((i + 1 : Nat) : Int)))).hp.length = 1 := by show σ₁.hp.length = 1; rw [m8]; rfl
      rw [hp1]
      refine EX_cons (EX1_while (JD parts star done i) (parts.length - (i + 1))
        ⟨by walk_at "loc", by walk_at "loc", by walk_at "loc", by walk_at "loc", by walk_at "loc", by walk_at "loc", i + 1, [], by (first | lia | omega), Nat.le_refl _, by walk_at "loc", by show σ₁.hp ++ [[]] = _; rw [m8]; rfl, rfl, rfl⟩ ?_)
      rintro m σ₂ ⟨c1, c2, c4, c5, c6, c10, k, fx, hk, hik, c7, c8, c9, rfl⟩
      refine ⟨_, tst σ₂ k _ _ _ _ _ _ _ _ _ c1 c2 c7 c6, fun hb => ?_, fun hb => ?_⟩
      · obtain ⟨x, hx⟩ : ∃ x, parts[k]? = some (some x) := by
          cases e : parts[k]? with
          | none => rw [e] at hb; cases hb
          | some x => cases x with
            | none => rw [e] at hb; cases hb
            | some x => exact ⟨x, rfl⟩
        have hlt := (List.getElem?_eq_some_iff.mp hx).1
        have hfl2 : fx.length ≤ 1000 := by have := congrArg List.length c9; simp at this; (first | lia | omega)
        refine EX_cons (EX1_append (k := 1) (xs := sAV fx) (v := .fv (.str x)) (by walk_at "ev") (rd σ₂ k (some x) _ _ _ c1 c7 hx) (by rw [c8]; rfl) (by simp [sAV]; (first | lia | omega)) (by rfl) (by rfl) (by rfl) (by rfl) (by kernel_rfl) ?_)
        refine EX_one (EX1_aug (op := .Add) (a := k) (b := 1) (r := ((k + 1 : Nat) : Int)) (by walk_at "loc") EV_int (by rfl) (by kernel_rfl) ?_)
        refine ⟨parts.length - (k + 1), by (first | lia | omega), by walk_at "loc", by walk_at "loc", by walk_at "loc", by walk_at "loc", by walk_at "loc", by walk_at "loc", k + 1, fx ++ [x], hlt, by (first | lia | omega), by walk_at "loc", ?_, ?_, rfl⟩
        · show σ₂.hp.set 1 _ = _
          rw [c8]; simp [sAV]
        · rw [List.map_append, List.append_assoc]
          show parts.drop (i + 1) = fx.map some ++ (some x :: parts.drop (k + 1))
          rw [← dropc hx]; exact c9
      · have hsp : spanSome (parts.drop (i + 1)) = (fx, parts.drop k) := (congrArg spanSome c9).trans (span_of (dropn hb hk))
        have hstop2 := dropn hb hk
        have hne : parts.drop (i + 1) ≠ [] := fun q => by rw [dropc hy] at q; cases q
        have hsm2 : small (parts.drop (i + 1)) := fun s hs => hsm s (List.mem_of_mem_drop hs)
        have hfs : ∀ s ∈ fx, s.length ≤ 2 := by have := (span_small hsm2).1; rw [hsp] at this; exact this
        have hff := flat_small fx hfs
        have hfl2 : fx.length ≤ 1000 := by have := congrArg List.length c9; simp at this; (first | lia | omega)
        refine EX_cons (EX1_assign (v := .fv (.str fx.flatten)) (EV_join (ls := fx) (v := .own 1) (by decide +kernel) (by walk_at "ev") (.inr ⟨1, rfl, by rw [c8]; rfl⟩) (by (first | lia | omega)) (by rfl) (by rfl) (by rfl)) (by kernel_rfl) (by kernel_rfl) ?_)
        refine EX_freeze [sAV done] (fx.map .str) (Nat.zero_le _) (by show σ₂.hp = _; rw [c8, sAV_eq fx]; rfl) (fun xs hxs v hv => by
          cases List.mem_singleton.mp hxs
          obtain ⟨s, _, rfl⟩ := List.mem_map.mp hv; exact ⟨_, rfl⟩) ?_
        generalize hσ3 : (σ₂.set _ _).freeze _ _ = σ₃
        have d1 : σ₃.loc "inp" = some (.fv (.list (parts.map (sFV star)))) := by subst hσ3; exact loc_freeze_fv (by walk_at "loc")
        have d2 : σ₃.loc "STAR" = some (.fv star) := by subst hσ3; exact loc_freeze_fv (by walk_at "loc")
        have d4 : σ₃.loc "res" = some (.own 0) := by subst hσ3; exact loc_freeze_own (by walk_at "loc") (Nat.zero_ne_one)
        have d5 : σ₃.loc "add" = some (.app 0) := by subst hσ3; exact loc_freeze_app (by walk_at "loc") (Nat.zero_ne_one)
        have d6 : σ₃.loc "n" = some (.fv (.int parts.length)) := by subst hσ3; exact loc_freeze_fv (by walk_at "loc")
        have d7 : σ₃.loc "i" = some (.fv (.int k)) := by subst hσ3; exact loc_freeze_fv (by walk_at "loc")
        have d9 : σ₃.loc "fixed" = some (.fv (.str fx.flatten)) := by subst hσ3; exact loc_freeze_fv (by walk_at "loc")
        have d8 : σ₃.hp = [sAV done] := by subst hσ3; rfl
        clear hσ3
        refine EX_one (EX1_ift (c := (k : Int) == (parts.length : Int)) (EVb_cmp (op := .Eq) (f := .int k) (g := .int parts.length) (by walk_at "ev") (by walk_at "ev") (cmp_eq_int _ _) (by rfl)) ?_ ?_)
        · intro he2
          have he2 : k = parts.length := by have := eq_of_beq he2; (first | lia | omega)
          have hnil : parts.drop k = [] := List.drop_of_length_le (by (first | lia | omega))
          have hj : joinGo (parts.drop i) = [[46, 42], fx.flatten] := by rw [hd, joinGo, if_neg hne, hsp, if_pos hnil]
          refine EX_cons (EX1_add (k := 0) (xs := sAV done) (v := .fv (.str [46, 42])) (by walk_at "loc") (by decide +kernel) (EV_lit (by decide +kernel) ⟨by decide, by decide⟩) (by rw [d8]; rfl) (by simp [sAV]; (first | lia | omega)) (by rfl) (by rfl) (by rfl) ?_)
          refine EX_one (EX1_add (k := 0) (xs := sAV (done ++ [[46, 42]])) (v := .fv (.str fx.flatten)) (by walk_at "loc") (by decide +kernel) (by walk_at "ev") (by show (σ₃.hp.set 0 _)[0]? = _; rw [d8]; simp [sAV]) (by simp [sAV]; (first | lia | omega)) (by rfl) (by rfl) (by rfl) ?_)
          refine ⟨parts.length - k, by (first | lia | omega), by walk_at "loc", by walk_at "loc", by walk_at "loc", by walk_at "loc", by walk_at "loc", k, done ++ [[46, 42], fx.flatten], hk, by walk_at "loc", ?_, ?_, hstop2, rfl⟩
          · show (σ₃.hp.set 0 _).set 0 _ = _
            rw [d8]; simp [sAV]
          · rw [← m9, hj, hnil, joinGo]; simp
        · intro he2
          have he2 : parts.drop k ≠ [] := fun q => by
            have := congrArg List.length q
            rw [List.length_drop, List.length_nil] at this
            have hk2 : k = parts.length := by (first | lia | omega)
            rw [hk2] at he2; simp at he2
          have hj : joinGo (parts.drop i) = ([40, 63, 62, 46, 42, 63] ++ (fx.flatten ++ [41])) :: joinGo (parts.drop k) := by rw [hd, joinGo, if_neg hne, hsp, if_neg he2]
          refine EX_one (EX1_add (k := 0) (xs := sAV done) (v := .fv (.str ([40, 63, 62, 46, 42, 63] ++ (fx.flatten ++ [41])))) (by walk_at "loc") (by decide +kernel) ?_ (by rw [d8]; rfl) (by simp [sAV]; (first | lia | omega)) (by rfl) (by rfl) (by rfl) ?_)
          · refine EV_joined (EVj_lit (by decide +kernel) ⟨by decide, by decide⟩ (.val (by walk_at "ev") (EVj_lit (l := []) (l' := [41]) (by decide +kernel) ⟨by decide, by decide⟩ .nil))) ?_
            simp only [List.length_append, List.length_cons, List.length_nil]
            (first | lia | omega)
          refine ⟨parts.length - k, by (first | lia | omega), by walk_at "loc", by walk_at "loc", by walk_at "loc", by walk_at "loc", by walk_at "loc", k, done ++ [[40, 63, 62, 46, 42, 63] ++ (fx.flatten ++ [41])], hk, by walk_at "loc", ?_, ?_, hstop2, rfl⟩
          · show σ₃.hp.set 0 _ = _
            rw [d8]; simp [sAV]
          · rw [← m9, hj]; simp
    · have hin : i = parts.length := by have := of_decide_eq_false hb; (first | lia | omega)
      subst hin
      refine ⟨rfl, m4, m7, m6, ?_⟩
      rw [m8, ← m9, List.drop_length, joinGo, List.append_nil]
  · rintro o σ₄ ⟨rfl, d1, d2, d3, d4⟩
    refine EX_cons (EX1_assert (Bx (EVb_cmp (op := .Eq) (f := .int parts.length) (g := .int parts.length) (by walk_at "ev") (by walk_at "ev") (cmp_eq_int _ _) (by rfl)) (by simp)) ?_)
    refine EX_cons (EX1_assign (v := .fv (.str ALL.flatten)) (EV_join (ls := ALL) (v := .own 0) (by decide +kernel) (by walk_at "ev") (.inr ⟨0, rfl, by rw [d4]; rfl⟩) (by (first | lia | omega)) (by rfl) (by rfl) (by rfl)) (by kernel_rfl) (by kernel_rfl) ?_)
    refine EX_one (EX1_return (v := .fv (.str (joinTr parts))) ?_ ⟨0, by rw [resolve]⟩)
    rw [htot]
    refine EV_joined (EVj_lit (by decide +kernel) ⟨by decide, by decide⟩ (.val (by walk_at "ev") (EVj_lit (l := []) (l' := [41, 92, 90]) (by decide +kernel) ⟨by decide, by decide⟩ .nil))) ?_
    simp only [List.length_append, List.length_cons, List.length_nil]
    (first | lia | omega)
end Mine
end
/-! Eo1 -/
section
open PySem PySem.W PyProof.Rows PySem.Builtin PySem.Builtin.Str
namespace Mine

theorem mro_object : mroOf (.type "object") = pure [.type "object"] := by rw [mroOf_type]; kernel_rfl
theorem lookup_object_new : typeLookup (.type "object") "__new__" = pure (some (.builtin "object.__new__")) := by rw [typeLookup_type, builtinLookup_eq_fast]; kernel_rfl
theorem slotObjInit : Slot "object" "__init__" "object.__init__" := .of (owner := "object") (n := "__init__") (by rw [typeLookup_type, builtinLookup_eq_fast]; kernel_rfl) (by decide +kernel) (by decide +kernel) (by decide +kernel)
    (.inl (by decide +kernel)) (by rw [isSubtype_type]; kernel_rfl)
theorem called_object : TypeCalled "object" "object.__new__" "object.__init__" :=
  ⟨by decide +kernel, by decide +kernel, ⟨_, _, mro_object⟩, madeBy_type mro_object lookup_object_new (by decide +kernel), by decide +kernel, by rw [isSubtype_type]; kernel_rfl, slotObjInit⟩
theorem madeHere_object : Bind.madeHere "object.__new__" (.type "object") = pure () := by
  unfold Bind.madeHere
  have e : Bind.staticBase (.type "object") = pure (.type "object") := by
    have h := called_object.made
    unfold Bind.staticBase
    simp only [mro_object, pure_bind, List.forIn_cons, List.forIn_nil, h]
    rfl
  rw [e]
  simp only [pure_bind, called_object.made]
  first | rfl | kernel_rfl | (simp; rfl)
noncomputable abbrev plainObj : Obj := { cls := .type "object", data := .plain }
theorem meets_object_new : Meets (Builtin.«object.__new__» ⟨[.type "object"], []⟩) (fun _ R s => R (.ok (.ret (.ref s.heap.objs.size))) { s with heap := s.heap.push plainObj }) :=
  .of_wp fun prog w A R s h => by
    obtain ⟨hp, g, d, tk, os⟩ := s
    have hmh := madeHere_object
    wp_walk
    exact ⟨_, rfl, h⟩
theorem objectInit_meets (self : Value) : Meets (Builtin.«object.__init__» ⟨[self], []⟩) (fun _ R s => R (.ok (.ret .none)) s) := by
  refine Meets.of_wp fun prog w A R s hs => ?_
  exact wpAny_pure ⟨_, rfl, hs⟩
theorem call_object {prog : Program} {w : World} {A : Around} {E : Value → Shared → Prop} {s : Shared} {Q : Value → Shared → Prop} (h : Q (.ref s.heap.objs.size) { s with heap := s.heap.push plainObj }) :
    wpAny (model prog w) A (call (.type "object") []) Q E s := by
  refine callType_meets (Q₁ := fun obj s₁ => s₁.TypeIs obj "object" ∧ Q obj s₁) called_object (by kernel_rfl) (by kernel_rfl) PySem.F.entry_object_new PySem.F.entry_object_init meets_object_new ?_ fun obj s₁ hq => ⟨hq.1, by unfold argsOk; kernel_rfl, _, objectInit_meets obj, rfl, hq.2⟩
  exact ⟨⟨_, Heap.get?_push_size _ rfl, rfl⟩, h⟩
end Mine
end
/-! Ez3 -/
section
open PySem PySem.W PyProof.Rows PySem.Builtin PySem.Builtin.Str
namespace Mine
theorem EX1_object {C : Cx} {σ : St} {P : Out → St → Prop} {x : Str} {p np q r : Pos} (b : Bi C "object" (.type "object")) (hl : C.env.kindOf x = some .local) (hs : swapsWith (.Call (.Name (Str.ofString "object") np) [] [] q) (some (.Name x p)) r.line C.env = pure false)
    (h : ∀ a, P .next (σ.set x (.fv (.obj a)))) : EX1 C σ (.Assign [.Name x p] (.Call (.Name (Str.ofString "object") np) [] [] q) r) P := by
  intro H ρ s hg R
  refine wpAny_Assign_Name (wpAny_Call_NameR (glob_builtin hg R.e b.hx b.hd b.hm b.hn b.hb (callWith_type0 (call_object ?_)))) hs
  have k := keeps_push s plainObj
  have hv : VR (Hh H ρ (s.heap.push plainObj)) ρ (.fv (.obj s.heap.objs.size)) (.ref s.heap.objs.size) := .fv (.obj (o := plainObj) (Hh_new (s := s) R.e (Nat.le_refl _) (Heap.get?_push_size _ rfl)) rfl rfl)
  refine store_ok hg (R.keeps hg k) hv hl fun s₂ R₂ st => ?_
  exact ⟨ρ, _, .next, R₂, (Step.of_keeps k).trans st R₂.nmut, .next, h _⟩

theorem apart_snoc : ∀ (acc : List (Option (List Nat))) (x : Option (List Nat)), apart acc → (x = none → acc = [] ∨ acc.getLast?.join.isSome = true) → apart (acc ++ [x])
  | [], x, _, _ => by cases x <;> trivial
  | [none], none, _, h => by rcases h rfl with h | h <;> cases h
  | [none], some s, _, _ => trivial
  | [some s], x, _, _ => by cases x <;> trivial
  | none :: none :: r, x, h, _ => h.elim
  | none :: some s :: r, x, h, hx => apart_snoc (some s :: r) x h fun e => by
      rcases hx e with h | h
      · cases h
      · exact .inr (by simpa using h)
  | some s :: y :: r, x, h, hx => apart_snoc (y :: r) x h fun e => by
      rcases hx e with h | h
      · cases h
      · exact .inr (by simpa using h)
theorem trans_good (qm : List Nat) (hq : qm.length ≤ 2) : ∀ (pat : List Nat) (acc : List (Option (List Nat))), apart acc → small acc → apart (pat.foldl (trStep qm) acc) ∧ small (pat.foldl (trStep qm) acc)
  | [], acc, h1, h2 => ⟨h1, h2⟩
  | c :: pat, acc, h1, h2 => by
    rw [List.foldl_cons]
    refine trans_good qm hq pat _ ?_ ?_
    · unfold trStep
      split
      · split
        · rename_i h
          refine apart_snoc acc none h1 fun _ => ?_
          simp only [Bool.or_eq_true, List.isEmpty_iff] at h
          exact h
        · exact h1
      · split
        · exact apart_snoc acc _ h1 fun h => by cases h
        · exact apart_snoc acc _ h1 fun h => by cases h
    · have key : ∀ l : List Nat, l.length ≤ 2 → small (acc ++ [some l]) := fun l hl s hs => by
        rcases List.mem_append.mp hs with h | h
        · exact h2 s h
        · cases List.mem_singleton.mp h; exact hl
      unfold trStep
      split
      · split
        · intro s hs
          rcases List.mem_append.mp hs with h | h
          · exact h2 s h
          · cases List.mem_singleton.mp h
        · exact h2
      · split
        · exact key _ hq
        · exact key _ (by unfold escS; split <;> simp)

set_option maxHeartbeats 1000000
theorem tr_calls (P : Params) (mb : Str → Option Value) (prog : Program) (w : World) (pat : List Nat) (hlen : pat.length ≤ 1000) (hpat : ∀ c ∈ pat, c < 128 ∧ c ≠ 91) :
    CallsTo (frag P) (gm P) mb prog w 3 181 [.str pat] (.str (joinTr (trans [46] pat))) := by
  refine callsTo_plain (names := ["pat"]) (hK := by rfl) (hdat := by rfl) (hC := by rfl) (hcd := by rfl) (hc1 := by rfl) (by (intro vs h; match vs, h with | [v], _ => kernel_rfl)) (by decide +kernel) (by rfl) (by decide +kernel) rfl rfl rfl (by decide +kernel) ?_
  intro A L
  obtain ⟨h1, h2⟩ := trans_good [46] (by decide) pat [] trivial (fun _ h => by cases h)
  have hl := trans_len [46] pat []
  refine EX_cons (EX1_doc (by rfl) (by kernel_rfl) ?_)
  refine EX_cons (EX1_object (by (exact ⟨by kernel_rfl, by decide +kernel, by kernel_rfl, by decide +kernel, by decide +kernel⟩)) (by kernel_rfl) (by kernel_rfl) fun a => ?_)
  have hs : Star (.obj a) := .inr ⟨a, rfl⟩
  refine EX_cons (EX1_assign (v := .fv (.list ((trans [46] pat).map (sFV (.obj a))))) (EV_call3 (by (exact ⟨by kernel_rfl, by decide +kernel, by kernel_rfl, ⟨_, _, rfl, rfl⟩⟩)) (translate_calls P mb prog w pat [46] (.obj a) hs hlen hpat) (by (exact Nat.le_of_ble_eq_true rfl)) (by walk_at "ev") (by walk_at "ev") (EV_lit (by decide +kernel) ⟨by decide, by decide⟩) (by rfl) (by rfl) (by rfl)) (by kernel_rfl) (by kernel_rfl) ?_)
  refine EX_one (EX1_return (v := .fv (.str (joinTr (trans [46] pat)))) (EV_call2 (by (exact ⟨by kernel_rfl, by decide +kernel, by kernel_rfl, ⟨_, _, rfl, rfl⟩⟩)) (join_calls P mb prog w (trans [46] pat) (.obj a) hs ?_ h1 h2) (by (exact Nat.le_of_ble_eq_true rfl)) (by walk_at "ev") (by walk_at "ev") (by rfl) (by rfl)) ⟨0, by rw [resolve]⟩)
  simp only [List.length_nil] at hl
  unfold trans
  (first | lia | omega)
end Mine
end
/-! Em1 -/
section
open PySem PySem.W PySem.Calls PyProof.Rows PySem.Builtin
namespace Mine
theorem find_getitem (P : Params) : findIn (frag P) (.ref 159) "__getitem__" = some (some (.builtin "tuple.__getitem__")) := by kernel_rfl
theorem mro_sub (P : Params) : mroIn (frag P) 159 (.type "tuple") = some true := by kernel_rfl
theorem meets_getitem_mm (l : Addr) (cls : Value) (dd : Option Addr) (items : Array Value) (n : Nat) (u : Tok) (y : Value) (hy : items[0]? = some y) :
    Meets (Builtin.«tuple.__getitem__» ⟨[.ref l, .int 0 u], []⟩) (fun _ R s => s.heap.get? l = some { cls := cls, dict := dd, data := .seq items n, slots := #[] } ∧ R (.ok (.ret y)) s) :=
  .of_wp fun prog w A R s h => by
    obtain ⟨hp, g, d, tk, os⟩ := s; obtain ⟨hl, h⟩ := h
    have h0 := (Array.getElem?_eq_some_iff.mp hy).1
    have hk : seqIndex? 0 items.size = some 0 := by simp [seqIndex?, h0]
    have f1 := AutoSeq1.idx_int
    have hf : ¬ (decide ((0 : Int) < -2 ^ 63) || decide ((0 : Int) ≥ 2 ^ 63)) = true := by decide
    wp_walk using PySem.wpAny_loadPart' hl
    simp only [hk, hy, Option.bind_some]
    exact wpAny_pure ⟨_, rfl, h⟩
theorem getItem_mm {P : Params} {prog : Program} {w : World} {A : Around} {E : Value → Shared → Prop} {s : Shared} {a : Addr} {vs : Array Value} {n : Nat} {dd : Option Addr} {x : Value} {t : Tok} {Q : Value → Shared → Prop}
    (X : (frag P).In s.heap) (ho : s.heap.get? a = some { cls := .ref 159, dict := dd, data := .seq vs n }) (hx : vs[0]? = some x) (hq : Q x s) : wpAny (model prog w) A (getItem (.ref a) (.int 0 t)) Q E s := by
  obtain ⟨h, g, d, tk, os⟩ := s
  have t1 : Looks (model prog w) h (typeOf (.ref a)) (.ref 159) := (Looks.ld ho).andThen .now
  have t2 : Looks (model prog w) h (typeLookup (.ref 159) "__getitem__") (some (.builtin "tuple.__getitem__")) := looks_findIn X (find_getitem P)
  have t3 : Looks (model prog w) h (isSubtype (.ref 159) (.type "tuple")) true := looks_mroIn X (mro_sub P)
  have t4 : Looks (model prog w) h (isSubtype (.ref 159) (.type "collections.deque")) false := looks_mroIn X (by kernel_rfl)
  have t5 : Looks (model prog w) h (isInstance (.ref a) (.type "tuple")) true := t1.andThen t3
  unfold getItem sequenceKey callSpecial? specialOf
  repeat (first | with_reducible refine wpAny_call ?_ | lk)
  have gg := meets_getitem_mm a (.ref 159) dd vs n t x hx
  have hk1 : builtinKind "tuple.__getitem__" = some .slot := by decide +kernel
  have hk2 : splitId "tuple.__getitem__" = some ("tuple", "__getitem__") := by decide +kernel
  refine codeAny_call_builtin (id := "tuple.__getitem__") (args := ⟨[.ref a, .int 0 t], []⟩) (by decide +kernel) PySem.F.entry_tuple_getitem ?_
  refine check_slot (i := "tuple.__getitem__") (owner := "tuple") (n := "__getitem__") (self := .ref a) (rest := [.int 0 t]) (kw := []) hk1 hk2 t5 (PySem.F.args_tuple_getitem_2 _ _) ?_
  refine gg prog w A (wants _ _) _ ⟨ho, ?_⟩
  exact wpAny_pure (wpAny_pure hq)
end Mine
end
/-! Em2 -/
section
open PySem PySem.W PyProof.Rows PySem.Builtin PySem.Builtin.Str
namespace Mine
theorem EV_mm0 {P : Params} {C : Cx} {σ : St} {x : Str} {px p : Pos} {slice : Expr} {f : FV} {fs : List FV} (hK : C.K = frag P) (hv : EV C σ (.Name x px) (.fv (.mm (f :: fs)))) (hs : EV C σ slice (.fv (.int 0)))
    (hsl : ∀ o j, subscripted slice false o j = operate [o, j] (getItem o j)) : EV C σ (.Subscript (.Name x px) slice p) (.fv f) := by
  intro H ρ s Q E hg R h
  rw [eval_Subscript]
  refine wpAny_bind (hv H ρ s _ E hg R fun o s₁ k₁ ho => wpAny_bind (wpAny_holding (hs H ρ s₁ _ E hg (R.keeps hg.gm k₁) fun j s₂ k₂ hj => wpAny_bind (wpAny_standAt ?_))))
  cases hj with | fv hj =>
  cases hj with | int _ t =>
  have k12 := keeps_trans k₁ k₂
  have R₂ := R.keeps hg.gm k12
  have ho' := ho.mono (Hh_keeps k₂)
  cases ho' with | fv ho' =>
  cases ho' with | @mm a vs n dd _ hp hsz hb hi =>
  have hp' : s₂.heap.get? a = some { cls := .ref 159, dict := dd, data := .seq vs n } := of_hideAll _ hp
  have X : (frag P).In s₂.heap := hK ▸ (Hh_g R₂).inK
  obtain ⟨y, hy⟩ : ∃ y, vs[0]? = some y := ⟨_, Array.getElem?_eq_getElem (by rw [hsz]; simp)⟩
  have hfy : FR (Hh H ρ s₂.heap) f y := hi 0 f y rfl hy
  rw [getitemInPython_of_ne (by intro q; cases q)]
  have t1 : Looks (model C.prog C.w) s₂.heap (typeOf (.ref a)) (.ref 159) := (Looks.ld hp').andThen .now
  have t2 : Looks (model C.prog C.w) s₂.heap (typeLookup (.ref 159) "__getitem__") (some (.builtin "tuple.__getitem__")) := looks_findIn X (find_getitem P)
  have t3 : Looks (model C.prog C.w) s₂.heap (specialOf (.ref a) "__getitem__") (some (.builtin "tuple.__getitem__")) := t1.andThen t2
  refine wpAny_bind (wpAny_bind (t3.here (wpAny_pure ?_)))
  rw [hsl]
  refine wpAny_bind ?_
  refine wpAny_operating (getItem_mm X hp' hy (wpAny_bind (wpAny_of_eq (a := ()) rfl (wpAny_pure ?_))))
  exact h _ _ k12 (.fv hfy)
end Mine
end
/-! Ey1 -/
section
open PySem PySem.W PyProof.Rows PySem.Builtin PySem.Builtin.Str
namespace Mine
noncomputable def facN : Nat → Nat
  | 0 => 1
  | n + 1 => (n + 1) * facN n
theorem facN_small : ∀ n, n ≤ 10 → facN n ≤ 3628800 := by decide

set_option maxHeartbeats 1000000
theorem product_calls (P : Params) (mb : Str → Option Value) (prog : Program) (w : World) (n : Nat) (hn : n ≤ 10) : CallsTo (frag P) (gm P) mb prog w 1 245 [.int n] (.int (facN n)) := by
  refine callsTo_plain (names := ["number"]) (hK := by rfl) (hdat := by rfl) (hC := by rfl) (hcd := by rfl) (hc1 := by rfl) (by (intro vs h; match vs, h with | [v], _ => kernel_rfl)) (by decide +kernel) (by rfl) (by decide +kernel) rfl rfl rfl (by decide +kernel) ?_
  intro A L
  refine EX_cons (EX1_assign EV_int (by kernel_rfl) (by kernel_rfl) ?_)
  refine EX_cons (EX1_forR (SRC_range2 (by (exact ⟨by kernel_rfl, by decide +kernel, by kernel_rfl, by decide +kernel, by decide +kernel⟩)) EV_int (EV_bin (by walk_at "ev") EV_int (by rfl)) (by (first | lia | omega)) (by (first | lia | omega)) (by rfl) (by rfl)) (by intro x; rfl) (by kernel_rfl)
    (fun i σ => σ.loc "product" = some (.fv (.int (facN (i + 1))))) (loc_same _ _ _) ?_ ?_)
  · intro i σ h1 hi
    have hb := facN_small (i + 1) (by (first | lia | omega))
    refine EX_cons (EX1_aug (op := .Mult) (a := facN (i + 1)) (b := 2 + (i : Int)) (by walk_at "loc") (by walk_at "ev") (aug_mul (by simp only [big]; (first | lia | omega))) (by kernel_rfl) ?_)
    refine EX_nil ?_
    show St.loc (St.set _ _ _) _ = _
    rw [loc_same]
    show _ = some (AV.fv (.int (((i + 2) * facN (i + 1) : Nat) : Int)))
    congr 3
    rw [Int.mul_comm, Int.natCast_mul]
    congr 1
    (first | lia | omega)
  · intro σ hi
    refine EX_cons (EX1_return (by walk_at "ev") ⟨0, ?_⟩)
    have e : facN (((n : Int) + 1 - 2).toNat + 1) = facN n := by
      rcases Nat.eq_zero_or_pos n with rfl | h
      · rfl
      · congr 1; (first | lia | omega)
    rw [resolve, e]
end Mine
end
/-! Ew1 -/
section
open PySem PySem.W PyProof.Rows PySem.Builtin PySem.Builtin.Str
namespace Mine
noncomputable abbrev mmFV (r : Nat × List Nat) : FV := .mm [.int r.1, .int 0, .str r.2]
noncomputable def amountOf (rows : List (Nat × List Nat)) (size : Nat) : Nat := rows.foldl (fun a r => a / facN r.1) (facN size)
theorem facN_pos : ∀ n, 0 < facN n
  | 0 => by decide
  | n + 1 => Nat.mul_pos (Nat.succ_pos n) (facN_pos n)
set_option maxHeartbeats 1000000
theorem amount_calls (P : Params) (mb : Str → Option Value) (prog : Program) (w : World) (rows : List (Nat × List Nat)) (size : Nat) (hs : size ≤ 10) (hr : ∀ r ∈ rows, r.1 ≤ 10) :
    CallsTo (frag P) (gm P) mb prog w 2 252 [.list (rows.map mmFV), .int size] (.int (amountOf rows size)) := by
  refine callsTo_plain (names := ["rows", "size"]) (hK := by rfl) (hdat := by rfl) (hC := by rfl) (hcd := by rfl) (hc1 := by rfl) (by (intro vs h; match vs, h with | [v, u], _ => kernel_rfl)) (by decide +kernel) (by rfl) (by decide +kernel) rfl rfl rfl (by decide +kernel) ?_
  intro A L
  refine EX_cons (EX1_assign (v := .fv (.int (facN size))) (EV_call1 (by (exact ⟨by kernel_rfl, by decide +kernel, by kernel_rfl, ⟨_, _, rfl, rfl⟩⟩)) (product_calls P mb prog w size hs) (by (exact Nat.le_of_ble_eq_true rfl)) (by walk_at "ev") (by rfl)) (by kernel_rfl) (by kernel_rfl) ?_)
  refine EX_cons (EX1_forL (xs := rows.map mmFV) (SRC_list (by walk_at "ev")) (by intro x; rfl) (by kernel_rfl)
    (fun i σ => σ.loc "amount" = some (.fv (.int (amountOf (rows.take i) size)))) (loc_same _ _ _) ?_ ?_)
  · intro i f σ hf m1
    rw [List.getElem?_map] at hf
    obtain ⟨r, hr', rfl⟩ := Option.map_eq_some_iff.mp hf
    have hrl := hr r (List.mem_of_getElem? hr')
    have hb := facN_small r.1 hrl
    have hp := facN_pos r.1
    have e : amountOf (rows.take (i + 1)) size = amountOf (rows.take i) size / facN r.1 := by rw [amountOf, List.take_add_one, hr', List.foldl_append]; rfl
    refine EX_one (EX1_aug (op := .FloorDiv) (a := amountOf (rows.take i) size) (b := facN r.1) (r := (amountOf (rows.take (i + 1)) size : Nat)) (by walk_at "loc")
      (EV_call1 (by (exact ⟨by kernel_rfl, by decide +kernel, by kernel_rfl, ⟨_, _, rfl, rfl⟩⟩)) (product_calls P mb prog w r.1 hrl) (by (exact Nat.le_of_ble_eq_true rfl)) (EV_mm0 (f := .int r.1) (fs := [.int 0, .str r.2]) rfl (by walk_at "ev") EV_int (by (intro _ _; rfl))) (by rfl)) ?_ (by kernel_rfl) ?_)
    · rw [e]
      refine (if_pos ⟨by (first | lia | omega), by (first | lia | omega)⟩).trans ?_
      rw [Int.natCast_ediv, Int.fdiv_eq_ediv_of_nonneg _ (by (first | lia | omega))]
    · exact loc_same _ _ _
  · intro σ m1
    rw [List.length_map, List.take_length] at m1
    exact EX_one (EX1_return (by walk_at "ev") ⟨0, by rw [resolve]⟩)
end Mine
end
/-! Ey2 -/
section
open PySem PySem.W PyProof.Rows PySem.Builtin PySem.Builtin.Str
namespace Mine
noncomputable def fitsB (piece : List (List Nat)) (name : List Nat) (place : Nat) : Bool :=
  !decide (name.length < place + piece.length) && (piece.zip (name.drop place)).all fun p => ([] == p.1) || ([p.2] == p.1)

set_option maxHeartbeats 40000
theorem fits_calls (P : Params) (mb : Str → Option Value) (prog : Program) (w : World) (piece : List (List Nat)) (name : List Nat) (place : Nat) :
    CallsTo (frag P) (gm P) mb prog w 1 224 [.list (piece.map .str), .str name, .int place] (.bool (fitsB piece name place)) := by

  refine callsTo_plain (names := ["piece", "name", "place"]) (hK := by rfl) (hdat := by rfl) (hC := by rfl) (hcd := by rfl) (hc1 := by rfl) (by (intro vs h; match vs, h with | [v, u, z], _ => kernel_rfl)) (by decide +kernel) (by rfl) (by decide +kernel) rfl rfl rfl (by decide +kernel) ?_
  intro A L
  refine EX_cons (EX1_if (c := decide ((name.length : Int) < place + piece.length)) (EVb_cmp (f := .int (place + piece.length)) (g := .int name.length) ?_ ?_ (by rfl) (by rfl)) ?_)
  · refine EV_bin (by walk_at "ev") (EV_len (v := .fv (.list (piece.map .str))) (n := piece.length) (by (exact ⟨by kernel_rfl, by decide +kernel, by kernel_rfl, by decide +kernel, by decide +kernel⟩)) (by walk_at "ev") (by simp [lenAV]) (by rfl)) (by rfl)
  · exact EV_len (v := .fv (.str name)) (n := name.length) (by (exact ⟨by kernel_rfl, by decide +kernel, by kernel_rfl, by decide +kernel, by decide +kernel⟩)) (by walk_at "ev") (by rfl) (by rfl)
  · split
    · rename_i h
      refine EX_cons (EX1_return EV_bool ⟨0, ?_⟩)
      have : name.length < place + piece.length := by have := of_decide_eq_true h; (first | lia | omega)
      simp [fitsB, this, resolve]
    · rename_i h
      refine EX_nil ?_
      have hc : ¬ name.length < place + piece.length := fun q => h (decide_eq_true (by (first | lia | omega)))
      have hrows : ((piece.map FV.str).zip (cutN name (some (place : Int)) none)).map (fun f => [(Str.ofString "sign", f.1), (Str.ofString "found", FV.str [f.2])]) =
          (piece.zip (name.drop place)).map (fun f => [(Str.ofString "sign", FV.str f.1), (Str.ofString "found", FV.str [f.2])]) := by
        rw [cutN_from, List.zip_map_left, List.map_map]; rfl
      let g : List Nat × Nat → Option FV := fun p => if ([] == p.1) || ([p.2] == p.1) then none else some (.str p.1)
      have hpy : ∀ l : List (List Nat × Nat), ∃ ds, toPys (l.filterMap g) = some ds := by
        intro l
        induction l with
        | nil => exact ⟨[], by rw [List.filterMap_nil, toPys]⟩
        | cons p l ih =>
          obtain ⟨ds, e⟩ := ih
          rw [List.filterMap_cons]
          simp only [g]
          split
          · exact ⟨ds, e⟩
          · rename_i q; split at q
            · cases q
            · cases q; rw [toPys, toPy_str, e]; exact ⟨_, rfl⟩
      obtain ⟨ds, hds⟩ := hpy (piece.zip (name.drop place))
      refine EX_cons (EX1_return (EV_cmp (op := .Eq) (g := .list []) (EV_comp0 (piece.zip (name.drop place)) (fun f => [(Str.ofString "sign", FV.str f.1), (Str.ofString "found", FV.str [f.2])]) g ["sign", "found"]
        (SRC_zip (by (exact ⟨by kernel_rfl, by decide +kernel, by kernel_rfl, by decide +kernel, by decide +kernel⟩)) (by walk_at "ev") (EV_slice_str (lo := some place) (hi := none) (by walk_at "ev") (by show EV _ _ _ _; walk_at "ev") trivial) (by rfl) (by rfl)) hrows (by intro x; rfl)
        (by decide +kernel) (by decide +kernel) rfl (by decide +kernel) (fun _ => rfl) (by decide +kernel) ?_) nil_list (cmp_eq_nil hds) (by rfl)) ⟨0, ?_⟩)
      · intro p _ L
        rw [row2]
        refine ⟨EVt_one ?_, fun r hr => ?_⟩
        · have : (g p).isSome = !(([] == p.1) || ([p.2] == p.1)) := by simp only [g]; cases (([] == p.1) || ([p.2] == p.1)) <;> rfl
          rw [this]
          exact EVb_cmp (by walk_at "ev") (EV_tuple (xs := [.str [], .str [p.2]]) (.cons (EV_lit (x := "") (l := []) (by decide +kernel) ⟨by decide, by decide⟩) (.cons (by walk_at "ev") .nil (by rfl)) (by rfl)) (by simp)) (cmp_notin2 _ _ _) (by rfl)
        · simp only [g] at hr
          split at hr
          · cases hr
          · cases hr; walk_at "ev"
      · rw [resolve]
        congr 2
        simp only [fitsB, hc, decide_false, Bool.not_false, Bool.true_and, g]
        generalize piece.zip (name.drop place) = l
        induction l with
        | nil => rfl
        | cons p l ih =>
          rw [List.filterMap_cons, List.all_cons]
          split <;> rename_i q
          · split at q
            · rename_i q2; rw [q2]; simpa using ih
            · cases q
          · split at q
            · cases q
            · rename_i q2; simp only [Bool.not_eq_true] at q2; rw [q2]; simp
end Mine
end
/-! Ey3 -/
section
open PySem PySem.W PyProof.Rows PySem.Builtin PySem.Builtin.Str
namespace Mine
noncomputable def fndGo (piece : List (List Nat)) (name : List Nat) : Nat → Nat → Nat
  | 0, p => p
  | n + 1, p => if p ≤ name.length ∧ fitsB piece name p = false then fndGo piece name n (p + 1) else p
noncomputable def fnd (piece : List (List Nat)) (name : List Nat) (p : Nat) : Nat := fndGo piece name (name.length + 1 - p) p
theorem fnd_step {piece : List (List Nat)} {name : List Nat} {p : Nat} (h : p ≤ name.length) (hf : fitsB piece name p = false) : fnd piece name p = fnd piece name (p + 1) := by
  unfold fnd
  rw [show name.length + 1 - p = (name.length + 1 - (p + 1)) + 1 by (first | lia | omega), fndGo, if_pos ⟨h, hf⟩]
theorem fnd_stop {piece : List (List Nat)} {name : List Nat} {p : Nat} (h : p ≤ name.length → fitsB piece name p = true) : fnd piece name p = p := by
  unfold fnd
  cases hn : name.length + 1 - p with
  | zero => rfl
  | succ n => rw [fndGo, if_neg]; rintro ⟨a, b⟩; rw [h a] at b; cases b
noncomputable def mids (name : List Nat) (ms : List (List (List Nat))) (p : Nat) : Nat := ms.foldl (fun p piece => fnd piece name p + piece.length) p
noncomputable def takesB (pieces : List (List (List Nat))) (name : List Nat) : Bool :=
  match pieces with
  | [] => false
  | [p] => fitsB p name 0 && (p.length == name.length)
  | p :: q :: r =>
    let l := (q :: r).getLast?.getD []
    let place := mids name (q :: r).dropLast p.length
    fitsB p name 0 && decide (place + l.length ≤ name.length) && fitsB l name (name.length - l.length)

noncomputable abbrev pcs (pieces : List (List (List Nat))) : FV := .list (pieces.map fun p => .list (p.map .str))

inductive KA (p q : List (List Nat)) (r : List (List (List Nat))) (name : List Nat) (i : Nat) (σ : St) : Prop
  | mk (m1 : σ.loc "pieces" = some (.fv (pcs (p :: q :: r)))) (m2 : σ.loc "name" = some (.fv (.str name))) (m3 : σ.loc "place" = some (.fv (.int (mids name ((q :: r).dropLast.take i) p.length))))
inductive KB (p q : List (List Nat)) (r : List (List (List Nat))) (name : List Nat) (pc : List (List Nat)) (k n : Nat) (σ : St) : Prop
  | mk (c1 : σ.loc "pieces" = some (.fv (pcs (p :: q :: r)))) (c2 : σ.loc "name" = some (.fv (.str name))) (c3 : σ.loc "piece" = some (.fv (.list (pc.map .str)))) (j : Nat) (c4 : σ.loc "place" = some (.fv (.int j))) (c5 : fnd pc name j = fnd pc name k) (hn : n = name.length + 1 - j)
set_option maxHeartbeats 1000000
theorem takes_calls (P : Params) (mb : Str → Option Value) (prog : Program) (w : World) (pieces : List (List (List Nat))) (name : List Nat) (hne : pieces ≠ []) :
    CallsTo (frag P) (gm P) mb prog w 2 231 [pcs pieces, .str name] (.bool (takesB pieces name)) := by
  refine callsTo_plain (names := ["pieces", "name"]) (hK := by rfl) (hdat := by rfl) (hC := by rfl) (hcd := by rfl) (hc1 := by rfl) (by (intro vs h; match vs, h with | [v, u], _ => kernel_rfl)) (by decide +kernel) (by rfl) (by decide +kernel) rfl rfl rfl (by decide +kernel) ?_
  intro A L
  obtain ⟨p, r, rfl⟩ : ∃ p r, pieces = p :: r := by cases pieces with | nil => exact (hne rfl).elim | cons p r => exact ⟨p, r, rfl⟩
  have ep : ∀ σ, itemAV σ (.fv (pcs (p :: r))) ((0 : Nat) : Int) = some (.fv (.list (p.map .str))) := fun σ => item_list_nat (k := 0) rfl
  refine EX_cons (EX1_ift (c := !fitsB p name 0) (EVb_not (EVb_value (v := .fv (.bool (fitsB p name 0))) ?_ (by rfl) (by (intro _ _; rfl)))) ?_ ?_)
  · refine EV_call3 (by (exact ⟨by kernel_rfl, by decide +kernel, by kernel_rfl, ⟨_, _, rfl, rfl⟩⟩)) (fits_calls P mb prog w p name 0) (by (exact Nat.le_of_ble_eq_true rfl)) ?_ ?_ ?_ (by rfl) (by rfl) (by rfl)
    · exact EV_sub (v := .fv (pcs (p :: r))) (i := (0 : Nat)) (by walk_at "ev") EV_int (ep _) (by rfl) (by (intro _ _; rfl))
    · walk_at "ev"
    · exact EV_int
  · intro hc
    refine EX_cons (EX1_return EV_bool ⟨0, ?_⟩)
    have hf : fitsB p name 0 = false := by simpa using hc
    rw [resolve]
    cases r with
    | nil => simp [takesB, hf]
    | cons q r => simp [takesB, hf]
  intro hc
  have hf : fitsB p name 0 = true := by simpa using hc
  refine EX_nil ?_
  refine EX_cons (EX1_assign (v := .fv (.int p.length)) ?_ (by kernel_rfl) (by kernel_rfl) ?_)
  · exact EV_len (v := .fv (.list (p.map .str))) (by (exact ⟨by kernel_rfl, by decide +kernel, by kernel_rfl, by decide +kernel, by decide +kernel⟩)) (EV_sub (v := .fv (pcs (p :: r))) (i := (0 : Nat)) (by walk_at "ev") EV_int (ep _) (by rfl) (by (intro _ _; rfl))) (by simp [lenAV]) (by rfl)
  generalize hσ : (st0 [Str.ofString "pieces", Str.ofString "name"] [pcs (p :: r), FV.str name]).set (Str.ofString "place") (AV.fv (FV.int ↑p.length)) = σ
  have l1 : σ.loc "pieces" = some (.fv (pcs (p :: r))) := by subst hσ; walk_at "loc"
  have l2 : σ.loc "name" = some (.fv (.str name)) := by subst hσ; walk_at "loc"
  have l3 : σ.loc "place" = some (.fv (.int p.length)) := by subst hσ; walk_at "loc"
  clear hσ
  refine EX_cons (EX1_ift (c := (((p :: r).length : Nat) : Int) == ((1 : Nat) : Int)) (EVb_cmp (EV_len (v := .fv (pcs (p :: r))) (n := (p :: r).length) (by (exact ⟨by kernel_rfl, by decide +kernel, by kernel_rfl, by decide +kernel, by decide +kernel⟩)) (by walk_at "ev") (by simp [lenAV]) (by rfl)) EV_int (cmp_eq_int _ _) (by rfl)) ?_ ?_)
  · intro h
    have hr : r = [] := by
      cases r with
      | nil => rfl
      | cons a r => simp only [beq_iff_eq, List.length_cons] at h; (first | lia | omega)
    subst hr
    refine EX_cons (EX1_return (EV_cmp (f := .int p.length) (g := .int name.length) (by walk_at "ev") (EV_len (v := .fv (.str name)) (n := name.length) (by (exact ⟨by kernel_rfl, by decide +kernel, by kernel_rfl, by decide +kernel, by decide +kernel⟩)) (by walk_at "ev") (by rfl) (by rfl)) (cmp_eq_int _ _) (by rfl)) ⟨0, ?_⟩)
    rw [resolve]
    congr 2
    simp only [takesB, hf, Bool.true_and]
    rw [Bool.eq_iff_iff]
    simp only [beq_iff_eq]
    (first | lia | omega)
  intro h
  refine EX_nil ?_
  obtain ⟨q, r, rfl⟩ : ∃ q r', r = q :: r' := by
    cases r with
    | nil => simp at h
    | cons q r => exact ⟨q, r, rfl⟩
  obtain ⟨l, hl⟩ : ∃ l, (q :: r).getLast? = some l := ⟨_, List.getLast?_eq_some_getLast (by simp)⟩
  have el : ∀ σ, itemAV σ (.fv (pcs (p :: q :: r))) (-1) = some (.fv (.list (l.map .str))) := fun σ => item_list_last (by
    rw [List.getLast?_map, List.getLast?_cons_cons, hl]; rfl)
  have hms : cutN ((p :: q :: r).map fun p => FV.list (p.map .str)) (some 1) (some (-1)) = ((q :: r).dropLast).map fun p => FV.list (p.map .str) := by
    rw [cutN_mid _ (by simp)]
    rw [List.map_cons, List.drop_succ_cons, List.drop_zero, List.dropLast_eq_take, List.map_take]
    congr 1
    simp only [List.length_cons, List.length_map]
    (first | lia | omega)
  refine EX_cons (EX1_forL (xs := ((q :: r).dropLast).map fun p => FV.list (p.map .str)) (by rw [← hms]; exact SRC_list (EV_slice_list (xs := (p :: q :: r).map fun p => FV.list (p.map .str)) (by walk_at "ev") (by exact EV_int) (by exact EV_neg EV_int))) (by intro x; rfl) (by kernel_rfl)
    (KA p q r name) ⟨l1, l2, l3⟩ ?_ ?_)
  · rintro i f σ₁ hf ⟨m1, m2, m3⟩
    rw [List.getElem?_map] at hf
    obtain ⟨pc, hpc, rfl⟩ := Option.map_eq_some_iff.mp hf
    have htake : mids name ((q :: r).dropLast.take (i + 1)) p.length = fnd pc name (mids name ((q :: r).dropLast.take i) p.length) + pc.length := by
      rw [List.take_add_one, hpc, mids, List.foldl_append]; rfl
    generalize mids name ((q :: r).dropLast.take i) p.length = k at m3 htake
    refine EX_cons (EX1_while (KB p q r name pc k)
      (name.length + 1 - k) ⟨by walk_at "loc", by walk_at "loc", by walk_at "loc", k, by walk_at "loc", rfl, rfl⟩ ?_)
    rintro n σ₂ ⟨c1, c2, c3, j, c4, c5, rfl⟩
    by_cases h1 : j ≤ name.length
    · refine ⟨true && (!(fitsB pc name j) && true), EVb_bool (EVall_and_cons (a := true) ?_ fun _ => EVall_and_cons (EVb_not (EVb_value (v := .fv (.bool (fitsB pc name j))) ?_ (by rfl) (by (intro _ _; rfl)))) fun _ => EVall_and_nil), ?_, ?_⟩
      · exact Bx (EVb_cmp (f := .int j) (g := .int name.length) (by walk_at "ev") (EV_len (v := .fv (.str name)) (n := name.length) (by (exact ⟨by kernel_rfl, by decide +kernel, by kernel_rfl, by decide +kernel, by decide +kernel⟩)) (by walk_at "ev") (by rfl) (by rfl)) (by rfl) (by rfl)) (decide_eq_true (by (first | lia | omega)))
      · exact EV_call3 (by (exact ⟨by kernel_rfl, by decide +kernel, by kernel_rfl, ⟨_, _, rfl, rfl⟩⟩)) (fits_calls P mb prog w pc name j) (by (exact Nat.le_of_ble_eq_true rfl)) (by walk_at "ev") (by walk_at "ev") (by walk_at "ev") (by rfl) (by rfl) (by rfl)
      · intro hb
        have hf : fitsB pc name j = false := by simpa using hb
        refine EX_one (EX1_aug (op := .Add) (a := j) (b := 1) (r := ((j + 1 : Nat) : Int)) (by walk_at "loc") EV_int (by rfl) (by kernel_rfl) ?_)
        refine ⟨name.length + 1 - (j + 1), by (first | lia | omega), by walk_at "loc", by walk_at "loc", by walk_at "loc", j + 1, by walk_at "loc", ?_, rfl⟩
        rw [← fnd_step h1 hf, c5]
      · intro hb
        have hf : fitsB pc name j = true := by simpa using hb
        have hj : fnd pc name k = j := by rw [← c5]; exact fnd_stop fun _ => hf
        refine EX_one (EX1_aug (op := .Add) (a := j) (b := pc.length) (r := ((j + pc.length : Nat) : Int)) (by walk_at "loc") (EV_len (v := .fv (.list (pc.map .str))) (n := pc.length) (by (exact ⟨by kernel_rfl, by decide +kernel, by kernel_rfl, by decide +kernel, by decide +kernel⟩)) (by walk_at "ev") (by simp [lenAV]) (by rfl)) (by rfl) (by kernel_rfl) ?_)
        refine ⟨by walk_at "loc", by walk_at "loc", ?_⟩
        rw [htake, hj]; walk_at "loc"
    · refine ⟨false && true, EVb_bool (EVall_and_cons (a := false) ?_ fun h => by cases h), ?_, ?_⟩
      · exact Bx (EVb_cmp (f := .int j) (g := .int name.length) (by walk_at "ev") (EV_len (v := .fv (.str name)) (n := name.length) (by (exact ⟨by kernel_rfl, by decide +kernel, by kernel_rfl, by decide +kernel, by decide +kernel⟩)) (by walk_at "ev") (by rfl) (by rfl)) (by rfl) (by rfl)) (decide_eq_false (by (first | lia | omega)))
      · intro hb; cases hb
      · intro hb
        have hj : fnd pc name k = j := by rw [← c5]; exact fnd_stop fun h => absurd h h1
        refine EX_one (EX1_aug (op := .Add) (a := j) (b := pc.length) (r := ((j + pc.length : Nat) : Int)) (by walk_at "loc") (EV_len (v := .fv (.list (pc.map .str))) (n := pc.length) (by (exact ⟨by kernel_rfl, by decide +kernel, by kernel_rfl, by decide +kernel, by decide +kernel⟩)) (by walk_at "ev") (by simp [lenAV]) (by rfl)) (by rfl) (by kernel_rfl) ?_)
        refine ⟨by walk_at "loc", by walk_at "loc", ?_⟩
        rw [htake, hj]; walk_at "loc"
  · rintro σ₁ ⟨m1, m2, m3⟩
    rw [List.length_map, List.take_length] at m3
    have ht : takesB (p :: q :: r) name = (decide (mids name (q :: r).dropLast p.length + l.length ≤ name.length) && fitsB l name (name.length - l.length)) := by
      simp only [takesB, hf, Bool.true_and, hl, Option.getD_some]
    generalize mids name (q :: r).dropLast p.length = k at m3 ht
    refine EX_cons (EX1_assign (v := .fv (.int ((name.length : Int) - l.length))) ?_ (by kernel_rfl) (by kernel_rfl) ?_)
    · exact EV_bin (f := .int name.length) (g := .int l.length) (EV_len (v := .fv (.str name)) (n := name.length) (by (exact ⟨by kernel_rfl, by decide +kernel, by kernel_rfl, by decide +kernel, by decide +kernel⟩)) (by walk_at "ev") (by rfl) (by rfl)) (EV_len (v := .fv (.list (l.map .str))) (n := l.length) (by (exact ⟨by kernel_rfl, by decide +kernel, by kernel_rfl, by decide +kernel, by decide +kernel⟩)) (EV_sub (v := .fv (pcs (p :: q :: r))) (i := -1) (by walk_at "ev") (EV_neg EV_int) (el _) (by rfl) (by (intro _ _; rfl))) (by simp [lenAV]) (by rfl)) (by rfl)
    by_cases hk : k + l.length ≤ name.length
    · have e1 : ((name.length : Int) - l.length) = ((name.length - l.length : Nat) : Int) := by (first | lia | omega)
      rw [e1]
      refine EX_cons (EX1_return (EV_bop (EVbo_cons (v := .fv (.bool true)) (b := true) ?_ (by rfl) fun _ => EVbo_one (v := .fv (.bool (fitsB l name (name.length - l.length)))) ?_)) ⟨0, ?_⟩)
      · exact Vx (EV_cmp (f := .int ((name.length - l.length : Nat) : Int)) (g := .int k) (by walk_at "ev") (by walk_at "ev") (by rfl) (by rfl)) (by rw [decide_eq_true (by (first | lia | omega))])
      · refine EV_call3 (by (exact ⟨by kernel_rfl, by decide +kernel, by kernel_rfl, ⟨_, _, rfl, rfl⟩⟩)) (fits_calls P mb prog w l name (name.length - l.length)) (by (exact Nat.le_of_ble_eq_true rfl)) ?_ ?_ ?_ (by rfl) (by rfl) (by rfl)
        · exact EV_sub (v := .fv (pcs (p :: q :: r))) (i := -1) (by walk_at "ev") (EV_neg EV_int) (el _) (by rfl) (by (intro _ _; rfl))
        · walk_at "ev"
        · walk_at "ev"
      · rw [if_pos (by decide), resolve, ht, decide_eq_true hk]; rfl
    · refine EX_cons (EX1_return (EV_bop (EVbo_cons (v := .fv (.bool false)) (w := .fv (.bool false)) (b := false) ?_ (by rfl) fun h => by cases h)) ⟨0, ?_⟩)
      · exact Vx (EV_cmp (f := .int ((name.length : Int) - l.length)) (g := .int k) (by walk_at "ev") (by walk_at "ev") (by rfl) (by rfl)) (by rw [decide_eq_false (by (first | lia | omega))])
      · rw [ht, decide_eq_false hk]
        split <;> (rw [resolve]; rfl)
end Mine
end
/-! Ey7 -/
section
open PySem PySem.W PyProof.Rows PySem.Builtin PySem.Builtin.Str
namespace Mine
noncomputable def nmPos (es : List Expr) : List (Str × Pos) := es.filterMap fun | .Name x p => some (x, p) | _ => none
theorem EX1_tupleN {C : Cx} {σ : St} {P : Out → St → Prop} {elts es : List Expr} {k k' : Nat} {tp tp' p : Pos} {vs : List AV} {σ' : St} (xs : List Str) (h : EVAs C σ es vs σ') (hx : (nmPos elts).map (·.1) = xs) (hlen : xs.length = vs.length) (hl : vs.length ≤ 1000)
    (hk : ∀ x ∈ xs, C.env.kindOf x = some .local) (hs : swapsWithSole [.Tuple elts k tp] (.Tuple es k' tp') p.line C.env = pure false)
    (hw : swappedStores [.Tuple elts k tp] (.Tuple es k' tp') C.env = pure none) (he : (assignEach elts C.env).map (·.2) = (nmPos elts).map fun n => assign (.Name n.1 n.2) C.env)
    (he' : (assignEach elts C.env).findIdx? (·.1) = none) (hp : P .next (setAll σ' xs vs)) :
    EX1 C σ (.Assign [.Tuple elts k tp] (.Tuple es k' tp') p) P := by
  refine EX1_tuple (ps := nmPos elts) h (by rw [← hlen, ← hx]; simp) hl (fun y hy => hk _ (hx ▸ List.mem_map_of_mem hy)) hs hw he he' (hx ▸ hp)
theorem kinds3 {C : Cx} {a b c : Str} (h1 : C.env.kindOf a = some .local) (h2 : C.env.kindOf b = some .local) (h3 : C.env.kindOf c = some .local) : ∀ x ∈ [a, b, c], C.env.kindOf x = some .local := fun x hx => by
  simp only [List.mem_cons, List.not_mem_nil, or_false] at hx
  rcases hx with rfl | rfl | rfl <;> assumption
theorem kinds2 {C : Cx} {a b : Str} (h1 : C.env.kindOf a = some .local) (h2 : C.env.kindOf b = some .local) : ∀ x ∈ [a, b], C.env.kindOf x = some .local := fun x hx => by
  simp only [List.mem_cons, List.not_mem_nil, or_false] at hx
  rcases hx with rfl | rfl <;> assumption
theorem kinds5 {C : Cx} {a b c d e : Str} (h1 : C.env.kindOf a = some .local) (h2 : C.env.kindOf b = some .local) (h3 : C.env.kindOf c = some .local) (h4 : C.env.kindOf d = some .local) (h5 : C.env.kindOf e = some .local) : ∀ x ∈ [a, b, c, d, e], C.env.kindOf x = some .local := fun x hx => by
  simp only [List.mem_cons, List.not_mem_nil, or_false] at hx
  rcases hx with rfl | rfl | rfl | rfl | rfl <;> assumption

structure PRep (σ : St) (body : List Nat) (st : PSt) : Prop where
  body : σ.loc "body" = some (.fv (.str body))
  place : σ.loc "place" = some (.fv (.int st.place))
  held : σ.loc "held" = some (.fv (.bool st.held))
  last : σ.loc "last" = some (.fv (.bool st.last))
  sound : σ.loc "sound" = some (.fv (.bool st.sound))
  pieces : σ.loc "pieces" = some (.own 1)
  hp : σ.hp = hpOf st.init st.cur
  hi : st.init.length ≤ st.place
  hc : st.cur.length ≤ st.place

inductive PI (body : List Nat) (fin : PSt) (n : Nat) (σ : St) : Prop
  | mk (st : PSt) (R : PRep σ body st) (hrun : pcRun body st = fin) (hn : n = body.length - st.place)
set_option maxHeartbeats 1000000
theorem pieces_calls (P : Params) (mb : Str → Option Value) (prog : Program) (w : World) (text : List Nat) (hlen : text.length ≤ 1000) :
    CallsTo (frag P) (gm P) mb prog w 1 219 [.str text] (pcs (piecesOf text)) := by
  refine callsTo_plain (names := ["text"]) (hK := by rfl) (hdat := by rfl) (hC := by rfl) (hcd := by rfl) (hc1 := by rfl) (by (intro vs h; match vs, h with | [v], _ => kernel_rfl)) (by decide +kernel) (by rfl) (by decide +kernel) rfl rfl rfl (by decide +kernel) ?_
  intro A L
  have hsz : sizeLine = 2 ^ 24 := sizeLine_eq
  refine EX_cons (EX1_tupleN ["body", "place", "held", "last", "pieces"] (vs := [.fv (.str (cutN text (some 4) (some (-3)))), .fv (.int 0), .fv (.bool false), .fv (.bool false), .own 1])
    (.cons (EVA_ev (EV_slice_str (lo := some 4) (hi := some (-3)) (by walk_at "ev") (by exact EV_int) (by exact EV_neg EV_int))) (.cons (EVA_ev EV_int) (.cons (EVA_ev EV_bool) (.cons (EVA_ev EV_bool) (.cons (EVA_listlist (by rfl)) .nil (by rfl)) (by rfl)) (by rfl)) (by rfl)) (by rfl))
    (by rfl) (by rfl) (by simp) (kinds5 (by kernel_rfl) (by kernel_rfl) (by kernel_rfl) (by kernel_rfl) (by kernel_rfl)) (by kernel_rfl) (by kernel_rfl) (by rfl) (by rfl) ?_)
  show EX _ ((((((_ : St).set _ _).set _ _).set _ _).set _ _).set _ _) _ _
  generalize hσ : ((((((_ : St).set _ _).set _ _).set _ _).set _ _).set _ _) = σ
  have l0 : σ.loc "text" = some (.fv (.str text)) := by subst hσ; walk_at "loc"
  have l1 : σ.loc "body" = some (.fv (.str (cutN text (some 4) (some (-3))))) := by subst hσ; walk_at "loc"
  have l2 : σ.loc "place" = some (.fv (.int 0)) := by subst hσ; walk_at "loc"
  have l3 : σ.loc "held" = some (.fv (.bool false)) := by subst hσ; walk_at "loc"
  have l4 : σ.loc "last" = some (.fv (.bool false)) := by subst hσ; walk_at "loc"
  have l5 : σ.loc "pieces" = some (.own 1) := by subst hσ; walk_at "loc"
  have l6 : σ.hp = hpOf [] [] := by subst hσ; rfl
  clear hσ
  have l2' : σ.loc "place" = some (.fv (.int ((0 : Nat) : Int))) := l2
  refine EX_cons (EX1_assign (v := .fv (.bool ((cutN text none (some 4) ++ cutN text (some (-3)) none) == [40, 63, 115, 58, 41, 92, 90]))) ?_ (by kernel_rfl) (by kernel_rfl) ?_)
  · refine EV_cmp (op := .Eq) (f := .str (cutN text none (some 4) ++ cutN text (some (-3)) none)) (EV_bin (EV_slice_str (lo := none) (hi := some 4) (by walk_at "ev") trivial (by exact EV_int)) (EV_slice_str (lo := some (-3)) (hi := none) (by walk_at "ev") (by exact EV_neg EV_int) trivial) (if_pos ?_)) (EV_lit (by decide +kernel) ⟨by decide, by decide⟩) (cmp_eq_str _ _) (by rfl)
    have h1 := cutN_length text none (some 4)
    have h2 := cutN_length text (some (-3)) none
    (first | lia | omega)
  have hpo : pcs (piecesOf text) = pcs (let f := pcRun (cutN text (some 4) (some (-3))) ⟨0, false, false, (cutN text none (some 4) ++ cutN text (some (-3)) none) == [40, 63, 115, 58, 41, 92, 90], [], []⟩
    if f.sound && (!f.held && (f.last == decide (1 < f.init.length + 1))) then f.init ++ [f.cur] else [[[110, 111, 110, 101]]]) := rfl
  rw [hpo]
  have hbl := cutN_length text (some 4) (some (-3))
  generalize cutN text (some 4) (some (-3)) = body at l1 hbl ⊢
  generalize ((cutN text none (some 4) ++ cutN text (some (-3)) none) == [40, 63, 115, 58, 41, 92, 90]) = snd0
  generalize hfin : pcRun body ⟨0, false, false, snd0, [], []⟩ = fin
  dsimp only
  refine EX_cons (EX1_while (PI body fin) (body.length - 0) ⟨⟨0, false, false, snd0, [], []⟩, ⟨by walk_at "loc", by walk_at "loc", by walk_at "loc", by walk_at "loc", by walk_at "loc", by walk_at "loc", l6, Nat.zero_le _, Nat.zero_le _⟩, hfin, rfl⟩ ?_)
  rintro n σ₁ ⟨st, R, hrun, rfl⟩
  obtain ⟨b1, b2, b3, b4, b5, b6, b7, b8, b9⟩ := R
  refine ⟨st.sound && (decide ((st.place : Int) < body.length) && true), EVb_bool (EVall_and_cons (EVb_value (by walk_at "ev") (by rfl) (by (intro _ _; rfl))) fun _ => EVall_and_cons (EVb_cmp (f := .int st.place) (g := .int body.length) (by walk_at "ev") (EV_len (v := .fv (.str body)) (n := body.length) (by (exact ⟨by kernel_rfl, by decide +kernel, by kernel_rfl, by decide +kernel, by decide +kernel⟩)) (by walk_at "ev") (by rfl) (by rfl)) (by rfl) (by rfl)) fun _ => EVall_and_nil), fun hb => ?_, fun hb => ?_⟩
  · have hs : st.sound = true := by revert hb; cases st.sound <;> simp
    have hlt : st.place < body.length := by rw [hs] at hb; have : (st.place : Int) < body.length := by simpa using hb
                                            (first | lia | omega)
    have hnext : pcRun body (pcStep body st) = fin := by rw [pcRun, dif_pos ⟨hs, hlt⟩] at hrun; exact hrun
    have hmeas := pcStep_lt body st
    have close : ∀ σ', PRep σ' body (pcStep body st) → ∃ m, m < body.length - st.place ∧ PI body fin m σ' :=
      fun σ' R => ⟨_, by (first | lia | omega), _, R, hnext, rfl⟩
    have hbl2 : body.length ≤ 1000 := by (first | lia | omega)
    obtain ⟨c, hc⟩ : ∃ c, body[st.place]? = some c := ⟨_, List.getElem?_eq_getElem hlt⟩
    have hdrop : body.drop st.place = c :: body.drop (st.place + 1) := by
      rw [List.drop_eq_getElem_cons hlt]; congr 1
      exact (List.getElem?_eq_some_iff.mp hc).2
    have esl : ∀ k : Nat, cutN body (some (st.place : Int)) (some ((st.place + k : Nat) : Int)) = (body.drop st.place).take k := fun k => by
      rw [cutN_btw, show st.place + k - st.place = k by (first | lia | omega)]
    refine EX_one (EX1_ift (c := (body.drop st.place).take 6 == [40, 63, 62, 46, 42, 63]) ?_ ?_ ?_)
    · refine EVb_cmp (op := .Eq) (f := .str ((body.drop st.place).take 6)) ?_ (EV_lit (by decide +kernel) ⟨by decide, by decide⟩) (cmp_eq_str _ _) (by rfl)
      rw [← esl 6]
      exact EV_slice_str (by walk_at "ev") (by show EV _ _ _ _; walk_at "ev") (by show EV _ _ _ _; exact EV_bin (f := .int st.place) (g := .int 6) (by walk_at "ev") EV_int (by rfl))
    · intro h6
      have e : pcStep body st = ⟨st.place + 6, true, st.last, !st.held && !st.last, st.init ++ [st.cur], []⟩ := by unfold pcStep; rw [if_pos h6]
      refine EX_cons (EX1_tuple_swapped (vs := [.fv (.bool (!st.held && !st.last)), .fv (.bool true), .fv (.int ((st.place + 6 : Nat) : Int))]) (names := ["sound", "held", "place"])
        (.cons (EVA_ev (EV_bop (EVbo_and (EV_not (by walk_at "ev") (by rfl)) fun _ => EVbo_one (EV_not (by walk_at "ev") (by rfl))))) (.cons (EVA_ev EV_bool) (.cons (EVA_ev (EV_bin (f := .int st.place) (g := .int 6) (by walk_at "ev") EV_int (by rfl))) .nil (by rfl)) (by rfl)) (by rfl))
        (by rfl) (by simp) (kinds3 (by kernel_rfl) (by kernel_rfl) (by kernel_rfl)) (by kernel_rfl) (by kernel_rfl) ?_)
      show EX _ (((St.set _ _ _).set _ _).set _ _) _ _
      refine EX_one (EX1_appendA (k := 1) (xs := outer st.init.length) (by walk_at "ev") (EVA_list .nil (by simp)) ?_ (by simp [outer]; (first | lia | omega)) ⟨outer st.init.length, ?_⟩ (by rfl) (by rfl) (by rfl) (by rfl) (by kernel_rfl) ?_)
      · show (σ₁.hp ++ [[]])[1]? = _
        rw [b7, List.getElem?_append_left (by rw [hp_len]; (first | lia | omega))]; exact hp_outer _ _
      · show σ₁.hp[1]? = _
        rw [b7]; exact hp_outer _ _
      · refine close _ ?_
        rw [e]
        refine ⟨by walk_at "loc", by walk_at "loc", by walk_at "loc", by walk_at "loc", by walk_at "loc", by walk_at "loc", ?_, ?_, Nat.zero_le _⟩
        · show (σ₁.hp ++ [[]]).set 1 (outer st.init.length ++ [AV.own σ₁.hp.length]) = _
          rw [b7, hp_len]; exact hp_new _ _
        · simp only [List.length_append, List.length_singleton]; (first | lia | omega)
    intro h6
    refine EX_one (EX1_ift (c := (body.drop st.place).take 2 == [46, 42]) ?_ ?_ ?_)
    · refine EVb_cmp (op := .Eq) (f := .str ((body.drop st.place).take 2)) ?_ (EV_lit (by decide +kernel) ⟨by decide, by decide⟩) (cmp_eq_str _ _) (by rfl)
      rw [← esl 2]
      exact EV_slice_str (by walk_at "ev") (by show EV _ _ _ _; walk_at "ev") (by show EV _ _ _ _; exact EV_bin (f := .int st.place) (g := .int 2) (by walk_at "ev") EV_int (by rfl))
    · intro h2
      have e : pcStep body st = ⟨st.place + 2, st.held, true, !st.held && !st.last, st.init ++ [st.cur], []⟩ := by unfold pcStep; rw [if_neg (by rw [h6]; decide), if_pos h2]
      refine EX_cons (EX1_tuple_swapped (vs := [.fv (.bool (!st.held && !st.last)), .fv (.bool true), .fv (.int ((st.place + 2 : Nat) : Int))]) (names := ["sound", "last", "place"])
        (.cons (EVA_ev (EV_bop (EVbo_and (EV_not (by walk_at "ev") (by rfl)) fun _ => EVbo_one (EV_not (by walk_at "ev") (by rfl))))) (.cons (EVA_ev EV_bool) (.cons (EVA_ev (EV_bin (f := .int st.place) (g := .int 2) (by walk_at "ev") EV_int (by rfl))) .nil (by rfl)) (by rfl)) (by rfl))
        (by rfl) (by simp) (kinds3 (by kernel_rfl) (by kernel_rfl) (by kernel_rfl)) (by kernel_rfl) (by kernel_rfl) ?_)
      show EX _ (((St.set _ _ _).set _ _).set _ _) _ _
      refine EX_one (EX1_appendA (k := 1) (xs := outer st.init.length) (by walk_at "ev") (EVA_list .nil (by simp)) ?_ (by simp [outer]; (first | lia | omega)) ⟨outer st.init.length, ?_⟩ (by rfl) (by rfl) (by rfl) (by rfl) (by kernel_rfl) ?_)
      · show (σ₁.hp ++ [[]])[1]? = _
        rw [b7, List.getElem?_append_left (by rw [hp_len]; (first | lia | omega))]; exact hp_outer _ _
      · show σ₁.hp[1]? = _
        rw [b7]; exact hp_outer _ _
      · refine close _ ?_
        rw [e]
        refine ⟨by walk_at "loc", by walk_at "loc", by walk_at "loc", by walk_at "loc", by walk_at "loc", by walk_at "loc", ?_, ?_, Nat.zero_le _⟩
        · show (σ₁.hp ++ [[]]).set 1 (outer st.init.length ++ [AV.own σ₁.hp.length]) = _
          rw [b7, hp_len]; exact hp_new _ _
        · simp only [List.length_append, List.length_singleton]; (first | lia | omega)
    intro h2
    have echr : ∀ σ', σ'.loc "body" = some (.fv (.str body)) → σ'.loc "place" = some (.fv (.int st.place)) → itemAV σ' (.fv (.str body)) (st.place : Int) = some (.fv (.str [c])) := fun σ' _ _ => item_str_nat hc
    refine EX_one (EX1_ift (c := [c] == [41]) (EVb_cmp (op := .Eq) (f := .str [c]) (EV_sub (v := .fv (.str body)) (i := st.place) (by walk_at "ev") (by walk_at "ev") (item_str_nat hc) (by rfl) (by (intro _ _; rfl))) (EV_lit (by decide +kernel) ⟨by decide, by decide⟩) (cmp_eq_str _ _) (by rfl)) ?_ ?_)
    · intro h1
      have hc41 : c = 41 := by simpa using h1
      have e : pcStep body st = ⟨st.place + 1, false, st.last, st.held, st.init, st.cur⟩ := by unfold pcStep; rw [if_neg (by rw [h6]; decide), if_neg (by rw [h2]; decide)]; simp [hc, hc41]
      refine EX_one (EX1_tuple_swapped (vs := [.fv (.bool st.held), .fv (.bool false), .fv (.int ((st.place + 1 : Nat) : Int))]) (names := ["sound", "held", "place"])
        (.cons (EVA_ev (by walk_at "ev")) (.cons (EVA_ev EV_bool) (.cons (EVA_ev (EV_bin (f := .int st.place) (g := .int 1) (by walk_at "ev") EV_int (by rfl))) .nil (by rfl)) (by rfl)) (by rfl))
        (by rfl) (by simp) (kinds3 (by kernel_rfl) (by kernel_rfl) (by kernel_rfl)) (by kernel_rfl) (by kernel_rfl) ?_)
      refine close _ ?_
      rw [e]
      show PRep (((St.set _ _ _).set _ _).set _ _) _ _
      exact ⟨by walk_at "loc", by walk_at "loc", by walk_at "loc", by walk_at "loc", by walk_at "loc", by walk_at "loc", b7, Nat.le_succ_of_le b8, Nat.le_succ_of_le b9⟩
    intro h1
    have hc41 : c ≠ 41 := by simpa using h1
    have e : pcStep body st = ⟨st.place + (if c == 92 then 2 else 1), st.held, st.last, (st.held || (st.last || st.init.isEmpty)) && ((if c == 92 then 2 else 1) == 2 || !metas.contains c), st.init,
        st.cur ++ [if c == 46 then [] else [((body.drop st.place).take (if c == 92 then 2 else 1)).getLast?.getD 0]]⟩ := by
      unfold pcStep; rw [if_neg (by rw [h6]; decide), if_neg (by rw [h2]; decide)]; simp [hc, hc41]
    rw [e] at close
    clear e hnext hmeas hrun
    obtain ⟨step, hstep⟩ : ∃ step : Nat, step = if c == 92 then 2 else 1 := ⟨_, rfl⟩
    have hst : step = 1 ∨ step = 2 := by rw [hstep]; split <;> simp
    rw [← hstep] at close
    have evc : ∀ {C : Cx} (σ' : St) (p q r : Pos), σ'.loc "body" = some (.fv (.str body)) → σ'.loc "place" = some (.fv (.int st.place)) →
        EV C σ' (.Subscript (.Name (Str.ofString "body") p) (.Name (Str.ofString "place") q) r) (.fv (.str [c])) := fun σ' p q r q1 q2 =>
      EV_sub (v := .fv (.str body)) (i := st.place) (by walk_at "ev") (by walk_at "ev") (item_str_nat hc) (by rfl) (by (intro _ _; rfl))
    refine EX_cons (EX1_assign (v := .fv (.int (step : Nat))) ?_ (by kernel_rfl) (by kernel_rfl) ?_)
    · refine EV_if (c := [c] == [92]) (EVb_cmp (op := .Eq) (f := .str [c]) (evc _ _ _ _ b1 b2) (EV_lit (by decide +kernel) ⟨by decide, by decide⟩) (cmp_eq_str _ _) (by rfl)) ?_
      rw [hstep]
      by_cases q : c = 92
      · subst q; exact EV_int
      · rw [show ([c] == [92]) = false by simpa using q, show (c == 92) = false by simpa using q]; exact EV_int
    refine EX_cons (EX1_assign (v := .fv (.bool ((st.held || (st.last || st.init.isEmpty)) && (step == 2 || !metas.contains c)))) ?_ (by kernel_rfl) (by kernel_rfl) ?_)
    · refine EV_bop (EVbo_and (EV_bop (EVbo_or (by walk_at "ev") fun _ => EVbo_or (by walk_at "ev") fun _ => EVbo_one ?_)) fun _ => EVbo_one (EV_bop (EVbo_or ?_ fun _ => EVbo_one ?_)))
      · refine Vx (EV_cmp (op := .Eq) (f := .int ((outer st.init.length).length : Nat)) (g := .int 1) (EV_len (v := .own 1) (n := (outer st.init.length).length) (by (exact ⟨by kernel_rfl, by decide +kernel, by kernel_rfl, by decide +kernel, by decide +kernel⟩)) (by walk_at "ev") ?_ (by rfl)) EV_int (cmp_eq_int _ _) (by rfl)) ?_
        · show (σ₁.hp[1]?).map _ = _
          rw [b7, hp_outer]; rfl
        · congr 2
          cases hin : st.init with
          | nil => rfl
          | cons p r =>
            simp only [outer, List.length_cons, List.length_map, List.length_range, List.isEmpty_cons]
            rw [beq_eq_false_iff_ne]; (first | lia | omega)
      · refine Vx (EV_cmp (op := .Eq) (f := .int (step : Nat)) (g := .int 2) (by walk_at "ev") EV_int (cmp_eq_int _ _) (by rfl)) ?_
        rcases hst with h | h <;> rw [h] <;> rfl
      · exact EV_cmp (f := .str [c]) (g := .str metas) (evc _ _ _ _ (by walk_at "loc") (by walk_at "loc")) (EV_lit (by decide +kernel) ⟨by decide, by decide⟩) (cmp_notin_chr _ _) (by rfl)
    obtain ⟨z, hz⟩ : ∃ z, ((body.drop st.place).take step).getLast? = some z := by
      refine ⟨_, List.getLast?_eq_some_getLast ?_⟩
      rw [hdrop]
      rcases hst with h | h <;> rw [h] <;> simp
    rw [hz] at close
    refine EX_cons (EX1_append (k := curAt st.init) (xs := sAV st.cur) (v := .fv (.str (if c == 46 then [] else [z]))) ?_ ?_ ?_ ?_ (by rfl) (by rfl) (by rfl) (by rfl) (by kernel_rfl) ?_)
    · refine EV_sub (v := .own 1) (i := -1) (by walk_at "ev") (EV_neg EV_int) ?_ (by rfl) (by (intro _ _; rfl))
      show (σ₁.hp[1]?).bind _ = _
      rw [b7, hp_outer]
      exact itemOf_last (outer_last _)
    · refine EV_if (c := [c] == [46]) (EVb_cmp (op := .Eq) (f := .str [c]) (evc _ _ _ _ (by walk_at "loc") (by walk_at "loc")) (EV_lit (by decide +kernel) ⟨by decide, by decide⟩) (cmp_eq_str _ _) (by rfl)) ?_
      by_cases q : c = 46
      · subst q; exact EV_lit (x := "") (l := []) (by decide +kernel) ⟨by decide, by decide⟩
      · rw [show ([c] == [46]) = false by simpa using q, show (c == 46) = false by simpa using q]
        refine EV_sub (v := .fv (.str ((body.drop st.place).take step))) (i := -1) ?_ (EV_neg EV_int) (item_str_last hz) (by rfl) (by (intro _ _; rfl))
        rw [← esl step]
        exact EV_slice_str (by walk_at "ev") (by show EV _ _ _ _; walk_at "ev") (by show EV _ _ _ _; exact EV_bin (f := .int st.place) (g := .int step) (by walk_at "ev") (by walk_at "ev") (by rfl))
    · show σ₁.hp[_]? = _
      rw [b7]; exact hp_cur _ _
    · rw [sAV, List.length_map]; (first | lia | omega)
    refine EX_one (EX1_aug (op := .Add) (a := st.place) (b := step) (r := ((st.place + step : Nat) : Int)) (by walk_at "loc") (by walk_at "ev") (by rfl) (by kernel_rfl) ?_)
    refine close _ ⟨by walk_at "loc", by walk_at "loc", by walk_at "loc", by walk_at "loc", by walk_at "loc", by walk_at "loc", ?_, ?_, ?_⟩
    · show σ₁.hp.set _ _ = _
      rw [b7]; exact hp_put _ _ _
    · show st.init.length ≤ st.place + step
      (first | lia | omega)
    · show (st.cur ++ [_]).length ≤ st.place + step
      rw [List.length_append, List.length_singleton]; (first | lia | omega)
  · have hr : st = fin := by
      rw [pcRun, dif_neg] at hrun
      · exact hrun
      · rintro ⟨q1, q2⟩
        rw [q1] at hb
        have : ¬ (st.place : Int) < body.length := by simpa using hb
        (first | lia | omega)
    subst hr
    refine EX_cons (EX1_return (v := if (st.sound && (!st.held && (st.last == decide (1 < st.init.length + 1)))) = true then .own 1 else .fv (.list [.list [.str [110, 111, 110, 101]]])) (EV_if (c := st.sound && (!st.held && ((st.last == decide (1 < st.init.length + 1)) && true))) (EVb_bool (EVall_and_cons (EVb_value (by walk_at "ev") (by rfl) (by (intro _ _; rfl))) fun _ => EVall_and_cons (EVb_not (EVb_value (by walk_at "ev") (by rfl) (by (intro _ _; rfl)))) fun _ => EVall_and_cons ?_ fun _ => EVall_and_nil)) ?_) ⟨2, ?_⟩)
    · refine EVb_cmp (op := .Eq) (f := .bool st.last) (g := .bool (decide (1 < st.init.length + 1))) (by walk_at "ev") ?_ (cmp_eq_bool _ _) (by rfl)
      refine Vx (EV_cmp (op := .Gt) (f := .int ((outer st.init.length).length : Nat)) (g := .int 1) (EV_len (v := .own 1) (n := (outer st.init.length).length) (by (exact ⟨by kernel_rfl, by decide +kernel, by kernel_rfl, by decide +kernel, by decide +kernel⟩)) (by walk_at "ev") ?_ (by rfl)) EV_int (by rfl) (by rfl)) ?_
      · show (σ₁.hp[1]?).map _ = _
        rw [b7, hp_outer]; rfl
      · congr 2
        rw [decide_eq_decide]
        simp only [outer, List.length_cons, List.length_map, List.length_range]
        (first | lia | omega)
    · rw [Bool.and_true]
      split
      · walk_at "ev"
      · exact EV_list (xs := [.list [.str [110, 111, 110, 101]]]) (.cons (EV_list (xs := [.str [110, 111, 110, 101]]) (.cons (EV_lit (by decide +kernel) ⟨by decide, by decide⟩) .nil (by rfl)) (by simp)) .nil (by rfl)) (by simp)
    · split
      · exact resolve_pieces b7
      · rw [resolve]; rfl
end Mine
end
/-! Ey4 -/
section
open PySem PySem.W PyProof.Rows PySem.Builtin PySem.Builtin.Str
namespace Mine
noncomputable def insAt (sign order : List Nat) (k : Nat) : List Nat := order.take k ++ sign ++ order.drop k
noncomputable def addNew (fr : List (List Nat)) (l : List Nat) : List (List Nat) := if fr.contains l then fr else fr ++ [l]
noncomputable def addN (sign order : List Nat) (fr : List (List Nat)) (n : Nat) : List (List Nat) := (List.range n).foldl (fun fr k => addNew fr (insAt sign order k)) fr
noncomputable def stepO (sign : List Nat) (os : List (List Nat)) : List (List Nat) := os.foldl (fun fr o => addN sign o fr (o.length + 1)) []
noncomputable def ordersL (name : List (List Nat)) : List (List Nat) := name.foldl (fun os sign => stepO sign os) [[]]

theorem addNew_len (fr : List (List Nat)) (l : List Nat) : (addNew fr l).length ≤ fr.length + 1 := by
  unfold addNew; split <;> simp
theorem addN_succ (sign order : List Nat) (fr : List (List Nat)) (n : Nat) : addN sign order fr (n + 1) = addNew (addN sign order fr n) (insAt sign order n) := by
  unfold addN; rw [List.range_succ, List.foldl_append]; rfl
theorem addN_len (sign order : List Nat) (fr : List (List Nat)) : ∀ n, (addN sign order fr n).length ≤ fr.length + n
  | 0 => Nat.le_refl _
  | n + 1 => by rw [addN_succ]; have := addNew_len (addN sign order fr n) (insAt sign order n); have := addN_len sign order fr n; (first | lia | omega)
theorem addN_mem {m : Nat} {sign order : List Nat} {fr : List (List Nat)} (hs : sign.length = 1) (ho : order.length = m) (hf : ∀ l ∈ fr, l.length = m + 1) : ∀ n, n ≤ m + 1 → ∀ l ∈ addN sign order fr n, l.length = m + 1
  | 0, _, l, h => hf l h
  | n + 1, hn, l, h => by
    rw [addN_succ] at h
    have hi : (insAt sign order n).length = m + 1 := by
      simp only [insAt, List.length_append, List.length_take, List.length_drop, hs, ho]; (first | lia | omega)
    unfold addNew at h
    split at h
    · exact addN_mem hs ho hf n (by (first | lia | omega)) l h
    · rcases List.mem_append.mp h with h | h
      · exact addN_mem hs ho hf n (by (first | lia | omega)) l h
      · rw [List.mem_singleton.mp h]; exact hi
theorem fold_len {m : Nat} {sign : List Nat} (hs : sign.length = 1) : ∀ (os fr : List (List Nat)), (∀ o ∈ os, o.length = m) → (∀ l ∈ fr, l.length = m + 1) →
    (os.foldl (fun fr o => addN sign o fr (o.length + 1)) fr).length ≤ fr.length + os.length * (m + 1) ∧ ∀ l ∈ os.foldl (fun fr o => addN sign o fr (o.length + 1)) fr, l.length = m + 1
  | [], fr, _, hf => ⟨by simp, hf⟩
  | o :: os, fr, ho, hf => by
    have h1 := ho o (List.mem_cons_self ..)
    have hm := addN_mem hs h1 hf (o.length + 1) (by (first | lia | omega))
    obtain ⟨a, b⟩ := fold_len hs os (addN sign o fr (o.length + 1)) (fun x hx => ho x (List.mem_cons_of_mem _ hx)) hm
    have hl := addN_len sign o fr (o.length + 1)
    refine ⟨?_, b⟩
    rw [List.foldl_cons, List.length_cons, Nat.succ_mul]
    (first | lia | omega)
theorem orders_len {name : List (List Nat)} (h1 : ∀ s ∈ name, s.length = 1) (i : Nat) (hi : i ≤ name.length) : (ordersL (name.take i)).length ≤ facN i ∧ ∀ o ∈ ordersL (name.take i), o.length = i := by
  induction i with
  | zero => simp [ordersL, facN]
  | succ i ih =>
    obtain ⟨a, b⟩ := ih (by (first | lia | omega))
    have e : name.take (i + 1) = name.take i ++ [name[i]'(by (first | lia | omega))] := by rw [List.take_add_one, List.getElem?_eq_getElem (by (first | lia | omega))]; rfl
    have e2 : ordersL (name.take (i + 1)) = stepO (name[i]'(by (first | lia | omega))) (ordersL (name.take i)) := by rw [e, ordersL, List.foldl_append]; rfl
    obtain ⟨c, d⟩ := fold_len (m := i) (h1 _ (List.getElem_mem (show i < name.length from hi))) (ordersL (name.take i)) [] b (fun _ h => by cases h)
    rw [e2]
    refine ⟨Nat.le_trans c ?_, d⟩
    rw [facN, Nat.mul_comm (i + 1)]
    simp only [List.length_nil, Nat.zero_add]
    exact Nat.mul_le_mul_right _ a

inductive OA (name : List (List Nat)) (i : Nat) (σ : St) : Prop
  | mk (m1 : σ.loc "orders" = some (.fv (.list ((ordersL (name.take i)).map .str)))) (m2 : σ.hp = [])
inductive OB (sign : List Nat) (os : List (List Nat)) (j : Nat) (σ : St) : Prop
  | mk (c1 : σ.loc "sign" = some (.fv (.str sign))) (c2 : σ.loc "fresh" = some (.own 0)) (c3 : σ.hp = [((os.take j).foldl (fun fr o => addN sign o fr (o.length + 1)) []).map fun l => .fv (.str l)])
inductive OC (sign order : List Nat) (fr : List (List Nat)) (k : Nat) (σ : St) : Prop
  | mk (d1 : σ.loc "sign" = some (.fv (.str sign))) (d2 : σ.loc "fresh" = some (.own 0)) (d3 : σ.loc "order" = some (.fv (.str order))) (d4 : σ.hp = [(addN sign order fr k).map fun l => .fv (.str l)])
set_option maxHeartbeats 1000000
theorem orders_calls (P : Params) (mb : Str → Option Value) (prog : Program) (w : World) (name : List (List Nat)) (hn : name.length ≤ 5) (h1 : ∀ s ∈ name, s.length = 1) :
    CallsTo (frag P) (gm P) mb prog w 1 238 [.list (name.map .str)] (.list ((ordersL name).map .str)) := by
  refine callsTo_plain (names := ["name"]) (hK := by rfl) (hdat := by rfl) (hC := by rfl) (hcd := by rfl) (hc1 := by rfl) (by (intro vs h; match vs, h with | [v], _ => kernel_rfl)) (by decide +kernel) (by rfl) (by decide +kernel) rfl rfl rfl (by decide +kernel) ?_
  intro A L
  refine EX_cons (EX1_assign (v := .fv (.list [.str []])) (EV_list (xs := [.str []]) (.cons (EV_lit (x := "") (l := []) (by decide +kernel) ⟨by decide, by decide⟩) .nil (by rfl)) (by decide)) (by kernel_rfl) (by kernel_rfl) ?_)
  refine EX_cons (EX1_forL (xs := name.map .str) (SRC_list (by walk_at "ev")) (by intro x; rfl) (by kernel_rfl)
    (OA name) ⟨loc_same _ _ _, rfl⟩ ?_ ?_)
  · rintro i f σ hf ⟨m1, m2⟩
    rw [List.getElem?_map] at hf
    obtain ⟨sign, hsg, rfl⟩ := Option.map_eq_some_iff.mp hf
    have hi : i < name.length := (List.getElem?_eq_some_iff.mp hsg).1
    have hs1 : sign.length = 1 := h1 _ (List.mem_of_getElem? hsg)
    obtain ⟨o1, o2⟩ := orders_len h1 i (by (first | lia | omega))
    have enext : ordersL (name.take (i + 1)) = stepO sign (ordersL (name.take i)) := by rw [List.take_add_one, hsg, ordersL, List.foldl_append]; rfl
    have hfac := facN_small i (by (first | lia | omega))
    have hcount : (ordersL (name.take i)).length * (i + 1) ≤ 720 := by
      have h5 : ∀ i, i ≤ 5 → facN i ≤ 120 := by decide
      have h1 := h5 i (by (first | lia | omega))
      have := Nat.mul_le_mul (Nat.le_trans o1 h1) (show i + 1 ≤ 6 by (first | lia | omega))
      (first | lia | omega)
    generalize ordersL (name.take i) = os at m1 o1 o2 enext hcount
    refine EX_cons (EX1_assignA (EVA_list .nil (by decide)) (by kernel_rfl) (by kernel_rfl) ?_)
    have hp0 : (σ.set (Str.ofString "sign") (.fv (.str sign))).hp.length = 0 := by show σ.hp.length = 0; rw [m2]; rfl
    rw [hp0]
    refine EX_cons (EX1_forL (xs := os.map .str) (SRC_list (by walk_at "ev")) (by intro x; rfl) (by kernel_rfl)
      (OB sign os)
      ⟨by walk_at "loc", by walk_at "loc", by show σ.hp ++ [[]] = _; rw [m2]; rfl⟩ ?_ ?_)
    · rintro j f σ₁ hf ⟨c1, c2, c3⟩
      rw [List.getElem?_map] at hf
      obtain ⟨order, hor, rfl⟩ := Option.map_eq_some_iff.mp hf
      have hj : j < os.length := (List.getElem?_eq_some_iff.mp hor).1
      have hol : order.length = i := o2 _ (List.mem_of_getElem? hor)
      have hnext : (os.take (j + 1)).foldl (fun fr o => addN sign o fr (o.length + 1)) [] = addN sign order ((os.take j).foldl (fun fr o => addN sign o fr (o.length + 1)) []) (order.length + 1) := by
        rw [List.take_add_one, hor, List.foldl_append]; rfl
      have hlen : ((os.take j).foldl (fun fr o => addN sign o fr (o.length + 1)) []).length ≤ 720 := by
        obtain ⟨a, _⟩ := fold_len (m := i) hs1 (os.take j) [] (fun o ho => o2 o (List.mem_of_mem_take ho)) (fun _ h => by cases h)
        have e1 : (os.take j).length ≤ os.length := List.length_take_le' _ _
        have := Nat.mul_le_mul_right (i + 1) e1
        simp only [List.length_nil, Nat.zero_add] at a
        (first | lia | omega)
      generalize (os.take j).foldl (fun fr o => addN sign o fr (o.length + 1)) [] = fr at c3 hnext hlen
      refine EX_one (EX1_forR (SRC_range1 (m := ((order.length + 1 : Nat) : Int)) (by (exact ⟨by kernel_rfl, by decide +kernel, by kernel_rfl, by decide +kernel, by decide +kernel⟩)) (EV_bin (f := .int order.length) (g := .int 1) (EV_len (v := .fv (.str order)) (n := order.length) (by (exact ⟨by kernel_rfl, by decide +kernel, by kernel_rfl, by decide +kernel, by decide +kernel⟩)) (by walk_at "ev") (by rfl) (by rfl)) EV_int (by rfl)) (by (first | lia | omega)) (by (first | lia | omega)) (by rfl)) (by intro x; rfl) (by kernel_rfl)
        (OC sign order fr)
        ⟨by walk_at "loc", by walk_at "loc", by walk_at "loc", c3⟩ ?_ ?_)
      · rintro k σ₂ hk ⟨d1, d2, d3, d4⟩
        have hk : k < order.length + 1 := by simpa using hk
        have hal := addN_len sign order fr k
        have hsz : sizeLine = 2 ^ 24 := sizeLine_eq
        have ht : (order.take k).length = k := by rw [List.length_take]; (first | lia | omega)
        have hd' : (order.drop k).length = order.length - k := List.length_drop ..
        refine EX_cons (EX1_assign (v := .fv (.str (insAt sign order k))) ?_ (by kernel_rfl) (by kernel_rfl) ?_)
        · refine EV_bin (f := .str (order.take k ++ sign)) (g := .str (order.drop k)) (EV_bin (f := .str (order.take k)) (g := .str sign) ?_ (by walk_at "ev") (if_pos ?_)) ?_ (if_pos ?_)
          · rw [← cutN_to]; exact EV_slice_str (by walk_at "ev") trivial (by show EV _ _ _ _; walk_at "ev")
          · (first | lia | omega)
          · rw [← cutN_from]; exact EV_slice_str (by walk_at "ev") (by show EV _ _ _ _; walk_at "ev") trivial
          · rw [List.length_append]; (first | lia | omega)
        refine EX_one (EX1_ift (EVb_notin_own (k := 0) (ls := addN sign order fr k) (by walk_at "ev") (by walk_at "ev") (by show σ₂.hp[0]? = _; rw [d4]; rfl) (by rfl)) ?_ ?_)
        · intro hc
          refine EX_one (EX1_append (k := 0) (xs := (addN sign order fr k).map fun l => .fv (.str l)) (by walk_at "ev") (by walk_at "ev") (by show σ₂.hp[0]? = _; rw [d4]; rfl) (by rw [List.length_map]; (first | lia | omega)) (by rfl) (by rfl) (by rfl) (by rfl) (by kernel_rfl) ?_)
          refine ⟨by walk_at "loc", by walk_at "loc", by walk_at "loc", ?_⟩
          show σ₂.hp.set 0 _ = _
          rw [d4, addN_succ, addNew, if_neg (by simpa using hc)]
          simp
        · intro hc
          refine EX_nil ⟨by walk_at "loc", by walk_at "loc", by walk_at "loc", ?_⟩
          show σ₂.hp = _
          rw [d4, addN_succ, addNew, if_pos (by simpa using hc)]
      · rintro σ₂ ⟨d1, d2, d3, d4⟩
        rw [Int.toNat_natCast] at d4
        exact ⟨d1, d2, by rw [hnext, ← d4]⟩
    · rintro σ₁ ⟨c1, c2, c3⟩
      rw [List.length_map, List.take_length] at c3
      refine EX_cons (EX1_assign (v := .own 0) (by walk_at "ev") (by kernel_rfl) (by kernel_rfl) ?_)
      refine EX_freeze [] ((stepO sign os).map .str) (Nat.zero_le _) ?_ (fun _ h => by cases h) (EX_nil ⟨?_, rfl⟩)
      · show σ₁.hp = _
        rw [c3, List.map_map]; rfl
      · rw [enext]
        exact loc_freeze_last (loc_same _ _ _) rfl
  · rintro σ ⟨m1, m2⟩
    rw [List.length_map, List.take_length] at m1
    refine EX_cons (EX1_return (by walk_at "ev") ⟨0, ?_⟩)
    rw [resolve]
end Mine
end
/-! Eq1 -/
section
open PySem PySem.W PyProof.Rows PySem.Builtin PySem.Builtin.Str
namespace Mine
variable {C : Cx} {σ : St} {P : Out → St → Prop}

theorem enum_turn {x y : Str} {px py tp : Pos} {kt i : Nat} {N l' : Addr} {vs : Array Value} {u old : Value} {m : Str → Option Value} {s₃ : Shared} {E : Value → Shared → Prop} {Q : Shared → Prop}
    (hg : COk C) (hkx : C.env.kindOf x = some .local) (hky : C.env.kindOf y = some .local) (hm : s₃.heap.Ns C.env.locals m) (hE₁ : IsEnum s₃.heap (N + 1) N i old) (hit₁ : s₃.heap.IsListIter N l' i)
    (hp : s₃.heap.PlainList l' vs) (hu : vs[i]? = some u) (hL : C.env.locals ∉ [N + 1, N])
    (hq : ∀ h₆, IsEnum h₆ (N + 1) N ((i : Int) + 1) u → h₆.IsListIter N l' (i + 1) → h₆.Ns C.env.locals (bindAll m [(x, .int i s₃.toks), (y, u)]) →
      (∀ b o, b ∉ [N + 1, N] → b ≠ C.env.locals → s₃.heap.get? b = some o → h₆.get? b = some o) → Q { s₃ with heap := h₆, toks := s₃.toks + 1 + 1 + 1 }) :
    wpAny (model C.prog C.w) C.A (pyNext (.ref (N + 1))) (fun r s₁ => ∃ v, r = some v ∧ wpAny (model C.prog C.w) C.A (letOwnedTupleGo (.Tuple [.Name x px, .Name y py] kt tp) (.ref (N + 1)) v) (fun _ s₂ =>
      wpAny (model C.prog C.w) C.A (assign (.Tuple [.Name x px, .Name y py] kt tp) C.env v) (fun _ s' => Q s') E s₂) E s₁) E s₃ := by
  have hNe : N + 1 ≠ N := Nat.succ_ne_self N
  refine wpAny_pyNext_enum_item hE₁ hit₁ hp.isList hu hNe fun h₂ hO hit₂ hT hsz hk₂ => ⟨_, rfl, ?_⟩
  generalize hM : s₃.heap.objs.size = M at hO hT hsz ⊢
  have hlt3 : ∀ b o, s₃.heap.get? b = some o → @LT.lt Nat _ b M := fun b o e => hM ▸ Heap.lt_size e
  have hMe : M ≠ N + 1 := fun q => by have := hlt3 _ _ hE₁; rw [q] at this; exact Nat.lt_irrefl _ this
  refine wpAny_letOwnedTupleGo_enum hO fun h₃ hE₃ hs₃ => ?_
  have ht₃ : h₃.IsTuple M #[.int i s₃.toks, u] := ⟨_, (hs₃.2 M hMe).trans hT, rfl, _, rfl⟩
  refine wpAny_assign_Tuple hg.hh ht₃ rfl rfl fun h₄ hx₄ => ?_
  have hk₄ : ∀ b o, b ∉ [N + 1, N] → s₃.heap.get? b = some o → h₄.get? b = some o := fun b o hb e => by
    simp only [List.mem_cons, List.not_mem_nil, or_false, not_or] at hb
    have e2 := (hs₃.2 b hb.1).trans (hk₂ b o hb.1 hb.2 e)
    exact hx₄ b o (Nat.ne_of_lt (Heap.lt_size e2)) e2
  have hE₄ : IsEnum h₄ (N + 1) N ((i : Int) + 1) u := hx₄ _ _ (Nat.ne_of_lt (Heap.lt_size hE₃)) hE₃
  have hit₃ : h₃.IsListIter N l' (i + 1) := hit₂.at fun o e => (hs₃.2 N (Ne.symm hNe)).trans e
  have hit₄ : h₄.IsListIter N l' (i + 1) := hit₃.at fun o e => hx₄ _ o (Nat.ne_of_lt (Heap.lt_size e)) e
  have hns₄ : h₄.Ns C.env.locals m := hm.at' fun o e => hk₄ _ o hL e
  show wpAny _ _ (do holding [u] (assign (.Name x px) C.env (.int i s₃.toks)); assignInOrder [assign (.Name y py) C.env] [u]) _ _ _
  refine wpAny_bind (wpAny_holding (PySem.wpAny_assign_Name (wpAny_storeName_local hkx hns₄ (fun h₅ hn₅ hs₅ => ?_) (hpFor_fn hg.fk))))
  show wpAny _ _ (do holding [] (assign (.Name y py) C.env u); assignInOrder [] []) _ _ _
  refine wpAny_bind (wpAny_holding (PySem.wpAny_assign_Name (wpAny_storeName_local hky hn₅ (fun h₆ hn₆ hs₆ => ?_) (hpFor_fn hg.fk))))
  refine wpAny_pure ?_
  have keep : ∀ b o, b ∉ [N + 1, N] → b ≠ C.env.locals → s₃.heap.get? b = some o → h₆.get? b = some o := fun b o hb hbL e => (hs₆.2 b hbL).trans ((hs₅.2 b hbL).trans (hk₄ b o hb e))
  have hLN : ∀ b ∈ [N + 1, N], b ≠ C.env.locals := fun b hb q => hL (q ▸ hb)
  have hE₆ : IsEnum h₆ (N + 1) N ((i : Int) + 1) u := (hs₆.2 _ (hLN _ (by simp))).trans ((hs₅.2 _ (hLN _ (by simp))).trans hE₄)
  have hit₆ : h₆.IsListIter N l' (i + 1) := hit₄.at fun o e => (hs₆.2 _ (hLN _ (by simp))).trans ((hs₅.2 _ (hLN _ (by simp))).trans e)
  exact hq h₆ hE₆ hit₆ hn₆ keep
inductive EI (C : Cx) (H ρ : List Addr) (s : Shared) (I : Nat → St → Prop) (N l' : Addr) (n k m : Nat) (s' : Shared) : Prop
  | mk (i : Nat) (ρ' : List Addr) (σ' : St) (R : Rel C (H ++ [N + 1, N]) ρ' σ' s') (st : Step C ρ s ρ' s') (hE : ∃ old, IsEnum s'.heap (N + 1) N i old) (hit : s'.heap.IsListIter N l' i) (hI : I i σ') (hi : i ≤ n) (hm : m = n + 1 - i) (hf : ∀ b ∈ [N + 1, N], b ∉ ρ') (hkl : ρ'[k]? = some l')
theorem EX1_for_enum_own {x y : Str} {px py tp np p pp : Pos} {kt k n : Nat} {e : Expr} {body : List Stmt} (b : Bi C "enumerate" (.type "enumerate")) (he : EV C σ e (.own k)) (hkn : k < C.kn) (hs : starEach [e] C.env = [(false, eval e C.env)])
    (hfs : ∀ v, foldedSetIterable (.Call (.Name (Str.ofString "enumerate") np) [e] [] p) C.env v = pure v) (hkx : C.env.kindOf x = some .local) (hky : C.env.kindOf y = some .local)
    (I : Nat → St → Prop) (h0 : I 0 σ) (hlen : ∀ i σ', I i σ' → ∃ xs, σ'.hp[k]? = some xs ∧ xs.length = n ∧ ∀ v, xs[i]? = some v → ∃ g, v = .fv g)
    (turn : ∀ i g σ' xs, i < n → I i σ' → σ'.hp[k]? = some xs → xs[i]? = some (.fv g) → EX C ((σ'.set x (.fv (.int i))).set y (.fv g)) body (Turn (I (i + 1)) P))
    (done : ∀ σ', I n σ' → P .next σ') : EX1 C σ (.For (.Tuple [.Name x px, .Name y py] kt tp) (.Call (.Name (Str.ofString "enumerate") np) [e] [] p) body [] pp) P := by
  intro H ρ s hg R
  refine wpAny_For (wpAny_Call_NameR (glob_builtin hg R.e b.hx b.hd b.hm b.hn b.hb (PyProof.Rows.callWith_type1 (PyProof.Rows.spliced_more (he H ρ s _ _ hg R.e fun v s₁ k₁ hv => PyProof.Rows.spliced_none ?_) hs) hs))) hfs
  cases hv with | @own _ l eo =>
  have R₁ := R.keeps hg k₁
  obtain ⟨xs0, hx0, hl0, _⟩ := hlen 0 σ h0
  obtain ⟨l', vs0, e1, hp0, hv0⟩ := R₁.e.own k xs0 hx0
  have e2 := Option.some.inj (e1.symm.trans eo)
  subst e2
  obtain ⟨nn, hn0⟩ := id hp0
  refine call_enumerate_1 hn0 fun h' hE hit hz' hk' => ?_
  have hsame : Keeps s₁ { s₁ with heap := h' } := ⟨h', s₁.toks, rfl, hk'⟩
  have hltl : l' < s₁.heap.objs.size := Heap.lt_size hn0
  generalize hN : s₁.heap.objs.size = N at hE hit hz' hltl ⊢
  refine wpAny_pyIter_enum hE ?_
  have k₂ : Keeps s { s₁ with heap := h' } := keeps_trans k₁ hsame
  have newN₁ : ∀ b, b = N ∨ b = N + 1 → s₁.heap.get? b = none := fun b hb => by
    cases e : s₁.heap.get? b with
    | none => rfl
    | some o => have h2 : @LT.lt Nat _ b N := hN ▸ Heap.lt_size e; rcases hb with rfl | rfl <;> (first | lia | omega)
  have newN : ∀ b, b = N ∨ b = N + 1 → s.heap.get? b = none := fun b hb => by
    cases e : s.heap.get? b with
    | none => rfl
    | some o => have := keeps_ext k₁ _ _ e; rw [newN₁ b hb] at this; cases this
  have hwr : ∀ b ∈ [N + 1, N], s.heap.get? b = none := fun b hb => by
    simp only [List.mem_cons, List.not_mem_nil, or_false] at hb
    exact newN b hb.symm
  have hlive0 : ∀ b ∈ [N + 1, N], ∃ o, h'.get? b = some o := fun b hb => by
    simp only [List.mem_cons, List.not_mem_nil, or_false] at hb
    rcases hb with rfl | rfl
    · exact ⟨_, hE⟩
    · obtain ⟨o, q, _⟩ := hit; exact ⟨o, q⟩
  have R₂ : Rel C (H ++ [N + 1, N]) ρ σ { s₁ with heap := h' } := hide_more hg R k₂ hwr hlive0
  have hfH : ∀ b ∈ [N + 1, N], b ∉ ρ ++ H := fun b hb m => by
    obtain ⟨o, q⟩ := R.e.low b m
    rw [hwr b hb] at q; cases q
  have hfmu : ∀ b ∈ [N + 1, N], b ∉ C.mu := fun b hb m => hfH b hb (List.mem_append.mpr (.inr (R.sub b m)))
  have hfout : ∀ b ∈ [N + 1, N], b ∉ C.out := fun b hb m => hfH b hb (List.mem_append.mpr (.inr (R.out b m).1))
  have hNe : N + 1 ≠ N := Nat.succ_ne_self N
  refine codeAny_mono (codeAny_forLoop_any (R := PostR C H ρ s P) (EI C H ρ s I N l' n k) ?_ (n + 1)
    ⟨0, ρ, σ, R₂, .of_keeps k₂, ⟨_, hE⟩, hit, h0, Nat.zero_le _, rfl, fun b hb m => hfH b hb (List.mem_append.mpr (.inl m)), eo⟩) ?_
  · rintro m s₃ ⟨i, ρ₁, σ₁, R₁, st₁, ⟨old, hE₁⟩, hit₁, hI, hi, rfl, hf₁, hkl⟩
    obtain ⟨m, hm⟩ := R₁.ns
    obtain ⟨xs, hxs, hxl, hxf⟩ := hlen i σ₁ hI
    obtain ⟨l'', vs, e1, hp, hv⟩ := R₁.e.own k xs hxs
    have e2 := Option.some.inj (hkl.symm.trans e1)
    subst e2
    have hll : ∀ b ∈ [N + 1, N], b ≠ l' := fun b hb q => hf₁ b hb (q ▸ List.mem_of_getElem? hkl)
    by_cases hlt : i < n
    · obtain ⟨g, hg'⟩ := hxf _ (List.getElem?_eq_getElem (by (first | lia | omega)))
      have hxi : xs[i]? = some (.fv g) := by rw [List.getElem?_eq_getElem (by (first | lia | omega)), hg']
      obtain ⟨u, hu⟩ : ∃ u, vs[i]? = some u := ⟨_, Array.getElem?_eq_getElem (by rw [hv.1]; (first | lia | omega))⟩
      have hgu := hv.2.2 i _ u hxi hu
      cases hgu with | fv hgu =>
      refine wpAny_mono (enum_turn (Q := fun s' => wpAny _ _ (execs body C.env) _ _ s') hg hkx hky hm hE₁ hit₁ hp hu (fun q => hfmu _ q R₁.loc) fun h₆ hE₆ hit₆ hn₆ keep => ?_) (fun x s' q => by obtain ⟨v, rfl, q⟩ := q; exact q) fun _ _ e => e
      have hxx : HExt (Hh (H ++ [N + 1, N]) ρ₁ s₃.heap) (Hh (H ++ [N + 1, N]) ρ₁ h₆) := by
        intro b o e
        have hb' : b ∉ ρ₁ ++ (H ++ [N + 1, N]) := fun m => by unfold Hh at e; rw [hideAll_none _ m] at e; cases e
        exact hideAll_get _ (keep b o (fun m => hb' (List.mem_append.mpr (.inr (List.mem_append.mpr (.inr m))))) (fun q => hb' (List.mem_append.mpr (.inr (q ▸ R₁.sub _ R₁.loc)))) (of_hideAll _ e)) hb'
      have hlive₆ : ∀ b ∈ [N + 1, N], ∃ o, h₆.get? b = some o := fun b hb => by
        simp only [List.mem_cons, List.not_mem_nil, or_false] at hb
        rcases hb with rfl | rfl
        · exact ⟨_, hE₆⟩
        · obtain ⟨o, q, _⟩ := hit₆; exact ⟨o, q⟩
      have R₃ := turn_rel (tk := s₃.toks + 1 + 1 + 1) (r := [(x, .int i), (y, g)]) (bs := [(x, .int i s₃.toks), (y, u)]) hg R₁ hm (fun p hp => by
          simp only [List.mem_cons, List.not_mem_nil, or_false] at hp
          rcases hp with rfl | rfl
          · exact hkx
          · exact hky) (.cons ⟨rfl, .int _ _⟩ (.cons ⟨rfl, hgu.mono hxx⟩ .nil)) hn₆ hfmu hlive₆ keep
      have st₃ : Step C ρ s ρ₁ { s₃ with heap := h₆, toks := s₃.toks + 1 + 1 + 1 } := by
        obtain ⟨h1, tk1, rfl⟩ := st₁.same
        exact ⟨⟨h₆, _, rfl⟩, fun b o hb hm e => kept_trans (st₁.kept b o hb hm e) fun o₂ e₂ => kept_of (keep b o₂ (fun m => by rw [hwr b m] at e; cases e) (fun q => hm (q ▸ R₁.loc)) e₂), st₁.fresh, st₁.pre⟩
      refine wpAny_mono (turn i g σ₁ xs hlt hI hxs hxi (H ++ [N + 1, N]) ρ₁ _ hg R₃) (fun f s₄ q => ?_) fun _ _ e => e.elim
      obtain ⟨ρ₄, σ₄, o, R₄, st₄, oi, hp'⟩ := q
      have st := st₃.trans st₄ R₄.nmut
      have hf₄ : ∀ b ∈ [N + 1, N], b ∉ ρ₄ := fun b hb m => by
        rcases st₄.fresh b m with q | q
        · exact hf₁ b hb q
        · obtain ⟨o, e⟩ := hlive₆ b hb
          have : h₆.get? b = none := q
          rw [this] at e; cases e
      have hE' : IsEnum s₄.heap (N + 1) N ((i : Int) + 1) u := st₄.keep _ _ (hf₁ _ (by simp)) (hfmu _ (by simp)) (hfout _ (by simp)) hE₆
      have hit' : s₄.heap.IsListIter N l' (i + 1) := hit₆.at fun o e => st₄.keep _ _ (hf₁ _ (by simp)) (hfmu _ (by simp)) (hfout _ (by simp)) e
      have hkl' := st₄.pre k l' hkn hkl
      cases oi with
      | next => exact ⟨n + 1 - (i + 1), by (first | lia | omega), i + 1, ρ₄, σ₄, R₄, st, ⟨_, hE'⟩, hit', hp', hlt, rfl, hf₄, hkl'⟩
      | cont => exact ⟨n + 1 - (i + 1), by (first | lia | omega), i + 1, ρ₄, σ₄, R₄, st, ⟨_, hE'⟩, hit', hp', hlt, rfl, hf₄, hkl'⟩
      | brk => exact ⟨.next, rfl, ρ₄, σ₄, .next, hide_less hg R₄ R.sub (fun b hb => (R.out b hb).1), st, .next, hp'⟩
      | ret r => exact ⟨.ret _, rfl, ρ₄, σ₄, _, hide_less hg R₄ R.sub (fun b hb => (R.out b hb).1), st, .ret (r.mono hh_less), hp'⟩
    · have hin : i = n := by (first | lia | omega)
      subst hin
      refine wpAny_pyNext_enum_end hg.hh hE₁ hit₁ hp.isList (Array.getElem?_eq_none (by rw [hv.1]; (first | lia | omega))) fun h₂ hx₂ => ?_
      have keep : ∀ b o, b ∉ [N + 1, N] → s₃.heap.get? b = some o → h₂.get? b = some o := fun b o hb e => hx₂ b o (fun q => hb (by simp [q])) e
      have hH : ∀ b ∈ H, b ∉ [N + 1, N] := fun b hb m => hfH b m (List.mem_append.mpr (.inr hb))
      have R₃ : Rel C H ρ₁ σ₁ { s₃ with heap := h₂, toks := s₃.toks } := done_rel hg R₁ R.sub (fun b hb => (R.out b hb).1) hH keep
      have st₃ : Step C ρ s ρ₁ { s₃ with heap := h₂, toks := s₃.toks } := by
        obtain ⟨h1, tk1, rfl⟩ := st₁.same
        exact ⟨⟨h₂, tk1, rfl⟩, fun b o hb hm e => kept_trans (st₁.kept b o hb hm e) fun o₂ e₂ => kept_of (keep b o₂ (fun m => by rw [hwr b m] at e; cases e) e₂), st₁.fresh, st₁.pre⟩
      exact wpAny_execs_nil ⟨.next, rfl, ρ₁, σ₁, .next, R₃, st₃, .next, done σ₁ hI⟩
  · rintro r s' ⟨f, rfl, hp⟩
    exact hp
end Mine
end
/-! Eq2 -/
section
open PySem PySem.W PyProof.Rows PySem.Builtin PySem.Builtin.Str
namespace Mine
variable {C : Cx} {σ : St} {P : Out → St → Prop}
theorem alloc_relG {H : List Addr} {ρ : List Addr} {s : Shared} (hg : COk C) (R : Rel C H ρ σ s) {xs : List AV} {vs : Array Value} (hv : VRs (Hh H ρ s.heap) ρ xs vs) {h' : Heap} (k' : ∀ b o, s.heap.get? b = some o → h'.get? b = some o) (hpl : h'.PlainList s.heap.objs.size vs) :
    Rel C H (ρ ++ [s.heap.objs.size]) (σ.alloc xs) { s with heap := h' } ∧
    Step C ρ s (ρ ++ [s.heap.objs.size]) { s with heap := h' } ∧
    Up H ρ s (ρ ++ [s.heap.objs.size]) { s with heap := h' } := by
  have k : Keeps s { s with heap := h' } := ⟨h', s.toks, rfl, k'⟩
  have hnew : ∀ b o, s.heap.get? b = some o → b ≠ s.heap.objs.size := fun b o e => Nat.ne_of_lt (Heap.lt_size e)
  have hx : HExt (Hh H ρ s.heap) (Hh H (ρ ++ [s.heap.objs.size]) h') := by
    intro b o e
    have hb : b ∉ ρ ++ H := fun m => by unfold Hh at e; rw [hideAll_none _ m] at e; cases e
    have he := of_hideAll _ e
    refine hideAll_get _ (keeps_ext k _ _ he) ?_
    simp only [List.mem_append, List.mem_singleton, not_or] at hb ⊢
    exact ⟨⟨hb.1, hnew b o he⟩, hb.2⟩
  have up : Up H ρ s (ρ ++ [s.heap.objs.size]) { s with heap := h' } := fun w y r => (r.mono hx).push
  refine ⟨⟨⟨hg.gm _ _ hx R.e.g, fun a ha => ?_, fun x av e => ?_, fun j ys e => ?_⟩, ?_, ?_, let ⟨m, q⟩ := R.ns; ⟨m, q.keeps (keeps_ext k)⟩, R.loc, R.sub, cells_to R.cl fun c _ o _ e _ => keeps_ext k c o e, R.out⟩,
    ⟨⟨_, _, rfl⟩, fun b o _ _ e => kept_of (keeps_ext k b o e), fun a ha => ?_, fun j a _ e => by rw [List.getElem?_append_left (List.getElem?_eq_some_iff.mp e).1]; exact e⟩, up⟩
  · simp only [List.mem_append, List.mem_singleton] at ha
    rcases ha with (ha | rfl) | ha
    · obtain ⟨o, q⟩ := R.e.low a (List.mem_append.mpr (.inl ha)); exact ⟨o, keeps_ext k _ _ q⟩
    · obtain ⟨n, e⟩ := hpl; exact ⟨_, e⟩
    · obtain ⟨o, q⟩ := R.e.low a (List.mem_append.mpr (.inr ha)); exact ⟨o, keeps_ext k _ _ q⟩
  · obtain ⟨v, a, b⟩ := R.e.names x av e
    exact ⟨v, up _ _ a, b.mono (keeps_ext k)⟩
  · have hl := R.len
    simp only [St.alloc] at e
    by_cases hj : j < σ.hp.length
    · rw [List.getElem?_append_left hj] at e
      obtain ⟨a, us, e1, hp, hu⟩ := R.e.own j ys e
      refine ⟨a, us, ?_, hp.at fun o q => keeps_ext k _ o q, (hu.mono hx).push⟩
      rw [List.getElem?_append_left (by (first | lia | omega))]; exact e1
    · have hj' : j = σ.hp.length := by
        have := (List.getElem?_eq_some_iff.mp e).1
        simp at this; (first | lia | omega)
      subst hj'
      rw [List.getElem?_append_right (Nat.le_refl _)] at e
      simp at e
      subst e
      refine ⟨s.heap.objs.size, vs, by rw [← hl, List.getElem?_append_right (Nat.le_refl _)]; simp, hpl, (hv.mono hx).push⟩
  · have ha : s.heap.objs.size ∉ ρ ++ H := fun m => by
      obtain ⟨o, q⟩ := R.e.low _ m
      exact absurd (Heap.lt_size q) (Nat.lt_irrefl _)
    simp only [List.mem_append, not_or] at ha
    refine ⟨List.nodup_append.mpr ⟨R.nd.1, by simp, fun x hx y hy e => ?_⟩, trivial, fun x hx y hy e => ?_⟩
    · simp only [List.mem_singleton] at hy
      exact ha.1 (hy ▸ e ▸ hx)
    · simp only [List.mem_append, List.mem_singleton] at hx
      rcases hx with hx | rfl
      · exact R.nd.2.2 x hx y hy e
      · exact ha.2 (e ▸ hy)
  · simp [St.alloc, R.len]
  · simp only [List.mem_append, List.mem_singleton] at ha
    rcases ha with ha | rfl
    · exact .inl ha
    · right
      cases e : s.heap.get? s.heap.objs.size with
      | none => rfl
      | some o => exact absurd (Heap.lt_size e) (Nat.lt_irrefl _)


theorem EVA_copy {np p : Pos} {e : Expr} {xs : List FV} (b : Bi C "list" (.type "list")) (he : EV C σ e (.fv (.list xs))) (hs : starEach [e] C.env = [(false, eval e C.env)]) :
    EVA C σ (.Call (.Name (Str.ofString "list") np) [e] [] p) (.own σ.hp.length) (σ.alloc (xs.map .fv)) := by
  intro H ρ s Q E hg R hq
  refine wpAny_Call_NameR (glob_builtin hg R.e b.hx b.hd b.hm b.hn b.hb (PyProof.Rows.callWith_type1 (PyProof.Rows.spliced_more (he H ρ s _ E hg R.e fun y s₁ k₁ hy => PyProof.Rows.spliced_none ?_) hs) hs))
  cases hy with | fv hy =>
  obtain ⟨a, vs, rfl, hp, hsz, hf⟩ := hy.list_inv
  have R₁ := R.keeps hg k₁
  obtain ⟨n, hn⟩ := hide_plain hp
  refine call_list_seq a (.inl rfl) hn rfl rfl (fun h' c' keep hD => ?_) hsz
  have e1 := hf.length
  have hv : VRs (Hh H ρ s₁.heap) ρ (xs.map .fv) vs := by
    refine ⟨by simpa using e1.symm, hsz, fun i x v q1 q2 => ?_⟩
    rw [List.getElem?_map] at q1
    obtain ⟨f, q3, rfl⟩ := Option.map_eq_some_iff.mp q1
    exact .fv (paired_get hf q3 (by simpa using q2))
  obtain ⟨A, B, U⟩ := alloc_relG hg R₁ hv keep ⟨c', hD⟩
  refine hq _ _ _ A ((Step.of_keeps k₁).trans B A.nmut) ((Up.of_keeps k₁).trans U) (.own ?_)
  rw [← R.len, List.getElem?_append_right (Nat.le_refl _)]; simp
end Mine
end
/-! Eu1 -/
section
open PySem PySem.W PyProof.Rows PySem.Builtin PySem.Builtin.Str
namespace Mine
variable {C : Cx} {σ : St} {P : Out → St → Prop}

theorem VRs.erase {h : Heap} {ρ : List Addr} {xs : List AV} {vs : Array Value} (r : VRs h ρ xs vs) (j : Nat) : VRs h ρ (xs.eraseIdx j) (vs.eraseIdxIfInBounds j) := by
  have e : (vs.eraseIdxIfInBounds j).toList = vs.toList.eraseIdx j := by simp
  have es : (vs.eraseIdxIfInBounds j).size = (vs.toList.eraseIdx j).length := by rw [← e, Array.length_toList]
  have hl : vs.toList.length = xs.length := by simpa using r.1
  have e1 : (vs.toList.eraseIdx j).length = (xs.eraseIdx j).length := by rw [List.length_eraseIdx, List.length_eraseIdx, hl]
  refine ⟨es.trans e1, ?_, fun i x v e1 e2 => ?_⟩
  · rw [es]
    have := List.length_eraseIdx_le vs.toList j
    have h2 := r.2.1
    simp only [Array.length_toList] at this
    (first | lia | omega)
  · have e2' : (vs.toList.eraseIdx j)[i]? = some v := by rw [← e, Array.getElem?_toList]; exact e2
    rw [List.getElem?_eraseIdx] at e1 e2'
    by_cases hi : i < j
    · rw [if_pos hi] at e1 e2'
      exact r.2.2 i x v e1 (by simpa using e2')
    · rw [if_neg hi] at e1 e2'
      exact r.2.2 (i + 1) x v e1 (by simpa using e2')

/-- x[:] as a list of the frame's own -/
theorem EVA_slice {x : Str} {px p pos : Pos} {xs : List FV} (hv : EV C σ (.Name x px) (.fv (.list xs))) :
    EVA C σ (.Subscript (.Name x px) (.Slice none none none p) pos) (.own σ.hp.length) (σ.alloc (xs.map .fv)) := by
  intro H ρ s Q E hg R h
  refine wpAny_Subscript_list_slice (hv H ρ s _ E hg R.e fun o s₁ k₁ ho => evalPart_ok (k := none) (e := none) trivial hg (R.keeps hg k₁).e fun a s₂ k₂ ha => evalPart_ok (k := none) (e := none) trivial hg ((R.keeps hg k₁).keeps hg k₂).e fun b s₃ k₃ hb => ?_) (fun _ _ => rfl)
  cases ho with | fv ho =>
  have k13 := keeps_trans k₁ (keeps_trans k₂ k₃)
  obtain ⟨l, vs, rfl, hp, hs, hf⟩ := ho.list_inv
  have R₃ := R.keeps hg k13
  refine ⟨l, vs, none, none, rfl, ((hide_plain hp).at fun o e => keeps_ext (keeps_trans k₂ k₃) _ o e).isList, hs, ha ▸ part_is, hb ▸ part_is, ?_⟩
  have kA := keeps_push s₃ { cls := .type "slice", data := .fields #[partValue a, partValue b, .none] }
  have hcut : slicePick vs none none none = vs := by
    have := slicePick_plain vs none none
    apply Array.toList_inj.mp
    rw [this]
    simp only [Option.elim, List.drop_zero, Nat.sub_zero]
    exact List.take_of_length_le (by simp)
  have hf₃ := f2_mono (Hh_keeps (keeps_trans (keeps_trans k₂ k₃) kA)) hf
  have hlen := hf₃.length
  have R₄ := R₃.keeps hg kA
  have hvs : VRs (Hh H ρ (s₃.heap.push { cls := .type "slice", data := .fields #[partValue a, partValue b, .none] })) ρ (xs.map .fv) vs := by
    refine ⟨by simpa using hlen.symm, hs, fun i y v e1 e2 => ?_⟩
    rw [List.getElem?_map] at e1
    obtain ⟨f, e3, rfl⟩ := Option.map_eq_some_iff.mp e1
    exact .fv (paired_get hf₃ e3 (by simpa using e2))
  obtain ⟨RA, ST, UP⟩ := alloc_rel hg R₄ hvs
  rw [hcut]
  have e0 : (s₃.heap.push { cls := .type "slice", data := .fields #[partValue a, partValue b, .none] }).objs.size = s₃.heap.objs.size + 1 := Heap.size_push ..
  have hst := ((Step.of_keeps (C := C) (ρ := ρ) (keeps_trans k13 kA)).trans ST RA.nmut)
  have hup := (Up.of_keeps (H := H) (ρ := ρ) (keeps_trans k13 kA)).trans UP
  have hown : VR (Hh H (ρ ++ [(s₃.heap.push { cls := .type "slice", data := .fields #[partValue a, partValue b, .none] }).objs.size]) ((s₃.heap.push { cls := .type "slice", data := .fields #[partValue a, partValue b, .none] }).push { cls := .type "list", data := .seq vs })) (ρ ++ [(s₃.heap.push { cls := .type "slice", data := .fields #[partValue a, partValue b, .none] }).objs.size]) (.own σ.hp.length) (.ref (s₃.heap.push { cls := .type "slice", data := .fields #[partValue a, partValue b, .none] }).objs.size) := by
    refine .own ?_
    rw [← R.len, List.getElem?_append_right (Nat.le_refl _)]; simp
  have := h _ _ _ RA hst hup hown
  rw [e0] at this
  exact this

theorem EX1_pop {x : Str} {o : Expr} {px ap p q : Pos} {k : Nat} {xs : List AV} {v : AV} (ho : EV C σ o (.own k)) (hk : σ.hp[k]? = some (xs ++ [v])) (hl : C.env.kindOf x = some .local)
    (hbase : attributeBase o "pop" C.env (eval o C.env) = eval o C.env) (hline : (ap.endLine == p.line) = true)
    (hs : swapsWith (.Call (.Attribute o "pop" ap) [] [] p) (some (.Name x px)) q.line C.env = pure false) (h : P .next ((σ.put k xs).set x v)) :
    EX1 C σ (.Assign [.Name x px] (.Call (.Attribute o "pop" ap) [] [] p) q) P := by
  intro H ρ s hg R
  refine wpAny_Assign_Name (wpAny_Call_method0_late hbase hline (ho H ρ s _ _ hg R.e fun y s₁ k₁ hy => ?_)) hs
  cases hy with | own eo =>
  have R₁ := R.keeps hg k₁
  obtain ⟨a, vs, e2, hp, hv⟩ := R₁.e.own k _ hk
  have e3 := Option.some.inj (e2.symm.trans eo)
  subst e3
  have hp0 := hp
  obtain ⟨n, hn⟩ := hp
  have hsz : vs.size = xs.length + 1 := by have := hv.1; simpa using this
  have hlt : vs.size - 1 < vs.size := by (first | lia | omega)
  have hx : vs[vs.size - 1]? = some vs[vs.size - 1] := Array.getElem?_eq_getElem hlt
  refine ⟨"list", "list.pop", PySem.F.plainAttrs_list, PySem.F.slot_list_pop, PySem.F.type_list_pop, hp0.isList.typeIs, fun b hb => (by cases hb; exact ⟨_, hn, rfl⟩), ?_⟩
  refine PySem.P.pop_list hn hx ?_ hv.2.1
  have hp' : (s₁.heap.update a (Obj.mapSeq fun xs => xs.eraseIdxIfInBounds (vs.size - 1))).PlainList a (vs.eraseIdxIfInBounds (vs.size - 1)) := by
    have := Heap.get?_update_self (Obj.mapSeq fun xs => xs.eraseIdxIfInBounds (vs.size - 1)) hn (by rfl)
    exact ⟨_, this⟩
  have hv2 := hv.erase (vs.size - 1)
  have e4 : (xs ++ [v]).eraseIdx (vs.size - 1) = xs := by
    rw [hsz, Nat.add_sub_cancel, List.eraseIdx_append_of_length_le (Nat.le_refl _)]
    simp
  rw [e4] at hv2
  obtain ⟨A, B, U⟩ := put_rel (tk := s₁.toks) hg R₁ eo (Heap.SameBut.update ..) hp' hv2
  have hvv : VR (Hh H ρ s₁.heap) ρ v vs[vs.size - 1] := hv.2.2 (vs.size - 1) v _ (by rw [hsz]; simp) hx
  refine store_ok hg A (U _ _ hvv) hl fun s₂ R₂ st => ?_
  exact ⟨ρ, _, .next, R₂, ((Step.of_keeps k₁).trans B A.nmut).trans st R₂.nmut, .next, h⟩
end Mine
end
/-! Eu2 -/
section
open PySem PySem.W PyProof.Rows PySem.Builtin PySem.Builtin.Str
namespace Mine

theorem readyFrames2 {M : Model} {A : Around} {E : Value → Shared → Prop} {s : Shared} {env lw : Env} {L Lw : Addr} {oL oW : Obj} {Q : Unit → Shared → Prop} (hk : env.scope.kind ≠ .module) (hkw : lw.scope.kind ≠ .module) (hf : env.frame = some L) (hfw : lw.frame = some Lw)
    (ho : s.heap.get? L = some oL) (how : s.heap.get? Lw = some oW) (h : ∀ h', Heap.SlotsOnly [L, Lw] s.heap h' → Q () { s with heap := h' }) : wpAny M A (readyFrames [env, lw]) Q E s := by
  simp only [readyFrames, hf]
  refine wpAny_bind (wpAny_load ho ?_)
  by_cases hrd : ((oL.slots.getD 3 none).isSome) = true
  · rw [if_pos hrd]; exact wpAny_pure (h _ (.refl ..))
  · rw [if_neg hrd]
    refine wpAny_bind (wpAny_of_eq (a := false) (by simp [behindIsImport, hk]) ?_)
    refine wpAny_bind (wpAny_keptBack_false fun back => ?_)
    refine wpAny_bind (wpAny_update ho ?_)
    have hu := Heap.SlotsOnly.update ho fun o => #[some env.code, some (.ref env.globals), o.slots.getD 2 none, some back, o.slots.getD 4 none, env.func.map Value.ref, some (.ref env.builtins)]
      ++ (env.cells.map fun c => some (.ref c.2)).toArray
    obtain ⟨sl, how2⟩ := hu.2.2 Lw oW how
    simp only [hfw]
    refine wpAny_bind (wpAny_load how2 ?_)
    by_cases hrd2 : ((sl.getD 3 none).isSome) = true
    · rw [if_pos hrd2]; exact wpAny_pure (h _ (hu.mono fun b hb => List.mem_cons.mpr (Or.inl (List.mem_singleton.mp hb))))
    · rw [if_neg hrd2]
      refine wpAny_bind (wpAny_of_eq (a := false) (by simp [behindIsImport, hkw]) ?_)
      refine wpAny_bind (wpAny_keptBack_false fun back2 => ?_)
      refine wpAny_bind (wpAny_update how2 (wpAny_pure ?_))
      have hu2 := Heap.SlotsOnly.update how2 fun o => #[some lw.code, some (.ref lw.globals), o.slots.getD 2 none, some back2, o.slots.getD 4 none, lw.func.map Value.ref, some (.ref lw.builtins)]
        ++ (lw.cells.map fun c => some (.ref c.2)).toArray
      exact h _ ((hu.mono fun b hb => List.mem_cons.mpr (Or.inl (List.mem_singleton.mp hb))).trans (hu2.mono fun b hb => List.mem_cons_of_mem _ hb))

/-- an exception that is new is caught in its frame -/
theorem exc_noted {M : Model} {A : Around} {E : Value → Shared → Prop} {s : Shared} {env lw : Env} {L Lw e : Addr} {oL oW oe : Obj} {vs : Array Value} {Q : Unit → Shared → Prop} (hfr : A.frames = some [env, lw])
    (hk : env.scope.kind ≠ .module) (hkw : lw.scope.kind ≠ .module) (hf : env.frame = some L) (hfw : lw.frame = some Lw)
    (ho : s.heap.get? L = some oL) (how : s.heap.get? Lw = some oW) (he : s.heap.get? e = some oe) (hLe : L ≠ e) (hWe : Lw ≠ e) (hd : oe.data = .fields vs) (h1 : vs[1]? = some .none)
    (h : ∀ h', (∀ b o, b ≠ e → s.heap.get? b = some o → ∃ sl, h'.get? b = some { o with slots := sl } ∧ (b ≠ L → b ≠ Lw → sl = o.slots)) → (∃ o', h'.get? e = some o' ∧ o'.cls = oe.cls ∧ ∃ vs' tb otb tvs, o'.data = .fields vs' ∧ vs'[1]? = some (.ref tb) ∧ h'.get? tb = some otb ∧ otb.data = .fields tvs ∧ 3 < tvs.size ∧ s.heap.get? tb = none) → Q () { s with heap := h' }) :
    wpAny M A (noteFrame (.ref e) env) (fun _ s₂ => wpAny M A (setFlight (.ref e) none) Q E s₂) E s := by
  have hsz : 1 < vs.size := (Array.getElem?_eq_some_iff.mp h1).1
  unfold noteFrame
  simp only [hf]
  refine wpAny_bind (wpAny_field he hd h1 ?_)
  rw [if_neg (by decide)]
  unfold PySem.frameOf
  refine wpAny_bind (wpAny_bind (wpAny_frameEnvs hfr ?_))
  have hdw : ([env, lw].dropWhile fun x => x.frame != env.frame) = [env, lw] := by simp [List.dropWhile]
  rw [hdw]
  unfold frameObject
  refine wpAny_bind (wpAny_bind (readyFrames2 hk hkw hf hfw ho how fun h₁ hs₁ => wpAny_pure ?_))
  rw [hf]
  refine wpAny_pure ?_
  refine wpAny_bind (wpAny_entryPlaceOf fun pl hpl => ?_)
  unfold EntryCells.newEntry newFields
  refine wpAny_bind (wpAny_newObj_type ?_ (hpl.sizeOk5 _ _ _ _ _))
  have he₁ : h₁.get? e = some oe := (hs₁.2.1 e (by simp [Ne.symm hLe, Ne.symm hWe])).trans he
  have he₂ := Heap.get?_push_of_some (h := h₁) { cls := .type "traceback", dict := none, data := .fields ([Value.none, .ref L, .none, rawInt L, .none] ++ (if pl.isEmpty then List.replicate 6 Value.none else pl)).toArray } he₁
  refine wpAny_setField he₂ hd hsz ?_
  have hTe : h₁.objs.size ≠ e := Nat.ne_of_gt (Heap.lt_size he₁)
  have hd₃ := Obj.data_mapFields hd (·.setIfInBounds 1 (Value.ref h₁.objs.size))
  have he₃ := Heap.get?_update_self (Obj.mapFields (·.setIfInBounds 1 (Value.ref h₁.objs.size))) he₂ (Obj.isFreed_of_fields hd₃)
  have hT₃ := (Heap.get?_update_other (h₁.push { cls := .type "traceback", dict := none, data := .fields ([Value.none, .ref L, .none, rawInt L, .none] ++ (if pl.isEmpty then List.replicate 6 Value.none else pl)).toArray })
    (Obj.mapFields (·.setIfInBounds 1 (Value.ref h₁.objs.size))) (Ne.symm hTe)).trans (Heap.get?_push_size h₁ rfl)
  unfold setFlight
  refine wpAny_bind (wpAny_field he₃ hd₃ (x := .ref h₁.objs.size) (by simp [hsz]) ?_)
  rw [if_pos (show (Value.ref h₁.objs.size != Value.none) = true from by simp)]
  refine wpAny_setField hT₃ rfl (by simp only [List.size_toArray, List.length_append, List.length_cons, List.length_nil] <;> (first | lia | omega)) (h _ (fun b o hbe hb => ?_) ?_)
  · obtain ⟨sl, hsl⟩ := hs₁.2.2 b o hb
    have hbT : h₁.objs.size ≠ b := Nat.ne_of_gt (Heap.lt_size hsl)
    refine ⟨sl, ?_, fun h1 h2 => ?_⟩
    · rw [Heap.get?_update_other _ _ hbT, Heap.get?_update_other _ _ (Ne.symm hbe)]
      exact Heap.get?_push_of_some _ hsl
    · have := hs₁.2.1 b (by simp [h1, h2])
      rw [hsl, hb] at this
      have := Option.some.inj this
      rw [← this]
  · have hn : s.heap.get? h₁.objs.size = none := Heap.get?_none_of_le (by rw [hs₁.1]; exact Nat.le_refl _)
    exact ⟨_, (Heap.get?_update_other _ _ hTe).trans he₃, Obj.cls_mapFields _ _, _, h₁.objs.size, _, _, hd₃, by simp [hsz], Heap.get?_update_self _ hT₃ (Obj.isFreed_of_fields (Obj.data_mapFields rfl _)), Obj.data_mapFields rfl _,
      by simp only [Array.size_setIfInBounds, List.size_toArray, List.length_append, List.length_cons, List.length_nil] <;> (first | lia | omega), hn⟩

variable {C : Cx} {σ : St} {P : Out → St → Prop}

/-- objects stay, up to the slots of frames -/
theorem slots_rel {H ρ : List Addr} {s : Shared} (hg : COk C) (R : Rel C H ρ σ s) {h' : Heap} {tk : Nat} (k : ∀ b o, s.heap.get? b = some o → ∃ sl, h'.get? b = some { o with slots := sl } ∧ (b ≠ C.env.locals → b ∉ C.out → sl = o.slots)) :
    Rel C H ρ σ { s with heap := h', toks := tk } ∧ Step C ρ s ρ { s with heap := h', toks := tk } ∧ Up H ρ s ρ { s with heap := h', toks := tk } := by
  have keep : ∀ b o, b ∉ H → s.heap.get? b = some o → h'.get? b = some o := fun b o hb e => by
    obtain ⟨sl, q, r⟩ := k b o e
    rw [r (fun q => hb (q ▸ R.sub _ R.loc)) (fun m => hb (R.out b m).1)] at q; exact q
  have hx : HExt (Hh H ρ s.heap) (Hh H ρ h') := by
    intro b o e
    have hb : b ∉ ρ ++ H := fun m => by unfold Hh at e; rw [hideAll_none _ m] at e; cases e
    exact hideAll_get _ (keep b o (fun m => hb (List.mem_append.mpr (.inr m))) (of_hideAll _ e)) hb
  have ns : ∀ m, s.heap.Ns C.env.locals m → h'.Ns C.env.locals m := fun m hm => by
    obtain ⟨o, es, ep, p1, p2, p3, p4⟩ := hm
    obtain ⟨sl, q, _⟩ := k _ o p1
    exact ⟨_, es, ep, q, p2, p3, p4⟩
  have cell : ∀ c v, s.heap.IsCell c v → h'.IsCell c v := fun c v hc => by
    obtain ⟨o, p1, p2⟩ := hc
    obtain ⟨sl, q, _⟩ := k _ o p1
    exact ⟨_, q, p2⟩
  refine ⟨⟨⟨hg.gm _ _ hx R.e.g, fun a ha => ?_, fun y av e => ?_, fun j ys e => ?_⟩, R.nd, R.len, let ⟨m, q⟩ := R.ns; ⟨m, ns m q⟩, R.loc, R.sub, fun x c e => ⟨(R.cl x c e).1, let ⟨v, q⟩ := (R.cl x c e).2; ⟨v, cell c v q⟩⟩, R.out⟩,
    ⟨⟨_, _, rfl⟩, fun b o _ hm e => ?_, fun a ha => .inl ha, fun _ _ _ e => e⟩, fun w y r => r.mono hx⟩
  · obtain ⟨o, q⟩ := R.e.low a ha
    obtain ⟨sl, q2, _⟩ := k a o q
    exact ⟨_, q2⟩
  · obtain ⟨u, a, b⟩ := R.e.names y av e
    refine ⟨u, a.mono hx, ?_⟩
    rcases b with ⟨b1, m', b2, b3⟩ | ⟨b1, c, b2, b3⟩ | ⟨b1, b0, c, b2, b3⟩
    · exact .inl ⟨b1, m', ns _ b2, b3⟩
    · exact .inr (.inl ⟨b1, c, b2, cell _ _ b3⟩)
    · exact .inr (.inr ⟨b1, b0, c, b2, cell _ _ b3⟩)
  · obtain ⟨a, us, e1, hp, hu⟩ := R.e.own j ys e
    exact ⟨a, us, e1, hp.at fun o q => keep a o (fun m => R.nd.2.2 a (List.mem_of_getElem? e1) a m rfl) q, hu.mono hx⟩
  · obtain ⟨sl, q, r⟩ := k b o e
    exact ⟨sl, q, fun ho => r (fun q => hm (q ▸ R.loc)) ho⟩

theorem name_ok {A : Around} {x : Str} {p : Pos} {v : AV} (hv : σ.loc x = some v) (hd : (x == ("__debug__" : Str)) = false) {H ρ : List Addr} {s : Shared} {Q : Value → Shared → Prop} {E : Value → Shared → Prop} (hg : COk C) (R : RelE C H ρ σ s)
    (h : ∀ w, VR (Hh H ρ s.heap) ρ v w → Q w s) : wpAny (model C.prog C.w) A (eval (.Name x p) C.env) Q E s := by
  obtain ⟨w, hw, hl⟩ := R.names x v hv
  refine wpAny_Name ?_ hd
  rcases hl with ⟨a, m, b, c⟩ | ⟨a, c, b, d⟩ | ⟨a, n, c, b, d⟩
  · exact wpAny_loadName_local hg.fk a b c (h w hw)
  · exact wpAny_loadName_cell hg.fk a b d (h w hw)
  · exact wpAny_loadName_free hg.fk a b d (h w hw) n
theorem glob_builtinA {A : Around} {x : Str} {p : Pos} {v : Value} {H : List Addr} {ρ : List Addr} {s : Shared} {Q : Value → Shared → Prop} {E : Value → Shared → Prop} (hg : COk C) (R : RelE C H ρ σ s) (b : Bi C x v) (h : Q v s) :
    wpAny (model C.prog C.w) A (eval (.Name x p) C.env) Q E s :=
  Calls.Name_function_global hg.fk b.hx (Calls.loadGlobal_builtin (by rw [hg.eg]; exact (Hh_g R).g) b.hm (by rw [hg.eb]; exact (Hh_g R).b) ((hg.bb x b.hn).trans b.hb) h) b.hd

theorem ve_base : isSubtype (.type "ValueError") (.type "BaseException") = pure true := by rw [isSubtype_type]; kernel_rfl
theorem ve_meta : isSubtype (.type ((Manifest.find? "ValueError").elim "type" fun x => x.metatype)) (.type "tuple") = pure false := by
  have e : ((Manifest.find? "ValueError").elim "type" fun x => x.metatype) = "type" := by kernel_rfl
  rw [e, isSubtype_type]; kernel_rfl
theorem ve_self : isSubtype (.type "ValueError") (.type "ValueError") = pure true := by rw [isSubtype_type]; kernel_rfl
end Mine
end
/-! Eu3 -/
section
open PySem PySem.W PyProof.Rows PySem.Builtin PySem.Builtin.Str
namespace Mine
variable {C : Cx} {σ : St} {P : Out → St → Prop}

noncomputable def tAV (l : List Nat) : AV := .fv (.str l)
noncomputable def strIs (a : List Nat) : Value → Bool
  | .str x _ => x == ⟨a.toArray⟩
  | _ => false

theorem strs_of {h : Heap} {ρ : List Addr} {ls : List (List Nat)} {vs : Array Value} (hv : VRs h ρ (ls.map tAV) vs) (i : Nat) (l : List Nat) (hl : ls[i]? = some l) : ∃ t, vs[i]? = some (.str ⟨l.toArray⟩ t) := by
  have hlt : i < vs.size := by rw [hv.1, List.length_map]; exact (List.getElem?_eq_some_iff.mp hl).1
  have e2 : vs[i]? = some vs[i] := Array.getElem?_eq_getElem hlt
  have := hv.2.2 i (tAV l) vs[i] (by rw [List.getElem?_map, hl]; rfl) e2
  rw [e2]
  generalize vs[i] = v at this
  cases this with | fv r => cases r with | str _ t _ => exact ⟨t, rfl⟩

theorem strIs_get {h : Heap} {ρ : List Addr} {ls : List (List Nat)} {vs : Array Value} (hv : VRs h ρ (ls.map tAV) vs) (a : List Nat) (i : Nat) (hi : i < vs.size) : ∃ l, ls[i]? = some l ∧ strIs a vs[i] = (l == a) := by
  have hlt : i < ls.length := by have := hv.1; rw [List.length_map] at this; (first | lia | omega)
  obtain ⟨t, ht⟩ := strs_of hv i ls[i] (List.getElem?_eq_getElem hlt)
  refine ⟨ls[i], List.getElem?_eq_getElem hlt, ?_⟩
  rw [Array.getElem?_eq_getElem hi] at ht
  rw [Option.some.inj ht]
  show ((⟨_⟩ : Str) == ⟨_⟩) = _
  exact str_beq _ _

theorem eraseIdx_idxOf {α : Type} [BEq α] [LawfulBEq α] (a : α) : ∀ (ls : List α), a ∈ ls → ∃ j, ∃ _ : j < ls.length, ls[j]? = some a ∧ (∀ m, m < j → ∀ l, ls[m]? = some l → (l == a) = false) ∧ ls.eraseIdx j = ls.erase a
  | [], h => by cases h
  | b :: ls, h => by
    by_cases q : b = a
    · subst q
      exact ⟨0, by simp, rfl, fun m hm => by (first | lia | omega), by simp⟩
    · have hm : a ∈ ls := by
        rcases List.mem_cons.mp h with e | e
        · exact absurd e.symm q
        · exact e
      obtain ⟨j, hj, e1, e2, e3⟩ := eraseIdx_idxOf a ls hm
      refine ⟨j + 1, by simpa using hj, by simpa using e1, fun m hm l hl => ?_, ?_⟩
      · cases m with
        | zero => simp at hl; subst hl; simpa using q
        | succ m => exact e2 m (by (first | lia | omega)) l (by simpa using hl)
      · rw [List.eraseIdx_cons_succ, e3, List.erase_cons_tail (by simpa using q)]

theorem map_erase_idx {α β : Type} (f : α → β) : ∀ (ls : List α) (j : Nat), (ls.map f).eraseIdx j = (ls.eraseIdx j).map f
  | [], _ => rfl
  | _ :: _, 0 => rfl
  | a :: ls, j + 1 => by
    show f a :: (ls.map f).eraseIdx j = _
    rw [map_erase_idx f ls j]; rfl

theorem remove_run {x1 xi : Str} {p1 p2 p3 p4 ap : Pos} {k : Nat} {ls : List (List Nat)} {a : List Nat} {H ρ : List Addr} {s : Shared} {Q : Flow → Shared → Prop} {E : Value → Shared → Prop}
    (hg : COk C) (R : Rel C H ρ σ s) (hx1 : σ.loc x1 = some (.own k)) (hk : σ.hp[k]? = some (ls.map tAV)) (hxi : σ.loc xi = some (tAV a))
    (hd1 : (x1 == ("__debug__" : Str)) = false) (hdi : (xi == ("__debug__" : Str)) = false)
    (hb1 : attributeBase (.Name x1 p1) "remove" C.env (eval (.Name x1 p1) C.env) = eval (.Name x1 p1) C.env) (hl1 : (ap.endLine == p3.line) = true) (ht1 : backTo p3 (starEach [.Name xi p2] C.env) = [(false, eval (.Name xi p2) C.env)])
    (hi : interactive C.env = false) (hs1 : swapsWith (.Call (.Attribute (.Name x1 p1) "remove" ap) [.Name xi p2] [] p3) none p4.line C.env = pure false)
    (hyes : a ∈ ls → ∀ s', Rel C H ρ (σ.put k ((ls.erase a).map tAV)) s' → Step C ρ s ρ s' → Q .next s')
    (hno : a ∉ ls → ∀ h' tk e, Heap.NewExc s.heap h' e "ValueError" → E (.ref e) { s with heap := h', toks := tk }) :
    wpAny (model C.prog C.w) C.A (execs [.Expr (.Call (.Attribute (.Name x1 p1) "remove" ap) [.Name xi p2] [] p3) p4] C.env) Q E s := by
  refine wpAny_execs_cons (wpAny_Expr (wpAny_Call_method1_late hb1 hl1 ht1 (name_ok hx1 hd1 hg R.e fun x hx => ?_)) hi hs1)
  cases hx with | own eo =>
  obtain ⟨l, vs, e2, hp, hv⟩ := R.e.own k _ hk
  have e3 := Option.some.inj (e2.symm.trans eo)
  subst e3
  have hp0 := hp
  obtain ⟨n, hn⟩ := hp
  refine ⟨"list", "list.remove", PySem.F.plainAttrs_list, PySem.F.slot_list_remove, PySem.F.type_list_remove, hp0.isList.typeIs, fun b hb => (by cases hb; exact ⟨_, hn, rfl⟩), ?_⟩
  refine Calls.callWith_builtin rfl (Calls.evalArgs_plain (Calls.spliced_cons (name_ok hxi hdi hg R.e fun y hy => Calls.spliced_nil ?_)))
  cases hy with | fv hy =>
  cases hy with | str _ t hok =>
  have he : ∀ y, y ∈ vs → MeetsSeq.EqGives y (.str ⟨a.toArray⟩ t) (strIs a y) := fun y hy => by
    obtain ⟨i, hi, rfl⟩ := Array.mem_iff_getElem.mp hy
    have hlt : i < ls.length := by have := hv.1; rw [List.length_map] at this; (first | lia | omega)
    obtain ⟨u, hu⟩ := strs_of hv i ls[i] (List.getElem?_eq_getElem hlt)
    rw [Array.getElem?_eq_getElem hi] at hu
    rw [Option.some.inj hu]
    exact eqGives_str _ _ _ _
  by_cases hmem : a ∈ ls
  · obtain ⟨j, hj, e1, e2, e3⟩ := eraseIdx_idxOf a ls hmem
    have hjv : j < vs.size := by rw [hv.1, List.length_map]; exact hj
    refine call_meets PySem.F.slot_list_remove ⟨_, hn, rfl⟩ PySem.F.entry_list_remove (PySem.F.args_list_remove_2 _ _) (MeetsSeq.list_remove l vs n _ (strIs a) he j hjv ?_ ?_ hv.2.1) ⟨hn, ?_⟩
    · obtain ⟨l', q1, q2⟩ := strIs_get hv a j hjv
      rw [q2]
      rw [e1] at q1; cases q1; simp
    · intro m' hm' hlt
      obtain ⟨l', q1, q2⟩ := strIs_get hv a m' hm'
      rw [q2]
      exact e2 m' hlt l' q1
    · have hp' : (s.heap.update l (Obj.mapSeq fun xs => xs.eraseIdxIfInBounds j)).PlainList l (vs.eraseIdxIfInBounds j) := ⟨_, Heap.get?_update_self (Obj.mapSeq fun xs => xs.eraseIdxIfInBounds j) hn (by rfl)⟩
      have hv2 := hv.erase j
      have e4 : (ls.map tAV).eraseIdx j = (ls.erase a).map tAV := by rw [← e3]; exact map_erase_idx _ _ _
      rw [e4] at hv2
      obtain ⟨A, B, U⟩ := put_rel (tk := s.toks) hg R eo (Heap.SameBut.update ..) hp' hv2
      exact wpAny_execs_nil (hyes hmem _ A B)
  · refine call_meets PySem.F.slot_list_remove ⟨_, hn, rfl⟩ PySem.F.entry_list_remove (PySem.F.args_list_remove_2 _ _) (MeetsSeq.list_remove_none l vs n _ (strIs a) he ?_) ⟨hn, hg.hh, fun h' tk e hx => ?_⟩
    · intro m' hm'
      obtain ⟨l', q1, q2⟩ := strIs_get hv a m' hm'
      rw [q2]
      simp only [beq_eq_false_iff_ne]
      rintro rfl
      exact hmem (List.mem_of_getElem? q1)
    · exact hno hmem h' tk e hx

theorem append_run {xm xi : Str} {p6 p7 p8 p9 ap2 : Pos} {m : Nat} {a : List Nat} {xs : List AV} {H ρ : List Addr} {s : Shared} {A : Around} {Q : Flow → Shared → Prop} {E : Value → Shared → Prop}
    (hg : COk C) (R : Rel C H ρ σ s) (hxi : σ.loc xi = some (tAV a)) (hxm : σ.loc xm = some (.own m)) (hm : σ.hp[m]? = some xs) (hl : xs.length ≤ 100000)
    (hdi : (xi == ("__debug__" : Str)) = false) (hdm : (xm == ("__debug__" : Str)) = false)
    (hb2 : attributeBase (.Name xm p6) "append" C.env (eval (.Name xm p6) C.env) = eval (.Name xm p6) C.env) (hl2 : (ap2.endLine == p8.line) = true) (ht2 : backTo p8 (starEach [.Name xi p7] C.env) = [(false, eval (.Name xi p7) C.env)])
    (hi : interactive C.env = false) (hs2 : swapsWith (.Call (.Attribute (.Name xm p6) "append" ap2) [.Name xi p7] [] p8) none p9.line C.env = pure false)
    (hyes : ∀ s', Rel C H ρ (σ.put m (xs ++ [tAV a])) s' → Step C ρ s ρ s' → Q .next s') :
    wpAny (model C.prog C.w) A (execs [.Expr (.Call (.Attribute (.Name xm p6) "append" ap2) [.Name xi p7] [] p8) p9] C.env) Q E s := by
  refine wpAny_execs_cons (wpAny_Expr (wpAny_Call_method1_late hb2 hl2 ht2 (name_ok hxm hdm hg R.e fun x hx => ?_)) hi hs2)
  cases hx with | own eo2 =>
  obtain ⟨l2, us, r2, hp2, hv2⟩ := R.e.own m _ hm
  have r3 := Option.some.inj (r2.symm.trans eo2)
  subst r3
  have hp20 := hp2
  obtain ⟨n2, hn2⟩ := hp2
  refine ⟨"list", "list.append", PySem.F.plainAttrs_list, PySem.F.slot_list_append, PySem.F.type_list_append, hp20.isList.typeIs, fun b hb => (by cases hb; exact ⟨_, hn2, rfl⟩), ?_⟩
  refine Calls.callWith_builtin rfl (Calls.evalArgs_plain (Calls.spliced_cons (name_ok hxi hdi hg R.e fun y hy => Calls.spliced_nil ?_)))
  refine wpAny_list_append_plain hp20 (fun h' hp' hs' => ?_) hv2.2.1
  have hv3 := hv2.push1 hy (by rw [sizeLine_eq]; (first | lia | omega))
  obtain ⟨A, B, _⟩ := put_rel (tk := s.toks) hg R eo2 hs' hp' hv3
  exact wpAny_execs_nil (hyes _ A B)

theorem EX1_try_remove {x1 xi xm : Str} {p1 p2 p3 p4 p5 p6 p7 p8 p9 p10 p11 ap ap2 : Pos} {k m : Nat} {ls : List (List Nat)} {a : List Nat} {xs : List AV} {lw : Env} {Lw : Addr}
    (hx1 : σ.loc x1 = some (.own k)) (hk : σ.hp[k]? = some (ls.map tAV)) (hxi : σ.loc xi = some (tAV a)) (hxm : σ.loc xm = some (.own m)) (hm : σ.hp[m]? = some xs) (hl : xs.length ≤ 100000)
    (hd1 : (x1 == ("__debug__" : Str)) = false) (hdi : (xi == ("__debug__" : Str)) = false) (hdm : (xm == ("__debug__" : Str)) = false)
    (hb1 : attributeBase (.Name x1 p1) "remove" C.env (eval (.Name x1 p1) C.env) = eval (.Name x1 p1) C.env) (hl1 : (ap.endLine == p3.line) = true) (ht1 : backTo p3 (starEach [.Name xi p2] C.env) = [(false, eval (.Name xi p2) C.env)])
    (hb2 : attributeBase (.Name xm p6) "append" C.env (eval (.Name xm p6) C.env) = eval (.Name xm p6) C.env) (hl2 : (ap2.endLine == p8.line) = true) (ht2 : backTo p8 (starEach [.Name xi p7] C.env) = [(false, eval (.Name xi p7) C.env)])
    (hi : interactive C.env = false) (hs1 : swapsWith (.Call (.Attribute (.Name x1 p1) "remove" ap) [.Name xi p2] [] p3) none p4.line C.env = pure false)
    (hs2 : swapsWith (.Call (.Attribute (.Name xm p6) "append" ap2) [.Name xi p7] [] p8) none p9.line C.env = pure false)
    (b : Bi C "ValueError" (.type "ValueError")) (hfr : C.A.frames = some [C.env, lw]) (hf : C.env.frame = some C.env.locals) (hfw : lw.frame = some Lw) (hw : Lw ∈ C.out) (hkw : lw.scope.kind ≠ .module)
    (h1 : a ∈ ls → P .next (σ.put k ((ls.erase a).map tAV))) (h2 : a ∉ ls → P .next (σ.put m (xs ++ [tAV a]))) :
    EX1 C σ (.Try [.Expr (.Call (.Attribute (.Name x1 p1) "remove" ap) [.Name xi p2] [] p3) p4] [.ExceptHandler (some (.Name "ValueError" p5)) none [.Expr (.Call (.Attribute (.Name xm p6) "append" ap2) [.Name xi p7] [] p8) p9] p10] [] [] p11) P := by
  intro H ρ s hg R
  refine wpAny_Try_except (remove_run hg R hx1 hk hxi hd1 hdi hb1 hl1 ht1 hi hs1 (fun hm s' A B => wpAny_execs_nil ⟨ρ, _, .next, A, B, .next, h1 hm⟩) fun hmem h' tk e hx => ?_)
  · obtain ⟨ob, t5, ho, hc, hd⟩ := hx.there
    have hL0 : ∃ o, s.heap.get? C.env.locals = some o := let ⟨_, o, _, _, q, _⟩ := R.ns; ⟨o, q⟩
    obtain ⟨oL, hL⟩ := hL0
    obtain ⟨oW, hW⟩ := R.e.low Lw (List.mem_append.mpr (.inr (R.out Lw hw).1))
    have hLe : C.env.locals ≠ e := fun q => by have := hx.new; rw [← q, hL] at this; cases this
    have hWe : Lw ≠ e := fun q => by have := hx.new; rw [← q, hW] at this; cases this
    refine exc_noted hfr (by rw [hg.fk]; decide) hkw hf hfw (hx.keeps _ _ hL) (hx.keeps _ _ hW) ho hLe hWe hd rfl fun h₂ hk₂ hc₂ => ?_
    have hne : ∀ b o, s.heap.get? b = some o → b ≠ e := fun b o q r => by have := hx.new; rw [← r, q] at this; cases this
    obtain ⟨R₂, st₂, up₂⟩ := slots_rel (h' := h₂) (tk := tk) hg R fun b o q => by
      obtain ⟨sl, q1, q2⟩ := hk₂ b o (hne b o q) (hx.keeps b o q)
      exact ⟨sl, q1, fun r1 r2 => q2 r1 (fun r3 => r2 (r3 ▸ hw))⟩
    obtain ⟨o₂, q1, q2, vs', tb, otb, tvs, q3, q4, q5, q6, q7, q8⟩ := hc₂
    refine wpAny_handleBy_builtin (b := true) (X := "ValueError") (T := "ValueError") ve_base ve_meta ve_self (glob_builtinA hg R₂.e b ⟨rfl, ⟨o₂, q1, by rw [q2, hc]⟩, ?_⟩)
    refine wpAny_setFlight_none q1 q3 q4 q5 q6 q7 ?_
    have hns : s.heap.get? tb = none := by
      cases q : s.heap.get? tb with
      | none => rfl
      | some o => have := hx.keeps tb o q; rw [q8] at this; cases this
    obtain ⟨R₃, st₃, up₃⟩ := slots_rel (h' := h₂.update tb (Obj.mapFields (·.setIfInBounds 3 .none))) (tk := tk) hg R fun b o q => by
      obtain ⟨sl, q1, q2⟩ := hk₂ b o (hne b o q) (hx.keeps b o q)
      refine ⟨sl, (Heap.get?_update_other _ _ (fun r => by rw [← r, hns] at q; cases q)).trans q1, fun r1 r2 => q2 r1 (fun r3 => r2 (r3 ▸ hw))⟩
    exact append_run hg R₃ hxi hxm hm hl hdi hdm hb2 hl2 ht2 hi hs2 fun s' A B => ⟨ρ, _, .next, A, st₃.trans B A.nmut, .next, h2 hmem⟩
end Mine
end
/-! Eu4 -/
section
open PySem PySem.W PyProof.Rows PySem.Builtin PySem.Builtin.Str
namespace Mine

/-- the activation of a def whose arguments are lists it may change -/
noncomputable def cxo (K : Frag) (mg mb : Str → Option Value) (prog : Program) (w : World) (d : Nat) (name : Str) (scope : Scope) (f : Addr) (cd : Value) (kn : Nat) (out : List Addr) (A : Around) (L : Addr) : Cx :=
  { prog, w, A, env := envOf name scope L f cd, mu := [L], K, mg, mb, d, kn, out }

noncomputable def stO (names : List Str) (args : List AV) (hp0 : List (List AV)) : St := { loc := fun x => (names.zip args).lookup x, hp := hp0 }

theorem call_own {K : Frag} {mg mb : Str → Option Value} {prog : Program} {w : World} {d : Nat} {f c : Addr} {args : List AV} {name : Str} {params : Arguments} {body : List Stmt} {scope : Scope} {pm doc : Value} {oc : Obj} {vs : Array Value} {t : Tok} {names : List Str} {o : Obj}
    {kn : Nat} {out : List Addr} {hp0 : List (List AV)} {P : Out → St → Prop} {A : Around} {hid ρ0 : List Addr} {s : Shared} {us : List Value} {Q E : Value → Shared → Prop}
    (hK : K.lookup f = some o) (hdat : o.data = .func (Calls.docDef name params body scope pm (.ref c) doc)) (hC : K.lookup c = some oc) (hcd : oc.data = .fields vs) (hc1 : vs[1]? = some (.str name t))
    (hbind : ∀ vs : List Value, vs.length = names.length → bindArgs (Calls.docDef name params body scope pm (.ref c) doc) ⟨vs, []⟩ = pure (names.zip vs)) (hnd : names.Nodup) (hlen : args.length = names.length)
    (hloc : ∀ x ∈ names, scope.names.lookup x = some .local) (hco : scope.isCoroutine = false) (hgen : scope.isGenerator = false) (hk : scope.kind = .function) (hcell : ∀ x ∈ scope.names, x.2 ≠ .cell)
    (hh : A.handled = none) (hdp : A.depth + (d + 1) < recursionLimit) (hun : A.units + 10 * (d + 1) + 100 < cLine) (hbb : ∀ x : Str, x ≠ "__name__" → mb x = bootBuiltins x)
    (hG : Gl K mg mb (hideAll s.heap (ρ0 ++ hid))) (hlow : ∀ a ∈ ρ0 ++ hid, ∃ o, s.heap.get? a = some o) (hρ : ρ0.Nodup) (hdis : ∀ a ∈ ρ0, ∀ b ∈ hid, a ≠ b) (hln : ρ0.length = hp0.length)
    (hown : ∀ (k : Nat) xs, hp0[k]? = some xs → ∃ (a : Addr) (vs : Array Value), ρ0[k]? = some a ∧ s.heap.PlainList a vs ∧ VRs (hideAll s.heap (ρ0 ++ hid)) ρ0 xs vs)
    (hargs : Paired (VR (hideAll s.heap (ρ0 ++ hid)) ρ0) args us) (hout : ∀ b ∈ out, b ∈ hid)
    (hbody : ∀ L, EX (cxo K mg mb prog w d name scope f (.ref c) kn out (A.deeper (envOf name scope L f (.ref c))) L) (stO names args hp0) body P)
    (hq : ∀ L ρ' σ' oo fl s', s.heap.get? L = none → Rel (cxo K mg mb prog w d name scope f (.ref c) kn out (A.deeper (envOf name scope L f (.ref c))) L) (L :: hid) ρ' σ' s' → (∃ h tk, s' = { s with heap := h, toks := tk }) →
      (∀ b o, b ∉ ρ0 → s.heap.get? b = some o → ∃ sl, s'.heap.get? b = some { o with slots := sl } ∧ (b ∉ out → sl = o.slots)) → (∀ a ∈ ρ', a ∈ ρ0 ∨ s.heap.get? a = none) →
      OutIs (Hh (L :: hid) ρ' s'.heap) ρ' oo fl → P oo σ' → match fl with | .ret x => Q x s' | .next => Q .none s' | _ => False) :
    wpAny (model prog w) A (call (.ref f) us) Q E s := by
  have hG' : Gl K mg mb s.heap := hG.mono fun _ _ e => of_hideAll _ e
  have hul : us.length = names.length := by rw [← hargs.length, hlen]
  refine wpAny_call ?_
  refine call_plain_ret (hroom := by (first | lia | omega)) (hG'.inK _ _ hK) hdat hG'.nolimit ⟨c, oc, vs, t, rfl, hG'.inK _ _ hC, hcd, hc1⟩ (hbind us hul) (fun x hx => hloc x.1 (List.of_mem_zip hx).1) (fun h₁ F => ?_) hco hgen hk hcell
  have hL : ∀ b o, s.heap.get? b = some o → b ≠ s.heap.objs.size := fun b o e => Nat.ne_of_lt (Heap.lt_size e)
  have hLn : s.heap.get? s.heap.objs.size = none := Heap.get?_none_of_le (Nat.le_refl _)
  have hx : HExt (hideAll s.heap (ρ0 ++ hid)) (hideAll h₁ (ρ0 ++ s.heap.objs.size :: hid)) := by
    intro b o e
    have hb : b ∉ ρ0 ++ hid := fun m => by rw [hideAll_none _ m] at e; cases e
    have he := of_hideAll _ e
    refine hideAll_get _ (F.keep b o he) ?_
    simp only [List.mem_append, List.mem_cons, not_or] at hb ⊢
    exact ⟨hb.1, hL b o he, hb.2⟩
  have hC : COk (cxo K mg mb prog w d name scope f (.ref c) kn out (A.deeper (envOf name scope s.heap.objs.size f (.ref c))) s.heap.objs.size) :=
    ⟨hh, (by show A.depth + 1 + d < recursionLimit; (first | lia | omega)), (by show A.units + 3 + 10 * d + 100 < cLine; (first | lia | omega)), hk, rfl, rfl, hbb⟩
  have R : Rel (cxo K mg mb prog w d name scope f (.ref c) kn out (A.deeper (envOf name scope s.heap.objs.size f (.ref c))) s.heap.objs.size) (s.heap.objs.size :: hid) ρ0 (stO names args hp0)
      { s with heap := h₁, toks := s.toks + (names.zip us).length } := by
    refine ⟨⟨hG.mono hx, fun a ha => ?_, fun x av e => ?_, fun k xs e => ?_⟩, ⟨hρ, trivial, fun a ha b hb => ?_⟩, hln, ⟨_, F.ns⟩, List.mem_singleton.mpr rfl, fun a ha => ?_, fun x c e => (by cases e), fun b hb => ?_⟩
    · simp only [List.mem_append, List.mem_cons] at ha
      rcases ha with ha | rfl | ha
      · obtain ⟨o, e⟩ := hlow a (List.mem_append.mpr (.inl ha)); exact ⟨o, F.keep a o e⟩
      · obtain ⟨o, _, _, e, _⟩ := F.ns; exact ⟨o, e⟩
      · obtain ⟨o, e⟩ := hlow a (List.mem_append.mpr (.inr ha)); exact ⟨o, F.keep a o e⟩
    · obtain ⟨v, e1, e2, e3⟩ := lookup_zip hargs hnd e
      exact ⟨v, e2.mono hx, .inl ⟨hloc x e3, _, F.ns, e1⟩⟩
    · obtain ⟨a, vs, q1, q2, q3⟩ := hown k xs e
      exact ⟨a, vs, q1, q2.at fun o e => F.keep _ o e, q3.mono hx⟩
    · rcases List.mem_cons.mp hb with rfl | hb
      · obtain ⟨o, e⟩ := hlow a (List.mem_append.mpr (.inl ha)); exact hL a o e
      · exact hdis a ha b hb
    · exact List.mem_cons.mpr (.inl (List.mem_singleton.mp ha))
    · refine ⟨List.mem_cons_of_mem _ (hout b hb), fun m => ?_⟩
      obtain ⟨o, e⟩ := hlow b (List.mem_append.mpr (.inr (hout b hb)))
      exact hL b o e (List.mem_singleton.mp m)
  refine wpAny_mono (hbody _ _ _ _ hC R) (fun fl s' hp => ?_) fun _ _ e => e.elim
  obtain ⟨ρ', σ', oo, R', st, oi, hr⟩ := hp
  have key := hq _ ρ' σ' oo fl s' hLn R' (by obtain ⟨h', tk, rfl⟩ := st.same; exact ⟨h', tk, rfl⟩) (fun b o hb e => st.kept b o hb (fun m => hL b o e (List.mem_singleton.mp m)) (F.keep b o e))
    (fun a ha => by
      rcases st.fresh a ha with h | h
      · exact .inl h
      · right
        cases q : s.heap.get? a with
        | none => rfl
        | some o => have := F.keep a o q; rw [show h₁.get? a = none from h] at this; cases this) oi hr
  cases oi with
  | ret v => exact key
  | next => exact key
  | brk => exact key.elim
  | cont => exact key.elim
end Mine
end
/-! Eu5 -/
section
open PySem PySem.W PyProof.Rows PySem.Builtin PySem.Builtin.Str
namespace Mine
noncomputable def uldGo : List (List Nat) → List (List Nat) → List (List Nat) → List (List Nat) × List (List Nat)
  | [], act, mis => (mis, act)
  | x :: r, act, mis => if act.contains x then uldGo r (act.erase x) mis else uldGo r act (mis ++ [x])
noncomputable def uld (exp act : List (List Nat)) : List (List Nat) × List (List Nat) := uldGo exp.reverse act []

inductive UI (exp act : List (List Nat)) (m : Nat) (σ : St) : Prop
  | mk (m1 : σ.loc "expected" = some (.own 0)) (m2 : σ.loc "actual" = some (.own 1)) (m3 : σ.loc "missing" = some (.own 2))
    (ex ac mi : List (List Nat)) (m4 : σ.hp = [ex.map tAV, ac.map tAV, mi.map tAV]) (hm : m = ex.length) (m5 : ex.length + mi.length ≤ 1000) (m6 : uldGo ex.reverse ac mi = uld exp act)
set_option maxHeartbeats 1000000
theorem uld_calls (P : Params) (mb : Str → Option Value) (prog : Program) (w : World) (exp act : List (List Nat)) (hlen : exp.length ≤ 1000) {A : Around} {hid : List Addr} {s : Shared} {b1 b2 Lw : Addr} {lw : Env} {v1 v2 : Array Value} {Q E : Value → Shared → Prop}
    (hh : A.handled = none) (hdp : A.depth + 1 < recursionLimit) (hun : A.units + 10 * 1 + 100 < cLine) (hbb : ∀ x : Str, x ≠ "__name__" → mb x = bootBuiltins x)
    (hfr : A.frames = some [lw]) (hfw : lw.frame = some Lw) (hkw : lw.scope.kind ≠ .module) (hLw : Lw ∈ hid)
    (hG : Gl (frag P) (gm P) mb (hideAll s.heap ([b1, b2] ++ hid))) (hlow : ∀ a ∈ [b1, b2] ++ hid, ∃ o, s.heap.get? a = some o) (h12 : b1 ≠ b2) (hdis : ∀ a ∈ [b1, b2], ∀ b ∈ hid, a ≠ b)
    (hp1 : s.heap.PlainList b1 v1) (hv1 : VRs (hideAll s.heap ([b1, b2] ++ hid)) [b1, b2] (exp.map tAV) v1) (hp2 : s.heap.PlainList b2 v2) (hv2 : VRs (hideAll s.heap ([b1, b2] ++ hid)) [b1, b2] (act.map tAV) v2)
    (hq : ∀ x s', (∃ h tk, s' = { s with heap := h, toks := tk }) → (∀ b o, b ∉ [b1, b2] → s.heap.get? b = some o → ∃ sl, s'.heap.get? b = some { o with slots := sl } ∧ (b ≠ Lw → sl = o.slots)) →
      FR (hideAll s'.heap hid) (.tup [.list ((uld exp act).1.map .str), .list ((uld exp act).2.map .str)]) x → Q x s') :
    wpAny (model prog w) A (call (.ref 88) [.ref b1, .ref b2]) Q E s := by
  refine call_own (K := frag P) (mg := gm P) (mb := mb) (d := 0) (names := ["expected", "actual"]) (args := [.own 0, .own 1]) (kn := 0) (out := [Lw]) (hid := hid) (ρ0 := [b1, b2]) (hp0 := [exp.map tAV, act.map tAV])
    (P := fun oo _ => oo = .ret (.fv (.tup [.list ((uld exp act).1.map .str), .list ((uld exp act).2.map .str)])))
    (hK := by rfl) (hdat := by rfl) (hC := by rfl) (hcd := by rfl) (hc1 := by rfl) (by (intro vs h; match vs, h with | [v, u], _ => kernel_rfl)) (by decide +kernel) (by rfl) (by decide +kernel) rfl rfl rfl (by decide +kernel)
    hh hdp hun hbb hG hlow (by simp [h12]) hdis rfl ?_ (.cons (.own rfl) (.cons (.own rfl) .nil)) (fun b hb => by cases List.mem_singleton.mp hb; exact hLw) ?_ ?_
  · intro k xs hk
    match k, hk with
    | 0, hk => cases hk; exact ⟨b1, v1, rfl, hp1, hv1⟩
    | 1, hk => cases hk; exact ⟨b2, v2, rfl, hp2, hv2⟩
  · intro L
    refine EX_cons (EX1_doc (by rfl) (by kernel_rfl) ?_)
    refine EX_cons (EX1_assignA (EVA_list .nil (by decide)) (by kernel_rfl) (by kernel_rfl) ?_)
    show EX _ (St.set (St.alloc _ _) _ (.own 2)) _ _
    generalize hσ : (St.set (St.alloc _ _) _ _) = σ
    have l1 : σ.loc "expected" = some (.own 0) := by subst hσ; rfl
    have l2 : σ.loc "actual" = some (.own 1) := by subst hσ; rfl
    have l3 : σ.loc "missing" = some (.own 2) := by subst hσ; walk_at "loc"
    have l4 : σ.hp = [exp.map tAV, act.map tAV, ([] : List (List Nat)).map tAV] := by subst hσ; rfl
    clear hσ
    refine EX_cons (EX1_while (UI exp act) exp.length ⟨l1, l2, l3, exp, act, [], l4, rfl, by simpa using hlen, rfl⟩ ?_)
    rintro m σ₁ ⟨m1, m2, m3, ex, ac, mi, m4, rfl, m5, m6⟩
    refine ⟨!ex.isEmpty, EVb_value (v := .own 0) (by walk_at "ev") (by show (σ₁.hp[0]?).map _ = _; rw [m4]; simp) (by (intro _ _; rfl)), fun hb => ?_, fun hb => ?_⟩
    · obtain ⟨pre, x, rfl⟩ : ∃ pre x, ex = pre ++ [x] := ⟨ex.dropLast, ex.getLast (by rintro rfl; cases hb), (List.dropLast_concat_getLast _).symm⟩
      rw [List.reverse_append] at m6
      simp only [List.reverse_cons, List.reverse_nil, List.nil_append, List.cons_append, uldGo] at m6
      refine EX_cons (EX1_pop (k := 0) (xs := pre.map tAV) (v := tAV x) (by walk_at "ev") (by rw [m4]; simp) (by kernel_rfl) (by rfl) (by rfl) (by kernel_rfl) ?_)
      have hp1 : ((σ₁.put 0 (pre.map tAV)).set "item" (tAV x)).hp = [pre.map tAV, ac.map tAV, mi.map tAV] := by show σ₁.hp.set 0 _ = _; rw [m4]; rfl
      generalize hσ : ((σ₁.put 0 (pre.map tAV)).set "item" (tAV x)) = σ₂ at hp1
      have n1 : σ₂.loc "expected" = some (.own 0) := by subst hσ; walk_at "loc"
      have n2 : σ₂.loc "actual" = some (.own 1) := by subst hσ; walk_at "loc"
      have n3 : σ₂.loc "missing" = some (.own 2) := by subst hσ; walk_at "loc"
      have n4 : σ₂.loc "item" = some (tAV x) := by subst hσ; walk_at "loc"
      clear hσ
      refine EX_one (EX1_try_remove (k := 1) (m := 2) (ls := ac) (a := x) (xs := mi.map tAV) n2 (by rw [hp1]; rfl) n4 n3 (by rw [hp1]; rfl) (by simp at m5 ⊢; (first | lia | omega)) (by decide +kernel) (by decide +kernel) (by decide +kernel)
        (by rfl) (by rfl) (by rfl) (by rfl) (by rfl) (by rfl) (by rfl) (by kernel_rfl) (by kernel_rfl) (by (exact ⟨by kernel_rfl, by decide +kernel, by kernel_rfl, by decide +kernel, by decide +kernel⟩)) (Around.frames_deeper hfr) rfl hfw (List.mem_singleton.mpr rfl) hkw ?_ ?_)
      · intro hm
        refine ⟨pre.length, by simp, n1, n2, n3, pre, ac.erase x, mi, ?_, rfl, by simp at m5; (first | lia | omega), ?_⟩
        · show σ₂.hp.set 1 _ = _; rw [hp1]; rfl
        · rw [← m6, if_pos (by simpa using hm)]
      · intro hm
        refine ⟨pre.length, by simp, n1, n2, n3, pre, ac, mi ++ [x], ?_, rfl, by simp at m5 ⊢; (first | lia | omega), ?_⟩
        · show σ₂.hp.set 2 _ = _; rw [hp1]; simp
        · rw [← m6, if_neg (by simpa using hm)]
    · have hex : ex = [] := by simpa using hb
      subst hex
      have e : uld exp act = (mi, ac) := m6.symm
      rw [e]
      refine EX_freeze [[], ac.map tAV] (mi.map .str) (Nat.zero_le _) (by rw [m4]; simp [tAV]) (by
        intro xs hxs v hv
        simp only [List.mem_cons, List.not_mem_nil, or_false] at hxs
        rcases hxs with rfl | rfl
        · cases hv
        · obtain ⟨l, _, rfl⟩ := List.mem_map.mp hv; exact ⟨_, rfl⟩) ?_
      refine EX_freeze [[]] (ac.map .str) (Nat.zero_le _) (by show [_, _] = _; simp [tAV]) (by
        intro xs hxs v hv
        cases List.mem_singleton.mp hxs
        cases hv) ?_
      have o1 : ((σ₁.freeze [[], ac.map tAV] (mi.map .str)).freeze [[]] (ac.map .str)).loc "missing" = some (.fv (.list (mi.map .str))) := loc_freeze_fv (loc_freeze_last m3 rfl)
      have o2 : ((σ₁.freeze [[], ac.map tAV] (mi.map .str)).freeze [[]] (ac.map .str)).loc "actual" = some (.fv (.list (ac.map .str))) := loc_freeze_last (loc_freeze_own m2 (by show (1 : Nat) ≠ 2; decide)) rfl
      exact EX_one (EX1_return (EV_tuple (xs := [.list (mi.map .str), .list (ac.map .str)]) (.cons (by walk_at "ev") (.cons (by walk_at "ev") .nil (by rfl)) (by rfl)) (by show (2 : Nat) ≤ 1000; decide)) rfl)
  · intro L ρ' σ' oo fl s' hL R' hs hk hf oi hP
    subst hP
    cases oi with | ret r =>
    cases r with | fv r =>
    refine hq _ s' hs (fun b o hb e => ?_) (r.mono fun b o e => ?_)
    · obtain ⟨sl, q1, q2⟩ := hk b o hb e
      exact ⟨sl, q1, fun hne => q2 (fun m => hne (List.mem_singleton.mp m))⟩
    · have hb : b ∉ ρ' ++ L :: hid := fun m => by unfold Hh at e; rw [hideAll_none _ m] at e; cases e
      refine hideAll_get _ (of_hideAll _ e) fun m => hb ?_
      exact List.mem_append.mpr (.inr (List.mem_cons_of_mem _ m))
end Mine
end
/-! Eu8 -/
section
open PySem PySem.W PyProof.Rows PySem.Builtin PySem.Builtin.Str
namespace Mine
theorem callsTo_kn {K : Frag} {mg mb : Str → Option Value} {prog : Program} {w : World} {d : Nat} {f c : Addr} {args : List FV} {r : FV} {name : Str} {params : Arguments} {body : List Stmt} {scope : Scope} {pm doc : Value} {oc : Obj} {vs : Array Value} {t : Tok} {names : List Str} {o : Obj} (kn : Nat)
    (hK : K.lookup f = some o) (hdat : o.data = .func (Calls.docDef name params body scope pm (.ref c) doc)) (hC : K.lookup c = some oc) (hcd : oc.data = .fields vs) (hc1 : vs[1]? = some (.str name t))
    (hbind : ∀ vs : List Value, vs.length = names.length → bindArgs (Calls.docDef name params body scope pm (.ref c) doc) ⟨vs, []⟩ = pure (names.zip vs)) (hnd : names.Nodup) (hlen : args.length = names.length)
    (hloc : ∀ x ∈ names, scope.names.lookup x = some .local) (hco : scope.isCoroutine = false) (hgen : scope.isGenerator = false) (hk : scope.kind = .function) (hcell : ∀ x ∈ scope.names, x.2 ≠ .cell)
    (hbody : ∀ A L, EX (cxo K mg mb prog w d name scope f (.ref c) kn [] A L) (st0 names args) body (Returns r)) : CallsTo K mg mb prog w (d + 1) f args r := by
  intro A hid s us Q E hh hdp hun hbb hG hlow hargs hq
  have hp : Paired (VR (hideAll s.heap ([] ++ hid)) []) (args.map AV.fv) us := by
    clear hq hbody hlen
    induction hargs with
    | nil => exact .nil
    | cons a _ ih => exact .cons (.fv a) ih
  refine call_own (kn := kn) (out := []) (hid := hid) (ρ0 := []) (hp0 := []) (args := args.map .fv) (names := names) (P := Returns r) hK hdat hC hcd hc1 hbind hnd (by simpa using hlen) hloc hco hgen hk hcell hh hdp hun hbb hG hlow List.nodup_nil (fun a ha => by cases ha) rfl
    (fun k xs e => by cases e) hp (fun b hb => by cases hb) (fun L => hbody _ L) fun L ρ' σ' oo fl s' hL R' hs hk hf oi hr => ?_
  have kk : Keeps s s' := by
    obtain ⟨h', tk, rfl⟩ := hs
    refine ⟨h', tk, rfl, fun b o e => ?_⟩
    obtain ⟨sl, q1, q2⟩ := hk b o (by simp) e
    rw [q2 (by simp)] at q1; exact q1
  cases oi with
  | ret v =>
    obtain ⟨n, hn⟩ := hr
    exact hq _ _ kk (resolve_ok R' (fun a ha => List.mem_cons_of_mem _ ha) n _ _ r hn v)
  | next => cases hr; exact hq _ _ kk .none
  | brk => exact hr.elim
  | cont => exact hr.elim
end Mine
end
/-! Eq3 -/
section
open PySem PySem.W PyProof.Rows PySem.Builtin PySem.Builtin.Str
namespace Mine
theorem setItem_plain {prog : Program} {w : World} {A : Around} {E : Value → Shared → Prop} {s : Shared} {l : Addr} {items : Array Value} {k : Int} {t : Tok} {v : Value} {Q : Unit → Shared → Prop} (hl : s.heap.PlainList l items)
    (h0 : 0 ≤ k) (hfit : k < 2 ^ 63) (hn : k < items.size)
    (hQ : ∀ h', h'.PlainList l (items.setIfInBounds k.toNat v) → Heap.SameBut l s.heap h' → Q () { s with heap := h' }) :
    wpAny (model prog w) A (setItem (.ref l) (.int k t) v) Q E s := by
  obtain ⟨n, ho⟩ := id hl
  have hd : ({ cls := .type "list", data := .seq items n } : Obj).data = .seq items n := rfl
  unfold setItem
  try with_reducible refine wpAny_holding ?_
  first | refine wpAny_bind (wpAny_pure ?_) | skip
  refine wpAny_bind (wpAny_sequenceKey hl.isList.typeIs (by decide) ?_)
  refine wpAny_bind (wpAny_callSpecial?_slot (name := Str.ofString "__setitem__") hl.isList.typeIs slot_list_setitem
    (wpAny_call_entry slot_list_setitem hl.isList.typeIs entry_list_setitem ?_ (args_list_setitem _ _ _)))
  show wpAny _ _ (Builtin.List.listSubscript? (.int k t) >>= _) _ _ s
  refine wpAny_bind (wpAny_listSubscript_int (fitsIndex_of h0 hfit) ?_)
  clear hfit
  obtain ⟨j, rfl⟩ := Int.eq_ofNat_of_zero_le h0
  have hj : j < items.size := by (first | lia | omega)
  have hx' : items[j]? = some items[j] := Array.getElem?_eq_getElem hj
  show wpAny _ _ ((seqItemAt l j >>= fun r => pure (r.map (j, ·))) >>= _) _ _ s
  refine wpAny_bind (wpAny_bind (wpAny_seqItemAt ho hd (wpAny_pure ?_)))
  rw [hx']
  show wpAny _ _ (setSeqItemAt l j v >>= _) _ _ s
  have hfin : (s.heap.update l (Obj.mapSeq (·.setIfInBounds j v))).PlainList l (items.setIfInBounds j v) := by
    have := Heap.get?_update_self (Obj.mapSeq (·.setIfInBounds j v)) ho (by rfl)
    exact ⟨_, this⟩
  refine wpAny_bind (wpAny_setSeqItemAt ho hd ?_)
  first
    | exact wpAny_bind (wpAny_pure (wpAny_pure ⟨.none, rfl, wpAny_pure (hQ _ hfin (Heap.SameBut.update ..))⟩))
    | exact wpAny_pure ⟨.none, rfl, wpAny_pure (hQ _ hfin (Heap.SameBut.update ..))⟩

theorem EX1_setitem {C : Cx} {σ : St} {P : Out → St → Prop} {o i value : Expr} {pos' pos : Pos} {k j : Nat} {v : AV} {xs : List AV} (hv : EV C σ value v) (ho : EV C σ o (.own k)) (hi : EV C σ i (.fv (.int j))) (hk : σ.hp[k]? = some xs) (hj : j < xs.length) (hj2 : j < 1000)
    (hs : swapsWith value (some (.Subscript o i pos')) pos.line C.env = pure false) (h : P .next (σ.put k (xs.set j v))) :
    EX1 C σ (.Assign [.Subscript o i pos'] value pos) P := by
  intro H ρ s hg R
  refine wpAny_Assign_Subscript (hv H ρ s _ _ hg R.e fun x s₁ k₁ hx => ho H ρ s₁ _ _ hg (R.e.keeps hg.gm k₁) fun y s₂ k₂ hy => hi H ρ s₂ _ _ hg ((R.e.keeps hg.gm k₁).keeps hg.gm k₂) fun z s₃ k₃ hz => ?_) hs
  cases hy with | own eo =>
  cases hz with | fv hz =>
  cases hz with | int _ t =>
  have R₃ := R.keeps hg (keeps_trans k₁ (keeps_trans k₂ k₃))
  have hx₃ := (hx.mono (Hh_keeps k₂)).mono (Hh_keeps k₃)
  obtain ⟨a, vs, e2, hp, hvs⟩ := R₃.e.own k xs hk
  have e3 := Option.some.inj (e2.symm.trans eo)
  subst e3
  refine setItem_plain hp (Int.natCast_nonneg j) (by (first | lia | omega)) (by rw [hvs.1]; (first | lia | omega)) fun h' hp' hs' => ?_
  rw [Int.toNat_natCast] at hp'
  have hv2 : VRs (Hh H ρ s₃.heap) ρ (xs.set j v) (vs.setIfInBounds j x) := by
    refine ⟨by simp [hvs.1], by simpa using hvs.2.1, fun m q u q1 q2 => ?_⟩
    by_cases hm : m = j
    · subst hm
      rw [List.getElem?_set_self hj] at q1
      rw [Array.getElem?_setIfInBounds_self_of_lt (by rw [hvs.1]; exact hj)] at q2
      cases q1; cases q2; exact hx₃
    · rw [List.getElem?_set_ne (Ne.symm hm)] at q1
      rw [Array.getElem?_setIfInBounds_ne (Ne.symm hm)] at q2
      exact hvs.2.2 m q u q1 q2
  obtain ⟨A, B, _⟩ := put_rel (tk := s₃.toks) hg R₃ eo hs' hp' hv2
  exact ⟨ρ, _, .next, A, (Step.of_keeps (keeps_trans k₁ (keeps_trans k₂ k₃))).trans B A.nmut, .next, h⟩
end Mine
end
/-! Eq4 -/
section
open PySem PySem.W PyProof.Rows PySem.Builtin PySem.Builtin.Str
set_option maxHeartbeats 1000000
namespace Mine
theorem rc_eq_decline_sub {M : Model} {A : Around} {E : Value → Shared → Prop} {s : Shared} {a b : Value} {Ta Tb ida idb : String} {k : Bool} {Q : Value → Shared → Prop} (ha : s.TypeIs a Ta) (hb : s.TypeIs b Tb)
    (hne : (Value.type Ta != Value.type Tb) = true) (hsub : isSubtype (.type Tb) (.type Ta) = pure true) (h1 : Slot Ta (cmpInfo .Eq).2.1 ida) (h2 : Slot Tb (cmpInfo .Eq).2.2 idb)
    (hc1 : ∀ Q' : Value → Shared → Prop, Q' .notImplemented s → wpAny M A (call (.builtin ida) [a, b]) Q' E s)
    (hc2 : ∀ Q' : Value → Shared → Prop, Q' .notImplemented s → wpAny M A (call (.builtin idb) [b, a]) Q' E s)
    (hk : ∀ Q' : Bool → Shared → Prop, Q' k s → wpAny M A (isSame a b) Q' E s)
    (hr : [a, b].any Value.onHeap = false ∨ A.units < cLine) (h : Q (.bool k) s) : wpAny M A (richCompare .Eq a b) Q E s := by
  rcases hi : cmpInfo CmpOp.Eq with ⟨sym, f, r⟩
  rw [hi] at h1 h2
  simp only [richCompare, hi, ha.oneThing_none]
  try with_reducible refine wpAny_holding ?_
  refine wpAny_bind (wpAny_cRoomFor_or hr ?_)
  refine wpAny_bind (wpAny_typeOf ha (wpAny_bind (wpAny_typeOf hb ?_)))
  simp only [hne, if_true]
  refine wpAny_bind (wpAny_of_eq hsub ?_)
  simp only [if_true]
  refine wpAny_bind (m := tryCompare b _ a) (wpAny_tryCompare_declines hb h2 (hc2 _ ⟨rfl, ?_⟩))
  dsimp only
  refine wpAny_bind (m := tryCompare a _ b) (wpAny_tryCompare_declines ha h1 (hc1 _ ⟨rfl, ?_⟩))
  exact wpAny_bind (wpAny_rule (wpAny_bind (hk _ (wpAny_pure h))))
theorem str_eq_obj {prog : Program} {w : World} {A : Around} {E : Value → Shared → Prop} {s : Shared} {x : Str} {t : Tok} {a : Addr} {o : Obj} (ho : s.heap.get? a = some o) (hc : o.cls = .type "object") (hd : o.data = .plain) (Q' : Value → Shared → Prop) (q : Q' .notImplemented s) :
    wpAny (model prog w) A (call (.builtin "str.__eq__") [.str x t, .ref a]) Q' E s := by
  obtain ⟨h, g, d, tk, os⟩ := s
  have hT : Shared.TypeIs ⟨h, g, d, tk, os⟩ (.ref a) "object" := ⟨_, ho, hc⟩
  refine wpAny_call_entry F.slot_str_eq (typeIs_str _ _ _) F.entry_str_eq ?_ (F.args_str_eq_2 _ _)
  have hs : isSubtype (.type "object") (.type "str") = pure false := by rw [isSubtype_type]; kernel_rfl
  wp_walk using PySem.wpAny_loadPart' ho
  rw [hd]
  wp_walk
  exact ⟨_, rfl, q⟩

theorem obj_same_str {M : Model} {A : Around} {E : Value → Shared → Prop} {s : Shared} {x : Str} {t : Tok} {a : Addr} (Q' : Bool → Shared → Prop) (q : Q' false s) : wpAny M A (isSame (.ref a) (.str x t)) Q' E s := by
  obtain ⟨h, g, d, tk, os⟩ := s
  wp_walk
  exact q
theorem obj_eq_str {prog : Program} {w : World} {A : Around} {E : Value → Shared → Prop} {s : Shared} {x : Str} {t : Tok} {a : Addr} {o : Obj} (ho : s.heap.get? a = some o) (hc : o.cls = .type "object") (Q' : Value → Shared → Prop) (q : Q' .notImplemented s) :
    wpAny (model prog w) A (call (.builtin "object.__eq__") [.ref a, .str x t]) Q' E s := by
  have hT : s.TypeIs (.ref a) "object" := ⟨_, ho, hc⟩
  refine wpAny_call_entry F.slot_object_eq hT F.entry_object_eq ?_ (F.args_object_eq_2 _ _)
  unfold Builtin.«object.__eq__»
  refine wpAny_bind (wpAny_of_eq (a := (.ref a, [.str x t])) rfl ?_)
  show wpAny _ _ (isSame (.ref a) (.str x t) >>= _) _ _ _
  refine wpAny_bind (obj_same_str _ ?_)
  exact wpAny_pure ⟨_, rfl, q⟩
theorem EVb_eq_obj {C : Cx} {σ : St} {l r : Expr} {p : Pos} {a : Addr} {b : List Nat} (hl : EV C σ l (.fv (.obj a))) (hr : EV C σ r (.fv (.str b))) (hm : behindInMarks .Eq r = false) : EVb C σ (.Compare l [.Eq] [r] p) false := by
  intro H ρ s Q E hg R h
  refine wpAny_isTrue_Compare1 (ev_two hl hr hg R fun x y s' k hx hy => ?_) hm
  cases hx with | fv hx => cases hy with | fv hy =>
  cases hx with | obj ho hc hd =>
  cases hy with | str _ t _ =>
  have ho' := of_hideAll _ ho
  have hT : s'.TypeIs (.ref a) "object" := ⟨_, ho', hc⟩
  have hu := hg.units
  exact rc_eq_decline_sub (M := model C.prog C.w) hT (typeIs_str _ _ _) (by decide) (by rw [isSubtype_type]; kernel_rfl) F.slot_object_eq F.slot_str_eq_refl (obj_eq_str ho' hc) (str_eq_obj ho' hc hd) (fun Q' q => obj_same_str Q' q) (.inr (by (first | lia | omega))) (wpAny_truthy_bool (h _ k))
end Mine
end
/-! Em3 -/
section
open PySem PySem.W PySem.Calls PyProof.Rows PySem.Builtin
namespace Mine
theorem reads159 (P : Params) : readsIn (frag P) 159 (.type "type") = true := by kernel_rfl
theorem find_new (P : Params) : findCls (frag P) (.ref 159) (.type "type") "__new__" = some (.get (.builtin "staticmethod.__get__") (.ref 160) .none (.ref 159)) := by kernel_rfl
theorem rec160 (P : Params) : recIn (frag P) 160 "staticmethod" = some [.ref 106] := by kernel_rfl
theorem call159 (P : Params) : specialIn (frag P) (.ref 159) "__call__" = some (some (.builtin "type.__call__")) := by kernel_rfl
theorem inst159 (P : Params) : instIn (frag P) (.ref 159) (.type "type") = some true := by kernel_rfl
theorem self159 (P : Params) : mroIn (frag P) 159 (.ref 159) = some true := by kernel_rfl
theorem init159 (P : Params) : findIn (frag P) (.ref 159) "__init__" = some (some (.builtin "object.__init__")) := by kernel_rfl
end Mine
end
/-! Em4 -/
section
open PySem PySem.W PySem.Calls PyProof.Rows PySem.Builtin
set_option maxHeartbeats 1000000
namespace Mine
theorem made159 {P : Params} {M : Model} {h : Heap} (X : (frag P).In h) : Looks M h (Bind.madeBy (.ref 159)) none := Looks.of_peek X (by kernel_rfl)
theorem madeHere159 {P : Params} {M : Model} {h : Heap} (X : (frag P).In h) : Looks M h (Bind.madeHere "tuple.__new__" (.ref 159)) () := Looks.of_peek X (by kernel_rfl)
theorem isType159 {P : Params} {M : Model} {h : Heap} (X : (frag P).In h) : Looks M h (isType (.ref 159)) true := Looks.of_peek X (by kernel_rfl)
theorem sub159 {P : Params} {M : Model} {h : Heap} (X : (frag P).In h) : Looks M h (isSubtype (.ref 159) (.type "tuple")) true := looks_mroIn X (mro_sub P)
theorem mro159 {P : Params} {M : Model} {h : Heap} (X : (frag P).In h) : Looks M h (mroOf (.ref 159)) [.ref 159, .type "tuple", .type "object"] := Looks.of_peek X (by kernel_rfl)
theorem lookInit159 {P : Params} {M : Model} {h : Heap} (X : (frag P).In h) : Looks M h (typeLookup (.ref 159) "__init__") (some (.builtin "object.__init__")) := looks_findIn X (init159 P)
end Mine
end
/-! Em5 -/
section
open PySem PySem.W PySem.Calls PyProof.Rows PySem.Builtin
set_option maxHeartbeats 1000000
namespace Mine
theorem args3 (a x y z : Value) : argsOk "object.__init__" ⟨[a, x, y, z], []⟩ := by unfold argsOk; kernel_rfl
theorem call_cls159 {P : Params} {prog : Program} {w : World} {A : Around} {E : Value → Shared → Prop} {s : Shared} {x y z : Value} {Q : Value → Shared → Prop} (X : (frag P).In s.heap)
    (hq : wpAny (model prog w) (A.under (.builtin "type.__call__" ⟨[.ref 159, x, y, z], []⟩)) (call (.ref 106) [.ref 159, x, y, z]) (fun v s' => ∃ a dd n, v = .ref a ∧ (frag P).In s'.heap ∧ s'.heap.get? a = some { cls := .ref 159, dict := dd, data := .seq #[x, y, z] n } ∧ Q (.ref a) s') E { s with toks := s.toks + 1 }) :
    wpAny (model prog w) A (call (.ref 159) [x, y, z]) Q E s := by
  obtain ⟨h, g, d, tk, os⟩ := s
  dsimp only at X
  obtain ⟨oc, od, cd, sl, hl⟩ : ∃ oc od cd sl, (frag P).lookup 159 = some ⟨oc, od, .cls cd, sl⟩ := ⟨_, _, _, _, by rfl⟩
  have hC := X _ _ hl
  have call := looks_specialIn (M := model prog w) X (call159 P)
  have typ := looks_instIn (M := model prog w) X (inst159 P)
  refine wpAny_call (codeAny_of_tree ?_)
  show wpAny _ _ (callAny (.ref 159) _) _ _ _
  refine nd_load hC ?_
  show wpAny _ _ (callAny.viaDunder (.ref 159) _) _ _ _
  unfold callAny.viaDunder
  refine wpAny_bind (call.at ?_)
  dsimp only
  rw [tc_bind]
  refine wpAny_bind (wpAny_pure (wpAny_bind (wpAny_pure ?_)))
  refine wpAny_pure (a := Fin.again (.call (.builtin "type.__call__") ⟨[.ref 159, x, y, z], []⟩)) (And.intro rfl ?_)
  refine codeAny_call_builtin_at (Code.quiet_builtin _ (by decide +kernel)) entry_typeCall ?_
  show wpAny _ _ (checkBuiltinCall "type.__call__" ⟨[.ref 159, x, y, z], []⟩) _ _ _
  with_reducible refine check_slot tc_kind tc_split typ (tc_args _ _ _) ?_
  unfold Builtin.«type.__call__»
  have hm := mro159 (M := model prog w) X
  have made := made159 (M := model prog w) X
  repeat (first | simp only [List.isEmpty_cons, Bool.false_eq_true, if_false] | ((fail_if_success (with_reducible show wpAny _ _ (getAttr _ _ _) _ _ _)); lk))
  refine cls_bind X (reads159 P) (find_new P) ?_
  refine wpAny_call (sm_get X (rec160 P) ?_)
  dsimp only
  refine handed_on (by kernel_rfl) ?_
  refine wpAny_bind (wpAny_holding (wpAny_mono hq (fun v s' hv => ?_) fun _ _ e => e))
  obtain ⟨a, dd, n, rfl, X', ho, q⟩ := hv
  obtain ⟨h', g', d', tk', os'⟩ := s'
  dsimp only at X' ho
  have t1 : Looks (model prog w) h' (typeOf (.ref a)) (.ref 159) := (Looks.ld ho).andThen .now
  have s1 : Looks (model prog w) h' (isSubtype (.ref 159) (.ref 159)) true := looks_mroIn X' (self159 P)
  have s2 : Looks (model prog w) h' (isSubtype (.ref 159) (.type "object")) true := looks_mroIn X' (by kernel_rfl)
  have i2 : Looks (model prog w) h' (isInstance (.ref a) (.type "object")) true := t1.andThen s2
  have in1 := lookInit159 (M := model prog w) X'
  have made' := made159 (M := model prog w) X'
  refine wpAny_bind (Looks.here (t1.andThen s1) ?_)
  simp only [Bool.not_true, Bool.false_eq_true, if_false]
  refine wpAny_bind (wpAny_holding ?_)
  unfold callSpecial? specialOf
  refine wpAny_bind (Looks.here (t1.andThen in1) ?_)
  dsimp only
  refine wpAny_holding (wpAny_bind ?_)
  rw [oi_bind]
  refine wpAny_pure (wpAny_bind ?_)
  refine wpAny_call (codeAny_call_builtin oi_plain entry_oi ?_)
  show wpAny _ _ (checkBuiltinCall "object.__init__" ⟨[.ref a, x, y, z], []⟩) _ _ _
  with_reducible refine check_slot oi_kind oi_split i2 (args3 _ _ _ _) ?_
  unfold Builtin.«object.__init__»
  show wpAny _ _ (typeOf (.ref a) >>= _) _ _ _
  refine wpAny_bind (t1.here (wpAny_bind (in1.here (wpAny_bind (made'.here ?_)))))
  refine wpAny_pure ?_
  exact wpAny_pure (wpAny_pure q)
end Mine
end
/-! Em6 -/
section
open PySem PySem.W PySem.Calls PyProof.Rows PySem.Builtin
set_option maxHeartbeats 1000000
namespace Mine
theorem opaqueT {P : Params} {M : Model} {h : Heap} (X : (frag P).In h) : Looks M h (opaqueClassAbove (.type "tuple")) none := Looks.of_peek X (by kernel_rfl)
theorem hookT {P : Params} {M : Model} {h : Heap} (X : (frag P).In h) : Looks M h (hookBefore (.type "type")) none := looks_hook X (by kernel_rfl)
theorem typeT {M : Model} {h : Heap} : Looks M h (typeOf (.type "tuple")) (.type "type") := Looks.of_pure (by kernel_rfl)
theorem findT (P : Params) : findCls (frag P) (.type "tuple") (.type "type") "__new__" = some (.val (.builtin "tuple.__new__")) := by kernel_rfl
theorem getAttr_tnew {P : Params} {prog : Program} {w : World} {A : Around} {E : Value → Shared → Prop} {s : Shared} {Q : Value → Shared → Prop} {expr : Bool} (X : (frag P).In s.heap) (h : Q (.builtin "tuple.__new__") { s with toks := s.toks + 1 }) :
    wpAny (model prog w) A (getAttr (.type "tuple") "__new__" expr) Q E s := by
  refine cls_open X (opaqueT X) typeT (by kernel_rfl) (hookT X) (by kernel_rfl) (findT P) (wpAny_pure ?_)
  show wpAny _ _ (handedOut (.builtin "tuple.__new__")) _ _ _
  rw [handedOut_of (by kernel_rfl)]
  exact wpAny_pure h
theorem getMethod_tnew {P : Params} {prog : Program} {w : World} {A : Around} {E : Value → Shared → Prop} {s : Shared} {pl : Sem Bool} {Q : Value × List Value → Shared → Prop} (X : (frag P).In s.heap) (h : Q (.builtin "tuple.__new__", []) { s with toks := s.toks + 1 }) :
    wpAny (model prog w) A (getMethod (.type "tuple") "__new__" pl) Q E s := by
  have l : Looks (model prog w) s.heap (specialOf (.type "tuple") "__getattribute__") (some (.builtin "type.__getattribute__")) := typeT.andThen (looks_findIn X (by kernel_rfl))
  unfold getMethod
  refine wpAny_bind (l.here ?_)
  dsimp only
  rw [if_pos canon_tga]
  exact wpAny_bind (getAttr_tnew X (wpAny_pure h))
theorem tnew_call {P : Params} {prog : Program} {w : World} {A : Around} {E : Value → Shared → Prop} {s : Shared} {env : Env} {np ap pos : Pos} {e₁ e₂ : Expr} {Q : Value → Shared → Prop} (X : (frag P).In s.heap)
    (ho : ∀ Q : Value → Shared → Prop, Q (.type "tuple") s → wpAny (model prog w) A (eval (.Name (Str.ofString "tuple") np) env) Q E s)
    (hline : (ap.endLine == pos.line) = true) (htrees : backTo pos (starEach [e₁, e₂] env) = [(false, eval e₁ env), (false, eval e₂ env)])
    (h : wpAny (model prog w) A (callWith pos (.builtin "tuple.__new__") [] [(false, eval e₁ env), (false, eval e₂ env)] []) Q E { s with toks := s.toks + 1 }) :
    wpAny (model prog w) A (eval (.Call (.Attribute (.Name (Str.ofString "tuple") np) (Str.ofString "__new__") ap) [e₁, e₂] [] pos) env) Q E s := by
  rw [arm_eval_Call, show attributeBase (.Name (Str.ofString "tuple") np) (Str.ofString "__new__") env (eval (.Name (Str.ofString "tuple") np) env) = eval (.Name (Str.ofString "tuple") np) env from rfl]
  refine wpAny_bind (ho _ ?_)
  refine wpAny_bind (wpAny_standAt ?_)
  rw [← htrees] at h
  have hform : methodCallForm ([e₁, e₂].length + ([] : List Keyword).length) (backTo pos (starEach [e₁, e₂] env)) (backToKw pos (keywordEach [] env)) = true := by rw [htrees]; rfl
  have hpos : methodCallPos true (.Name (Str.ofString "tuple") np) env ap pos = pure pos := by unfold methodCallPos; simp [hline]
  unfold methodCall
  rw [hform]
  refine wpAny_bind (wpAny_holding (getMethod_tnew X ?_))
  exact wpAny_bind (wpAny_of_eq hpos h)
end Mine
end
/-! Em7 -/
section
open PySem PySem.W PySem.Calls PyProof.Rows PySem.Builtin
set_option maxHeartbeats 1000000
namespace Mine
theorem checkNew {P : Params} {M : Model} {h : Heap} (X : (frag P).In h) (t : Addr) : Looks M h (checkBuiltinCall "tuple.__new__" ⟨[.ref 159, .ref t], []⟩) () := Looks.of_peek X (by kernel_rfl)
theorem hasDel159 {P : Params} {M : Model} {h : Heap} (X : (frag P).In h) : Looks M h (classHasDel 159) false := Looks.of_peek X (by kernel_rfl)
theorem tnew_run {P : Params} {prog : Program} {w : World} {A : Around} {E : Value → Shared → Prop} {s : Shared} {t : Addr} {items : Array Value} {Q : Value → Shared → Prop} (X : (frag P).In s.heap) (ht : s.heap.IsTuple t items) (hsz : items.size ≤ 1000)
    (hq : ∀ h' a dd, (∀ b o, s.heap.get? b = some o → h'.get? b = some o) → s.heap.get? a = none → h'.get? a = some { cls := .ref 159, dict := dd, data := .seq items } → Q (.ref a) { s with heap := h' }) :
    wpAny (model prog w) A (call (.builtin "tuple.__new__") [.ref 159, .ref t]) Q E s := by
  obtain ⟨h, g, d, tk, os⟩ := s
  obtain ⟨o, ho, hc, n, hd⟩ := ht
  dsimp only at X ho
  refine wpAny_call (codeAny_call_builtin (id := "tuple.__new__") (by decide +kernel) F.entry_tuple_new ((checkNew X t).at ?_))
  unfold Builtin.«tuple.__new__»
  show wpAny _ _ (isType (.ref 159) >>= _) _ _ _
  refine wpAny_bind ((isType159 X).at ?_)
  simp only [Bool.not_true, Bool.false_eq_true, if_false]
  refine wpAny_bind ((sub159 X).at ?_)
  simp only [Bool.not_true, Bool.false_eq_true, if_false]
  refine wpAny_bind ((madeHere159 X).at ?_)
  refine wpAny_bind ((lookInit159 X).at ?_)
  rw [if_pos (by decide)]
  refine wpAny_bind (wpAny_of_eq (a := ()) rfl ?_)
  refine wpAny_bind (wpAny_of_eq (a := ()) rfl ?_)
  rw [if_neg (by decide)]
  have hs2 : items.size ≤ sizeLine := by rw [sizeLine_eq]; (first | lia | omega)
  refine wpAny_bind (wpAny_collect_seq t (.inr rfl) ho hc hd (fun h₁ k₁ => ?_) hs2)
  refine wpAny_bind (wpAny_pure (wpAny_bind (wpAny_alloc ?_)))
  rw [Array.toArray_toList]
  refine wpAny_bind ?_
  have X₃ : ∀ (o' o'' : Obj), (frag P).In ((h₁.push o').push o'') := fun o' o'' => X.keeps fun b o e => Heap.get?_push_of_some _ (Heap.get?_push_of_some _ (k₁ b o e))
  show wpAny _ _ (if items.size > sizeLine then _ else _) _ _ _
  rw [if_neg (Nat.not_lt.mpr hs2)]
  show wpAny _ _ (newObjAsIs _ _ _) _ _ _
  unfold newObjAsIs
  refine wpAny_bind (wpAny_alloc (wpAny_bind ((hasDel159 (X₃ _ _)).at ?_)))
  rw [if_neg (by decide)]
  refine wpAny_pure (wpAny_pure ?_)
  have hz : (h₁.push { cls := .type "dict", data := .dict #[] }).objs.size = h₁.objs.size + 1 := Heap.size_push ..
  refine hq _ _ (some h₁.objs.size) (fun b o e => Heap.get?_push_of_some _ (Heap.get?_push_of_some _ (k₁ b o e))) ?_ (Heap.get?_push_size _ rfl)
  cases e : h.get? (h₁.push { cls := .type "dict", data := .dict #[] }).objs.size with
  | none => rfl
  | some o' =>
    have := Heap.lt_size (k₁ _ _ e)
    rw [hz] at this
    exact absurd this (Nat.not_lt.mpr (Nat.le_succ _))
end Mine
end
/-! Em8 -/
section
open PySem PySem.W PyProof.Rows PySem.Builtin
set_option maxHeartbeats 1000000
namespace Mine
theorem under_depth (A : Around) (x y z : Value) : (A.under (.builtin "type.__call__" ⟨[.ref 159, x, y, z], []⟩)).depth = A.depth + 1 := by rfl

theorem run106 {P : Params} {mb : Str → Option Value} {prog : Program} {w : World} {A : Around} {E : Value → Shared → Prop} {s : Shared} {x y z : Value} {Q : Value → Shared → Prop} (G : Gl (frag P) (gm P) mb s.heap) (bb : mb (Str.ofString "tuple") = bootBuiltins (Str.ofString "tuple")) (hroom : A.depth < recursionLimit)
    (hq : ∀ h' tk a dd, (∀ b o, s.heap.get? b = some o → h'.get? b = some o) → s.heap.get? a = none → h'.get? a = some { cls := .ref 159, dict := dd, data := .seq #[x, y, z] } → Q (.ref a) { s with heap := h', toks := tk }) :
    wpAny (model prog w) A (call (.ref 106) [.ref 159, x, y, z]) Q E s := by
  refine wpAny_call (codeAny_call_def (binds := [(Str.ofString "_cls", .ref 159), (Str.ofString "actual", x), (Str.ofString "expected", y), (Str.ofString "value", z)]) hroom (G.inK 106 _ (by rfl)) (by rfl) G.nolimit ⟨105, _, _, _, rfl, G.inK 105 _ (by rfl), rfl, rfl⟩ rfl
    (fun _ _ _ _ q => wpAny_of_eq (by kernel_rfl) q) (by decide +kernel) ?_ (fun h₀ hns hk₀ => ?_))
  · intro q hq
    simp only [List.mem_cons, List.not_mem_nil, or_false] at hq
    rcases hq with rfl | rfl | rfl | rfl <;> kernel_rfl
  generalize hL : s.heap.objs.size = L at hns ⊢
  generalize hm : (fun x_1 => List.lookup x_1 [(Str.ofString "_cls", Value.ref 159), (Str.ofString "actual", x), (Str.ofString "expected", y), (Str.ofString "value", z)].reverse) = m at hns
  have m0 : m (Str.ofString "_cls") = some (.ref 159) := by subst hm; kernel_rfl
  have m1 : m (Str.ofString "actual") = some x := by subst hm; kernel_rfl
  have m2 : m (Str.ofString "expected") = some y := by subst hm; kernel_rfl
  have m3 : m (Str.ofString "value") = some z := by subst hm; kernel_rfl
  clear hm
  refine wpAny_execs_cons (wpAny_Expr (wpAny_Constant_str ?_) (by rfl) (by kernel_rfl))
  refine wpAny_execs_cons (wpAny_Return_some (tnew_call (G.inK.keeps hk₀) (fun Q q => ?_) rfl rfl ?_))
  · exact Calls.Name_function_global rfl (by kernel_rfl) (Calls.loadGlobal_builtin (G.g.keeps hk₀) (by kernel_rfl) (G.b.keeps hk₀) (bb.trans (by decide +kernel)) q) (by decide +kernel)
  refine Calls.callWith_builtin rfl (Calls.evalArgs_plain (Calls.spliced_cons (wpAny_Name (wpAny_loadName_local rfl (by kernel_rfl) hns m0 (Calls.spliced_cons (wpAny_Tuple ?_))) (by decide +kernel))))
  refine PyProof.Rows.spliced_more (wpAny_Name (wpAny_loadName_local rfl (by kernel_rfl) hns m1 (PyProof.Rows.spliced_more (wpAny_Name (wpAny_loadName_local rfl (by kernel_rfl) hns m2 (PyProof.Rows.spliced_more (wpAny_Name (wpAny_loadName_local rfl (by kernel_rfl) hns m3 (PyProof.Rows.spliced_none ⟨by rw [sizeLine_eq]; simp, ?_⟩)) (by decide +kernel)) rfl)) (by decide +kernel)) rfl)) (by decide +kernel)) rfl
  refine Calls.spliced_nil ?_
  refine tnew_run (items := #[x, y, z]) (P := P) (G.inK.keeps fun b o e => Heap.get?_push_of_some _ (hk₀ b o e)) ⟨_, Heap.get?_push_size _ rfl, rfl, _, rfl⟩ (by simp) fun h' a dd k ha ho => ?_
  refine hq h' _ a dd (fun b o e => k b o (Heap.get?_push_of_some _ (hk₀ b o e))) ?_ ho
  cases e : s.heap.get? a with
  | none => rfl
  | some o =>
    have := Heap.get?_push_of_some { cls := .type "tuple", data := .seq [x, y, z].toArray } (hk₀ a o e)
    rw [ha] at this; cases this
end Mine
end
/-! Em9 -/
section
open PySem PySem.W PyProof.Rows PySem.Builtin PySem.Builtin.Str
namespace Mine
theorem EV_mm {P : Params} {C : Cx} {σ : St} {x : Str} {np p : Pos} {e₁ e₂ e₃ : Expr} {f₁ f₂ f₃ : FV} (hK : C.K = frag P) (hmg : C.mg = gm P) (hx : C.env.kindOf x = some .globalImplicit) (hdb : (x == ("__debug__" : Str)) = false) (hm : C.mg x = some (.ref 159)) (hd2 : 2 ≤ C.d)
    (h₁ : EV C σ e₁ (.fv f₁)) (h₂ : EV C σ e₂ (.fv f₂)) (h₃ : EV C σ e₃ (.fv f₃))
    (s₁ : starEach [e₁, e₂, e₃] C.env = (false, eval e₁ C.env) :: starEach [e₂, e₃] C.env) (s₂ : starEach [e₂, e₃] C.env = (false, eval e₂ C.env) :: starEach [e₃] C.env) (s₃ : starEach [e₃] C.env = (false, eval e₃ C.env) :: starEach [] C.env) :
    EV C σ (.Call (.Name x np) [e₁, e₂, e₃] [] p) (.fv (.mm [f₁, f₂, f₃])) := by
  intro H ρ s Q E hg R hq
  refine wpAny_Call_NameR (glob_def hg R hx hdb hm ?_)
  have hall : backTo p (starEach [e₁, e₂, e₃] C.env) = [(false, eval e₁ C.env), (false, eval e₂ C.env), (false, eval e₃ C.env)] := by rw [s₁, s₂, s₃]; rfl
  have hs : EVs C σ [e₁, e₂, e₃] [.fv f₁, .fv f₂, .fv f₃] := .cons h₁ (.cons h₂ (.cons h₃ .nil s₃) s₂) s₁
  refine callWith_of (P := fun h => (frag P).In h) (by rw [hall]; rfl) (fun h X => ?_) ?_
  · obtain ⟨k, hk, L⟩ := looks_keep (M := model C.prog C.w) (f := .ref 159) (by kernel_rfl) X
    exact ⟨k, hk.imp id .inl, L⟩
  rw [hall]
  refine Calls.evalArgs_plain ?_
  rw [← hall]
  refine spliced_ok hs hg R fun l s₄ k₄ hl => ?_
  have R₄ := R.keeps hg.gm k₄
  have G : Gl (frag P) (gm P) C.mb s₄.heap := by have := Hh_g R₄; rw [hK, hmg] at this; exact this
  refine ⟨G.inK, ?_⟩
  cases hl with | @cons _ a _ _ r₁ hl =>
  cases hl with | @cons _ b _ _ r₂ hl =>
  cases hl with | @cons _ c _ _ r₃ hl =>
  cases hl
  cases r₁ with | fv r₁ => cases r₂ with | fv r₂ => cases r₃ with | fv r₃ =>
  have hdp := hg.depth
  show wpAny _ _ (call (.ref 159) [a, b, c]) _ _ _
  refine call_cls159 G.inK (run106 (mb := C.mb) ⟨G.inK, G.g, G.b, G.nolimit⟩ (hg.bb _ (by decide +kernel)) (by rw [under_depth]; (first | lia | omega)) fun h' tk ad dd keep hnone ho => ⟨ad, dd, 0, rfl, G.inK.keeps keep, ho, ?_⟩)
  have kk : Keeps s₄ { s₄ with heap := h', toks := tk } := ⟨h', tk, rfl, keep⟩
  have hnew : ad ∉ ρ ++ H := fun m => by obtain ⟨o, e⟩ := R₄.low ad m; have e' : s₄.heap.get? ad = none := hnone; rw [e'] at e; cases e
  refine hq _ _ (keeps_trans k₄ kk) (.fv (.mm (vs := #[a, b, c]) (n := 0) (dd := dd) (hideAll_get _ ho hnew) rfl (by rw [sizeLine_eq]; simp) fun i u v e1 e2 => ?_))
  match i with
  | 0 => simp at e1 e2; subst e1 e2; exact r₁.mono (Hh_keeps kk)
  | 1 => simp at e1 e2; subst e1 e2; exact r₂.mono (Hh_keeps kk)
  | 2 => simp at e1 e2; subst e1 e2; exact r₃.mono (Hh_keeps kk)
  | i + 3 => simp at e1
end Mine
end
/-! Eu9 -/
section
open PySem PySem.W PyProof.Rows PySem.Builtin PySem.Builtin.Str
namespace Mine
noncomputable def fsA (l : List (List Nat)) : List (List Nat) := l.foldl (fun acc x => if acc.contains x then acc else acc ++ [x]) []
noncomputable def rowsOf (l : List (List Nat)) : List (Nat × List Nat) := (fsA l).map fun x => (l.count x, x)
theorem fsA_mem (x : List Nat) : ∀ (l acc : List (List Nat)), x ∈ l.foldl (fun acc x => if acc.contains x then acc else acc ++ [x]) acc ↔ x ∈ acc ∨ x ∈ l
  | [], acc => by simp
  | y :: l, acc => by
    rw [List.foldl_cons, fsA_mem x l]
    by_cases h : acc.contains y
    · rw [if_pos h, List.mem_cons]
      have : y ∈ acc := by simpa using h
      constructor
      · rintro (h | h)
        · exact .inl h
        · exact .inr (.inr h)
      · rintro (h | rfl | h)
        · exact .inl h
        · exact .inl this
        · exact .inr h
    · rw [if_neg h, List.mem_append, List.mem_singleton, List.mem_cons, or_assoc]
theorem fsA_snoc (l : List (List Nat)) (x : List Nat) : fsA (l ++ [x]) = if (fsA l).contains x then fsA l else fsA l ++ [x] := by
  rw [fsA, List.foldl_append]; rfl
theorem fsA_len (l : List (List Nat)) : (fsA l).length ≤ l.length := by
  have : ∀ (l acc : List (List Nat)), (l.foldl (fun acc x => if acc.contains x then acc else acc ++ [x]) acc).length ≤ acc.length + l.length := by
    intro l
    induction l with
    | nil => intro acc; simp
    | cons y l ih =>
      intro acc
      rw [List.foldl_cons]
      have := ih (if acc.contains y then acc else acc ++ [y])
      split at this <;> (rename_i h; simp only [h, if_true, if_false] <;> simp at this ⊢ <;> (first | lia | omega))
  have h := this l []
  rw [List.length_nil, Nat.zero_add] at h; exact h

/-- the list s with the entries that p tells wiped out -/
noncomputable def wiped (a : Addr) (left : List (List Nat)) (p : List Nat → Nat → Bool) : List AV := left.zipIdx.map fun q => if p q.1 q.2 then AV.fv (.obj a) else tAV q.1
theorem wiped_len (a : Addr) (left : List (List Nat)) (p : List Nat → Nat → Bool) : (wiped a left p).length = left.length := by simp [wiped]
theorem wiped_get (a : Addr) {left : List (List Nat)} (p : List Nat → Nat → Bool) {k : Nat} {x : List Nat} (h : left[k]? = some x) : (wiped a left p)[k]? = some (if p x k then AV.fv (.obj a) else tAV x) := by
  unfold wiped
  rw [List.getElem?_map, List.getElem?_zipIdx, h]
  simp
theorem wiped_ext (a : Addr) {left : List (List Nat)} {p q : List Nat → Nat → Bool} (h : ∀ k x, left[k]? = some x → p x k = q x k) : wiped a left p = wiped a left q := by
  apply List.ext_getElem?
  intro k
  cases e : left[k]? with
  | none =>
    have hk := List.getElem?_eq_none_iff.mp e
    rw [List.getElem?_eq_none (by rw [wiped_len]; exact hk), List.getElem?_eq_none (by rw [wiped_len]; exact hk)]
  | some x => rw [wiped_get a p e, wiped_get a q e, h k x e]
theorem wiped_set (a : Addr) {left : List (List Nat)} {p : List Nat → Nat → Bool} {j : Nat} (hj : j < left.length) : (wiped a left p).set j (.fv (.obj a)) = wiped a left fun x k => p x k || k == j := by
  apply List.ext_getElem?
  intro k
  by_cases e : k = j
  · subst e
    rw [List.getElem?_set_self (by rw [wiped_len]; exact hj), wiped_get a _ (List.getElem?_eq_getElem hj)]
    simp
  · rw [List.getElem?_set_ne (Ne.symm e)]
    cases h : left[k]? with
    | none =>
      have hk := List.getElem?_eq_none_iff.mp h
      rw [List.getElem?_eq_none (by rw [wiped_len]; exact hk), List.getElem?_eq_none (by rw [wiped_len]; exact hk)]
    | some x => rw [wiped_get a _ h, wiped_get a _ h]; simp [e]
theorem wiped_fv (a : Addr) {left : List (List Nat)} (p : List Nat → Nat → Bool) {k : Nat} {v : AV} (h : (wiped a left p)[k]? = some v) : ∃ g, v = .fv g := by
  have hk : k < left.length := by rw [← wiped_len a left p]; exact (List.getElem?_eq_some_iff.mp h).1
  rw [wiped_get a p (List.getElem?_eq_getElem hk)] at h
  cases h
  split
  · exact ⟨_, rfl⟩
  · exact ⟨_, rfl⟩
theorem resolves_mm (σ : St) (n : Nat) (fs : List FV) : resolves σ n (fs.map .fv) = some fs := resolves_all fs
theorem EV_mis {P : Params} {C : Cx} {σ : St} {np p : Pos} {e₁ e₂ e₃ : Expr} {i j : Int} {l : List Nat} (hK : C.K = frag P) (hmg : C.mg = gm P) (hx : C.env.kindOf "_Mismatch" = some .globalImplicit) (hm : C.mg "_Mismatch" = some (.ref 159)) (hd2 : 2 ≤ C.d)
    (h₁ : EV C σ e₁ (.fv (.int i))) (h₂ : EV C σ e₂ (.fv (.int j))) (h₃ : EV C σ e₃ (.fv (.str l)))
    (s₁ : starEach [e₁, e₂, e₃] C.env = (false, eval e₁ C.env) :: starEach [e₂, e₃] C.env) (s₂ : starEach [e₂, e₃] C.env = (false, eval e₂ C.env) :: starEach [e₃] C.env) (s₃ : starEach [e₃] C.env = (false, eval e₃ C.env) :: starEach [] C.env) :
    EV C σ (.Call (.Name (Str.ofString "_Mismatch") np) [e₁, e₂, e₃] [] p) (.fv (.mm [.int i, .int j, .str l])) := EV_mm hK hmg hx (by decide +kernel) hm hd2 h₁ h₂ h₃ s₁ s₂ s₃
end Mine
end
/-! Ev11 -/
section
open PySem PySem.W PyProof.Rows PySem.Builtin PySem.Builtin.Str
namespace Mine
/-- the activation of a def of two arguments, the first captured -/
noncomputable def cxc (K : Frag) (mg mb : Str → Option Value) (prog : Program) (w : World) (d : Nat) (name : Str) (scope : Scope) (f : Addr) (cd : Value) (A : Around) (L : Addr) : Cx :=
  { prog, w, A, env := envOfC name scope L f cd, mu := [L, L + 1], K, mg, mb, d }

theorem callsTo_cell2 {K : Frag} {mg mb : Str → Option Value} {prog : Program} {w : World} {d : Nat} {f c : Addr} {a1 a2 : FV} {r : FV} {name : Str} {params : Arguments} {body : List Stmt} {scope : Scope} {pm doc : Value} {oc : Obj} {vs : Array Value} {t : Tok} {x1 x2 : Str} {o : Obj}
    (hK : K.lookup f = some o) (hdat : o.data = .func (Calls.docDef name params body scope pm (.ref c) doc)) (hC : K.lookup c = some oc) (hcd : oc.data = .fields vs) (hc1 : vs[1]? = some (.str name t))
    (hbind : ∀ v1 v2 : Value, bindArgs (Calls.docDef name params body scope pm (.ref c) doc) ⟨[v1, v2], []⟩ = pure [(x1, v1), (x2, v2)]) (hne : x1 ≠ x2)
    (hl1 : scope.names.lookup x1 = some .cell) (hl2 : scope.names.lookup x2 = some .local) (hcs : ∀ n, cellsFrom n scope.names [] = [(x1, n)]) (hco : scope.isCoroutine = false) (hgen : scope.isGenerator = false) (hk : scope.kind = .function)
    (hbody : ∀ A L, EX (cxc K mg mb prog w d name scope f (.ref c) A L) (st0 [x1, x2] [a1, a2]) body (Returns r)) : CallsTo K mg mb prog w (d + 1) f [a1, a2] r := by
  intro A hid s us Q E hh hdp hun hbb hG hlow hargs hq
  have hG' : Gl K mg mb s.heap := hG.mono fun _ _ e => of_hideAll _ e
  cases hargs with | @cons _ v1 _ _ h1 hargs =>
  cases hargs with | @cons _ v2 _ _ h2 hargs =>
  cases hargs
  have hk1 : ∀ L, (envOfC name scope L f (.ref c)).kindOf x1 = some .cell := fun L => hl1
  have hk2 : ∀ L, (envOfC name scope L f (.ref c)).kindOf x2 = some .local := fun L => hl2
  refine wpAny_call ?_
  refine call_cells_ret (hroom := by (first | lia | omega)) (hG'.inK _ _ hK) hdat hG'.nolimit ⟨c, oc, vs, t, rfl, hG'.inK _ _ hC, hcd, hc1⟩ (hbind v1 v2) (fun x hx => ?_) (fun h₁ tk F X => ?_) hco hgen hk
  · simp only [List.mem_cons, List.not_mem_nil, or_false] at hx
    rcases hx with rfl | rfl
    · exact .inr ⟨hl1, by rw [hcs]; simp⟩
    · exact .inl hl2
  have hbL : bindL (envOfC name scope s.heap.objs.size f (.ref c)).kindOf [(x1, v1), (x2, v2)] (fun _ => none) = fun y => if y = x2 then some v2 else none := by
    rw [bindL, bindL, bindL, hk1, hk2]
    simp
  have hbC : bindC (envOfC name scope s.heap.objs.size f (.ref c)).kindOf [(x1, v1), (x2, v2)] (fun _ => none) = fun y => if y = x1 then some v1 else none := by
    rw [bindC, bindC, bindC, hk1, hk2]
    simp
  rw [hbL] at F
  rw [hbC] at X
  have hcell : h₁.IsCell (s.heap.objs.size + 1) (some v1) := by
    have := X.cell x1 (s.heap.objs.size + 1) (by rw [hcs]; simp)
    simpa using this
  have hL : ∀ b o, s.heap.get? b = some o → @LT.lt Nat _ b s.heap.objs.size := fun b o e => Heap.lt_size e
  have hx : HExt (hideAll s.heap hid) (hideAll h₁ (s.heap.objs.size :: (s.heap.objs.size + 1) :: hid)) := by
    intro b o e
    have hb : b ∉ hid := fun m => by rw [hideAll_none _ m] at e; cases e
    have he := of_hideAll _ e
    have hlt := hL b o he
    refine hideAll_get _ (F.keep b o he) ?_
    simp only [List.mem_cons, not_or]
    exact ⟨Nat.ne_of_lt hlt, Nat.ne_of_lt (Nat.lt_succ_of_lt hlt), hb⟩
  have hC : COk (cxc K mg mb prog w d name scope f (.ref c) (A.deeper (envOfC name scope s.heap.objs.size f (.ref c))) s.heap.objs.size) :=
    ⟨hh, (by show A.depth + 1 + d < recursionLimit; (first | lia | omega)), (by show A.units + 3 + 10 * d + 100 < cLine; (first | lia | omega)), hk, rfl, rfl, hbb⟩
  have R : Rel (cxc K mg mb prog w d name scope f (.ref c) (A.deeper (envOfC name scope s.heap.objs.size f (.ref c))) s.heap.objs.size) (s.heap.objs.size :: (s.heap.objs.size + 1) :: hid) [] (st0 [x1, x2] [a1, a2])
      { s with heap := h₁, toks := tk } := by
    refine ⟨⟨hG.mono hx, fun a ha => ?_, fun x av e => ?_, fun k xs e => ?_⟩, ⟨List.nodup_nil, trivial, fun a h => (by cases h)⟩, rfl, ⟨_, F.ns⟩, List.mem_cons_self .., fun a ha => ?_, fun x c e => ?_, fun b hb => (by cases hb)⟩
    · simp only [List.nil_append, List.mem_cons] at ha
      rcases ha with rfl | rfl | ha
      · obtain ⟨o, _, _, e, _⟩ := F.ns; exact ⟨o, e⟩
      · obtain ⟨o, e, _⟩ := hcell; exact ⟨o, e⟩
      · obtain ⟨o, e⟩ := hlow a ha; exact ⟨o, F.keep a o e⟩
    · by_cases q : x = x1
      · subst q
        have : (st0 [x, x2] [a1, a2]).loc x = some (.fv a1) := st0_same ..
        rw [this] at e; cases e
        exact ⟨v1, .fv (h1.mono hx), .inr (.inl ⟨hk1 _, _, (by show (cellsFrom _ scope.names []).lookup x = _; rw [hcs]; simp), hcell⟩)⟩
      · have : (st0 [x1, x2] [a1, a2]).loc x = (st0 [x2] [a2]).loc x := st0_ne q
        rw [this] at e
        by_cases q2 : x = x2
        · subst q2
          have : (st0 [x] [a2]).loc x = some (.fv a2) := st0_same ..
          rw [this] at e; cases e
          exact ⟨v2, .fv (h2.mono hx), .inl ⟨hk2 _, _, F.ns, by simp⟩⟩
        · rw [show (st0 [x2] [a2]).loc x = (st0 [] []).loc x from st0_ne q2] at e
          cases e
    · cases e
    · simp only [cxc, List.mem_cons, List.not_mem_nil, or_false] at ha ⊢
      rcases ha with rfl | rfl
      · exact .inl rfl
      · exact .inr (.inl rfl)
    · have e' : (cellsFrom (s.heap.objs.size + 1) scope.names []).lookup x = some c := e
      rw [hcs] at e'
      simp only [List.lookup] at e'
      split at e'
      · cases e'; exact ⟨by simp [cxc], _, hcell⟩
      · cases e'
  refine wpAny_mono (hbody _ _ _ _ _ hC R) (fun fl s' hp => ?_) fun _ _ e => e
  obtain ⟨ρ', σ', oo, R', st, oi, hr⟩ := hp
  have kk : Keeps s s' := by
    obtain ⟨h', tk, rfl⟩ := st.same
    refine ⟨h', tk, rfl, fun b o e => st.keep b o (by simp) (fun m => ?_) (fun m => by cases m) (F.keep b o e)⟩
    have hlt := hL b o e
    simp only [cxc, List.mem_cons, List.not_mem_nil, or_false] at m
    rcases m with m | m
    · exact Nat.ne_of_lt hlt m
    · exact Nat.ne_of_lt (Nat.lt_succ_of_lt hlt) m
  cases oi with
  | ret v =>
    obtain ⟨n, hn⟩ := hr
    exact hq _ _ kk (resolve_ok R' (fun a ha => List.mem_cons_of_mem _ (List.mem_cons_of_mem _ ha)) n _ _ r hn v)
  | next => cases hr; exact hq _ _ kk .none
  | brk => exact hr.elim
  | cont => exact hr.elim

noncomputable def alpha : List Nat := [97, 98, 46, 43, 40, 124, 92, 94, 36, 10, 126, 38, 32, 93, 33, 45, 123, 35]
noncomputable def signAt (i : Int) : Nat := alpha.getD (i.fmod 18).toNat 0
noncomputable def signsOf (a : Int) (n : Nat) : List Nat := (List.range n).map fun i : Nat => signAt (a + i)

set_option maxHeartbeats 1000000
theorem signs_calls (P : Params) (mb : Str → Option Value) (prog : Program) (w : World) (a : Int) (n : Nat) (hn : n ≤ 1000) :
    CallsTo (frag P) (gm P) mb prog w 1 212 [.int a, .int n] (.str (signsOf a n)) := by
  refine callsTo_cell2 (x1 := "at") (x2 := "amount") (hK := by rfl) (hdat := by rfl) (hC := by rfl) (hcd := by rfl) (hc1 := by rfl) (by intro v1 v2; kernel_rfl) (by decide +kernel) (by rfl) (by rfl) (by intro n; rfl) rfl rfl rfl ?_
  intro A L
  have hfl : (((signsOf a n).map fun c => [c]) : List (List Nat)).flatten = signsOf a n := by
    generalize signsOf a n = l
    induction l with
    | nil => rfl
    | cons x l ih => rw [List.map_cons, List.flatten_cons, ih]; rfl
  have hmap : ((List.range n).map fun i : Nat => (some (.str [signAt (a + i)]) : Option FV)).filterMap id = (((signsOf a n).map fun c => [c]) : List (List Nat)).map .str := by
    rw [List.filterMap_map, signsOf, List.map_map, List.map_map]
    exact List.filterMap_eq_map (f := fun i : Nat => FV.str [signAt (a + i)]) ▸ rfl
  refine EX_one (EX1_return (v := .fv (.str (signsOf a n))) ?_ ⟨0, by rw [resolve]⟩)
  rw [← hfl]
  refine EV_join (ls := (signsOf a n).map fun c => [c]) (by decide +kernel) (EV_comp (cl := [("at", L + 1)]) (fre := ["at"]) (outs := (List.range n).map fun i : Nat => (some (.str [signAt (a + i)]) : Option FV)) (by kernel_rfl) (SRC_range1 (m := n) (by (exact ⟨by kernel_rfl, by decide +kernel, by kernel_rfl, by decide +kernel, by decide +kernel⟩)) (by walk_at "ev") (by (first | lia | omega)) (by (first | lia | omega)) (by rfl)) (by intro x; rfl)
      (Comp.map (List.range n) (fun i : Nat => [(Str.ofString "step", FV.int i)]) _ ["step"] (by decide +kernel) rfl (by decide +kernel) (fun x hx => by cases List.mem_singleton.mp hx; exact ⟨by kernel_rfl, by kernel_rfl, by kernel_rfl⟩) (fun _ => rfl) (fun x hx => by cases List.mem_singleton.mp hx; kernel_rfl) ?_)) (.inl (by rw [hmap])) ?_ (by rfl) (by rfl) (by rfl)
  · intro i hi L'
    refine ⟨EVt_nil, fun r hr => ?_⟩
    cases hr
    refine EV_sub (v := .fv (.str alpha)) (i := (a + i).fmod 18) (EV_lit (by decide +kernel) ⟨by decide, by decide⟩) (EV_bin (f := .int (a + i)) (g := .int 18) (EV_bin (f := .int a) (g := .int i) (EV_name (by rfl) (by decide +kernel)) (EV_name (by rfl) (by decide +kernel)) (by rfl)) EV_int (by rfl)) ?_ (by rfl) (by (intro _ _; rfl))
    have h0 : 0 ≤ (a + i).fmod 18 := Int.fmod_nonneg_of_pos _ (by decide)
    have h1 : (a + i).fmod 18 < 18 := Int.fmod_lt_of_pos _ (by decide)
    obtain ⟨k, hk⟩ := Int.eq_ofNat_of_zero_le h0
    rw [signAt, hk]
    refine item_str_nat ?_
    rw [Int.toNat_natCast, List.getD_eq_getElem?_getD]
    have : k < alpha.length := by rw [hk] at h1; show k < 18; (first | lia | omega)
    rw [List.getElem?_eq_getElem this]; rfl
  · rw [hfl, signsOf, List.length_map, List.length_range]; (first | lia | omega)
end Mine
end
/-! Ew3 -/
section
open PySem PySem.W PyProof.Rows PySem.Builtin PySem.Builtin.Str
namespace Mine
/-! what the law computes -/
noncomputable def lCells (ns : List Int) : List Int :=
  if 2 < ((ns.take 6).map fun i => i.fmod 1000000000).length then (ns.take 6).map fun i => i.fmod 1000000000 else ((ns.take 6).map fun i => i.fmod 1000000000) ++ [2, 0, 1]
noncomputable def lName (signs : List Nat) (c : Int) : List (List Nat) := (List.range 5).map fun p : Nat => [signs.getD (((c.fdiv (3 ^ p) + p).fmod 3).toNat) 0]
noncomputable def lPieces (signs : List Nat) : List (List Nat) := [[42], [63], [signs.getD 0 0], [signs.getD 1 0], [signs.getD 2 0], [42, 42], [63, 42], [signs.getD 3 0]]
noncomputable def lPat (pieces : List (List Nat)) (cs : List Int) : List Nat := (cs.map fun c => pieces.getD ((c.fmod 8).toNat) []).flatten
noncomputable def plainOf (parts : List (Option (List Nat))) : List (List Nat) := parts.filterMap fun | none => none | some s => if s == [63] then none else some [s.getLastD 0]
noncomputable def lackingOf (plain name : List (List Nat)) : List (List Nat) := (List.range plain.length).filterMap fun i =>
  if name.count (plain.getD (plain.length - 1 - i) []) < (plain.drop (plain.length - 1 - i)).count (plain.getD (plain.length - 1 - i) []) then some (plain.getD (plain.length - 1 - i) []) else none
noncomputable def keptOf (plain name : List (List Nat)) : List (List Nat) := name.zipIdx.filterMap fun q => if plain.count q.1 ≤ (name.take q.2).count q.1 then some q.1 else none
noncomputable def lawEnd (name : List (List Nat)) (pat : List Nat) (taken : List (List Nat)) : Bool :=
  let parts := trans [63] pat
  let plain := plainOf parts
  let missing := (uld plain name).1
  let left := (uld plain name).2
  if !(missing == lackingOf plain name && left == keptOf plain name) then false
  else
    let over : Int := (left.length : Int) - (parts.count (some [63]) : Nat)
    let stars := parts.count none
    if !missing.isEmpty || (decide (over < 0) || (decide (over > 0) && stars == 0)) then taken.isEmpty
    else
      let amount := amountOf (rowsOf left) left.length
      if togetherB parts then taken.length == amount
      else decide (amount ≤ taken.length) && decide (taken.length ≤ amount * (facN (over.toNat + stars - 1) / facN (stars - 1) / facN over.toNat))
noncomputable def lawB (ns : List Int) : Bool :=
  let cells := lCells ns
  let signs := signsOf ((cells.getD 0 0).fdiv 243) 4
  let name := lName signs (cells.getD 0 0)
  let pat := lPat (lPieces signs) (cells.drop 1)
  lawEnd name pat ((ordersL name).filter (takesB (piecesOf (joinTr (trans [46] pat)))))

theorem stars_le : ∀ (ps : List (Option (List Nat))), apart ps → 2 * ps.count none ≤ ps.length + 1
  | [], _ => by simp
  | [none], _ => by simp
  | [some s], _ => by simp
  | none :: none :: r, h => h.elim
  | none :: some s :: r, h => by
    have := stars_le r (apart_tail (apart_tail h))
    simp only [List.count_cons, List.length_cons] at this ⊢
    simp
    (first | lia | omega)
  | some s :: y :: r, h => by
    have := stars_le (y :: r) (apart_tail h)
    rw [List.count_cons]
    simp only [List.length_cons] at this ⊢
    simp
    (first | lia | omega)
theorem uldGo_len : ∀ (e a m : List (List Nat)), (uldGo e a m).2.length ≤ a.length
  | [], a, m => Nat.le_refl _
  | x :: e, a, m => by
    rw [uldGo]
    split
    · exact Nat.le_trans (uldGo_len e (a.erase x) m) (List.length_erase_le)
    · exact uldGo_len e a (m ++ [x])
theorem uld_len (e a : List (List Nat)) : (uld e a).2.length ≤ a.length := uldGo_len _ _ _
theorem together_stars {ps : List (Option (List Nat))} (h : togetherB ps = false) : 1 ≤ ps.count none := by
  apply Nat.pos_of_ne_zero
  intro q
  have hn : ∀ x ∈ ps, x ≠ none := fun x hx e => by rw [e] at hx; exact List.count_eq_zero.mp q hx
  have hp : placesOf ps = [] := by
    unfold placesOf
    rw [List.filterMap_eq_nil_iff]
    rintro ⟨x, k⟩ hx
    have := hn x (List.mem_of_getElem? (zipIdx_get (i := k) (p := (x, k)) (by
      obtain ⟨i, hi⟩ := List.mem_iff_getElem?.mp hx
      have e : k = i := (zipIdx_get hi).2
      rw [← e] at hi; exact hi)).1)
    cases x with
    | none => exact absurd rfl this
    | some s => rfl
  rw [togetherB, betweenOf, hp] at h
  cases h
theorem join_len {ps : List (Option (List Nat))} (hs : small ps) : (joinTr ps).length ≤ 7 + 9 * ps.length := by
  obtain ⟨h1, h2⟩ := span_small hs
  have hl := span_len ps
  have hf := flat_small _ h1
  have := (joinGo_len _ (spanSome ps).2 (Nat.le_refl _) h2).1
  simp only [joinTr, List.flatten_append, List.length_append, List.length_cons, List.length_nil]
  (first | lia | omega)
theorem cnt_strs (l : List (List Nat)) (s : List Nat) : ((l.map FV.str).countP fun y => eqS y (.str s)) = l.count s := by
  rw [List.countP_map, List.count]
  congr 1
theorem cnt_part (l : List (Option (List Nat))) (x : Option (List Nat)) : ((l.map (sFV .none)).countP fun y => eqS y (sFV .none x)) = l.count x := by
  rw [List.countP_map, List.count]
  congr 1
  funext y
  cases y <;> cases x <;> rfl
theorem alpha_ok : ∀ c ∈ alpha, c < 128 ∧ c ≠ 91 := by decide
theorem signAt_ok (i : Int) : signAt i < 128 ∧ signAt i ≠ 91 := by
  unfold signAt
  rw [List.getD_eq_getElem?_getD]
  cases h : alpha[(i.fmod 18).toNat]? with
  | none => exact ⟨by decide, by decide⟩
  | some c => exact alpha_ok c (List.mem_of_getElem? h)
theorem signs_ok (a : Int) (n k : Nat) : (signsOf a n).getD k 0 < 128 ∧ (signsOf a n).getD k 0 ≠ 91 := by
  rw [List.getD_eq_getElem?_getD]
  cases h : (signsOf a n)[k]? with
  | none => exact ⟨by decide, by decide⟩
  | some c =>
    obtain ⟨i, _, rfl⟩ := List.mem_map.mp (List.mem_of_getElem? h)
    exact signAt_ok _
theorem pieces_ok (a : Int) (n : Nat) : ∀ p ∈ lPieces (signsOf a n), p.length ≤ 2 ∧ ∀ c ∈ p, c < 128 ∧ c ≠ 91 := by
  intro p hp
  simp only [lPieces, List.mem_cons, List.not_mem_nil, or_false] at hp
  rcases hp with rfl | rfl | rfl | rfl | rfl | rfl | rfl | rfl <;> refine ⟨by simp, fun c hc => ?_⟩ <;> simp only [List.mem_cons, List.not_mem_nil, or_false] at hc
  · subst hc; decide
  · subst hc; decide
  · subst hc; exact signs_ok a n 0
  · subst hc; exact signs_ok a n 1
  · subst hc; exact signs_ok a n 2
  · rcases hc with rfl | rfl <;> decide
  · rcases hc with rfl | rfl <;> decide
  · subst hc; exact signs_ok a n 3
theorem lPat_ok {ps : List (List Nat)} (h : ∀ p ∈ ps, p.length ≤ 2 ∧ ∀ c ∈ p, c < 128 ∧ c ≠ 91) : ∀ cs : List Int, (lPat ps cs).length ≤ 2 * cs.length ∧ ∀ c ∈ lPat ps cs, c < 128 ∧ c ≠ 91
  | [] => ⟨Nat.le_refl _, fun c hc => by cases hc⟩
  | k :: cs => by
    obtain ⟨h1, h2⟩ := lPat_ok h cs
    have hk : (ps.getD ((k.fmod 8).toNat) []).length ≤ 2 ∧ ∀ c ∈ ps.getD ((k.fmod 8).toNat) [], c < 128 ∧ c ≠ 91 := by
      rw [List.getD_eq_getElem?_getD]
      cases e : ps[(k.fmod 8).toNat]? with
      | none => exact ⟨by simp, fun c hc => by cases hc⟩
      | some p => exact h p (List.mem_of_getElem? e)
    have e : lPat ps (k :: cs) = ps.getD ((k.fmod 8).toNat) [] ++ lPat ps cs := rfl
    rw [e, List.length_append, List.length_cons]
    refine ⟨by (first | lia | omega), fun c hc => ?_⟩
    rcases List.mem_append.mp hc with hc | hc
    · exact hk.2 c hc
    · exact h2 c hc
theorem lCells_len (ns : List Int) : 3 ≤ (lCells ns).length ∧ (lCells ns).length ≤ 6 := by
  have h : ((ns.take 6).map fun i => i.fmod 1000000000).length ≤ 6 := by rw [List.length_map]; exact List.length_take_le _ _
  unfold lCells
  split
  · exact ⟨by (first | lia | omega), h⟩
  · rw [List.length_append]
    simp only [List.length_cons, List.length_nil]
    (first | lia | omega)
theorem trans_ne (qm : List Nat) (hq : qm ≠ []) : ∀ (pat : List Nat) (acc : List (Option (List Nat))), (∀ s, some s ∈ acc → s ≠ []) → ∀ s, some s ∈ pat.foldl (trStep qm) acc → s ≠ []
  | [], acc, h => h
  | c :: pat, acc, h => by
    rw [List.foldl_cons]
    refine trans_ne qm hq pat _ fun s hs => ?_
    unfold trStep at hs
    have key : ∀ l : List Nat, l ≠ [] → some s ∈ acc ++ [some l] → s ≠ [] := fun l hl hs => by
      rcases List.mem_append.mp hs with h' | h'
      · exact h s h'
      · cases List.mem_singleton.mp h'; exact hl
    split at hs
    · split at hs
      · rcases List.mem_append.mp hs with h' | h'
        · exact h s h'
        · cases List.mem_singleton.mp h'
      · exact h s hs
    · split at hs
      · exact key _ hq hs
      · exact key _ (by unfold escS; split <;> simp) hs
end Mine
end
/-! Px4 -/
section
open PySem PySem.W PyProof.Rows PySem.Builtin PySem.Builtin.Str
namespace Mine
theorem fmap_congr {α β : Type} {f g : α → Option β} : ∀ {l : List α}, (∀ x ∈ l, f x = g x) → l.filterMap f = l.filterMap g
  | [], _ => rfl
  | x :: l, h => by
    rw [List.filterMap_cons, List.filterMap_cons, h x (List.mem_cons_self ..), fmap_congr fun y hy => h y (List.mem_cons_of_mem _ hy)]
noncomputable abbrev LS := List (List Nat)
noncomputable def uStep (s : LS × LS) (x : List Nat) : LS × LS := if s.2.contains x then (s.1, s.2.erase x) else (s.1 ++ [x], s.2)
theorem uldGo_fold : ∀ (r a m : LS), uldGo r a m = r.foldl uStep (m, a)
  | [], a, m => rfl
  | x :: r, a, m => by
    rw [uldGo, List.foldl_cons, uStep]
    dsimp only
    by_cases h : a.contains x = true
    · rw [if_pos h, if_pos h, uldGo_fold r]
    · rw [if_neg h, if_neg h, uldGo_fold r]
noncomputable def lackF (name r : LS) : LS := (List.range r.length).filterMap fun i => if name.count (r.getD i []) < (r.take (i + 1)).count (r.getD i []) then some (r.getD i []) else none
theorem lackF_snoc (name r : LS) (x : List Nat) : lackF name (r ++ [x]) = lackF name r ++ (if name.count x < r.count x + 1 then [x] else []) := by
  unfold lackF
  rw [List.length_append, List.length_singleton, List.range_succ, List.filterMap_append]
  congr 1
  · refine fmap_congr fun i hi => ?_
    have hi' := List.mem_range.mp hi
    have e1 : (r ++ [x]).getD i [] = r.getD i [] := by
      rw [List.getD_eq_getElem?_getD, List.getD_eq_getElem?_getD, List.getElem?_append_left hi']
    have e2 : (r ++ [x]).take (i + 1) = r.take (i + 1) := List.take_append_of_le_length hi'
    rw [e1, e2]
  · have e1 : (r ++ [x]).getD r.length [] = x := by
      rw [List.getD_eq_getElem?_getD, List.getElem?_append_right (Nat.le_refl _)]; simp
    have e2 : (r ++ [x]).take (r.length + 1) = r ++ [x] := List.take_of_length_le (by simp)
    have e3 : (r ++ [x]).count x = r.count x + 1 := by simp
    simp only [List.filterMap_cons, List.filterMap_nil, e1, e2, e3]
    by_cases h : name.count x < r.count x + 1
    · simp [h]
    · simp [h]
theorem lacking_rev (plain name : LS) : lackingOf plain name = lackF name plain.reverse := by
  unfold lackingOf lackF
  rw [List.length_reverse]
  refine fmap_congr fun i hi => ?_
  have hi' := List.mem_range.mp hi
  have e1 : plain.reverse.getD i [] = plain.getD (plain.length - 1 - i) [] := by
    rw [List.getD_eq_getElem?_getD, List.getD_eq_getElem?_getD, List.getElem?_reverse hi']
  have e2 : plain.reverse.take (i + 1) = (plain.drop (plain.length - 1 - i)).reverse := by
    rw [List.take_reverse, show plain.length - (i + 1) = plain.length - 1 - i by (first | lia | omega)]
  rw [e1, e2, List.count_reverse]

/-- what stays of a list: those with enough of their like ahead of them -/
noncomputable def keepP (c : List Nat → Nat) : LS → LS → LS
  | _, [] => []
  | pre, y :: l => if c y ≤ pre.count y then y :: keepP c (pre ++ [y]) l else keepP c (pre ++ [y]) l
theorem kept_go (name : LS) (c : List Nat → Nat) : ∀ (l pre : LS), name = pre ++ l → ((l.zipIdx pre.length).filterMap fun q => if c q.1 ≤ (name.take q.2).count q.1 then some q.1 else none) = keepP c pre l
  | [], _, _ => rfl
  | y :: l, pre, h => by
    have ht : name.take pre.length = pre := by rw [h]; simp
    have ih := kept_go name c l (pre ++ [y]) (by rw [h]; simp)
    rw [List.length_append, List.length_singleton] at ih
    rw [List.zipIdx_cons, List.filterMap_cons, keepP, ih]
    dsimp only
    rw [ht]
    by_cases hc : c y ≤ pre.count y
    · rw [if_pos hc, if_pos hc]
    · rw [if_neg hc, if_neg hc]
theorem kept_keep (plain name : LS) : keptOf plain name = keepP (fun y => plain.count y) [] name := kept_go name (fun y => plain.count y) name [] rfl
theorem keepP_congr {c c' : List Nat → Nat} (h : ∀ y, c y = c' y) : ∀ (l pre : LS), keepP c pre l = keepP c' pre l
  | [], _ => rfl
  | y :: l, pre => by rw [keepP, keepP, keepP_congr h l, h y]
theorem keepP_zero : ∀ (l pre : LS), keepP (fun _ => 0) pre l = l
  | [], _ => rfl
  | y :: l, pre => by rw [keepP, if_pos (Nat.zero_le _), keepP_zero l]
noncomputable def bump (c : List Nat → Nat) (x : List Nat) : List Nat → Nat := fun y => if y = x then c y + 1 else c y
theorem keepP_over (c : List Nat → Nat) (x : List Nat) : ∀ (l pre : LS), c x < pre.count x → keepP (bump c x) pre l = keepP c pre l
  | [], _, _ => rfl
  | y :: l, pre, h => by
    have hle : pre.count x ≤ (pre ++ [y]).count x := by rw [List.count_append]; (first | lia | omega)
    have ih := keepP_over c x l (pre ++ [y]) (by (first | lia | omega))
    rw [keepP, keepP, ih]
    by_cases q : y = x
    · subst q
      rw [if_pos (show bump c y y ≤ pre.count y by unfold bump; rw [if_pos rfl]; (first | lia | omega)), if_pos (by (first | lia | omega))]
    · have : bump c x y = c y := if_neg q
      rw [this]
theorem keepP_erase (c : List Nat → Nat) (x : List Nat) : ∀ (l pre : LS), pre.count x ≤ c x → keepP (bump c x) pre l = (keepP c pre l).erase x
  | [], _, _ => rfl
  | y :: l, pre, h => by
    by_cases q : y = x
    · subst q
      rw [keepP, keepP]
      have hb : bump c y y = c y + 1 := if_pos rfl
      by_cases hc : c y ≤ pre.count y
      · rw [if_pos hc, if_neg (by rw [hb]; (first | lia | omega)), List.erase_cons_head]
        refine keepP_over c y l (pre ++ [y]) ?_
        rw [List.count_append, List.count_singleton, if_pos (by simp)]; (first | lia | omega)
      · rw [if_neg hc, if_neg (by rw [hb]; (first | lia | omega))]
        refine keepP_erase c y l (pre ++ [y]) ?_
        rw [List.count_append, List.count_singleton, if_pos (by simp)]; (first | lia | omega)
    · rw [keepP, keepP]
      have hb : bump c x y = c y := if_neg q
      have ih := keepP_erase c x l (pre ++ [y]) (by rw [List.count_append, List.count_singleton, if_neg (by simpa using q)]; (first | lia | omega))
      rw [hb, ih]
      by_cases hc : c y ≤ pre.count y
      · rw [if_pos hc, if_pos hc, List.erase_cons_tail (by simpa using q)]
      · rw [if_neg hc, if_neg hc]

theorem snoc_ind {P : LS → Prop} (h0 : P []) (h1 : ∀ r x, P r → P (r ++ [x])) : ∀ r, P r := by
  intro r
  rw [← List.reverse_reverse r]
  induction r.reverse with
  | nil => exact h0
  | cons x l ih => rw [List.reverse_cons]; exact h1 _ _ ih
theorem uld_inv (name : LS) : ∀ r : LS, (r.foldl uStep ([], name)).1 = lackF name r ∧ (r.foldl uStep ([], name)).2 = keepP (fun y => r.count y) [] name ∧ (∀ y, (r.foldl uStep ([], name)).2.count y = name.count y - r.count y) ∧
    ((r.foldl uStep ([], name)).1 = [] → name.Perm (r ++ (r.foldl uStep ([], name)).2)) := by
  refine snoc_ind ⟨rfl, (keepP_zero name []).symm, fun y => by simp, fun _ => .refl _⟩ fun r x ⟨h1, h2, h3, h4⟩ => ?_
  rw [List.foldl_append, List.foldl_cons, List.foldl_nil]
  generalize r.foldl uStep ([], name) = s at h1 h2 h3 h4
  obtain ⟨m, a⟩ := s
  dsimp only at h1 h2 h3 h4
  have hx := h3 x
  rw [uStep]
  dsimp only
  have hbump : ∀ y, (r ++ [x]).count y = bump (fun y => r.count y) x y := fun y => by
    rw [List.count_append, bump]
    by_cases q : y = x
    · subst q; rw [if_pos rfl, List.count_singleton, if_pos (by simp)]
    · rw [if_neg q, List.count_singleton, if_neg (by simpa using fun e => q e.symm)]; rfl
  have hke : keepP (fun y => (r ++ [x]).count y) [] name = a.erase x := by
    rw [keepP_congr hbump, keepP_erase _ _ _ _ (by simp), ← h2]
  by_cases hc : a.contains x = true
  · have hmem : x ∈ a := List.contains_iff_mem.mp hc
    have hpos : 0 < a.count x := List.count_pos_iff.mpr hmem
    rw [if_pos hc]
    refine ⟨?_, hke.symm, fun y => ?_, fun hm => ?_⟩
    · rw [lackF_snoc, if_neg (by (first | lia | omega)), List.append_nil]; exact h1
    · dsimp only
      rw [hbump y, bump, List.count_erase]
      by_cases q : y = x
      · subst q; rw [if_pos rfl, if_pos (by simp)]; (first | lia | omega)
      · rw [if_neg q, if_neg (by simpa using fun e => q e.symm)]; have := h3 y; (first | lia | omega)
    · refine (h4 hm).trans ?_
      dsimp only
      rw [List.append_assoc]
      exact List.Perm.append_left r (List.perm_cons_erase hmem)
  · have hmem : x ∉ a := fun h => hc (List.contains_iff_mem.mpr h)
    have hz : a.count x = 0 := List.count_eq_zero.mpr hmem
    rw [if_neg hc]
    refine ⟨?_, ?_, fun y => ?_, fun hm => ?_⟩
    · rw [lackF_snoc, if_pos (by (first | lia | omega))]; exact congrArg (· ++ [x]) h1
    · rw [hke, List.erase_of_not_mem hmem]
    · dsimp only
      rw [hbump y, bump]
      by_cases q : y = x
      · subst q; rw [if_pos rfl]; (first | lia | omega)
      · rw [if_neg q]; exact h3 y
    · exact absurd hm (by simp)
theorem uld_spec (plain name : LS) : (uld plain name).1 = lackingOf plain name ∧ (uld plain name).2 = keptOf plain name ∧ ((uld plain name).1 = [] → name.Perm (plain ++ (uld plain name).2)) ∧
    ((uld plain name).1 ≠ [] → ∀ left, ¬ name.Perm (plain ++ left)) := by
  obtain ⟨h1, h2, h3, h4⟩ := uld_inv name plain.reverse
  have e : uld plain name = plain.reverse.foldl uStep ([], name) := uldGo_fold _ _ _
  rw [e]
  refine ⟨by rw [h1, lacking_rev], ?_, fun h => ?_, fun h left hp => h ?_⟩
  · rw [h2, kept_keep]
    exact keepP_congr (fun y => List.count_reverse ..) _ _
  · exact (h4 h).trans (List.Perm.append_right _ (List.reverse_perm plain))
  · rw [h1]
    unfold lackF
    refine List.filterMap_eq_nil_iff.mpr fun i hi => ?_
    rw [if_neg]
    have hc : ∀ y, name.count y = plain.count y + left.count y := fun y => by rw [hp.count_eq, List.count_append]
    have hle : ∀ y, (plain.reverse.take (i + 1)).count y ≤ plain.count y := fun y => by
      rw [← List.count_reverse (l := plain)]
      exact (List.take_sublist _ _).count_le _
    have := hle (plain.reverse.getD i [])
    have := hc (plain.reverse.getD i [])
    (first | lia | omega)
end Mine
end
/-! Px1 -/
section
namespace Mine
/-- the parts that escape and the mark for one sign can give -/
noncomputable def good (s : List Nat) : Prop := s = [46] ∨ (∃ c, s = [c] ∧ c ≠ 46 ∧ c ≠ 92 ∧ c ≠ 41 ∧ metas.contains c = false) ∨ ∃ c, s = [92, c]
noncomputable def toPiece (s : List Nat) : List Nat := if s == [46] then [] else [s.getLast?.getD 0]
theorem get_drop {body z : List Nat} {p c : Nat} (h : body.drop p = c :: z) : body[p]? = some c ∧ p < body.length := by
  have h1 : (body.drop p)[0]? = some c := by rw [h]; rfl
  rw [List.getElem?_drop] at h1
  exact ⟨by simpa using h1, (List.getElem?_eq_some_iff.mp (by simpa using h1)).1⟩
theorem drop_more {body a z : List Nat} {p : Nat} (h : body.drop p = a ++ z) : body.drop (p + a.length) = z := by
  rw [← List.drop_drop, h, List.drop_left]
theorem step_part {body z s : List Nat} {st : PSt} (hs : good s) (hz : z.head? ≠ some 42) (h : body.drop st.place = s ++ z) (hok : (st.held || (st.last || st.init.isEmpty)) = true) :
    pcStep body st = ⟨st.place + s.length, st.held, st.last, true, st.init, st.cur ++ [toPiece s]⟩ := by
  rcases hs with rfl | ⟨c, rfl, h1, h2, h3, h4⟩ | ⟨c, rfl⟩
  · obtain ⟨hg, _⟩ := get_drop h
    have a : ((body.drop st.place).take 6 == [40, 63, 62, 46, 42, 63]) = false := by rw [h]; rfl
    have b : ((body.drop st.place).take 2 == [46, 42]) = false := by
      rw [h]
      cases z with
      | nil => rfl
      | cons y z =>
        have : y ≠ 42 := fun e => hz (by rw [e]; rfl)
        simp [this]
    unfold pcStep
    rw [a, b, hg]
    simp [hok, toPiece, metas]
  · obtain ⟨hg, _⟩ := get_drop h
    have hc40 : c ≠ 40 := fun e => by rw [e] at h4; cases h4
    have a : ((body.drop st.place).take 6 == [40, 63, 62, 46, 42, 63]) = false := by rw [h]; simp [hc40]
    have b : ((body.drop st.place).take 2 == [46, 42]) = false := by rw [h]; simp [h1]
    unfold pcStep
    rw [a, b, hg, h]
    simp [hok, toPiece, h1, h2, h3]
    simpa using h4
  · obtain ⟨hg, _⟩ := get_drop h
    have a : ((body.drop st.place).take 6 == [40, 63, 62, 46, 42, 63]) = false := by rw [h]; rfl
    have b : ((body.drop st.place).take 2 == [46, 42]) = false := by rw [h]; rfl
    unfold pcStep
    rw [a, b, hg, h]
    simp [hok, toPiece]

theorem pcRun_step {body : List Nat} {st : PSt} (h : st.sound = true) (hl : st.place < body.length) : pcRun body st = pcRun body (pcStep body st) := by
  rw [pcRun, dif_pos ⟨h, hl⟩]
theorem pcRun_stop {body : List Nat} {st : PSt} (hl : body.length ≤ st.place) : pcRun body st = st := by
  rw [pcRun, dif_neg (fun h => Nat.not_lt.mpr hl h.2)]
theorem good_head {s : List Nat} (h : good s) : ∃ c r, s = c :: r ∧ c ≠ 42 := by
  rcases h with rfl | ⟨c, rfl, _, _, _, h4⟩ | ⟨c, rfl⟩
  · exact ⟨46, [], rfl, by decide⟩
  · refine ⟨c, [], rfl, ?_⟩
    rintro rfl
    simp [metas] at h4
  · exact ⟨92, [c], rfl, by decide⟩
theorem drop_lt {body : List Nat} {p c : Nat} {z : List Nat} (h : body.drop p = c :: z) : p < body.length := (get_drop h).2
/-- a run of parts -/
theorem run_parts (body : List Nat) : ∀ (ss : List (List Nat)) (z : List Nat) (st : PSt), (∀ s ∈ ss, good s) → z.head? ≠ some 42 → st.sound = true → body.drop st.place = ss.flatten ++ z → (st.held || (st.last || st.init.isEmpty)) = true →
    pcRun body st = pcRun body ⟨st.place + ss.flatten.length, st.held, st.last, true, st.init, st.cur ++ ss.map toPiece⟩
  | [], z, st, _, _, hs, _, _ => by
    obtain ⟨a, b, c, d, e, f⟩ := st
    simp only at hs
    subst hs
    simp
  | s :: ss, z, st, hg, hz, hs, hd, hok => by
    rw [List.flatten_cons, List.append_assoc] at hd
    have hgs := hg s (List.mem_cons_self ..)
    obtain ⟨c, r, hcr, hc⟩ := good_head hgs
    have hlt : st.place < body.length := drop_lt (by rw [hd, hcr]; rfl)
    have hz2 : (ss.flatten ++ z).head? ≠ some 42 := by
      cases ss with
      | nil => exact hz
      | cons s2 ss =>
        obtain ⟨c2, r2, h2, hc2⟩ := good_head (hg s2 (List.mem_cons_of_mem _ (List.mem_cons_self ..)))
        rw [h2]
        simpa using hc2
    rw [pcRun_step hs hlt, step_part hgs hz2 hd hok]
    have := run_parts body ss z ⟨st.place + s.length, st.held, st.last, true, st.init, st.cur ++ [toPiece s]⟩ (fun t ht => hg t (List.mem_cons_of_mem _ ht)) hz rfl (drop_more hd) hok
    rw [this]
    simp [Nat.add_assoc]

noncomputable def groupsGo (r : List (Option (List Nat))) : List (List (List Nat)) :=
  match r with
  | [] => []
  | _ :: rest => (spanSome rest).1.map toPiece :: groupsGo (spanSome rest).2
termination_by r.length
decreasing_by have := spanSome_le rest; simp; (first | lia | omega)
noncomputable def goods (r : List (Option (List Nat))) : Prop := ∀ s, some s ∈ r → good s
theorem span_goods {r : List (Option (List Nat))} (h : goods r) : (∀ s ∈ (spanSome r).1, good s) ∧ goods (spanSome r).2 := by
  have e := span_eq r
  constructor
  · intro s hs
    refine h s ?_
    rw [e]
    exact List.mem_append.mpr (.inl (List.mem_map_of_mem hs))
  · intro s hs
    refine h s ?_
    rw [e]
    exact List.mem_append.mpr (.inr hs)
theorem joinGo_head (r : List (Option (List Nat))) : (joinGo r).flatten.head? ≠ some 42 := by
  cases r with
  | nil => rw [joinGo]; simp
  | cons x rest =>
    rw [joinGo]
    split
    · simp
    · split <;> simp
theorem span_snd : ∀ r : List (Option (List Nat)), (spanSome r).2 = [] ∨ ∃ t, (spanSome r).2 = none :: t
  | [] => .inl rfl
  | none :: r => .inr ⟨r, rfl⟩
  | some x :: r => span_snd r

/-- the groups behind stars -/
theorem run_go (body : List Nat) : ∀ (n : Nat) (r : List (Option (List Nat))), r.length ≤ n → goods r → (r = [] ∨ ∃ t, r = none :: t) → ∀ st : PSt, st.sound = true → st.held = false → st.last = false → body.drop st.place = (joinGo r).flatten →
    ∃ f, pcRun body st = f ∧ f.sound = true ∧ f.held = false ∧ f.last = !r.isEmpty ∧ f.init ++ [f.cur] = st.init ++ (st.cur :: groupsGo r)
  | _, [], _, _, _, st, h1, h2, h3, hd => by
    rw [joinGo] at hd
    have hl : body.length ≤ st.place := List.drop_eq_nil_iff.mp hd
    exact ⟨st, pcRun_stop hl, h1, h2, h3, by rw [groupsGo]⟩
  | 0, _ :: _, hn, _, _, _, _, _, _, _ => by simp at hn
  | n + 1, x :: rest, hn, hg, hx, st, h1, h2, h3, hd => by
    have hgr : goods rest := fun s hs => hg s (List.mem_cons_of_mem _ hs)
    obtain ⟨g1, g2⟩ := span_goods hgr
    rw [joinGo] at hd
    rw [groupsGo]
    by_cases hr : rest = []
    · subst hr
      rw [if_pos rfl] at hd
      have hd' : body.drop st.place = [46, 42] := hd
      have hlt := drop_lt hd'
      have hst : pcStep body st = ⟨st.place + 2, false, true, true, st.init ++ [st.cur], []⟩ := by
        unfold pcStep
        rw [hd', h2, h3]; rfl
      rw [pcRun_step h1 hlt, hst, pcRun_stop (by
        have := drop_more (a := [46, 42]) (z := []) hd'
        exact List.drop_eq_nil_iff.mp this)]
      refine ⟨_, rfl, rfl, rfl, rfl, ?_⟩
      simp [spanSome, groupsGo]
    · rw [if_neg hr] at hd
      by_cases hs : (spanSome rest).2 = []
      · rw [if_pos hs] at hd
        have hd' : body.drop st.place = [46, 42] ++ ((spanSome rest).1.flatten ++ []) := by rw [hd]; simp
        have hlt : st.place < body.length := drop_lt (by rw [hd']; rfl)
        have hst : pcStep body st = ⟨st.place + 2, false, true, true, st.init ++ [st.cur], []⟩ := by
          unfold pcStep
          have a : ((body.drop st.place).take 6 == [40, 63, 62, 46, 42, 63]) = false := by
            rw [hd']; simp
          have b : ((body.drop st.place).take 2 == [46, 42]) = true := by rw [hd']; simp
          rw [a, b, h2, h3]; rfl
        have hd2 := drop_more hd'
        have hrun := run_parts body (spanSome rest).1 [] ⟨st.place + 2, false, true, true, st.init ++ [st.cur], []⟩ g1 (by simp) rfl hd2 rfl
        have hend : body.length ≤ st.place + 2 + (spanSome rest).1.flatten.length := List.drop_eq_nil_iff.mp (drop_more (p := st.place + 2) hd2)
        rw [pcRun_step h1 hlt, hst, hrun, pcRun_stop hend]
        refine ⟨_, rfl, rfl, rfl, rfl, ?_⟩
        rw [hs]
        simp [groupsGo]
      · rw [if_neg hs] at hd
        rw [List.flatten_cons, List.append_assoc] at hd
        have hlt : st.place < body.length := drop_lt (by rw [hd]; rfl)
        have hst : pcStep body st = ⟨st.place + 6, true, false, true, st.init ++ [st.cur], []⟩ := by
          unfold pcStep
          have a : ((body.drop st.place).take 6 == [40, 63, 62, 46, 42, 63]) = true := by rw [hd]; simp
          rw [a, h2, h3]; rfl
        have hd2 := drop_more hd
        rw [List.append_assoc] at hd2
        have hrun := run_parts body (spanSome rest).1 ([41] ++ (joinGo (spanSome rest).2).flatten) ⟨st.place + 6, true, false, true, st.init ++ [st.cur], []⟩ g1 (by simp) rfl hd2 rfl
        have hd3 := drop_more (p := st.place + 6) hd2
        have hlt3 : st.place + 6 + (spanSome rest).1.flatten.length < body.length := drop_lt hd3
        have hst3 : pcStep body ⟨st.place + 6 + (spanSome rest).1.flatten.length, true, false, true, st.init ++ [st.cur], [] ++ (spanSome rest).1.map toPiece⟩ = ⟨st.place + 6 + (spanSome rest).1.flatten.length + 1, false, false, true, st.init ++ [st.cur], [] ++ (spanSome rest).1.map toPiece⟩ := by
          unfold pcStep
          have a : ((body.drop (st.place + 6 + (spanSome rest).1.flatten.length)).take 6 == [40, 63, 62, 46, 42, 63]) = false := by rw [hd3]; simp
          have b : ((body.drop (st.place + 6 + (spanSome rest).1.flatten.length)).take 2 == [46, 42]) = false := by rw [hd3]; simp
          have c : body[st.place + 6 + (spanSome rest).1.flatten.length]? = some 41 := (get_drop hd3).1
          simp only [a, b, c]; rfl
        have hd4 := drop_more (a := [41]) hd3
        obtain ⟨f, e1, e2, e3, e4, e5⟩ := run_go body n (spanSome rest).2 (by have := spanSome_le rest; simp only [List.length_cons] at hn; (first | lia | omega)) g2 (span_snd rest) ⟨st.place + 6 + (spanSome rest).1.flatten.length + 1, false, false, true, st.init ++ [st.cur], [] ++ (spanSome rest).1.map toPiece⟩ rfl rfl rfl hd4
        rw [pcRun_step h1 hlt, hst, hrun, pcRun_step rfl hlt3, hst3]
        refine ⟨f, e1, e2, e3, ?_, ?_⟩
        · rw [e4]
          have : (spanSome rest).2.isEmpty = false := by
            cases h : (spanSome rest).2 with
            | nil => exact absurd h hs
            | cons => rfl
          rw [this]; rfl
        · rw [e5]; simp
end Mine
end
/-! Px2 -/
section
open PySem PySem.W PyProof.Rows PySem.Builtin PySem.Builtin.Str
namespace Mine
theorem clip_neg (n k : Nat) (h : k ≤ n) (hk : 0 < k) : clipAt n (-(k : Int)) = n - k := by
  unfold clipAt
  split <;> (first | lia | omega)
theorem pieces_join {parts : List (Option (List Nat))} (hg : goods parts) : piecesOf (joinTr parts) = (spanSome parts).1.map toPiece :: groupsGo (spanSome parts).2 := by
  obtain ⟨g1, g2⟩ := span_goods hg
  have hB : joinTr parts = [40, 63, 115, 58] ++ (((spanSome parts).1 ++ joinGo (spanSome parts).2).flatten ++ [41, 92, 90]) := rfl
  rw [List.flatten_append] at hB
  generalize hb : (spanSome parts).1.flatten ++ (joinGo (spanSome parts).2).flatten = B at hB
  have hlen : (joinTr parts).length = B.length + 7 := by rw [hB]; simp
  have c1 : cutN (joinTr parts) (some 4) (some (-3)) = B := by
    unfold cutN
    simp only [Option.elim]
    rw [show (4 : Int) = ((4 : Nat) : Int) from rfl, show (-3 : Int) = -((3 : Nat) : Int) from rfl, clip_nat, clip_neg _ _ (by (first | lia | omega)) (by decide), hlen, Nat.min_eq_left (by (first | lia | omega)), hB]
    rw [show B.length + 7 - 3 - 4 = B.length by (first | lia | omega)]
    rw [List.drop_left' (by rfl)]
    simp
  have c2 : cutN (joinTr parts) none (some 4) = [40, 63, 115, 58] := by
    unfold cutN
    simp only [Option.elim]
    rw [show (4 : Int) = ((4 : Nat) : Int) from rfl, clip_nat, hlen, Nat.min_eq_left (by (first | lia | omega)), hB]
    rfl
  have c3 : cutN (joinTr parts) (some (-3)) none = [41, 92, 90] := by
    unfold cutN
    simp only [Option.elim]
    rw [show (-3 : Int) = -((3 : Nat) : Int) from rfl, clip_neg _ _ (by (first | lia | omega)) (by decide), hlen, hB, ← List.append_assoc]
    rw [List.drop_left' (by simp)]
    rw [show B.length + 7 - (B.length + 7 - 3) = 3 by (first | lia | omega)]
    rfl
  unfold piecesOf
  rw [c1, c2, c3]
  have hs : (([40, 63, 115, 58] ++ [41, 92, 90] : List Nat) == [40, 63, 115, 58, 41, 92, 90]) = true := by decide
  rw [hs]
  have hrun := run_parts B (spanSome parts).1 (joinGo (spanSome parts).2).flatten ⟨0, false, false, true, [], []⟩ g1 (joinGo_head _) rfl (by rw [← hb]; rfl) rfl
  have hd := drop_more (body := B) (p := 0) (a := (spanSome parts).1.flatten) (z := (joinGo (spanSome parts).2).flatten) (by rw [← hb]; rfl)
  obtain ⟨f, e1, e2, e3, e4, e5⟩ := run_go B _ (spanSome parts).2 (Nat.le_refl _) g2 (span_snd parts) ⟨0 + (spanSome parts).1.flatten.length, false, false, true, [], [] ++ (spanSome parts).1.map toPiece⟩ rfl rfl rfl hd
  have hrun' : pcRun B ⟨0, false, false, true, [], []⟩ = f := hrun.trans e1
  dsimp only at e5 ⊢
  rw [hrun']
  have hl := congrArg List.length e5
  simp only [List.length_append, List.length_cons, List.length_nil] at hl
  have hlast : (f.last == decide (1 < f.init.length + 1)) = true := by
    rw [e4]
    cases h : (spanSome parts).2 with
    | nil =>
      rw [h, groupsGo] at hl
      simp only [List.length_nil] at hl
      rw [show f.init.length = 0 by (first | lia | omega)]; rfl
    | cons x r =>
      rw [h, groupsGo] at hl
      simp only [List.length_cons] at hl
      rw [decide_eq_true (show 1 < f.init.length + 1 by (first | lia | omega))]; rfl
  rw [e2, e3, hlast]
  simp only [Bool.not_false, Bool.and_self, if_true]
  rw [e5]
  simp
end Mine
end
/-! Pl1 -/
section
namespace PL
noncomputable def insAt (sign order : List Nat) (k : Nat) : List Nat := order.take k ++ sign ++ order.drop k
noncomputable def addNew (fr : List (List Nat)) (l : List Nat) : List (List Nat) := if fr.contains l then fr else fr ++ [l]
noncomputable def addN (sign order : List Nat) (fr : List (List Nat)) (n : Nat) : List (List Nat) := (List.range n).foldl (fun fr k => addNew fr (insAt sign order k)) fr
noncomputable def stepO (sign : List Nat) (os : List (List Nat)) : List (List Nat) := os.foldl (fun fr o => addN sign o fr (o.length + 1)) []
noncomputable def ordersL (name : List (List Nat)) : List (List Nat) := name.foldl (fun os sign => stepO sign os) [[]]

theorem addNew_mem {fr : List (List Nat)} {l x : List Nat} : x ∈ addNew fr l ↔ x ∈ fr ∨ x = l := by
  unfold addNew
  split
  · rename_i h
    have : l ∈ fr := by simpa using h
    constructor
    · exact .inl
    · rintro (h | rfl)
      · exact h
      · exact this
  · simp
theorem addNew_nodup {fr : List (List Nat)} {l : List Nat} (h : fr.Nodup) : (addNew fr l).Nodup := by
  unfold addNew
  split
  · exact h
  · rename_i hc
    have hn : l ∉ fr := by simpa using hc
    rw [List.nodup_append]
    refine ⟨h, by simp, fun a ha b hb e => ?_⟩
    rw [List.mem_singleton.mp hb] at e
    exact hn (e ▸ ha)
theorem fold_addNew (f : Nat → List Nat) : ∀ (ks : List Nat) (fr : List (List Nat)), fr.Nodup → (ks.foldl (fun fr k => addNew fr (f k)) fr).Nodup ∧ ∀ x, x ∈ ks.foldl (fun fr k => addNew fr (f k)) fr ↔ x ∈ fr ∨ ∃ k ∈ ks, x = f k
  | [], fr, h => ⟨h, fun x => by simp⟩
  | k :: ks, fr, h => by
    obtain ⟨a, b⟩ := fold_addNew f ks (addNew fr (f k)) (addNew_nodup h)
    refine ⟨a, fun x => ?_⟩
    rw [List.foldl_cons, b x, addNew_mem]
    constructor
    · rintro ((h | h) | ⟨j, hj, h⟩)
      · exact .inl h
      · exact .inr ⟨k, List.mem_cons_self .., h⟩
      · exact .inr ⟨j, List.mem_cons_of_mem _ hj, h⟩
    · rintro (h | ⟨j, hj, h⟩)
      · exact .inl (.inl h)
      · rcases List.mem_cons.mp hj with rfl | hj
        · exact .inl (.inr h)
        · exact .inr ⟨j, hj, h⟩
theorem step_fold (sign : List Nat) : ∀ (os fr : List (List Nat)), fr.Nodup → (os.foldl (fun fr o => addN sign o fr (o.length + 1)) fr).Nodup ∧
    ∀ x, x ∈ os.foldl (fun fr o => addN sign o fr (o.length + 1)) fr ↔ x ∈ fr ∨ ∃ o ∈ os, ∃ k, k ≤ o.length ∧ x = insAt sign o k
  | [], fr, h => ⟨h, fun x => by simp⟩
  | o :: os, fr, h => by
    obtain ⟨a, b⟩ := fold_addNew (insAt sign o) (List.range (o.length + 1)) fr h
    obtain ⟨c, d⟩ := step_fold sign os (addN sign o fr (o.length + 1)) a
    refine ⟨c, fun x => ?_⟩
    rw [List.foldl_cons, d x]
    have hb : x ∈ addN sign o fr (o.length + 1) ↔ _ := b x
    rw [hb]
    constructor
    · rintro ((h | ⟨k, hk, h⟩) | ⟨o', ho, k, hk, h⟩)
      · exact .inl h
      · exact .inr ⟨o, List.mem_cons_self .., k, by have := List.mem_range.mp hk; (first | lia | omega), h⟩
      · exact .inr ⟨o', List.mem_cons_of_mem _ ho, k, hk, h⟩
    · rintro (h | ⟨o', ho, k, hk, h⟩)
      · exact .inl (.inl h)
      · rcases List.mem_cons.mp ho with rfl | ho
        · exact .inl (.inr ⟨k, List.mem_range.mpr (by (first | lia | omega)), h⟩)
        · exact .inr ⟨o', ho, k, hk, h⟩
theorem orders_snoc (as : List Nat) (a : Nat) : ordersL ((as ++ [a]).map fun a => [a]) = stepO [a] (ordersL (as.map fun a => [a])) := by
  rw [ordersL, List.map_append, List.foldl_append]; rfl
theorem orders_spec : ∀ (n : Nat) (as : List Nat), as.length = n → (ordersL (as.map fun a => [a])).Nodup ∧ ∀ l, l ∈ ordersL (as.map fun a => [a]) ↔ l.Perm as
  | 0, as, h => by
    have : as = [] := List.length_eq_zero_iff.mp h
    subst this
    refine ⟨by simp [ordersL], fun l => ?_⟩
    simp [ordersL]
  | n + 1, as, h => by
    obtain ⟨bs, a, rfl⟩ : ∃ bs a, as = bs ++ [a] := ⟨as.dropLast, as.getLast (by intro q; rw [q] at h; cases h), (List.dropLast_concat_getLast _).symm⟩
    obtain ⟨_, d⟩ := orders_spec n bs (by simpa using h)
    rw [orders_snoc]
    obtain ⟨e, f⟩ := step_fold [a] (ordersL (bs.map fun a => [a])) [] List.nodup_nil
    refine ⟨e, fun l => (f l).trans ?_⟩
    simp only [List.not_mem_nil, false_or]
    have hins : ∀ (o : List Nat) (k : Nat), (insAt [a] o k).Perm (a :: o) := fun o k => by
      have h1 : insAt [a] o k = o.take k ++ a :: o.drop k := by simp [insAt]
      have h2 : (a :: o).Perm (a :: (o.take k ++ o.drop k)) := by rw [List.take_append_drop]
      rw [h1]
      exact (List.perm_middle).trans h2.symm
    have hsw : (bs ++ [a]).Perm (a :: bs) := List.perm_append_comm
    constructor
    · rintro ⟨o, ho, k, _, rfl⟩
      exact (hins o k).trans (((d o).mp ho).cons a |>.trans hsw.symm)
    · intro hl
      have hl2 := hl.trans hsw
      have ham : a ∈ l := hl2.mem_iff.mpr (List.mem_cons_self ..)
      obtain ⟨s, t, rfl⟩ := List.append_of_mem ham
      refine ⟨s ++ t, (d _).mpr ?_, s.length, by simp, by simp [insAt]⟩
      exact ((List.perm_middle).symm.trans hl2).cons_inv
end PL
end
/-! Pl2 -/
section
namespace PL
noncomputable def fitsT : List (Option Nat) → List Nat → Bool
  | [], [] => true
  | none :: t, _ :: o => fitsT t o
  | some c :: t, x :: o => (x == c) && fitsT t o
  | _, _ => false
noncomputable def fill : List (Option Nat) → List Nat → List Nat
  | [], _ => []
  | none :: t, x :: w => x :: fill t w
  | none :: _, [] => []
  | some c :: t, w => c :: fill t w
noncomputable def holes (t : List (Option Nat)) : Nat := (t.filter (·.isNone)).length
noncomputable def lits (t : List (Option Nat)) : List Nat := t.filterMap id
theorem holes_lits (t : List (Option Nat)) : holes t + (lits t).length = t.length := by
  induction t with
  | nil => rfl
  | cons x t ih =>
    cases x with
    | none => simp only [holes, lits, List.filter_cons, Option.isNone_none, if_true, List.length_cons, List.filterMap_cons, id] at *; (first | lia | omega)
    | some c => simp only [holes, lits, List.filter_cons, Option.isNone_some, Bool.false_eq_true, if_false, List.length_cons, List.filterMap_cons, id] at *; (first | lia | omega)
theorem holes_none (t : List (Option Nat)) : holes (none :: t) = holes t + 1 := rfl
theorem holes_some (c : Nat) (t : List (Option Nat)) : holes (some c :: t) = holes t := rfl
theorem fill_ok : ∀ (t : List (Option Nat)) (w : List Nat), w.length = holes t → fitsT t (fill t w) = true ∧ (fill t w).Perm (lits t ++ w)
  | [], w, h => by
    have : w = [] := List.length_eq_zero_iff.mp h
    subst this; exact ⟨rfl, .refl _⟩
  | none :: t, [], h => by rw [holes_none] at h; cases h
  | none :: t, x :: w, h => by
    obtain ⟨a, b⟩ := fill_ok t w (by rw [holes_none] at h; simpa using h)
    exact ⟨a, (b.cons x).trans List.perm_middle.symm⟩
  | some c :: t, w, h => by
    obtain ⟨a, b⟩ := fill_ok t w h
    exact ⟨by rw [fill, fitsT, a]; simp, b.cons c⟩
theorem fill_of : ∀ (t : List (Option Nat)) (o : List Nat), fitsT t o = true → ∃ w, w.length = holes t ∧ o = fill t w
  | [], [], _ => ⟨[], rfl, rfl⟩
  | [], _ :: _, h => by cases h
  | none :: t, [], h => by cases h
  | some c :: t, [], h => by cases h
  | none :: t, x :: o, h => by
    obtain ⟨w, a, rfl⟩ := fill_of t o h
    exact ⟨x :: w, by rw [holes_none, List.length_cons, a], rfl⟩
  | some c :: t, x :: o, h => by
    rw [fitsT, Bool.and_eq_true, beq_iff_eq] at h
    obtain ⟨w, a, rfl⟩ := fill_of t o h.2
    exact ⟨w, a, by rw [fill, h.1]⟩
theorem fill_inj : ∀ (t : List (Option Nat)) (w v : List Nat), w.length = holes t → v.length = holes t → fill t w = fill t v → w = v
  | [], w, v, h, h', _ => by rw [List.length_eq_zero_iff.mp h, List.length_eq_zero_iff.mp h']
  | none :: t, [], _, h, _, _ => by rw [holes_none] at h; cases h
  | none :: t, _ :: _, [], _, h, _ => by rw [holes_none] at h; cases h
  | none :: t, x :: w, y :: v, h, h', e => by
    rw [fill, fill, List.cons.injEq] at e
    rw [e.1, fill_inj t w v (by rw [holes_none] at h; simpa using h) (by rw [holes_none] at h'; simpa using h') e.2]
  | some c :: t, w, v, h, h', e => by
    rw [fill, fill, List.cons.injEq] at e
    exact fill_inj t w v h h' e.2
theorem nodup_map {α β : Type} {f : α → β} : ∀ {l : List α}, l.Nodup → (∀ a ∈ l, ∀ b ∈ l, f a = f b → a = b) → (l.map f).Nodup
  | [], _, _ => by simp
  | x :: l, h, hi => by
    rw [List.map_cons, List.nodup_cons]
    obtain ⟨h1, h2⟩ := List.nodup_cons.mp h
    refine ⟨fun m => ?_, nodup_map h2 fun a ha b hb => hi a (List.mem_cons_of_mem _ ha) b (List.mem_cons_of_mem _ hb)⟩
    obtain ⟨y, hy, e⟩ := List.mem_map.mp m
    have := hi y (List.mem_cons_of_mem _ hy) x (List.mem_cons_self ..) e
    exact h1 (this ▸ hy)
noncomputable def ords (as : List Nat) : List (List Nat) := ordersL (as.map fun a => [a])
theorem ords_nodup (as : List Nat) : (ords as).Nodup := (orders_spec _ as rfl).1
theorem mem_ords {as l : List Nat} : l ∈ ords as ↔ l.Perm as := (orders_spec _ as rfl).2 l
/-- the orders of a multiset that fit a template are as many as the orders of what is left -/
theorem count_tpl {as left : List Nat} {t : List (Option Nat)} (h : as.Perm (lits t ++ left)) (hl : t.length = as.length) :
    ((ords as).filter (fitsT t)).length = (ords left).length := by
  have hh : left.length = holes t := by
    have h1 := h.length_eq
    have h2 := holes_lits t
    rw [List.length_append] at h1
    (first | lia | omega)
  have hp : ((ords as).filter (fitsT t)).Perm ((ords left).map (fill t)) := by
    refine (List.perm_ext_iff_of_nodup ((ords_nodup as).filter _) (nodup_map (ords_nodup left) fun a ha b hb e => ?_)).mpr fun o => ?_
    · exact fill_inj t a b ((mem_ords.mp ha).length_eq.trans hh) ((mem_ords.mp hb).length_eq.trans hh) e
    · rw [List.mem_filter, List.mem_map, mem_ords]
      constructor
      · rintro ⟨h1, h2⟩
        obtain ⟨w, hw, rfl⟩ := fill_of t o h2
        refine ⟨w, mem_ords.mpr ?_, rfl⟩
        have h3 := (fill_ok t w hw).2.symm.trans (h1.trans h)
        exact (List.perm_append_left_iff _).mp h3
      · rintro ⟨w, hw, rfl⟩
        have hw := mem_ords.mp hw
        obtain ⟨a, b⟩ := fill_ok t w (hw.length_eq.trans hh)
        exact ⟨b.trans ((List.Perm.append_left _ hw).trans h.symm), a⟩
  rw [hp.length_eq, List.length_map]
theorem tpl_none {as : List Nat} {t : List (Option Nat)} {o : List Nat} (ho : o ∈ ords as) (hf : fitsT t o = true) : ∃ left, as.Perm (lits t ++ left) := by
  obtain ⟨w, hw, rfl⟩ := fill_of t o hf
  exact ⟨w, (mem_ords.mp ho).symm.trans (fill_ok t w hw).2⟩
end PL
end
/-! Pl3 -/
section
namespace PL
inductive Tk where
  | star | any | lit (c : Nat)
noncomputable def tpl : List Tk → Nat → List (List (Option Nat))
  | [], n => if n = 0 then [[]] else []
  | .any :: r, n => match n with | 0 => [] | n + 1 => (tpl r n).map (none :: ·)
  | .lit c :: r, n => match n with | 0 => [] | n + 1 => (tpl r n).map (some c :: ·)
  | .star :: r, n => (List.range (n + 1)).flatMap fun k => (tpl r (n - k)).map (List.replicate k none ++ ·)
noncomputable def litsOf : List Tk → List Nat
  | [] => []
  | .lit c :: r => c :: litsOf r
  | _ :: r => litsOf r
noncomputable def stars : List Tk → Nat
  | [] => 0
  | .star :: r => stars r + 1
  | _ :: r => stars r
noncomputable def anys : List Tk → Nat
  | [] => 0
  | .any :: r => anys r + 1
  | _ :: r => anys r
theorem lits_rep (k : Nat) (t : List (Option Nat)) : lits (List.replicate k none ++ t) = lits t := by
  induction k with
  | zero => rfl
  | succ k ih => rw [List.replicate_succ, List.cons_append, lits, List.filterMap_cons]; exact ih
theorem tpl_ok : ∀ (ts : List Tk) (n : Nat) (t : List (Option Nat)), t ∈ tpl ts n → t.length = n ∧ lits t = litsOf ts
  | [], n, t, h => by
    rw [tpl] at h
    split at h
    · rename_i e; rw [List.mem_singleton.mp h, e]; exact ⟨rfl, rfl⟩
    · cases h
  | .any :: r, 0, t, h => by cases h
  | .any :: r, n + 1, t, h => by
    obtain ⟨u, hu, rfl⟩ := List.mem_map.mp h
    obtain ⟨a, b⟩ := tpl_ok r n u hu
    exact ⟨by rw [List.length_cons, a], b⟩
  | .lit c :: r, 0, t, h => by cases h
  | .lit c :: r, n + 1, t, h => by
    obtain ⟨u, hu, rfl⟩ := List.mem_map.mp h
    obtain ⟨a, b⟩ := tpl_ok r n u hu
    exact ⟨by rw [List.length_cons, a], congrArg (c :: ·) b⟩
  | .star :: r, n, t, h => by
    obtain ⟨k, hk, h⟩ := List.mem_flatMap.mp h
    obtain ⟨u, hu, rfl⟩ := List.mem_map.mp h
    obtain ⟨a, b⟩ := tpl_ok r (n - k) u hu
    have := List.mem_range.mp hk
    exact ⟨by rw [List.length_append, List.length_replicate, a]; (first | lia | omega), (lits_rep k u).trans b⟩
noncomputable def cnt : Nat → Nat → Nat
  | 0, m => if m = 0 then 1 else 0
  | s + 1, m => ((List.range (m + 1)).map fun k => cnt s (m - k)).sum
theorem tpl_len : ∀ (ts : List Tk) (n : Nat), (tpl ts n).length = if (litsOf ts).length + anys ts ≤ n then cnt (stars ts) (n - ((litsOf ts).length + anys ts)) else 0
  | [], n => by
    rw [tpl]
    simp only [litsOf, anys, stars, List.length_nil, Nat.zero_add, Nat.zero_le, if_true, Nat.sub_zero, cnt]
    split <;> rfl
  | .any :: r, 0 => by rw [if_neg (by simp only [anys]; (first | lia | omega))]; rfl
  | .any :: r, n + 1 => by
    show ((tpl r n).map _).length = _
    rw [List.length_map, tpl_len r n]
    show _ = if (litsOf r).length + (anys r + 1) ≤ n + 1 then cnt (stars r) (n + 1 - ((litsOf r).length + (anys r + 1))) else 0
    by_cases h : (litsOf r).length + anys r ≤ n
    · rw [if_pos h, if_pos (by (first | lia | omega)), show n + 1 - ((litsOf r).length + (anys r + 1)) = n - ((litsOf r).length + anys r) by (first | lia | omega)]
    · rw [if_neg h, if_neg (by (first | lia | omega))]
  | .lit c :: r, 0 => by rw [if_neg (by simp only [litsOf, List.length_cons]; (first | lia | omega))]; rfl
  | .lit c :: r, n + 1 => by
    show ((tpl r n).map _).length = _
    rw [List.length_map, tpl_len r n]
    show _ = if (litsOf r).length + 1 + anys r ≤ n + 1 then cnt (stars r) (n + 1 - ((litsOf r).length + 1 + anys r)) else 0
    by_cases h : (litsOf r).length + anys r ≤ n
    · rw [if_pos h, if_pos (by (first | lia | omega)), show n + 1 - ((litsOf r).length + 1 + anys r) = n - ((litsOf r).length + anys r) by (first | lia | omega)]
    · rw [if_neg h, if_neg (by (first | lia | omega))]
  | .star :: r, n => by
    rw [tpl, List.length_flatMap]
    simp only [List.length_map]
    show _ = if (litsOf r).length + anys r ≤ n then cnt (stars r + 1) (n - ((litsOf r).length + anys r)) else 0
    have e : (List.range (n + 1)).map (fun k => (tpl r (n - k)).length) = (List.range (n + 1)).map fun k => if (litsOf r).length + anys r + k ≤ n then cnt (stars r) (n - ((litsOf r).length + anys r) - k) else 0 := by
      refine List.map_congr_left fun k hk => ?_
      have := List.mem_range.mp hk
      rw [tpl_len r (n - k)]
      by_cases h : (litsOf r).length + anys r + k ≤ n
      · rw [if_pos h, if_pos (by (first | lia | omega)), show n - k - ((litsOf r).length + anys r) = n - ((litsOf r).length + anys r) - k by (first | lia | omega)]
      · rw [if_neg h, if_neg (by (first | lia | omega))]
    rw [e]
    generalize (litsOf r).length + anys r = f
    by_cases hf : f ≤ n
    · rw [if_pos hf]
      obtain ⟨m, rfl⟩ : ∃ m, n = f + m := ⟨n - f, by (first | lia | omega)⟩
      rw [show f + m - f = m by (first | lia | omega), cnt]
      have : ∀ j, ((List.range (m + 1 + j)).map fun k => if f + k ≤ f + m then cnt (stars r) (m - k) else 0).sum = ((List.range (m + 1)).map fun k => cnt (stars r) (m - k)).sum := by
        intro j
        induction j with
        | zero =>
          congr 1
          refine List.map_congr_left fun k hk => ?_
          have := List.mem_range.mp hk
          rw [if_pos (by (first | lia | omega))]
        | succ j ih =>
          rw [← Nat.add_assoc, List.range_succ, List.map_append, List.sum_append, ih]
          simp only [List.map_cons, List.map_nil, List.sum_cons, List.sum_nil]
          rw [if_neg (by (first | lia | omega))]
          rfl
      rw [← this f, show m + 1 + f = f + m + 1 by (first | lia | omega)]
    · rw [if_neg hf]
      have : ∀ l : List Nat, (l.map fun k => if f + k ≤ n then cnt (stars r) (n - f - k) else 0).sum = 0 := by
        intro l
        induction l with
        | nil => rfl
        | cons k l ih => rw [List.map_cons, List.sum_cons, ih, if_neg (by (first | lia | omega))]
      exact this _
end PL
end
/-! Pl8 -/
section
namespace PL
/-- a token list without stars fits one template -/
noncomputable def one : List Tk → List (Option Nat)
  | [] => []
  | .lit c :: r => some c :: one r
  | _ :: r => none :: one r
theorem tpl_plain : ∀ (ts : List Tk), stars ts = 0 → ∀ (n : Nat) (t : List (Option Nat)), t ∈ tpl ts n → t = one ts ∧ n = ts.length
  | [], _, n, t, h => by
    rw [tpl] at h
    split at h
    · rename_i e; exact ⟨List.mem_singleton.mp h, e⟩
    · cases h
  | .any :: r, hs, 0, t, h => by cases h
  | .any :: r, hs, n + 1, t, h => by
    obtain ⟨u, hu, rfl⟩ := List.mem_map.mp h
    obtain ⟨a, b⟩ := tpl_plain r hs n u hu
    exact ⟨by rw [a]; rfl, by rw [b]; rfl⟩
  | .lit c :: r, hs, 0, t, h => by cases h
  | .lit c :: r, hs, n + 1, t, h => by
    obtain ⟨u, hu, rfl⟩ := List.mem_map.mp h
    obtain ⟨a, b⟩ := tpl_plain r hs n u hu
    exact ⟨by rw [a]; rfl, by rw [b]; rfl⟩
  | .star :: r, hs, n, t, h => by cases hs
/-- stars and anys, then a part without stars -/
theorem tpl_mid : ∀ (mid suf : List Tk), (∀ x ∈ mid, x = .star ∨ x = .any) → stars suf = 0 → ∀ (n : Nat) (t : List (Option Nat)), t ∈ tpl (mid ++ suf) n → suf.length ≤ n ∧ t = List.replicate (n - suf.length) none ++ one suf
  | [], suf, _, hs, n, t, h => by
    obtain ⟨a, b⟩ := tpl_plain suf hs n t h
    subst b
    exact ⟨Nat.le_refl _, by rw [Nat.sub_self]; exact a⟩
  | .any :: mid, suf, hm, hs, 0, t, h => by cases h
  | .any :: mid, suf, hm, hs, n + 1, t, h => by
    obtain ⟨u, hu, rfl⟩ := List.mem_map.mp h
    obtain ⟨a, b⟩ := tpl_mid mid suf (fun x hx => hm x (List.mem_cons_of_mem _ hx)) hs n u hu
    exact ⟨by (first | lia | omega), by rw [b, show n + 1 - suf.length = (n - suf.length) + 1 by (first | lia | omega)]; rfl⟩
  | .lit c :: mid, suf, hm, hs, n, t, h => by rcases hm (.lit c) (List.mem_cons_self ..) with h | h <;> cases h
  | .star :: mid, suf, hm, hs, n, t, h => by
    obtain ⟨k, hk, h⟩ := List.mem_flatMap.mp h
    obtain ⟨u, hu, rfl⟩ := List.mem_map.mp h
    obtain ⟨a, b⟩ := tpl_mid mid suf (fun x hx => hm x (List.mem_cons_of_mem _ hx)) hs (n - k) u hu
    have := List.mem_range.mp hk
    refine ⟨by (first | lia | omega), ?_⟩
    rw [b, ← List.append_assoc, List.replicate_append_replicate, show k + (n - k - suf.length) = n - suf.length by (first | lia | omega)]
theorem tpl_together : ∀ (pre mid suf : List Tk), stars pre = 0 → (∀ x ∈ mid, x = .star ∨ x = .any) → stars suf = 0 → ∀ (n : Nat) (t : List (Option Nat)), t ∈ tpl (pre ++ (mid ++ suf)) n → t = one pre ++ (List.replicate (n - pre.length - suf.length) none ++ one suf)
  | [], mid, suf, _, hm, hs, n, t, h => (tpl_mid mid suf hm hs n t h).2
  | .any :: r, mid, suf, hp, hm, hs, 0, t, h => by cases h
  | .any :: r, mid, suf, hp, hm, hs, n + 1, t, h => by
    obtain ⟨u, hu, rfl⟩ := List.mem_map.mp h
    rw [tpl_together r mid suf hp hm hs n u hu, List.length_cons, Nat.add_sub_add_right]; rfl
  | .lit c :: r, mid, suf, hp, hm, hs, 0, t, h => by cases h
  | .lit c :: r, mid, suf, hp, hm, hs, n + 1, t, h => by
    obtain ⟨u, hu, rfl⟩ := List.mem_map.mp h
    rw [tpl_together r mid suf hp hm hs n u hu, List.length_cons, Nat.add_sub_add_right]; rfl
  | .star :: r, mid, suf, hp, hm, hs, n, t, h => by cases hp
end PL
end
/-! Pl9 -/
section
namespace PL
noncomputable def gm : List Tk → List Nat → Prop
  | [], o => o = []
  | .any :: r, o => ∃ x o', o = x :: o' ∧ gm r o'
  | .lit c :: r, o => ∃ o', o = c :: o' ∧ gm r o'
  | .star :: r, o => ∃ k, k ≤ o.length ∧ gm r (o.drop k)
theorem fitsT_rep : ∀ (k : Nat) (t : List (Option Nat)) (o : List Nat), fitsT (List.replicate k none ++ t) o = true ↔ k ≤ o.length ∧ fitsT t (o.drop k) = true
  | 0, t, o => by simp
  | k + 1, t, [] => by simp [List.replicate_succ, fitsT]
  | k + 1, t, x :: o => by
    rw [List.replicate_succ, List.cons_append, fitsT, fitsT_rep k t o]
    simp
theorem gm_tpl : ∀ (ts : List Tk) (o : List Nat), (∃ t ∈ tpl ts o.length, fitsT t o = true) ↔ gm ts o
  | [], o => by
    cases o with
    | nil => simp [tpl, gm, fitsT]
    | cons x o => simp [tpl, gm]
  | .any :: r, [] => by simp [tpl, gm]
  | .any :: r, x :: o => by
    have ih := gm_tpl r o
    constructor
    · rintro ⟨t, ht, hf⟩
      obtain ⟨u, hu, rfl⟩ := List.mem_map.mp ht
      exact ⟨x, o, rfl, ih.mp ⟨u, hu, hf⟩⟩
    · rintro ⟨y, o', e, h⟩
      cases e
      obtain ⟨u, hu, hf⟩ := ih.mpr h
      exact ⟨none :: u, List.mem_map.mpr ⟨u, hu, rfl⟩, hf⟩
  | .lit c :: r, [] => by simp [tpl, gm]
  | .lit c :: r, x :: o => by
    have ih := gm_tpl r o
    constructor
    · rintro ⟨t, ht, hf⟩
      obtain ⟨u, hu, rfl⟩ := List.mem_map.mp ht
      rw [fitsT, Bool.and_eq_true, beq_iff_eq] at hf
      exact ⟨o, by rw [hf.1], ih.mp ⟨u, hu, hf.2⟩⟩
    · rintro ⟨o', e, h⟩
      cases e
      obtain ⟨u, hu, hf⟩ := ih.mpr h
      exact ⟨some c :: u, List.mem_map.mpr ⟨u, hu, rfl⟩, by rw [fitsT, hf]; simp⟩
  | .star :: r, o => by
    constructor
    · rintro ⟨t, ht, hf⟩
      obtain ⟨k, hk, ht⟩ := List.mem_flatMap.mp ht
      obtain ⟨u, hu, rfl⟩ := List.mem_map.mp ht
      obtain ⟨h1, h2⟩ := (fitsT_rep k u o).mp hf
      exact ⟨k, h1, (gm_tpl r (o.drop k)).mp ⟨u, by rw [List.length_drop]; exact hu, h2⟩⟩
    · rintro ⟨k, hk, h⟩
      obtain ⟨u, hu, hf⟩ := (gm_tpl r (o.drop k)).mpr h
      rw [List.length_drop] at hu
      exact ⟨_, List.mem_flatMap.mpr ⟨k, List.mem_range.mpr (by (first | lia | omega)), List.mem_map.mpr ⟨u, hu, rfl⟩⟩, (fitsT_rep k u o).mpr ⟨hk, hf⟩⟩
end PL
end
/-! Pl10 -/
section
namespace PL
noncomputable def fitsB (piece : List (List Nat)) (name : List Nat) (place : Nat) : Bool :=
  !decide (name.length < place + piece.length) && (piece.zip (name.drop place)).all fun p => ([] == p.1) || ([p.2] == p.1)
noncomputable def pieceT (p : List (List Nat)) : List Tk := p.map fun s => match s with
  | [] => .any
  | c :: _ => .lit c
theorem fits_drop {p : List (List Nat)} {o : List Nat} {k : Nat} (h : k ≤ o.length) : fitsB p o k = fitsB p (o.drop k) 0 := by
  unfold fitsB
  rw [List.drop_zero, List.length_drop]
  congr 2
  rw [decide_eq_decide]; (first | lia | omega)
theorem fits_cons {s : List Nat} {p : List (List Nat)} {x : Nat} {o : List Nat} : fitsB (s :: p) (x :: o) 0 = ((([] == s) || ([x] == s)) && fitsB p o 0) := by
  unfold fitsB
  simp only [List.drop_zero, List.zip_cons_cons, List.all_cons, List.length_cons, Nat.zero_add, Nat.add_lt_add_iff_right]
  cases (decide (o.length < p.length)) <;> cases (([] == s) || ([x] == s)) <;> simp
theorem gm_piece : ∀ (p : List (List Nat)) (r : List Tk) (o : List Nat), (∀ s ∈ p, s.length ≤ 1) → (gm (pieceT p ++ r) o ↔ fitsB p o 0 = true ∧ gm r (o.drop p.length))
  | [], r, o, _ => by simp [pieceT, fitsB]
  | s :: p, r, [], hp => by
    have h1 : fitsB (s :: p) [] 0 = false := by simp [fitsB]
    rw [h1]
    cases s <;> simp [pieceT, gm]
  | s :: p, r, x :: o, hp => by
    have ih := gm_piece p r o fun t ht => hp t (List.mem_cons_of_mem _ ht)
    rw [fits_cons, Bool.and_eq_true, List.length_cons, List.drop_succ_cons, and_assoc, ← ih]
    have hs := hp s (List.mem_cons_self ..)
    match s, hs with
    | [], _ =>
      show (∃ y o', x :: o = y :: o' ∧ gm (pieceT p ++ r) o') ↔ _
      constructor
      · rintro ⟨y, o', e, h⟩; cases e; exact ⟨rfl, h⟩
      · rintro ⟨_, h⟩; exact ⟨x, o, rfl, h⟩
    | [c], _ =>
      show (∃ o', x :: o = c :: o' ∧ gm (pieceT p ++ r) o') ↔ _
      constructor
      · rintro ⟨o', e, h⟩; cases e; exact ⟨by simp, h⟩
      · rintro ⟨e, h⟩
        have : x = c := by simpa using e
        exact ⟨o, by rw [this], h⟩
end PL
end
/-! Pl11 -/
section
namespace PL
noncomputable def fndGo (piece : List (List Nat)) (name : List Nat) : Nat → Nat → Nat
  | 0, p => p
  | n + 1, p => if p ≤ name.length ∧ fitsB piece name p = false then fndGo piece name n (p + 1) else p
noncomputable def fnd (piece : List (List Nat)) (name : List Nat) (p : Nat) : Nat := fndGo piece name (name.length + 1 - p) p
noncomputable def mids (name : List Nat) (ms : List (List (List Nat))) (p : Nat) : Nat := ms.foldl (fun p piece => fnd piece name p + piece.length) p
noncomputable def takesB (pieces : List (List (List Nat))) (name : List Nat) : Bool :=
  match pieces with
  | [] => false
  | [p] => fitsB p name 0 && (p.length == name.length)
  | p :: q :: r =>
    let l := (q :: r).getLast?.getD []
    let place := mids name (q :: r).dropLast p.length
    fitsB p name 0 && decide (place + l.length ≤ name.length) && fitsB l name (name.length - l.length)
theorem fits_le {p : List (List Nat)} {o : List Nat} {k : Nat} (h : fitsB p o k = true) : k + p.length ≤ o.length := by
  unfold fitsB at h
  simp only [Bool.and_eq_true, Bool.not_eq_true', decide_eq_false_iff_not] at h
  (first | lia | omega)
theorem fndGo_spec (p : List (List Nat)) (o : List Nat) : ∀ (n k : Nat), n = o.length + 1 - k → k ≤ fndGo p o n k ∧ (∀ j, k ≤ j → j < fndGo p o n k → fitsB p o j = false) ∧ (fndGo p o n k ≤ o.length → fitsB p o (fndGo p o n k) = true)
  | 0, k, h => ⟨Nat.le_refl _, fun j a b => by rw [fndGo] at b; (first | lia | omega), fun a => by rw [fndGo] at a; (first | lia | omega)⟩
  | n + 1, k, h => by
    rw [fndGo]
    split
    · rename_i hc
      obtain ⟨a, b, c⟩ := fndGo_spec p o n (k + 1) (by (first | lia | omega))
      refine ⟨by (first | lia | omega), fun j h1 h2 => ?_, c⟩
      by_cases e : j = k
      · rw [e]; exact hc.2
      · exact b j (by (first | lia | omega)) h2
    · rename_i hc
      refine ⟨Nat.le_refl _, fun j a b => by (first | lia | omega), fun a => ?_⟩
      cases e : fitsB p o k with
      | true => rfl
      | false => exact absurd ⟨a, e⟩ hc
theorem fnd_spec (p : List (List Nat)) (o : List Nat) (k : Nat) : k ≤ fnd p o k ∧ (∀ j, k ≤ j → j < fnd p o k → fitsB p o j = false) ∧ (fnd p o k ≤ o.length → fitsB p o (fnd p o k) = true) := fndGo_spec p o _ k rfl

noncomputable def starT (ps : List (List (List Nat))) : List Tk := ps.flatMap fun p => .star :: pieceT p
theorem gm_star {r : List Tk} {o : List Nat} {k : Nat} (hk : k ≤ o.length) : gm (.star :: r) (o.drop k) ↔ ∃ j, k ≤ j ∧ j ≤ o.length ∧ gm r (o.drop j) := by
  constructor
  · rintro ⟨i, hi, h⟩
    rw [List.length_drop] at hi
    rw [List.drop_drop] at h
    exact ⟨k + i, by (first | lia | omega), by (first | lia | omega), h⟩
  · rintro ⟨j, h1, h2, h⟩
    refine ⟨j - k, by rw [List.length_drop]; (first | lia | omega), ?_⟩
    rw [List.drop_drop, show k + (j - k) = j by (first | lia | omega)]; exact h
theorem gm_at {p : List (List Nat)} {r : List Tk} {o : List Nat} {j : Nat} (hp : ∀ s ∈ p, s.length ≤ 1) (hj : j ≤ o.length) : gm (pieceT p ++ r) (o.drop j) ↔ fitsB p o j = true ∧ gm r (o.drop (j + p.length)) := by
  rw [gm_piece p r _ hp, ← fits_drop hj, List.drop_drop]
/-- greedy: the pieces behind stars -/
theorem greedy (o : List Nat) : ∀ (ms : List (List (List Nat))) (l : List (List Nat)) (k : Nat), (∀ p ∈ ms, ∀ s ∈ p, s.length ≤ 1) → (∀ s ∈ l, s.length ≤ 1) → k ≤ o.length →
    (gm (starT (ms ++ [l])) (o.drop k) ↔ mids o ms k + l.length ≤ o.length ∧ fitsB l o (o.length - l.length) = true)
  | [], l, k, _, hl, hk => by
    show gm (.star :: (pieceT l ++ [])) (o.drop k) ↔ k + l.length ≤ o.length ∧ _
    rw [gm_star hk]
    constructor
    · rintro ⟨j, h1, h2, h⟩
      obtain ⟨a, b⟩ := (gm_at hl h2).mp h
      have hle := fits_le a
      have : (o.drop (j + l.length)).length = 0 := by rw [show o.drop (j + l.length) = [] from b]; rfl
      rw [List.length_drop] at this
      have hj : j = o.length - l.length := by (first | lia | omega)
      exact ⟨by (first | lia | omega), hj ▸ a⟩
    · rintro ⟨h1, h2⟩
      refine ⟨o.length - l.length, by (first | lia | omega), by (first | lia | omega), (gm_at hl (by (first | lia | omega))).mpr ⟨h2, ?_⟩⟩
      show o.drop _ = []
      exact List.drop_of_length_le (by (first | lia | omega))
  | m :: ms, l, k, hm, hl, hk => by
    have hm1 := hm m (List.mem_cons_self ..)
    have hms := fun p hp => hm p (List.mem_cons_of_mem _ hp)
    obtain ⟨f1, f2, f3⟩ := fnd_spec m o k
    show gm (.star :: (pieceT m ++ starT (ms ++ [l]))) (o.drop k) ↔ mids o ms (fnd m o k + m.length) + l.length ≤ o.length ∧ _
    rw [gm_star hk]
    by_cases hf : fnd m o k ≤ o.length
    · have hfit := f3 hf
      have hle := fits_le hfit
      rw [← greedy o ms l (fnd m o k + m.length) hms hl hle]
      constructor
      · rintro ⟨j, h1, h2, h⟩
        obtain ⟨a, b⟩ := (gm_at hm1 h2).mp h
        have hj : fnd m o k ≤ j := Nat.le_of_not_lt fun q => by rw [f2 j h1 q] at a; cases a
        -- a later start gives an earlier one
        have hle2 := fits_le a
        obtain ⟨q, qs, e⟩ : ∃ q qs, ms ++ [l] = q :: qs := by cases ms with | nil => exact ⟨l, [], rfl⟩ | cons q qs => exact ⟨q, qs ++ [l], rfl⟩
        rw [e] at b ⊢
        have b' : gm (.star :: (pieceT q ++ starT qs)) (o.drop (j + m.length)) := b
        show gm (.star :: (pieceT q ++ starT qs)) (o.drop (fnd m o k + m.length))
        obtain ⟨i, i1, i2, i3⟩ := (gm_star hle2).mp b'
        exact (gm_star hle).mpr ⟨i, by (first | lia | omega), i2, i3⟩
      · intro h
        exact ⟨fnd m o k, f1, hf, (gm_at hm1 hf).mpr ⟨hfit, h⟩⟩
    · constructor
      · rintro ⟨j, h1, h2, h⟩
        obtain ⟨a, _⟩ := (gm_at hm1 h2).mp h
        rw [f2 j h1 (by (first | lia | omega))] at a; cases a
      · rintro ⟨h1, _⟩
        have mono : ∀ (ms : List (List (List Nat))) (p : Nat), p ≤ mids o ms p := by
          intro ms
          induction ms with
          | nil => intro p; exact Nat.le_refl _
          | cons x ms ih => intro p; exact Nat.le_trans (Nat.le_trans (fnd_spec x o p).1 (Nat.le_add_right _ _)) (ih _)
        have := mono ms (fnd m o k + m.length)
        (first | lia | omega)
end PL
end
/-! Pl12 -/
section
namespace PL
theorem takes_gm (p : List (List Nat)) (ps : List (List (List Nat))) (o : List Nat) (h : ∀ q ∈ p :: ps, ∀ s ∈ q, s.length ≤ 1) : takesB (p :: ps) o = true ↔ gm (pieceT p ++ starT ps) o := by
  have hp := h p (List.mem_cons_self ..)
  rw [gm_piece p (starT ps) o hp]
  cases ps with
  | nil =>
    show (fitsB p o 0 && (p.length == o.length)) = true ↔ _ ∧ o.drop p.length = []
    rw [Bool.and_eq_true, beq_iff_eq]
    refine and_congr_right fun hf => ?_
    have := fits_le hf
    constructor
    · intro e; rw [e]; exact List.drop_length
    · intro e
      have := congrArg List.length e
      rw [List.length_drop, List.length_nil] at this
      (first | lia | omega)
  | cons q r =>
    have e : q :: r = (q :: r).dropLast ++ [(q :: r).getLast (by simp)] := (List.dropLast_concat_getLast _).symm
    have hl : (q :: r).getLast?.getD [] = (q :: r).getLast (by simp) := by rw [List.getLast?_eq_some_getLast (by simp)]; rfl
    show (fitsB p o 0 && decide (mids o (q :: r).dropLast p.length + ((q :: r).getLast?.getD []).length ≤ o.length) && fitsB ((q :: r).getLast?.getD []) o (o.length - ((q :: r).getLast?.getD []).length)) = true ↔ _
    rw [hl, Bool.and_eq_true, Bool.and_eq_true, decide_eq_true_eq, and_assoc]
    refine and_congr_right fun hf => ?_
    have hle := fits_le hf
    have g := greedy o (q :: r).dropLast ((q :: r).getLast (by simp)) p.length (fun x hx => h x (List.mem_cons_of_mem _ (List.dropLast_subset _ hx))) (h _ (List.mem_cons_of_mem _ (List.getLast_mem _))) (by (first | lia | omega))
    rw [← e] at g
    exact g.symm
end PL
end
/-! Px3 -/
section
open PySem PySem.W PyProof.Rows PySem.Builtin PySem.Builtin.Str
namespace Mine
theorem fitsB_eq : fitsB = PL.fitsB := rfl
theorem fndGo_eq (piece : List (List Nat)) (name : List Nat) : ∀ n p, fndGo piece name n p = PL.fndGo piece name n p
  | 0, p => rfl
  | n + 1, p => by rw [fndGo, PL.fndGo, fndGo_eq piece name n (p + 1), fitsB_eq]
theorem fnd_eq : fnd = PL.fnd := by
  funext piece name p
  exact fndGo_eq piece name _ p
theorem mids_eq : mids = PL.mids := by
  funext name ms p
  unfold mids PL.mids
  rw [fnd_eq]
theorem takesB_eq (pieces : List (List (List Nat))) (name : List Nat) : takesB pieces name = PL.takesB pieces name := by
  unfold takesB PL.takesB
  first
    | (rw [mids_eq, fitsB_eq]; done)
    | (rw [mids_eq, fitsB_eq]; rcases pieces with _ | ⟨p, _ | ⟨q, r⟩⟩ <;> rfl)

noncomputable def tokOf (qm : List Nat) : Option (List Nat) → PL.Tk
  | none => .star
  | some s => if s == qm then .any else .lit (s.getLastD 0)
theorem tok_some (qm s : List Nat) : tokOf qm (some s) = if s == qm then .any else .lit (s.getLastD 0) := rfl
theorem tok_piece : ∀ ss : List (List Nat), PL.pieceT (ss.map toPiece) = ss.map fun s => tokOf [46] (some s)
  | [] => rfl
  | s :: ss => by
    have ih := tok_piece ss
    unfold PL.pieceT at ih ⊢
    rw [List.map_cons, List.map_cons, List.map_cons, ih]
    congr 1
    rw [tok_some]
    unfold toPiece
    by_cases h : (s == [46]) = true
    · rw [if_pos h, if_pos h]
    · rw [if_neg h, if_neg h, List.getLastD_eq_getLast?]
theorem tok_rest : ∀ (n : Nat) (r : List (Option (List Nat))), r.length ≤ n → (r = [] ∨ ∃ t, r = none :: t) → PL.starT (groupsGo r) = r.map (tokOf [46])
  | _, [], _, _ => by rw [groupsGo]; rfl
  | 0, _ :: _, hn, _ => by simp at hn
  | n + 1, x :: rest, hn, hx => by
    have hx' : x = none := by
      rcases hx with h | ⟨t, h⟩
      · cases h
      · cases h; rfl
    subst hx'
    have ih := tok_rest n (spanSome rest).2 (by have := spanSome_le rest; simp only [List.length_cons] at hn; (first | lia | omega)) (span_snd rest)
    rw [groupsGo]
    have e : PL.starT ((spanSome rest).1.map toPiece :: groupsGo (spanSome rest).2) = PL.Tk.star :: (PL.pieceT ((spanSome rest).1.map toPiece) ++ PL.starT (groupsGo (spanSome rest).2)) := by
      unfold PL.starT; rw [List.flatMap_cons]; rfl
    rw [e, ih, tok_piece, List.map_cons]
    congr 1
    conv => rhs; rw [span_eq rest, List.map_append, List.map_map]
    rfl
theorem tok_all (parts : List (Option (List Nat))) : PL.pieceT ((spanSome parts).1.map toPiece) ++ PL.starT (groupsGo (spanSome parts).2) = parts.map (tokOf [46]) := by
  rw [tok_rest _ _ (Nat.le_refl _) (span_snd parts), tok_piece]
  conv => rhs; rw [span_eq parts, List.map_append, List.map_map]
  rfl
theorem toPiece_len (s : List Nat) : (toPiece s).length ≤ 1 := by unfold toPiece; split <;> simp
theorem groups_len : ∀ (n : Nat) (r : List (Option (List Nat))), r.length ≤ n → ∀ q ∈ groupsGo r, ∀ s ∈ q, s.length ≤ 1
  | _, [], _ => by rw [groupsGo]; intro q hq; cases hq
  | 0, _ :: _, hn => by simp at hn
  | n + 1, x :: rest, hn => by
    rw [groupsGo]
    intro q hq s hs
    rcases List.mem_cons.mp hq with rfl | hq
    · obtain ⟨t, _, rfl⟩ := List.mem_map.mp hs; exact toPiece_len t
    · exact groups_len n (spanSome rest).2 (by have := spanSome_le rest; simp only [List.length_cons] at hn; (first | lia | omega)) q hq s hs

theorem trans_mem (qm : List Nat) : ∀ (pat : List Nat) (acc : List (Option (List Nat))) (s : List Nat), some s ∈ pat.foldl (trStep qm) acc → some s ∈ acc ∨ s = qm ∨ ∃ c, c ≠ 63 ∧ s = escS c
  | [], acc, s, h => .inl h
  | c :: pat, acc, s, h => by
    rw [List.foldl_cons] at h
    rcases trans_mem qm pat _ s h with h | h
    · unfold trStep at h
      have key : ∀ l : List Nat, some s ∈ acc ++ [some l] → some s ∈ acc ∨ s = l := fun l h => by
        rcases List.mem_append.mp h with h | h
        · exact .inl h
        · cases List.mem_singleton.mp h; exact .inr rfl
      split at h
      · split at h
        · rcases List.mem_append.mp h with h | h
          · exact .inl h
          · cases List.mem_singleton.mp h
        · exact .inl h
      · split at h
        · rcases key _ h with h | h
          · exact .inl h
          · exact .inr (.inl h)
        · rename_i hc
          rcases key _ h with h | h
          · exact .inl h
          · exact .inr (.inr ⟨c, by simpa using hc, h⟩)
    · exact .inr h
theorem metas_special : ∀ c ∈ metas, specials.contains c = true := by decide
theorem good_esc (c : Nat) : good (escS c) := by
  unfold escS
  by_cases h : specials.contains c = true
  · rw [if_pos h]; exact .inr (.inr ⟨c, rfl⟩)
  · rw [if_neg h]
    refine .inr (.inl ⟨c, rfl, ?_, ?_, ?_, ?_⟩)
    · rintro rfl; exact h (by decide)
    · rintro rfl; exact h (by decide)
    · rintro rfl; exact h (by decide)
    · cases hm : metas.contains c with
      | false => rfl
      | true => exact absurd (metas_special c (List.contains_iff_mem.mp hm)) h
theorem esc_ne (c : Nat) : (c ≠ 63 → escS c ≠ [63]) ∧ escS c ≠ [46] := by
  unfold escS
  by_cases h : specials.contains c = true
  · rw [if_pos h]; exact ⟨fun _ => by simp, by simp⟩
  · rw [if_neg h]
    refine ⟨fun hc => by simpa using hc, ?_⟩
    intro e
    have : c = 46 := by simpa using e
    subst this
    exact h (by decide)
theorem trans_goods (pat : List Nat) : goods (trans [46] pat) := fun s hs => by
  rcases trans_mem [46] pat [] s hs with h | rfl | ⟨c, _, rfl⟩
  · cases h
  · exact .inl rfl
  · exact good_esc c
noncomputable def conv : Option (List Nat) → Option (List Nat)
  | none => none
  | some s => if s == [63] then some [46] else some s
theorem conv_of (s : List Nat) : conv (some s) = if s == [63] then some [46] else some s := rfl
theorem conv_some (x : Option (List Nat)) : (conv x).isSome = x.isSome := by
  cases x with
  | none => rfl
  | some s => rw [conv_of]; split <;> rfl
theorem conv_last (acc : List (Option (List Nat))) : ((acc.map conv).isEmpty || (acc.map conv).getLast?.join.isSome) = (acc.isEmpty || acc.getLast?.join.isSome) := by
  rw [List.getLast?_map]
  have e1 : (acc.map conv).isEmpty = acc.isEmpty := by cases acc <;> rfl
  rw [e1]
  cases acc.getLast? with
  | none => rfl
  | some x =>
    show (_ || (conv x).isSome) = (_ || x.isSome)
    rw [conv_some]
theorem conv_step (acc : List (Option (List Nat))) (c : Nat) : trStep [46] (acc.map conv) c = (trStep [63] acc c).map conv := by
  unfold trStep
  by_cases h1 : (c == 42) = true
  · rw [if_pos h1, if_pos h1, conv_last]
    by_cases h2 : (acc.isEmpty || acc.getLast?.join.isSome) = true
    · rw [if_pos h2, if_pos h2, List.map_append]; rfl
    · rw [if_neg h2, if_neg h2]
  · rw [if_neg h1, if_neg h1]
    by_cases h2 : (c == 63) = true
    · rw [if_pos h2, if_pos h2, List.map_append]; rfl
    · rw [if_neg h2, if_neg h2, List.map_append]
      have h3 : (escS c == [63]) = false := by
        rw [beq_eq_false_iff_ne]; exact (esc_ne c).1 (by simpa using h2)
      show _ = _ ++ [conv (some (escS c))]
      rw [conv_of, h3]; rfl
theorem conv_fold : ∀ (pat : List Nat) (acc : List (Option (List Nat))), pat.foldl (trStep [46]) (acc.map conv) = (pat.foldl (trStep [63]) acc).map conv
  | [], _ => rfl
  | c :: pat, acc => by
    rw [List.foldl_cons, List.foldl_cons, conv_step, conv_fold pat]
theorem tok_conv (pat : List Nat) : (trans [46] pat).map (tokOf [46]) = (trans [63] pat).map (tokOf [63]) := by
  have e : trans [46] pat = (trans [63] pat).map conv := conv_fold pat []
  rw [e, List.map_map]
  refine List.map_congr_left fun x hx => ?_
  cases x with
  | none => rfl
  | some s =>
    show tokOf [46] (conv (some s)) = _
    rw [conv_of, tok_some]
    by_cases h : (s == [63]) = true
    · rw [if_pos h, if_pos h]; rfl
    · rw [if_neg h, if_neg h, tok_some, if_neg]
      rcases trans_mem [63] pat [] s hx with h' | rfl | ⟨c, _, rfl⟩
      · cases h'
      · exact absurd (by decide) h
      · have := (esc_ne c).2
        simpa using this
theorem takes_tok (pat o : List Nat) : takesB (piecesOf (joinTr (trans [46] pat))) o = true ↔ PL.gm ((trans [63] pat).map (tokOf [63])) o := by
  rw [takesB_eq, pieces_join (trans_goods pat), ← tok_conv, ← tok_all]
  refine PL.takes_gm _ _ o fun q hq s hs => ?_
  rcases List.mem_cons.mp hq with rfl | hq
  · obtain ⟨t, _, rfl⟩ := List.mem_map.mp hs; exact toPiece_len t
  · exact groups_len _ _ (Nat.le_refl _) q hq s hs
end Mine
end
/-! Ew2 -/
section
open PySem PySem.W PyProof.Rows PySem.Builtin PySem.Builtin.Str
namespace Mine
variable {C : Cx} {σ : St} {P : Out → St → Prop}

/-- a captured name of the frame's is stored -/
theorem store_cell {x : Str} {c : Addr} {v : AV} {w : Value} {H : List Addr} {ρ : List Addr} {s : Shared} {Q : Unit → Shared → Prop} {E : Value → Shared → Prop} (hg : COk C) (R : Rel C H ρ σ s) (hv : VR (Hh H ρ s.heap) ρ v w)
    (hl : C.env.kindOf x = some .cell) (hc : C.env.cells.lookup x = some c) (hinj : ∀ y, C.env.cells.lookup y = some c → y = x) (h : ∀ s', Rel C H ρ (σ.set x v) s' → Step C ρ s ρ s' → Q () s') : wpAny (model C.prog C.w) C.A (storeName C.env x w) Q E s := by
  obtain ⟨m, hm⟩ := R.ns
  obtain ⟨hcm, v0, hcell⟩ := R.cl x c hc
  refine wpAny_storeName_cell hg.fk hl hc hcell fun h' hn hs => ?_
  have hL : c ∈ ρ ++ H := List.mem_append.mpr (.inr (R.sub _ hcm))
  have eh := Hh_same (ρ := ρ) hL hs
  have hnd := R.nd
  have other : ∀ b o, b ≠ c → s.heap.get? b = some o → h'.get? b = some o := fun b o hb e => (hs.2 b hb).trans e
  have hcL : C.env.locals ≠ c := fun q => by
    obtain ⟨o, e1, e2⟩ := hcell
    exact ns_ne_cell hm e1 e2 q.symm
  refine h _ ⟨⟨hg.gm _ _ eh R.e.g, fun a ha => ?_, fun y av e => ?_, fun k xs e => ?_⟩, R.nd, R.len, ⟨m, hm.at' fun o e => other _ o hcL e⟩, R.loc, R.sub, fun y d e => ?_, R.out⟩ ⟨⟨_, _, rfl⟩, fun b o _ hb e => kept_of (other b o (fun q => hb (q ▸ hcm)) e), fun _ h => .inl h, fun _ _ _ e => e⟩
  · obtain ⟨o, q⟩ := R.e.low a ha
    by_cases e : a = c
    · subst e
      obtain ⟨o', q', _⟩ := hn
      exact ⟨o', q'⟩
    · exact ⟨o, other a o e q⟩
  · by_cases q : y = x
    · subst q
      simp [St.set] at e
      subst e
      exact ⟨w, hv.mono eh, .inr (.inl ⟨hl, c, hc, hn⟩)⟩
    · simp [St.set, q] at e
      obtain ⟨u, a, b⟩ := R.e.names y av e
      refine ⟨u, a.mono eh, ?_⟩
      rcases b with ⟨b1, m', b2, b3⟩ | ⟨b1, d, b2, o, q1, q2⟩ | ⟨b1, b0, d, b2, o, q1, q2⟩
      · exact .inl ⟨b1, m', b2.at' fun o e => other _ o hcL e, b3⟩
      · exact .inr (.inl ⟨b1, d, b2, o, other d o (fun r => q (hinj y (r ▸ b2))) q1, q2⟩)
      · exact .inr (.inr ⟨b1, b0, d, b2, o, other d o (fun r => q (hinj y (r ▸ b2))) q1, q2⟩)
  · obtain ⟨a, vs, e1, hp, hv'⟩ := R.e.own k xs e
    refine ⟨a, vs, e1, ?_, hv'.mono eh⟩
    have : a ≠ c := fun q => hnd.2.2 a (List.mem_of_getElem? e1) a (q ▸ R.sub _ hcm) rfl
    exact hp.at fun o q => other a o this q
  · by_cases q : d = c
    · subst q
      exact ⟨hcm, _, hn⟩
    · obtain ⟨h1, u, o, e1, e2⟩ := R.cl y d e
      exact ⟨h1, u, o, other d o q e1, e2⟩

theorem EX1_assign_cell {x : Str} {c : Addr} {p q : Pos} {e : Expr} {v : AV} (he : EV C σ e v) (hl : C.env.kindOf x = some .cell) (hc : C.env.cells.lookup x = some c) (hinj : ∀ y, C.env.cells.lookup y = some c → y = x)
    (hs : swapsWith e (some (.Name x p)) q.line C.env = pure false) (h : P .next (σ.set x v)) :
    EX1 C σ (.Assign [.Name x p] e q) P := by
  intro H ρ s hg R
  refine wpAny_Assign_Name (he H ρ s _ _ hg R.e fun y s₁ k hy => store_cell hg (R.keeps hg k) hy hl hc hinj fun s₂ R₂ st => ?_) hs
  exact ⟨ρ, _, .next, R₂, (Step.of_keeps k).trans st R₂.nmut, .next, h⟩
end Mine
end
/-! Ev10 -/
section
open PySem PySem.W PyProof.Rows PySem.Builtin PySem.Builtin.Str
namespace Mine
theorem cmp_ne_int (a b : Int) : cmpFV .NotEq (.int a) (.int b) = some (!(a == b)) := by
  simp only [cmpFV, eqPy, toPy, Option.map_some]
  rw [if_pos (by simp [PyData.depth])]
  simp [PyData.eqv]
inductive CA (left : List (List Nat)) (a : Addr) (i : Nat) (σ : St) : Prop
  | mk (b1 : σ.loc "s" = some (.own 0)) (b2 : σ.loc "t" = some (.own 1)) (b3 : σ.loc "m" = some (.fv (.int left.length))) (b4 : σ.loc "NULL" = some (.fv (.obj a))) (b5 : σ.loc "result" = some (.own 2))
    (b6 : σ.hp = [wiped a left (fun x _ => (left.take i).contains x), [], (((fsA (left.take i)).map fun x => (left.count x, x)).map mmFV).map .fv])
inductive CB (left : List (List Nat)) (a : Addr) (i : Nat) (y : List Nat) (j : Nat) (σ : St) : Prop
  | mk (b1 : σ.loc "s" = some (.own 0)) (b2 : σ.loc "t" = some (.own 1)) (b3 : σ.loc "m" = some (.fv (.int left.length))) (b4 : σ.loc "NULL" = some (.fv (.obj a))) (b5 : σ.loc "result" = some (.own 2))
    (b6 : σ.loc "i" = some (.fv (.int i))) (b7 : σ.loc "elem" = some (.fv (.str y))) (b8 : σ.loc "cnt_s" = some (.fv (.int ((((left.drop i).take j).count y : Nat) : Int)))) (b9 : σ.loc "cnt_t" = some (.fv (.int 0)))
    (b10 : σ.hp = [wiped a left (fun x k => (left.take i).contains x || (x == y && decide (k < i + j))), [], (((fsA (left.take i)).map fun x => (left.count x, x)).map mmFV).map .fv])
set_option maxHeartbeats 2000000
theorem cd_calls (P : Params) (mb : Str → Option Value) (prog : Program) (w : World) (left : List (List Nat)) (hlen : left.length ≤ 100) :
    CallsTo (frag P) (gm P) mb prog w 3 169 [.list (left.map .str), .list []] (.list ((rowsOf left).map mmFV)) := by
  refine callsTo_kn 2 (names := ["actual", "expected"]) (hK := by rfl) (hdat := by rfl) (hC := by rfl) (hcd := by rfl) (hc1 := by rfl) (by (intro vs h; match vs, h with | [v, u], _ => kernel_rfl)) (by decide +kernel) (by rfl) (by decide +kernel) rfl rfl rfl (by decide +kernel) ?_
  intro A L
  refine EX_cons (EX1_doc (by rfl) (by kernel_rfl) ?_)
  refine EX_cons (EX1_tuple_swapped (vs := [.own 0, .own 1]) (names := ["s", "t"])
    (.cons (EVA_copy (xs := left.map .str) (by (exact ⟨by kernel_rfl, by decide +kernel, by kernel_rfl, by decide +kernel, by decide +kernel⟩)) (by walk_at "ev") (by rfl)) (.cons (EVA_copy (xs := []) (by (exact ⟨by kernel_rfl, by decide +kernel, by kernel_rfl, by decide +kernel, by decide +kernel⟩)) (by walk_at "ev") (by rfl)) .nil (by rfl)) (by rfl)) (by rfl) (by simp) (fun x hx => by simp only [List.mem_cons, List.not_mem_nil, or_false] at hx; rcases hx with rfl | rfl <;> kernel_rfl) (by kernel_rfl) (by kernel_rfl) ?_)
  show EX _ ((St.set _ _ _).set _ _) _ _
  generalize hσ : (St.set (St.set _ _ _) _ _) = σ
  have l1 : σ.loc "s" = some (.own 0) := by subst hσ; walk_at "loc"
  have l2 : σ.loc "t" = some (.own 1) := by subst hσ; walk_at "loc"
  have l3 : σ.hp = [(left.map .str).map .fv, []] := by subst hσ; rfl
  clear hσ
  refine EX_cons (EX1_tuple_swapped (vs := [.fv (.int left.length), .fv (.int (0 : Nat))]) (names := ["m", "n"])
    (.cons (EVA_ev (EV_len (v := .own 0) (n := left.length) (by (exact ⟨by kernel_rfl, by decide +kernel, by kernel_rfl, by decide +kernel, by decide +kernel⟩)) (by walk_at "ev") (by show (σ.hp[0]?).map _ = _; rw [l3]; simp) (by rfl))) (.cons (EVA_ev (EV_len (v := .own 1) (n := 0) (by (exact ⟨by kernel_rfl, by decide +kernel, by kernel_rfl, by decide +kernel, by decide +kernel⟩)) (by walk_at "ev") (by show (σ.hp[1]?).map _ = _; rw [l3]; rfl) (by rfl))) .nil (by rfl)) (by rfl)) (by rfl) (by simp) (fun x hx => by simp only [List.mem_cons, List.not_mem_nil, or_false] at hx; rcases hx with rfl | rfl <;> kernel_rfl) (by kernel_rfl) (by kernel_rfl) ?_)
  show EX _ ((St.set _ _ _).set _ _) _ _
  generalize hσ : (St.set (St.set _ _ _) _ _) = σ'
  have k1 : σ'.loc "s" = some (.own 0) := by subst hσ; walk_at "loc"
  have k2 : σ'.loc "t" = some (.own 1) := by subst hσ; walk_at "loc"
  have k3 : σ'.loc "m" = some (.fv (.int left.length)) := by subst hσ; walk_at "loc"
  have k4 : σ'.hp = [(left.map .str).map .fv, []] := by subst hσ; exact l3
  clear hσ l1 l2 l3
  refine EX_cons (EX1_object (by (exact ⟨by kernel_rfl, by decide +kernel, by kernel_rfl, by decide +kernel, by decide +kernel⟩)) (by kernel_rfl) (by kernel_rfl) fun a => ?_)
  refine EX_cons (EX1_assignA (EVA_list .nil (by decide)) (by kernel_rfl) (by kernel_rfl) ?_)
  have hown : (σ'.set "NULL" (.fv (.obj a))).hp.length = 2 := by show σ'.hp.length = 2; rw [k4]; rfl
  rw [hown]
  generalize hσ : (St.set (St.alloc _ _) _ _) = σ₀
  have a1 : σ₀.loc "s" = some (.own 0) := by subst hσ; walk_at "loc"
  have a2 : σ₀.loc "t" = some (.own 1) := by subst hσ; walk_at "loc"
  have a3 : σ₀.loc "m" = some (.fv (.int left.length)) := by subst hσ; walk_at "loc"
  have a4 : σ₀.loc "NULL" = some (.fv (.obj a)) := by subst hσ; walk_at "loc"
  have a5 : σ₀.loc "result" = some (.own 2) := by subst hσ; walk_at "loc"
  have a6 : σ₀.hp = [wiped a left (fun x _ => (left.take 0).contains x), [], (((fsA (left.take 0)).map fun x => (left.count x, x)).map mmFV).map .fv] := by
    subst hσ
    show σ'.hp ++ [[]] = _
    rw [k4]
    have : wiped a left (fun x _ => (left.take 0).contains x) = (left.map .str).map .fv := by
      unfold wiped
      simp only [List.take_zero, List.contains_nil, Bool.false_eq_true, if_false]
      rw [show (left.zipIdx.map fun q => tAV q.1) = (left.zipIdx.map Prod.fst).map tAV by rw [List.map_map]; rfl, List.zipIdx_map_fst, List.map_map]; rfl
    rw [this]; rfl
  clear hσ k1 k2 k3 k4 hown
  refine EX_cons (EX1_for_enum_own (k := 0) (n := left.length) (by (exact ⟨by kernel_rfl, by decide +kernel, by kernel_rfl, by decide +kernel, by decide +kernel⟩)) (by walk_at "ev") (by show (0 : Nat) < 2; decide) (by rfl) (by intro x; rfl) (by kernel_rfl) (by kernel_rfl)
    (CA left a) ⟨a1, a2, a3, a4, a5, a6⟩ ?_ ?_ ?_)
  · rintro i σ ⟨_, _, _, _, _, e⟩
    exact ⟨_, by rw [e]; rfl, wiped_len .., fun v hv => wiped_fv a _ hv⟩
  · rintro i g σ xs hi ⟨b1, b2, b3, b4, b5, b6⟩ hxs hg
    obtain ⟨y, hy⟩ : ∃ y, left[i]? = some y := ⟨_, List.getElem?_eq_getElem hi⟩
    have hx0 : xs = wiped a left (fun x _ => (left.take i).contains x) := by rw [b6] at hxs; exact (Option.some.inj hxs).symm
    rw [hx0, wiped_get a _ hy] at hg
    have htk : left.take (i + 1) = left.take i ++ [y] := by rw [List.take_add_one, hy]; rfl
    have hfm : ∀ z, (fsA (left.take i)).contains z = (left.take i).contains z := fun z => by
      rw [Bool.eq_iff_iff, List.contains_iff_mem, List.contains_iff_mem]
      exact (fsA_mem z (left.take i) []).trans (by simp)
    by_cases hin : (left.take i).contains y = true
    · have e1 : wiped a left (fun x _ => (left.take (i + 1)).contains x) = wiped a left (fun x _ => (left.take i).contains x) := wiped_ext a fun k x _ => by
        rw [htk]
        by_cases q : x = y
        · subst q; rw [hin]; simp
        · simp [q]
      have e2 : fsA (left.take (i + 1)) = fsA (left.take i) := by rw [htk, fsA_snoc, hfm, if_pos hin]
      rw [if_pos hin] at hg
      cases hg
      refine EX_cons (EX1_ift (c := true) (Bx (EVb_cmp (op := .Is) (f := .obj a) (g := .obj a) (by walk_at "ev") (by walk_at "ev") (by rfl) (by rfl)) (by simp)) (fun _ => ?_) (fun h => by cases h))
      refine EX_one (EX1_continue ⟨by walk_at "loc", by walk_at "loc", by walk_at "loc", by walk_at "loc", by walk_at "loc", ?_⟩)
      rw [e1, e2]; exact b6
    · rw [if_neg hin] at hg
      have hin' : (left.take i).contains y = false := by simpa using hin
      have hg' : g = .str y := by cases hg; rfl
      subst hg'
      refine EX_cons (EX1_ift (c := false) (EVb_cmp (op := .Is) (f := .str y) (g := .obj a) (by walk_at "ev") (by walk_at "ev") (by rfl) (by rfl)) (fun h => by cases h) (fun _ => ?_))
      refine EX_nil ?_
      refine EX_cons (EX1_assign2 EV_int (by kernel_rfl) (by kernel_rfl) (by rfl) ?_)
      generalize hσ : (St.set (St.set _ "cnt_s" _) _ _) = σ₁
      have c1 : σ₁.loc "s" = some (.own 0) := by subst hσ; walk_at "loc"
      have c2 : σ₁.loc "t" = some (.own 1) := by subst hσ; walk_at "loc"
      have c3 : σ₁.loc "m" = some (.fv (.int left.length)) := by subst hσ; walk_at "loc"
      have c4 : σ₁.loc "NULL" = some (.fv (.obj a)) := by subst hσ; walk_at "loc"
      have c5 : σ₁.loc "result" = some (.own 2) := by subst hσ; walk_at "loc"
      have c6 : σ₁.loc "i" = some (.fv (.int i)) := by subst hσ; walk_at "loc"
      have c7 : σ₁.loc "elem" = some (.fv (.str y)) := by subst hσ; walk_at "loc"
      have c8 : σ₁.loc "cnt_s" = some (.fv (.int ((((left.drop i).take 0).count y : Nat) : Int))) := by subst hσ; exact (loc_ne (by decide +kernel)).trans (loc_same _ _ _)
      have c9 : σ₁.loc "cnt_t" = some (.fv (.int 0)) := by subst hσ; walk_at "loc"
      have c10 : σ₁.hp = [wiped a left (fun x k => (left.take i).contains x || (x == y && decide (k < i + 0))), [], (((fsA (left.take i)).map fun x => (left.count x, x)).map mmFV).map .fv] := by
        have : wiped a left (fun x k => (left.take i).contains x || (x == y && decide (k < i + 0))) = wiped a left (fun x _ => (left.take i).contains x) := wiped_ext a fun k x hx => by
          by_cases q : x = y
          · subst q
            by_cases hk : k < i + 0
            · exact absurd (List.contains_iff_mem.mpr (List.mem_of_getElem? (show (left.take i)[k]? = some x by rw [List.getElem?_take_of_lt (by (first | lia | omega))]; exact hx))) hin
            · rw [show decide (k < i + 0) = false from decide_eq_false hk]; simp
          · simp [q]
        rw [this]; subst hσ; exact b6
      clear hσ b1 b2 b3 b4 b5 b6 hxs hx0 hg
      refine EX_cons (EX1_forR (n := ((left.length : Int) - i).toNat) (g := fun j => .int ((i : Int) + j)) (SRC_range2 (a := i) (m := left.length) (by (exact ⟨by kernel_rfl, by decide +kernel, by kernel_rfl, by decide +kernel, by decide +kernel⟩)) (by walk_at "ev") (by walk_at "ev") ⟨by (first | lia | omega), by (first | lia | omega)⟩ ⟨by (first | lia | omega), by (first | lia | omega)⟩ (by rfl) (by rfl)) (by intro x; rfl) (by kernel_rfl)
        (CB left a i y) ⟨c1, c2, c3, c4, c5, c6, c7, c8, c9, c10⟩ ?_ ?_)
      · rintro j σ hj ⟨d1, d2, d3, d4, d5, d6, d7, d8, d9, d10⟩
        have hij : i + j < left.length := by (first | lia | omega)
        obtain ⟨z, hz⟩ : ∃ z, left[i + j]? = some z := ⟨_, List.getElem?_eq_getElem hij⟩
        have htake : (left.drop i).take (j + 1) = (left.drop i).take j ++ [z] := by rw [List.take_add_one, List.getElem?_drop, hz]; rfl
        have hgz := wiped_get a (fun x k => (left.take i).contains x || (x == y && decide (k < i + j))) hz
        have hitem : itemAV (σ.set "j" (.fv (.int ((i : Int) + j)))) (.own 0) ((i + j : Nat) : Int) = some (if ((left.take i).contains z || (z == y && decide (i + j < i + j))) = true then .fv (.obj a) else tAV z) := by show (σ.hp[0]?).bind _ = _; rw [d10]; exact itemOf_nat hgz
        by_cases q : (left.take i).contains z = true
        · have hzy : z ≠ y := by rintro rfl; exact hin q
          rw [q] at hitem
          refine EX_one (EX1_ift (c := false) (EVb_eq_obj (a := a) (b := y) (EV_sub (v := .own 0) (i := ((i + j : Nat) : Int)) (by walk_at "ev") (EV_name (by exact loc_same _ _ _) (by decide +kernel)) hitem (by rfl) (by (intro _ _; rfl))) (by walk_at "ev") (by rfl)) (fun h => by cases h) (fun _ => ?_))
          refine EX_nil ⟨by walk_at "loc", by walk_at "loc", by walk_at "loc", by walk_at "loc", by walk_at "loc", by walk_at "loc", by walk_at "loc", ?_, by walk_at "loc", ?_⟩
          · rw [htake, List.count_append, List.count_singleton, if_neg (by simpa using hzy)]; exact (loc_ne (by decide +kernel)).trans d8
          · refine d10.trans ?_
            rw [wiped_ext a fun k x hx => ?_]
            by_cases hk : k = i + j
            · subst hk; rw [hz] at hx; cases hx; rw [q]; simp
            · rw [show decide (k < i + (j + 1)) = decide (k < i + j) by by_cases h : k < i + j <;> simp [h] <;> (first | lia | omega)]
        · have q' : (left.take i).contains z = false := by simpa using q
          have hp0 : ((left.take i).contains z || (z == y && decide (i + j < i + j))) = false := by rw [q']; simp
          rw [hp0] at hitem
          refine EX_one (EX1_ift (c := z == y) (EVb_cmp (op := .Eq) (f := .str z) (g := .str y) (EV_sub (v := .own 0) (i := ((i + j : Nat) : Int)) (by walk_at "ev") (EV_name (by exact loc_same _ _ _) (by decide +kernel)) hitem (by rfl) (by (intro _ _; rfl))) (by walk_at "ev") (cmp_eq_str _ _) (by rfl)) ?_ ?_)
          · intro hzy
            have hzy : z = y := by simpa using hzy
            subst hzy
            have hcn : ((left.drop i).take (j + 1)).count z = ((left.drop i).take j).count z + 1 := by rw [htake, List.count_append, List.count_singleton, if_pos (by simp)]
            refine EX_cons (EX1_aug (op := .Add) (a := ((((left.drop i).take j).count z : Nat) : Int)) (b := 1) (r := ((((left.drop i).take (j + 1)).count z : Nat) : Int)) (by walk_at "loc") EV_int (by rw [hcn]; rfl) (by kernel_rfl) ?_)
            refine EX_one (EX1_setitem (k := 0) (j := i + j) (v := .fv (.obj a)) (xs := wiped a left (fun x k => (left.take i).contains x || (x == z && decide (k < i + j)))) (by walk_at "ev") (by walk_at "ev") (EV_name (by exact (loc_ne (by decide +kernel)).trans (loc_same _ _ _)) (by decide +kernel)) (by show σ.hp[0]? = _; rw [d10]; rfl) (by rw [wiped_len]; exact hij) (by (first | lia | omega)) (by kernel_rfl) ?_)
            refine ⟨by walk_at "loc", by walk_at "loc", by walk_at "loc", by walk_at "loc", by walk_at "loc", by walk_at "loc", by walk_at "loc", by walk_at "loc", by walk_at "loc", ?_⟩
            show σ.hp.set 0 _ = _
            rw [d10, wiped_set a hij]
            show [_, _, _] = _
            rw [wiped_ext a fun k x hx => ?_]
            by_cases hk : k = i + j
            · subst hk; rw [hz] at hx; cases hx; simp
            · have : decide (k < i + (j + 1)) = decide (k < i + j) := by
                by_cases h : k < i + j
                · rw [decide_eq_true h, decide_eq_true (by (first | lia | omega))]
                · rw [decide_eq_false h, decide_eq_false (by (first | lia | omega))]
              rw [this]; simp [hk]
          · intro hzy
            have hzy' : z ≠ y := by simpa using hzy
            refine EX_nil ⟨by walk_at "loc", by walk_at "loc", by walk_at "loc", by walk_at "loc", by walk_at "loc", by walk_at "loc", by walk_at "loc", ?_, by walk_at "loc", ?_⟩
            · rw [htake, List.count_append, List.count_singleton, if_neg (by simpa using hzy')]; exact (loc_ne (by decide +kernel)).trans d8
            · refine d10.trans ?_
              rw [wiped_ext a fun k x hx => ?_]
              by_cases hk : k = i + j
              · subst hk; rw [hz] at hx; cases hx; rw [q']; simp [hzy']
              · have : decide (k < i + (j + 1)) = decide (k < i + j) := by
                  by_cases h : k < i + j
                  · rw [decide_eq_true h, decide_eq_true (by (first | lia | omega))]
                  · rw [decide_eq_false h, decide_eq_false (by (first | lia | omega))]
                rw [this]
      · rintro σ ⟨d1, d2, d3, d4, d5, d6, d7, d8, d9, d10⟩
        have hmm : ((left.length : Int) - i).toNat = left.length - i := by (first | lia | omega)
        rw [hmm] at d8 d10
        have hcount : ((left.drop i).take (left.length - i)).count y = left.count y := by
          rw [List.take_of_length_le (by simp)]
          have e := congrArg (List.count y) (List.take_append_drop i left)
          rw [List.count_append] at e
          have h0 : (left.take i).count y = 0 := List.count_eq_zero.mpr fun h => hin (List.contains_iff_mem.mpr h)
          (first | lia | omega)
        have hpos : 0 < left.count y := List.count_pos_iff.mpr (List.mem_of_getElem? hy)
        rw [hcount] at d8
        have e1 : wiped a left (fun x k => (left.take i).contains x || (x == y && decide (k < i + (left.length - i)))) = wiped a left (fun x _ => (left.take (i + 1)).contains x) := wiped_ext a fun k x hx => by
          have hk := (List.getElem?_eq_some_iff.mp hx).1
          rw [decide_eq_true (show k < i + (left.length - i) by (first | lia | omega)), htk]
          by_cases q : x = y
          · subst q; simp
          · simp [q]
        have e2 : fsA (left.take (i + 1)) = fsA (left.take i) ++ [y] := by rw [htk, fsA_snoc, hfm, if_neg hin]
        rw [e1] at d10
        refine EX_cons (EX1_for_enum_own (k := 1) (n := 0) (by (exact ⟨by kernel_rfl, by decide +kernel, by kernel_rfl, by decide +kernel, by decide +kernel⟩)) (by walk_at "ev") (by show (1 : Nat) < 2; decide) (by rfl) (by intro x; rfl) (by kernel_rfl) (by kernel_rfl) (fun _ σ' => σ' = σ) rfl ?_ ?_ ?_)
        · rintro _ σ' rfl
          exact ⟨[], by rw [d10]; rfl, rfl, fun v hv => by cases hv⟩
        · intro _ _ _ _ h; (first | lia | omega)
        rintro σ' rfl
        refine EX_one (EX1_ift (c := true) (Bx (EVb_cmp (op := .NotEq) (f := .int ((left.count y : Nat) : Int)) (g := .int 0) (by walk_at "ev") (by walk_at "ev") (cmp_ne_int _ _) (by rfl)) (by simp; (first | lia | omega))) (fun _ => ?_) (fun h => by cases h))
        refine EX_cons (EX1_assign (v := .fv (.mm [.int ((left.count y : Nat) : Int), .int 0, .str y])) (EV_mis (P := P) rfl rfl (by kernel_rfl) (by kernel_rfl) (by (exact Nat.le_of_ble_eq_true rfl)) (by walk_at "ev") (by walk_at "ev") (by walk_at "ev") (by rfl) (by rfl) (by rfl)) (by kernel_rfl) (by kernel_rfl) ?_)
        refine EX_one (EX1_append (k := 2) (xs := (((fsA (left.take i)).map fun x => (left.count x, x)).map mmFV).map .fv) (v := .fv (.mm [.int ((left.count y : Nat) : Int), .int 0, .str y])) (by walk_at "ev") (by walk_at "ev") (by show σ'.hp[2]? = _; rw [d10]; rfl) ?_ (by rfl) (by rfl) (by rfl) (by rfl) (by kernel_rfl) ?_)
        · have := fsA_len (left.take i)
          have h2 : (left.take i).length ≤ left.length := List.length_take_le' _ _
          simp only [List.length_map]
          (first | lia | omega)
        · refine ⟨by walk_at "loc", by walk_at "loc", by walk_at "loc", by walk_at "loc", by walk_at "loc", ?_⟩
          show σ'.hp.set 2 _ = _
          rw [d10, e2]
          simp
  · rintro σ ⟨b1, b2, b3, b4, b5, b6⟩
    rw [List.take_length] at b6
    refine EX_cons (EX1_for_enum_own (k := 1) (n := 0) (by (exact ⟨by kernel_rfl, by decide +kernel, by kernel_rfl, by decide +kernel, by decide +kernel⟩)) (by walk_at "ev") (by show (1 : Nat) < 2; decide) (by rfl) (by intro x; rfl) (by kernel_rfl) (by kernel_rfl) (fun _ σ' => σ' = σ) rfl ?_ ?_ ?_)
    · rintro _ σ' rfl
      exact ⟨[], by rw [b6]; rfl, rfl, fun v hv => by cases hv⟩
    · intro _ _ _ _ h; (first | lia | omega)
    rintro σ' rfl
    refine EX_one (EX1_return (v := .own 2) (by walk_at "ev") ⟨1, ?_⟩)
    rw [resolve, b6]
    show (resolves _ _ _).map _ = _
    rw [resolves_all]; rfl
end Mine
end
/-! Eu6 -/
section
open PySem PySem.W PyProof.Rows PySem.Builtin PySem.Builtin.Str
namespace Mine
variable {C : Cx} {σ : St}

theorem VR.down {h0 h h' : Heap} {ρ ρ2 : List Addr} {av : AV} {v0 v : Value} (r0 : VR h0 ρ av v0) (r : VR h ρ2 av v) (hx : HExt h h') (hp : ∀ (k : Nat) (a : Addr), ρ[k]? = some a → ρ2[k]? = some a) : VR h' ρ av v := by
  cases r with
  | fv r => exact .fv (r.mono hx)
  | own e =>
    cases r0 with | own e0 =>
    have := (hp _ _ e0).symm.trans e
    cases this
    exact .own e0
  | app e hb =>
    cases r0 with | app e0 _ =>
    have := (hp _ _ e0).symm.trans e
    cases this
    exact .app e0 (hx _ _ hb)

theorem hide_perm {h : Heap} {l l' : List Addr} (hl : ∀ b, b ∈ l' → b ∈ l) : HExt (hideAll h l) (hideAll h l') := fun b o e => by
  have hb : b ∉ l := fun m => by rw [hideAll_none l m] at e; cases e
  exact hideAll_get l' (of_hideAll l e) fun m => hb (hl b m)

theorem VRs.reown {h h' : Heap} {ρ ρ' : List Addr} {ls : List (List Nat)} {vs : Array Value} (r : VRs h ρ (ls.map tAV) vs) (hx : HExt h h') : VRs h' ρ' (ls.map tAV) vs := by
  refine ⟨r.1, r.2.1, fun i x v e1 e2 => ?_⟩
  have := r.2.2 i x v e1 e2
  rw [List.getElem?_map] at e1
  obtain ⟨l, _, rfl⟩ := Option.map_eq_some_iff.mp e1
  cases this with | fv q => exact .fv (q.mono hx)

theorem EVA_uld {P : Params} {x y : Str} {np p px q1 r1 py q2 r2 : Pos} {exp act : List (List Nat)} (hK : C.K = frag P) (hmg : C.mg = gm P) (D : Df C (Str.ofString "unorderable_list_difference") 88) (hlen : exp.length ≤ 1000)
    (hx : EV C σ (.Name x px) (.fv (.list (exp.map .str)))) (hy : ∀ σ' : St, σ'.loc = σ.loc → EV C σ' (.Name y py) (.fv (.list (act.map .str)))) (hd1 : 1 ≤ C.d)
    (hfr : C.A.frames = some [C.env]) (hf : C.env.frame = some C.env.locals)
    (hs : starEach [.Subscript (.Name x px) (.Slice none none none q1) r1, .Subscript (.Name y py) (.Slice none none none q2) r2] C.env = (false, eval (.Subscript (.Name x px) (.Slice none none none q1) r1) C.env) :: starEach [.Subscript (.Name y py) (.Slice none none none q2) r2] C.env)
    (hs' : starEach [.Subscript (.Name y py) (.Slice none none none q2) r2] C.env = (false, eval (.Subscript (.Name y py) (.Slice none none none q2) r2) C.env) :: starEach [] C.env) :
    EVA C σ (.Call (.Name (Str.ofString "unorderable_list_difference") np) [.Subscript (.Name x px) (.Slice none none none q1) r1, .Subscript (.Name y py) (.Slice none none none q2) r2] [] p)
      (.fv (.tup [.list ((uld exp act).1.map .str), .list ((uld exp act).2.map .str)])) σ := by
  intro H ρ s Q E hg R hq
  refine wpAny_Call_NameR (glob_def hg R.e D.hx D.hd D.hm ?_)
  obtain ⟨o, fd, ho, hfd⟩ := D.ho
  have e1 : EVA C σ (.Subscript (.Name x px) (.Slice none none none q1) r1) (.own σ.hp.length) (σ.alloc ((exp.map .str).map .fv)) := EVA_slice hx
  have e2 : EVA C (σ.alloc ((exp.map .str).map .fv)) (.Subscript (.Name y py) (.Slice none none none q2) r2) (.own (σ.hp.length + 1)) ((σ.alloc ((exp.map .str).map .fv)).alloc ((act.map .str).map .fv)) := by
    have := EVA_slice (p := q2) (pos := r2) (hy (σ.alloc ((exp.map .str).map .fv)) rfl)
    have e : (σ.alloc ((exp.map .str).map .fv)).hp.length = σ.hp.length + 1 := by simp [St.alloc]
    rw [e] at this
    exact this
  refine PyProof.Rows.callWith_def hfd (splicedA_ok (.cons e1 (.cons e2 .nil hs') hs) hg R fun l ρ2 s2 R2 st2 up2 hl => ?_) hs
  refine ⟨(Hh_g R2.e).inK _ _ ho, ?_⟩
  have hpre : ∀ (k : Nat) (a : Addr), ρ[k]? = some a → ρ2[k]? = some a := fun k a e => by
    have := up2 (.own k) (.ref a) (.own e)
    cases this with | own e => exact e
  have hl2 : ρ2.length = σ.hp.length + 2 := by rw [R2.len]; simp [St.alloc]
  have hl0 := R.len
  cases hl with | cons h1 hl =>
  cases hl with | cons h2 hl =>
  cases hl
  cases h1 with | @own _ b1 eb1 =>
  cases h2 with | @own _ b2 eb2 =>
  have hρ2 : ρ2 = ρ ++ [b1, b2] := by
    apply List.ext_getElem?
    intro k
    by_cases hk : k < ρ.length
    · rw [List.getElem?_append_left hk, hpre k ρ[k] (List.getElem?_eq_getElem hk), List.getElem?_eq_getElem hk]
    · rw [List.getElem?_append_right (by (first | lia | omega))]
      by_cases hk0 : k = σ.hp.length
      · subst hk0; rw [eb1, hl0, Nat.sub_self]; rfl
      · by_cases hk1 : k = σ.hp.length + 1
        · subst hk1; rw [eb2, hl0, show σ.hp.length + 1 - σ.hp.length = 1 by (first | lia | omega)]; rfl
        · rw [List.getElem?_eq_none (by (first | lia | omega)), List.getElem?_eq_none (by simp; (first | lia | omega))]
  have hnd := R2.nd.1
  rw [hρ2] at hnd
  obtain ⟨n1, n2, n3⟩ := List.nodup_append.mp hnd
  have h12 : b1 ≠ b2 := by simpa using n2
  have hb12 : ∀ a ∈ ρ, a ∉ [b1, b2] := fun a ha m => n3 a ha a m rfl
  have hin : ∀ a ∈ [b1, b2], a ∈ ρ2 := fun a ha => by rw [hρ2]; exact List.mem_append.mpr (.inr ha)
  have hset : ∀ b, b ∈ [b1, b2] ++ (ρ ++ H) ↔ b ∈ ρ2 ++ H := fun b => by
    rw [hρ2]
    simp only [List.mem_append]
    constructor
    · rintro (h | h | h)
      · exact .inl (.inr h)
      · exact .inl (.inl h)
      · exact .inr h
    · rintro ((h | h) | h)
      · exact .inr (.inl h)
      · exact .inl h
      · exact .inr (.inr h)
  have hxs : HExt (hideAll s2.heap (ρ2 ++ H)) (hideAll s2.heap ([b1, b2] ++ (ρ ++ H))) := hide_perm fun b hb => (hset b).mp hb
  obtain ⟨a1, v1, p1, p2, p3⟩ := R2.e.own σ.hp.length ((exp.map .str).map .fv) (by
    show ((σ.hp ++ [_]) ++ [_])[σ.hp.length]? = _
    rw [List.getElem?_append_left (by simp), List.getElem?_append_right (Nat.le_refl _)]; simp)
  have q := Option.some.inj (p1.symm.trans eb1); subst q
  obtain ⟨a2, v2, r1, r2, r3⟩ := R2.e.own (σ.hp.length + 1) ((act.map .str).map .fv) (by
    show ((σ.hp ++ [_]) ++ [_])[σ.hp.length + 1]? = _
    rw [List.getElem?_append_right (by simp)]; simp)
  have q := Option.some.inj (r1.symm.trans eb2); subst q
  have hmaptAV : ∀ ls : List (List Nat), (ls.map FV.str).map AV.fv = ls.map tAV := fun ls => by rw [List.map_map]; rfl
  rw [hmaptAV] at p3 r3
  have hG2 := R2.e.g
  have hLH : C.env.locals ∈ H := R.sub _ R.loc
  refine uld_calls P C.mb C.prog C.w exp act hlen (A := C.A) (hid := ρ ++ H) (lw := C.env) (Lw := C.env.locals) hg.hh (by have := hg.depth; (first | lia | omega)) (by have := hg.units; (first | lia | omega)) hg.bb hfr hf (by rw [hg.fk]; decide) (List.mem_append.mpr (.inr hLH))
    (by rw [← hK, ← hmg]; exact hG2.mono hxs) (fun a ha => R2.e.low a ((hset a).mp ha)) h12 (fun a ha b hb q => ?_) p2 (p3.reown hxs) r2 (r3.reown hxs) fun z s3 hs3 hk3 hz => ?_
  · subst q
    rcases List.mem_append.mp hb with h | h
    · exact hb12 a h ha
    · exact R2.nd.2.2 a (hin a ha) a h rfl
  · obtain ⟨h3, tk3, rfl⟩ := hs3
    have hx3 : HExt (Hh H ρ2 s2.heap) (Hh H ρ h3) := by
      intro b o e
      have hb : b ∉ ρ2 ++ H := fun m => by unfold Hh at e; rw [hideAll_none _ m] at e; cases e
      simp only [List.mem_append, not_or] at hb
      obtain ⟨sl, w1, w2⟩ := hk3 b o (fun m => hb.1 (hin b m)) (of_hideAll _ e)
      rw [w2 (fun q => hb.2 (q ▸ hLH))] at w1
      refine hideAll_get _ w1 ?_
      simp only [List.mem_append, not_or]
      exact ⟨fun m => hb.1 (by rw [hρ2]; exact List.mem_append.mpr (.inl m)), hb.2⟩
    have up3 : Up H ρ s ρ { s2 with heap := h3, toks := tk3 } := fun u v r => VR.down r (up2 u v r) hx3 hpre
    have R3 : Rel C H ρ σ { s2 with heap := h3, toks := tk3 } := by
      refine ⟨⟨hG2.mono hx3, fun a ha => ?_, fun u av e => ?_, fun k xs e => ?_⟩, R.nd, R.len, ?_, R.loc, R.sub, fun x c e => ⟨(R.cl x c e).1, ?_⟩, R.out⟩
      · obtain ⟨o, e⟩ := R2.e.low a (by rw [hρ2]; simp only [List.mem_append] at ha ⊢; rcases ha with h | h; exact .inl (.inl h); exact .inr h)
        obtain ⟨sl, w1, _⟩ := hk3 a o (fun m => by
          rcases List.mem_append.mp ha with h | h
          · exact hb12 a h m
          · exact R2.nd.2.2 a (hin a m) a h rfl) e
        exact ⟨_, w1⟩
      · obtain ⟨v0, t1, _⟩ := R.e.names u av e
        obtain ⟨v, t2, t3⟩ := R2.e.names u av e
        refine ⟨v, VR.down t1 t2 hx3 hpre, ?_⟩
        have cell : ∀ c v, C.env.cells.lookup u = some c → s2.heap.IsCell c v → h3.IsCell c v := fun c v hcl hc => by
          obtain ⟨o, w1, w2⟩ := hc
          obtain ⟨sl, w3, _⟩ := hk3 c o (fun m => R2.nd.2.2 c (hin c m) c (R.sub _ (R.cl u c hcl).1) rfl) w1
          exact ⟨_, w3, w2⟩
        rcases t3 with ⟨b1, m', b2, b3⟩ | ⟨b1, c, b2, b3⟩ | ⟨b1, b0, c, b2, b3⟩
        · refine .inl ⟨b1, m', ?_, b3⟩
          obtain ⟨o, es, ep, w1, w2, w3, w4⟩ := b2
          obtain ⟨sl, w5, _⟩ := hk3 _ o (fun m => R2.nd.2.2 _ (hin _ m) _ hLH rfl) w1
          exact ⟨_, es, ep, w5, w2, w3, w4⟩
        · exact .inr (.inl ⟨b1, c, b2, cell _ _ b2 b3⟩)
        · exact .inr (.inr ⟨b1, b0, c, b2, cell _ _ b2 b3⟩)
      · have hk : k < σ.hp.length := (List.getElem?_eq_some_iff.mp e).1
        obtain ⟨a0, vs0, t1, t2, t3⟩ := R.e.own k xs e
        obtain ⟨a, vs, t4, t5, t6⟩ := R2.e.own k xs (by
          show ((σ.hp ++ [_]) ++ [_])[k]? = _
          rw [List.getElem?_append_left (by simp; (first | lia | omega)), List.getElem?_append_left hk]; exact e)
        have q := Option.some.inj ((hpre k a0 t1).symm.trans t4); subst q
        have ha := List.mem_of_getElem? t1
        refine ⟨a0, vs, t1, ?_, t6.1, t6.2.1, fun i x v e1 e2 => ?_⟩
        · obtain ⟨n, hn⟩ := t5
          obtain ⟨sl, w1, w2⟩ := hk3 a0 _ (hb12 a0 ha) hn
          rw [w2 (fun q => R.nd.2.2 a0 ha a0 (q ▸ hLH) rfl)] at w1
          exact ⟨n, w1⟩
        · have hi : i < vs0.size := by rw [t3.1]; exact (List.getElem?_eq_some_iff.mp e1).1
          exact VR.down (t3.2.2 i x vs0[i] e1 (Array.getElem?_eq_getElem hi)) (t6.2.2 i x v e1 e2) hx3 hpre
      · obtain ⟨m, o, es, ep, w1, w2, w3, w4⟩ := R2.ns
        obtain ⟨sl, w5, _⟩ := hk3 _ o (fun m => R2.nd.2.2 _ (hin _ m) _ hLH rfl) w1
        exact ⟨m, _, es, ep, w5, w2, w3, w4⟩
      · obtain ⟨v, o, w1, w2⟩ := (R2.cl x c e).2
        obtain ⟨sl, w3, _⟩ := hk3 c o (fun m => R2.nd.2.2 c (hin c m) c (R.sub _ (R.cl x c e).1) rfl) w1
        exact ⟨v, _, w3, w2⟩
    refine hq z ρ _ R3 ⟨?_, fun b o hb hm e => ?_, fun a ha => .inl ha, fun _ _ _ e => e⟩ up3 (.fv (hz.mono (hide_perm fun b hb => hb)))
    · obtain ⟨h', tk', rfl⟩ := st2.same
      exact ⟨h3, tk3, rfl⟩
    · refine kept_trans (st2.kept b o hb hm e) fun o₂ e₂ => ?_
      obtain ⟨sl, w1, w2⟩ := hk3 b o₂ (fun m => by
        rcases st2.fresh b (hin b m) with h | h
        · exact hb h
        · rw [h] at e; cases e) e₂
      exact ⟨sl, w1, fun _ => w2 (fun q => hm (q ▸ R.loc))⟩
end Mine
end
/-! Eu7 -/
section
open PySem PySem.W PyProof.Rows PySem.Builtin PySem.Builtin.Str
namespace Mine
variable {C : Cx} {σ : St} {P : Out → St → Prop}

theorem paired_fv {h : Heap} {ρ : List Addr} {fs : List FV} {l : List Value} (r : Paired (FR h) fs l) : Paired (VR h ρ) (fs.map .fv) l := by
  induction r with
  | nil => exact .nil
  | cons a _ ih => exact .cons (.fv a) ih

/-- a, b = an expression that gives a tuple -/
theorem EX1_unpackA {elts : List Expr} {e : Expr} {k : Nat} {tp p : Pos} {ps : List (Str × Pos)} {fs : List FV} {σ' : St} (h : EVA C σ e (.fv (.tup fs)) σ') (hlen : ps.length = fs.length)
    (hk : ∀ x ∈ ps, C.env.kindOf x.1 = some .local) (hs : swapsWithSole [.Tuple elts k tp] e p.line C.env = pure false)
    (hw : swappedStores [.Tuple elts k tp] e C.env = pure none) (he : (assignEach elts C.env).map (·.2) = ps.map fun n => assign (.Name n.1 n.2) C.env)
    (he' : (assignEach elts C.env).findIdx? (·.1) = none) (hp : P .next (setAll σ' (ps.map (·.1)) (fs.map .fv))) :
    EX1 C σ (.Assign [.Tuple elts k tp] e p) P := by
  intro H ρ s hg R
  refine PyProof.Rows.Assign_Tuple (h H ρ s _ _ hg R fun x ρ₁ s₁ R₁ st₁ _ hx => ?_) hs hw
  cases hx with | fv hx =>
  obtain ⟨t, vs, rfl, ht, hsz, hf⟩ := hx.tup_inv
  have e0 : (assignEach elts C.env).length = ps.length := by have := congrArg List.length he; simpa using this
  have e1 := hf.length
  refine wpAny_assign_Tuple hg.hh (hide_tuple ht) (by rw [e0, hlen]; simpa using e1) he' fun h' hx => ?_
  have kk := extBut_size hx
  rw [he]
  have hv : Paired (VR (Hh H ρ₁ h') ρ₁) (fs.map .fv) vs.toList := paired_fv (f2_mono (Hh_keeps (H := H) (ρ := ρ₁) kk) hf)
  refine assigns_ok hg (R₁.keeps hg kk) hv (by simpa using hlen) hk fun s₂ R₂ st₂ => ?_
  exact ⟨ρ₁, _, .next, R₂, st₁.trans ((Step.of_keeps kk).trans st₂ R₂.nmut) R₂.nmut, .next, hp⟩
end Mine
end
/-! Ew4 -/
section
open PySem PySem.W PyProof.Rows PySem.Builtin PySem.Builtin.Str
namespace Mine
/-- the activation of the law -/
noncomputable def cxl (K : Frag) (mg mb : Str → Option Value) (prog : Program) (w : World) (name : Str) (scope : Scope) (f : Addr) (cd : Value) (A : Around) (L : Addr) : Cx :=
  { prog, w, A, env := envOfC name scope L f cd, mu := L :: (cellsFrom (L + 1) scope.names []).map (·.2), K, mg, mb, d := 10 }

noncomputable def LawGoal (P : Params) (mb : Str → Option Value) (prog : Program) (w : World) (ns : List Int) : Prop :=
  ∀ {name : Str} {params : Arguments} {body : List Stmt} {scope : Scope} {pm doc cd : Value} {o : Obj}, (frag P).lookup 262 = some o → o.data = .func (Calls.docDef name params body scope pm cd doc) →
    ∀ (A : Around) (L fa : Addr) (cd' : Value), A.frames = some [envOfC name scope L fa cd'] →
      EX (cxl (frag P) (gm P) mb prog w name scope fa cd' A L) (st0 ["script"] [.list (ns.map .int)]) body (fun o _ => o = .ret (.fv (.bool (lawB ns))))

theorem law_intro {P : Params} {mb : Str → Option Value} {prog : Program} {w : World} {ns : List Int} {name : Str} {params : Arguments} {body : List Stmt} {scope : Scope} {pm doc cd : Value} {o : Obj}
    (hK : (frag P).lookup 262 = some o) (hdat : o.data = .func (Calls.docDef name params body scope pm cd doc))
    (h : ∀ (A : Around) (L fa : Addr) (cd' : Value), A.frames = some [envOfC name scope L fa cd'] →
      EX (cxl (frag P) (gm P) mb prog w name scope fa cd' A L) (st0 ["script"] [.list (ns.map .int)]) body (fun o _ => o = .ret (.fv (.bool (lawB ns))))) : LawGoal P mb prog w ns := by
  intro name' params' body' scope' pm' doc' cd2 o' hK' hdat' A L fa cd' hfr
  rw [hK] at hK'
  have e := Option.some.inj hK'
  subst e
  rw [hdat] at hdat'
  have e := Data.func.inj hdat'
  have e1 : name = name' := congrArg FuncData.name e
  have e2 : scope = scope' := congrArg FuncData.scope e
  have e3 : FuncBody.stmts body = FuncBody.stmts body' := congrArg FuncData.body e
  have e4 := FuncBody.stmts.inj e3
  subst e1 e2 e4
  exact h A L fa cd' hfr

noncomputable def TailGoal (k : Nat) (P : Params) (mb : Str → Option Value) (prog : Program) (w : World) (pre : St → Prop) (r : Bool) : Prop :=
  ∀ {name : Str} {params : Arguments} {body : List Stmt} {scope : Scope} {pm doc cd : Value} {o : Obj}, (frag P).lookup 262 = some o → o.data = .func (Calls.docDef name params body scope pm cd doc) →
    ∀ (A : Around) (L fa : Addr) (cd' : Value), A.frames = some [envOfC name scope L fa cd'] → ∀ σ, pre σ →
      EX (cxl (frag P) (gm P) mb prog w name scope fa cd' A L) σ (body.drop k) (fun o _ => o = .ret (.fv (.bool r)))
theorem tail_intro {k : Nat} {P : Params} {mb : Str → Option Value} {prog : Program} {w : World} {pre : St → Prop} {r : Bool} {name : Str} {params : Arguments} {body : List Stmt} {scope : Scope} {pm doc cd : Value} {o : Obj}
    (hK : (frag P).lookup 262 = some o) (hdat : o.data = .func (Calls.docDef name params body scope pm cd doc))
    (h : ∀ (A : Around) (L fa : Addr) (cd' : Value), A.frames = some [envOfC name scope L fa cd'] → ∀ σ, pre σ →
      EX (cxl (frag P) (gm P) mb prog w name scope fa cd' A L) σ (body.drop k) (fun o _ => o = .ret (.fv (.bool r)))) : TailGoal k P mb prog w pre r := by
  intro name' params' body' scope' pm' doc' cd2 o' hK' hdat' A L fa cd' hfr
  rw [hK] at hK'
  have e := Option.some.inj hK'
  subst e
  rw [hdat] at hdat'
  have e := Data.func.inj hdat'
  have e1 : name = name' := congrArg FuncData.name e
  have e2 : scope = scope' := congrArg FuncData.scope e
  have e3 : FuncBody.stmts body = FuncBody.stmts body' := congrArg FuncData.body e
  have e4 := FuncBody.stmts.inj e3
  subst e1 e2 e4
  exact h A L fa cd' hfr

theorem inj_of {cs : List (Str × Addr)} (hp : cs.Pairwise fun x y => x.2 ≠ y.2) {x : Str} {c : Addr} (hc : cs.lookup x = some c) : ∀ y, cs.lookup y = some c → y = x := fun y hy => name_of_addr hp (mem_of_lookup hy) (mem_of_lookup hc)
theorem free_loc {σ : St} {fre : List Str} {x y : Str} {f : FV} {v : AV} (h : σ.loc x = some (.fv f)) (hx : x ∈ fre) (hne : x ≠ y) : ((frees σ fre).set y v).loc x = some (.fv f) := by
  rw [loc_ne hne]
  show (if x ∈ fre then _ else _) = _
  rw [if_pos hx, h]
theorem free_loc2 {σ : St} {fre : List Str} {x y z : Str} {f : FV} {v u : AV} (h : σ.loc x = some (.fv f)) (hx : x ∈ fre) (hne : x ≠ y) (hne2 : x ≠ z) : (((frees σ fre).set y v).set z u).loc x = some (.fv f) := by
  rw [loc_ne hne2]; exact free_loc h hx hne

theorem EV_comp1 {α : Type} {C : Cx} {σ : St} {elt target iter : Expr} {ifs : List Expr} {scope : Scope} {pos : Pos} {rows : List (List (Str × FV))} (cl : List (Str × Addr)) (fre : List Str) (ps : List α) (f : α → List (Str × FV)) (g : α → Option FV) (xs : List Str)
    (hclos : closureFor scope C.env = pure cl) (hsrc : SRC C σ iter target rows) (hrows : rows = ps.map f) (hfs : ∀ x, foldedSetIterable iter C.env x = pure x)
    (cell : ∀ y ∈ scope.names, y.2 ≠ .cell) (kind : scope.kind = .function) (names : ∀ y ∈ scope.names, y.2 = .local → scope.names.lookup y.1 = some .local)
    (hfre : ∀ x ∈ fre, C.env.kindOf x = some .cell ∧ cl.lookup x = C.env.cells.lookup x ∧ (relabel scope C.env).names.lookup x = some .cell)
    (hx : ∀ p, (f p).map Prod.fst = xs) (hl : ∀ x ∈ xs, scope.names.lookup x = some .local)
    (turn : ∀ p ∈ ps, ∀ L, EVt (C.comp scope cl L) (setRow (frees σ fre) (f p)) ifs (g p).isSome ∧ ∀ r, g p = some r → EV (C.comp scope cl L) (setRow (frees σ fre) (f p)) elt (.fv r)) :
    EV C σ (.ListComp elt [⟨target, iter, ifs, 0⟩] scope pos) (.fv (.list (ps.filterMap g))) := by
  rw [← outs_map]
  exact EV_comp hclos (hrows ▸ hsrc) hfs (Comp.map ps f g xs cell kind names hfre hx hl turn)
theorem EX1_assign_comp1 {α : Type} {C : Cx} {σ : St} {P : Out → St → Prop} {elt target iter : Expr} {ifs : List Expr} {scope : Scope} {pos py spos : Pos} {y : Str} {rows : List (List (Str × FV))} (cl : List (Str × Addr)) (fre : List Str) (ps : List α) (f : α → List (Str × FV)) (g : α → Option FV) (xs : List Str)
    (hclos : closureFor scope C.env = pure cl) (hsrc : SRC C σ iter target rows) (hrows : rows = ps.map f) (hfs : ∀ x, foldedSetIterable iter C.env x = pure x)
    (cell : ∀ y ∈ scope.names, y.2 ≠ .cell) (kind : scope.kind = .function) (names : ∀ y ∈ scope.names, y.2 = .local → scope.names.lookup y.1 = some .local)
    (hfre : ∀ x ∈ fre, C.env.kindOf x = some .cell ∧ cl.lookup x = C.env.cells.lookup x ∧ (relabel scope C.env).names.lookup x = some .cell)
    (hx : ∀ p, (f p).map Prod.fst = xs) (hl : ∀ x ∈ xs, scope.names.lookup x = some .local)
    (turn : ∀ p ∈ ps, ∀ L, EVt (C.comp scope cl L) (setRow (frees σ fre) (f p)) ifs (g p).isSome ∧ ∀ r, g p = some r → EV (C.comp scope cl L) (setRow (frees σ fre) (f p)) elt (.fv r))
    (hsw : swapsWith (.ListComp elt [⟨target, iter, ifs, 0⟩] scope pos) (some (.Name y py)) spos.line C.env = pure true) (hy : C.env.kindOf y = some .local)
    (h : P .next (σ.set y (.fv (.list (ps.filterMap g))))) :
    EX1 C σ (.Assign [.Name y py] (.ListComp elt [⟨target, iter, ifs, 0⟩] scope pos) spos) P :=
  EX1_assign_comp hclos (hrows ▸ hsrc) hfs (Comp.map ps f g xs cell kind names hfre hx hl turn) hsw hy (by rw [outs_map]; exact h)
theorem bin_pow {a b : Int} (h : 0 ≤ b ∧ b ≤ 100 ∧ a.natAbs ≤ big) : binFV .Pow (.int a) (.int b) = some (.int (a ^ b.toNat)) := if_pos h
theorem bin_fdiv {a b : Int} (h : b ≠ 0 ∧ b.natAbs ≤ 1000000000) : binFV .FloorDiv (.int a) (.int b) = some (.int (a.fdiv b)) := if_pos h
theorem bin_mod {a b : Int} (h : b ≠ 0) : binFV .Mod (.int a) (.int b) = some (.int (a.fmod b)) := if_pos h
theorem bin_lists {a b : List FV} (h : a.length + b.length ≤ sizeLine) : binFV .Add (.list a) (.list b) = some (.list (a ++ b)) := if_pos h
theorem fmap_some {α β : Type} (f : α → β) (l : List α) : (l.filterMap fun x => some (f x)) = l.map f := by
  induction l with
  | nil => rfl
  | cons x l ih => rw [List.filterMap_cons, List.map_cons, ih]
theorem fmod3_lt (x : Int) : (x.fmod 3).toNat < 3 := by
  have h0 : 0 ≤ x.fmod 3 := Int.fmod_nonneg_of_pos _ (by decide)
  have h1 : x.fmod 3 < 3 := Int.fmod_lt_of_pos _ (by decide)
  (first | lia | omega)
theorem fmod8_lt (x : Int) : (x.fmod 8).toNat < 8 := by
  have h0 : 0 ≤ x.fmod 8 := Int.fmod_nonneg_of_pos _ (by decide)
  have h1 : x.fmod 8 < 8 := Int.fmod_lt_of_pos _ (by decide)
  (first | lia | omega)
theorem fmod_cast {x : Int} {m : Int} (h : 0 < m) : x.fmod m = ((x.fmod m).toNat : Int) := (Int.toNat_of_nonneg (Int.fmod_nonneg_of_pos _ h)).symm
theorem get_getD {l : List Nat} {k : Nat} (h : k < l.length) : l[k]? = some (l.getD k 0) := by
  rw [List.getD_eq_getElem?_getD, List.getElem?_eq_getElem h]; rfl

set_option maxHeartbeats 4000000
theorem law_walk (P : Params) (mb : Str → Option Value) (prog : Program) (w : World) (ns : List Int)
    (goal6 : ∀ (nm : List (List Nat)) (pat : List Nat), nm.length = 5 → (∀ s ∈ nm, s.length = 1) → pat.length ≤ 10 → (∀ c ∈ pat, c < 128 ∧ c ≠ 91) →
      TailGoal 6 P mb prog w (fun σ => σ.loc "name" = some (.fv (.list (nm.map .str))) ∧ σ.loc "pattern" = some (.fv (.str pat))) (lawEnd nm pat ((ordersL nm).filter (takesB (piecesOf (joinTr (trans [46] pat))))))) : LawGoal P mb prog w ns := by
  refine law_intro (hK := by rfl) (hdat := by rfl) ?_
  intro A L fa cd' hfr
  have hap : ([(Str.ofString "plain", L + 6), (Str.ofString "read", L + 5), (Str.ofString "pieces", L + 4), (Str.ofString "name", L + 3), (Str.ofString "signs", L + 2), (Str.ofString "cells", L + 1)] : List (Str × Addr)).Pairwise fun x y => x.2 ≠ y.2 := by
    simp
  -- drawn
  refine EX_cons (EX1_assign_comp0 (ns.take 6) (fun i => [(Str.ofString "cell", FV.int i)]) (fun i => some (FV.int (i.fmod 1000000000))) ["cell"]
    (SRC_list (EV_slice_list (lo := none) (hi := some ((6 : Nat) : Int)) (by walk_at "ev") trivial (by exact EV_int))) ?_ (by intro x; rfl) (by decide +kernel) (by decide +kernel) rfl (by decide +kernel) (fun _ => rfl) (by decide +kernel) ?_ (by kernel_rfl) (by kernel_rfl) ?_)
  · rw [cutN_to, ← List.map_take, List.map_map]; rfl
  · intro i hi L'
    refine ⟨EVt_nil, fun r hr => ?_⟩
    cases hr
    exact EV_bin (f := .int i) (g := .int 1000000000) (EV_intOf (by (exact ⟨by kernel_rfl, by decide +kernel, by kernel_rfl, by decide +kernel, by decide +kernel⟩)) (EV_name (by rfl) (by decide +kernel)) (by rfl)) (EV_bin (f := .int 10) (g := .int 9) EV_int EV_int (bin_pow (by decide))) (bin_mod (by decide))
  rw [fmap_some, show ((ns.take 6).map fun i => FV.int (i.fmod 1000000000)) = ((ns.take 6).map fun i => i.fmod 1000000000).map .int by rw [List.map_map]; rfl]
  -- cells
  refine EX_cons (EX1_assign_cell (c := L + 1) (v := .fv (.list ((lCells ns).map .int))) (EV_if (c := decide ((((ns.take 6).map fun i => i.fmod 1000000000).length : Int) > 2)) (EVb_cmp (op := .Gt) (EV_len (v := .fv (.list (((ns.take 6).map fun i => i.fmod 1000000000).map .int))) (by (exact ⟨by kernel_rfl, by decide +kernel, by kernel_rfl, by decide +kernel, by decide +kernel⟩)) (by walk_at "ev") (by rfl) (by rfl)) EV_int (by simp only [List.length_map]; rfl) (by rfl)) ?_) (by kernel_rfl) (by kernel_rfl) (inj_of hap (by kernel_rfl)) (by kernel_rfl) ?_)
  · unfold lCells
    by_cases h : 2 < ((ns.take 6).map fun i => i.fmod 1000000000).length
    · rw [decide_eq_true (by (first | lia | omega)), if_pos h]
      exact EV_name (by walk_at "loc") (by decide +kernel)
    · rw [decide_eq_false (by (first | lia | omega)), if_neg h, List.map_append]
      refine EV_bin (f := .list (((ns.take 6).map fun i => i.fmod 1000000000).map .int)) (g := .list ([2, 0, 1].map .int)) (by walk_at "ev") (EV_list (xs := [.int 2, .int 0, .int 1]) (.cons EV_int (.cons EV_int (.cons EV_int .nil (by rfl)) (by rfl)) (by rfl)) (by decide)) (bin_lists ?_)
      rw [sizeLine_eq]; simp only [List.length_map] at h ⊢; simp; (first | lia | omega)
  obtain ⟨hc3, hc6⟩ := lCells_len ns
  generalize hσ : (St.set (St.set _ _ _) _ _) = σ
  have m1 : σ.loc "cells" = some (.fv (.list ((lCells ns).map .int))) := by subst hσ; walk_at "loc"
  clear hσ
  have hlb : lawB ns = lawEnd (lName (signsOf (((lCells ns).getD 0 0).fdiv 243) 4) ((lCells ns).getD 0 0)) (lPat (lPieces (signsOf (((lCells ns).getD 0 0).fdiv 243) 4)) ((lCells ns).drop 1))
    ((ordersL (lName (signsOf (((lCells ns).getD 0 0).fdiv 243) 4) ((lCells ns).getD 0 0))).filter (takesB (piecesOf (joinTr (trans [46] (lPat (lPieces (signsOf (((lCells ns).getD 0 0).fdiv 243) 4)) ((lCells ns).drop 1))))))) := rfl
  rw [hlb]
  clear hlb
  generalize lCells ns = cs at m1 hc3 hc6
  have hc0 : cs[0]? = some (cs.getD 0 0) := by rw [List.getD_eq_getElem?_getD, List.getElem?_eq_getElem (by (first | lia | omega))]; rfl
  generalize cs.getD 0 0 = c0 at hc0
  -- signs
  refine EX_cons (EX1_assign_cell (c := L + 2) (v := .fv (.str (signsOf (c0.fdiv 243) 4))) (EV_call2 (by (exact ⟨by kernel_rfl, by decide +kernel, by kernel_rfl, ⟨_, _, rfl, rfl⟩⟩)) (signs_calls P mb prog w (c0.fdiv 243) 4 (by decide)) (by (exact Nat.le_of_ble_eq_true rfl))
    (EV_bin (f := .int c0) (g := .int 243) (EV_sub (v := .fv (.list (cs.map .int))) (i := 0) (by walk_at "ev") EV_int (by exact item_list_nat (k := 0) (by rw [List.getElem?_map, hc0]; rfl)) (by rfl) (by (intro _ _; rfl))) EV_int (bin_fdiv (by decide))) (by exact EV_int) (by rfl) (by rfl)) (by kernel_rfl) (by kernel_rfl) (inj_of hap (by kernel_rfl)) (by kernel_rfl) ?_)
  have hpo := pieces_ok (c0.fdiv 243) 4
  have hsl : (signsOf (c0.fdiv 243) 4).length = 4 := by simp [signsOf]
  generalize signsOf (c0.fdiv 243) 4 = sg at hpo hsl
  generalize hσ : (St.set _ _ _) = σ1
  have m2 : σ1.loc "cells" = some (.fv (.list (cs.map .int))) := by subst hσ; walk_at "loc"
  have m3 : σ1.loc "signs" = some (.fv (.str sg)) := by subst hσ; walk_at "loc"
  clear hσ m1
  -- name
  refine EX_cons (EX1_assign_cell (c := L + 3) (v := .fv (.list ((lName sg c0).map .str))) (Vx (EV_comp1 [(Str.ofString "signs", L + 2), (Str.ofString "cells", L + 1)] ["cells", "signs"] (List.range 5) (fun i : Nat => [(Str.ofString "place", FV.int i)])
    (fun p : Nat => some (FV.str [sg.getD (((c0.fdiv (3 ^ p) + p).fmod 3).toNat) 0])) ["place"] (by kernel_rfl) (SRC_range1 (m := 5) (by (exact ⟨by kernel_rfl, by decide +kernel, by kernel_rfl, by decide +kernel, by decide +kernel⟩)) EV_int (by decide) (by decide) (by rfl)) (by rfl) (by intro x; rfl) (by decide +kernel) rfl (by decide +kernel)
    (fun x hx => by simp only [List.mem_cons, List.not_mem_nil, or_false] at hx; rcases hx with rfl | rfl <;> exact ⟨by kernel_rfl, by kernel_rfl, by kernel_rfl⟩) (fun _ => rfl) (fun x hx => by cases List.mem_singleton.mp hx; kernel_rfl) ?_) ?_) (by kernel_rfl) (by kernel_rfl) (inj_of hap (by kernel_rfl)) (by kernel_rfl) ?_)
  · intro p hp L'
    refine ⟨EVt_nil, fun r hr => ?_⟩
    cases hr
    have hp5 : p < 5 := List.mem_range.mp hp
    obtain ⟨k, hk⟩ := Int.eq_ofNat_of_zero_le (show 0 ≤ (c0.fdiv (3 ^ p) + p).fmod 3 from Int.fmod_nonneg_of_pos _ (by decide))
    have hk3 := fmod3_lt (c0.fdiv (3 ^ p) + p)
    rw [hk] at hk3 ⊢
    rw [Int.toNat_natCast] at hk3 ⊢
    refine EV_sub (v := .fv (.str sg)) (i := k) (EV_name (free_loc (y := "place") m3 (by simp) (by decide +kernel)) (by decide +kernel)) (Vx (EV_bin (f := .int (c0.fdiv (3 ^ p) + p)) (g := .int 3) (EV_bin (f := .int (c0.fdiv (3 ^ p))) (g := .int p)
      (EV_bin (f := .int c0) (g := .int (3 ^ p)) (EV_sub (v := .fv (.list (cs.map .int))) (i := 0) (EV_name (free_loc (y := "place") m2 (by simp) (by decide +kernel)) (by decide +kernel)) EV_int (by exact item_list_nat (k := 0) (by rw [List.getElem?_map, hc0]; rfl)) (by rfl) (by (intro _ _; rfl)))
        (EV_bin (f := .int 3) (g := .int p) EV_int (EV_name (loc_same _ _ _) (by decide +kernel)) (by exact bin_pow ⟨by (first | lia | omega), by (first | lia | omega), by decide⟩)) (bin_fdiv ?_)) (EV_name (loc_same _ _ _) (by decide +kernel)) (by rfl)) EV_int (bin_mod (by decide))) (by rw [hk])) (item_str_nat (get_getD (by rw [hsl]; (first | lia | omega)))) (by rfl) (by (intro _ _; rfl))
    have : p = 0 ∨ p = 1 ∨ p = 2 ∨ p = 3 ∨ p = 4 := by (first | lia | omega)
    rcases this with rfl | rfl | rfl | rfl | rfl <;> decide
  · rw [fmap_some, lName, List.map_map]; rfl
  -- pieces
  refine EX_cons (EX1_assign_cell (c := L + 4) (v := .fv (.tup ((lPieces sg).map .str))) (show EV _ _ _ (.fv (.tup ((lPieces sg).map .str))) from EV_tuple (xs := [.str [42], .str [63], .str [sg.getD 0 0], .str [sg.getD 1 0], .str [sg.getD 2 0], .str [42, 42], .str [63, 42], .str [sg.getD 3 0]])
    (.cons (EV_lit (by decide +kernel) ⟨by decide, by decide⟩) (.cons (EV_lit (by decide +kernel) ⟨by decide, by decide⟩)
      (.cons (EV_sub (v := .fv (.str sg)) (i := 0) (by walk_at "ev") EV_int (by exact item_str_nat (k := 0) (get_getD (by rw [hsl]; decide))) (by rfl) (by (intro _ _; rfl)))
      (.cons (EV_sub (v := .fv (.str sg)) (i := 1) (by walk_at "ev") EV_int (by exact item_str_nat (k := 1) (get_getD (by rw [hsl]; decide))) (by rfl) (by (intro _ _; rfl)))
      (.cons (EV_sub (v := .fv (.str sg)) (i := 2) (by walk_at "ev") EV_int (by exact item_str_nat (k := 2) (get_getD (by rw [hsl]; decide))) (by rfl) (by (intro _ _; rfl)))
      (.cons (EV_lit (by decide +kernel) ⟨by decide, by decide⟩) (.cons (EV_lit (by decide +kernel) ⟨by decide, by decide⟩)
      (.cons (EV_sub (v := .fv (.str sg)) (i := 3) (by walk_at "ev") EV_int (by exact item_str_nat (k := 3) (get_getD (by rw [hsl]; decide))) (by rfl) (by (intro _ _; rfl))) .nil (by rfl)) (by rfl)) (by rfl)) (by rfl)) (by rfl)) (by rfl)) (by rfl)) (by rfl)) (by show (8 : Nat) ≤ 1000; decide)) (by kernel_rfl) (by kernel_rfl) (inj_of hap (by kernel_rfl)) (by kernel_rfl) ?_)
  obtain ⟨hpl, hpc⟩ := lPat_ok hpo (cs.drop 1)
  have hpsl : (lPieces sg).length = 8 := rfl
  rw [List.length_drop] at hpl
  generalize hσ : (St.set (St.set _ _ _) _ _) = σ2
  have k1 : σ2.loc "cells" = some (.fv (.list (cs.map .int))) := by subst hσ; walk_at "loc"
  have k2 : σ2.loc "name" = some (.fv (.list ((lName sg c0).map .str))) := by subst hσ; walk_at "loc"
  have k3 : σ2.loc "pieces" = some (.fv (.tup ((lPieces sg).map .str))) := by subst hσ; walk_at "loc"
  clear hσ m2 m3
  have hnl : (lName sg c0).length = 5 := by simp [lName]
  have hn1 : ∀ s ∈ lName sg c0, s.length = 1 := fun s hs => by obtain ⟨i, _, rfl⟩ := List.mem_map.mp hs; rfl
  generalize lName sg c0 = nm at k2 hnl hn1
  generalize lPieces sg = pc at k3 hpl hpc hpsl
  clear hpo
  -- pattern
  refine EX_cons (EX1_assign (v := .fv (.str (lPat pc (cs.drop 1)))) (EV_join (ls := (cs.drop 1).map fun c => pc.getD ((c.fmod 8).toNat) []) (by decide +kernel) (EV_comp1 [(Str.ofString "pieces", L + 4)] ["pieces"] (cs.drop 1) (fun c : Int => [(Str.ofString "cell", FV.int c)])
    (fun c : Int => some (FV.str (pc.getD ((c.fmod 8).toNat) []))) ["cell"] (by kernel_rfl) (SRC_list (EV_slice_list (lo := some ((1 : Nat) : Int)) (hi := none) (by walk_at "ev") (by exact EV_int) (by exact trivial))) ?_ (by intro x; rfl) (by decide +kernel) rfl (by decide +kernel)
    (fun x hx => by cases List.mem_singleton.mp hx; exact ⟨by kernel_rfl, by kernel_rfl, by kernel_rfl⟩) (fun _ => rfl) (fun x hx => by cases List.mem_singleton.mp hx; kernel_rfl) ?_) (.inl ?_) ?_ (by rfl) (by rfl) (by rfl)) (by kernel_rfl) (by kernel_rfl) ?_)
  · rw [cutN_from, ← List.map_drop, List.map_map]; rfl
  · intro c hc L'
    refine ⟨EVt_nil, fun r hr => ?_⟩
    cases hr
    obtain ⟨k, hk⟩ := Int.eq_ofNat_of_zero_le (show 0 ≤ c.fmod 8 from Int.fmod_nonneg_of_pos _ (by decide))
    have hk8 := fmod8_lt c
    rw [hk] at hk8 ⊢
    rw [Int.toNat_natCast] at hk8 ⊢
    refine EV_sub (v := .fv (.tup (pc.map .str))) (i := k) (EV_name (free_loc (y := "cell") k3 (by simp) (by decide +kernel)) (by decide +kernel)) (Vx (EV_bin (f := .int c) (g := .int 8) (EV_name (loc_same _ _ _) (by decide +kernel)) EV_int (bin_mod (by decide))) (by rw [hk])) ?_ (by rfl) (by (intro _ _; rfl))
    show (itemOf (pc.map FV.str) (k : Int)).map AV.fv = _
    rw [itemOf_nat (x := FV.str (pc.getD k [])) (by rw [List.getElem?_map, List.getD_eq_getElem?_getD, List.getElem?_eq_getElem (by (first | lia | omega))]; rfl)]; rfl
  · rw [fmap_some, List.map_map]; rfl
  · exact Nat.le_trans hpl (by (first | lia | omega))
  generalize hpat : lPat pc (cs.drop 1) = pat at hpl hpc
  clear hpat
  refine goal6 nm pat hnl hn1 (by (first | lia | omega)) hpc (by rfl) (by rfl) A L fa cd' hfr _ ⟨?_, ?_⟩
  · walk_at "loc"
  · walk_at "loc"
end Mine
end
/-! Ew5 -/
section
open PySem PySem.W PyProof.Rows PySem.Builtin PySem.Builtin.Str
namespace Mine
theorem taken_map (os : List (List Nat)) (t : List Nat → Bool) : (os.filterMap fun o => if t o then some (FV.str o) else none) = (os.filter t).map .str := by
  induction os with
  | nil => rfl
  | cons o os ih =>
    rw [List.filterMap_cons, List.filter_cons]
    cases t o <;> simp [ih]
noncomputable def gPlain : Option (List Nat) → Option FV
  | none => none
  | some s => if s == [63] then none else some (.str [s.getLastD 0])
theorem gPlain_map (ps : List (Option (List Nat))) : ps.filterMap gPlain = (plainOf ps).map .str := by
  unfold plainOf
  induction ps with
  | nil => rfl
  | cons x ps ih =>
    rw [List.filterMap_cons, List.filterMap_cons]
    cases x with
    | none => exact ih
    | some s =>
      simp only [gPlain]
      by_cases h : (s == [63]) = true
      · rw [if_pos h, if_pos h]; exact ih
      · rw [if_neg h, if_neg h, ih]; rfl
theorem gPlain_some (x : Option (List Nat)) : (gPlain x).isSome = plainPart x := by
  cases x with
  | none => rfl
  | some s =>
    simp only [gPlain, plainPart]
    by_cases h : (s == [63]) = true <;> simp [h]
theorem getLast_D {s : List Nat} (h : s ≠ []) : s.getLast? = some (s.getLastD 0) := by
  cases s with
  | nil => exact absurd rfl h
  | cons a l => rw [List.getLast?_cons, List.getLastD_cons, List.getLastD_eq_getLast?]
theorem sFV_o (x : Option (List Nat)) : sFV .none x = oFV x := by cases x <;> rfl
theorem sFVs_o (ps : List (Option (List Nat))) : ps.map (sFV .none) = ps.map oFV := List.map_congr_left fun x _ => sFV_o x

set_option maxHeartbeats 4000000
theorem tail6 (P : Params) (mb : Str → Option Value) (prog : Program) (w : World) (nm : List (List Nat)) (pat : List Nat) (hnl : nm.length = 5) (hn1 : ∀ s ∈ nm, s.length = 1) (hpl : pat.length ≤ 10) (hpc : ∀ c ∈ pat, c < 128 ∧ c ≠ 91)
    (goal10 : TailGoal 10 P mb prog w (fun σ => σ.loc "name" = some (.fv (.list (nm.map .str))) ∧ σ.loc "taken" = some (.fv (.list (((ordersL nm).filter (takesB (piecesOf (joinTr (trans [46] pat))))).map .str))) ∧
      σ.loc "parts" = some (.fv (.list ((trans [63] pat).map oFV))) ∧ σ.loc "plain" = some (.fv (.list ((plainOf (trans [63] pat)).map .str)))) (lawEnd nm pat ((ordersL nm).filter (takesB (piecesOf (joinTr (trans [46] pat))))))) :
    TailGoal 6 P mb prog w (fun σ => σ.loc "name" = some (.fv (.list (nm.map .str))) ∧ σ.loc "pattern" = some (.fv (.str pat))) (lawEnd nm pat ((ordersL nm).filter (takesB (piecesOf (joinTr (trans [46] pat)))))) := by
  refine tail_intro (hK := by rfl) (hdat := by rfl) ?_
  rintro A L fa cd' hfr σ ⟨m1, m2⟩
  have hap : ([(Str.ofString "plain", L + 6), (Str.ofString "read", L + 5), (Str.ofString "pieces", L + 4), (Str.ofString "name", L + 3), (Str.ofString "signs", L + 2), (Str.ofString "cells", L + 1)] : List (Str × Addr)).Pairwise fun x y => x.2 ≠ y.2 := by
    simp
  have hjl : (joinTr (trans [46] pat)).length ≤ 1000 := by
    have h1 := join_len (trans_good [46] (by decide) pat [] trivial (fun _ h => by cases h)).2
    have h2 := trans_len [46] pat []
    rw [List.length_nil, Nat.zero_add] at h2
    have h1' : (joinTr (trans [46] pat)).length ≤ 7 + 9 * (trans [46] pat).length := h1
    have h2' : (trans [46] pat).length ≤ pat.length := h2
    (first | lia | omega)
  have hrne : piecesOf (joinTr (trans [46] pat)) ≠ [] := by
    simp only [piecesOf]
    split <;> simp
  refine EX_cons (EX1_assign_cell (c := L + 5) (v := .fv (pcs (piecesOf (joinTr (trans [46] pat))))) (EV_call1 (by (exact ⟨by kernel_rfl, by decide +kernel, by kernel_rfl, ⟨_, _, rfl, rfl⟩⟩)) (pieces_calls P mb prog w _ hjl) (by (exact Nat.le_of_ble_eq_true rfl))
    (EV_call1 (by (exact ⟨by kernel_rfl, by decide +kernel, by kernel_rfl, ⟨_, _, rfl, rfl⟩⟩)) (tr_calls P mb prog w pat (by (first | lia | omega)) hpc) (by (exact Nat.le_of_ble_eq_true rfl)) (by walk_at "ev") (by rfl)) (by rfl)) (by kernel_rfl) (by kernel_rfl) (inj_of hap (by kernel_rfl)) (by kernel_rfl) ?_)
  generalize piecesOf (joinTr (trans [46] pat)) = rd at hrne goal10 ⊢
  refine EX_cons (EX1_assign_comp1 [(Str.ofString "read", L + 5)] ["read"] (ordersL nm) (fun o => [(Str.ofString "order", FV.str o)]) (fun o => if takesB rd o then some (FV.str o) else none) ["order"] (by kernel_rfl)
    (SRC_list (EV_call1 (by (exact ⟨by kernel_rfl, by decide +kernel, by kernel_rfl, ⟨_, _, rfl, rfl⟩⟩)) (orders_calls P mb prog w nm (by (first | lia | omega)) hn1) (by (exact Nat.le_of_ble_eq_true rfl)) (by walk_at "ev") (by rfl))) (by rw [List.map_map]; rfl) (by intro x; rfl) (by decide +kernel) rfl (by decide +kernel)
    (fun x hx => by cases List.mem_singleton.mp hx; exact ⟨by kernel_rfl, by kernel_rfl, by kernel_rfl⟩) (fun _ => rfl) (fun x hx => by cases List.mem_singleton.mp hx; kernel_rfl) ?_ (by kernel_rfl) (by kernel_rfl) ?_)
  · intro o ho L'
    refine ⟨?_, fun r hr => ?_⟩
    · have e : (if takesB rd o then some (FV.str o) else none).isSome = takesB rd o := by cases takesB rd o <;> rfl
      rw [e]
      exact EVt_one (EVb_value (v := .fv (.bool (takesB rd o))) (EV_call2 (by (exact ⟨by kernel_rfl, by decide +kernel, by kernel_rfl, ⟨_, _, rfl, rfl⟩⟩)) (takes_calls P mb prog w rd o hrne) (by (exact Nat.le_of_ble_eq_true rfl)) (EV_name (free_loc (y := "order") (loc_same _ _ _) (by simp) (by decide +kernel)) (by decide +kernel)) (EV_name (loc_same _ _ _) (by decide +kernel)) (by rfl) (by rfl)) (by rfl) (by (intro _ _; rfl)))
    · by_cases h : takesB rd o = true
      · rw [if_pos h] at hr; cases hr
        exact EV_name (loc_same _ _ _) (by decide +kernel)
      · rw [if_neg h] at hr; cases hr
  rw [taken_map]
  refine EX_cons (EX1_assign (v := .fv (.list ((trans [63] pat).map oFV))) (Vx (EV_call3 (by (exact ⟨by kernel_rfl, by decide +kernel, by kernel_rfl, ⟨_, _, rfl, rfl⟩⟩)) (translate_calls P mb prog w pat [63] .none (.inl rfl) (by (first | lia | omega)) hpc) (by (exact Nat.le_of_ble_eq_true rfl)) (by walk_at "ev") EV_none (EV_lit (by decide +kernel) ⟨by decide, by decide⟩) (by rfl) (by rfl) (by rfl)) (by rw [sFVs_o])) (by kernel_rfl) (by kernel_rfl) ?_)
  have htn := trans_ne [63] (by decide) pat [] (fun _ h => by cases h)
  have htn' : ∀ s, some s ∈ trans [63] pat → s ≠ [] := htn
  clear htn
  generalize trans [63] pat = ps at htn' goal10 ⊢
  refine EX_cons (EX1_assign_cell (c := L + 6) (v := .fv (.list ((plainOf ps).map .str))) (Vx (EV_comp0 ps (fun x => [(Str.ofString "part", oFV x)]) gPlain ["part"] (SRC_list (by walk_at "ev")) (by rw [List.map_map]; rfl) (by intro x; rfl) (by decide +kernel) (by decide +kernel) rfl (by decide +kernel) (fun _ => rfl)
    (fun x hx => by cases List.mem_singleton.mp hx; kernel_rfl) ?_) (by rw [gPlain_map])) (by kernel_rfl) (by kernel_rfl) (inj_of hap (by kernel_rfl)) (by kernel_rfl) ?_)
  · intro x hx L'
    refine ⟨?_, fun r hr => ?_⟩
    · rw [gPlain_some]
      exact EVt_one (EVb_cmp (op := .NotIn) (f := oFV x) (g := .tup [.none, .str [63]]) (EV_name (loc_same _ _ _) (by decide +kernel)) (EV_tuple (xs := [.none, .str [63]]) (.cons EV_none (.cons (EV_lit (by decide +kernel) ⟨by decide, by decide⟩) .nil (by rfl)) (by rfl)) (by decide)) (cmp_o x) (by rfl))
    · cases x with
      | none => cases hr
      | some s =>
        simp only [gPlain] at hr
        by_cases h : (s == [63]) = true
        · rw [if_pos h] at hr; cases hr
        · rw [if_neg h] at hr; cases hr
          exact EV_sub (v := .fv (.str s)) (i := -1) (EV_name (loc_same _ _ _) (by decide +kernel)) (EV_neg EV_int) (item_str_last (getLast_D (htn' s hx))) (by rfl) (by (intro _ _; rfl))
  refine goal10 (by rfl) (by rfl) A L fa cd' hfr _ ⟨?_, ?_, ?_, ?_⟩
  · walk_at "loc"
  · walk_at "loc"
  · walk_at "loc"
  · walk_at "loc"
end Mine
end
/-! Ew6 -/
section
open PySem PySem.W PyProof.Rows PySem.Builtin PySem.Builtin.Str
namespace Mine
noncomputable def lawEndQ (name : List (List Nat)) (parts : List (Option (List Nat))) (taken plain missing left : List (List Nat)) : Bool :=
  if !(missing == lackingOf plain name && left == keptOf plain name) then false
  else
    let over : Int := (left.length : Int) - (parts.count (some [63]) : Nat)
    let stars := parts.count none
    if !missing.isEmpty || (decide (over < 0) || (decide (over > 0) && stars == 0)) then taken.isEmpty
    else
      let amount := amountOf (rowsOf left) left.length
      if togetherB parts then taken.length == amount
      else decide (amount ≤ taken.length) && decide (taken.length ≤ amount * (facN (over.toNat + stars - 1) / facN (stars - 1) / facN over.toNat))
noncomputable def lawEndP (name : List (List Nat)) (parts : List (Option (List Nat))) (taken : List (List Nat)) : Bool :=
  lawEndQ name parts taken (plainOf parts) (uld (plainOf parts) name).1 (uld (plainOf parts) name).2
noncomputable def lackG (plain name : List (List Nat)) (i : Nat) : Option (List Nat) :=
  if name.count (plain.getD (plain.length - 1 - i) []) < (plain.drop (plain.length - 1 - i)).count (plain.getD (plain.length - 1 - i) []) then some (plain.getD (plain.length - 1 - i) []) else none
noncomputable def keptG (plain name : List (List Nat)) (q : List Nat × Nat) : Option (List Nat) := if plain.count q.1 ≤ (name.take q.2).count q.1 then some q.1 else none
theorem fmap_opt {α β γ : Type} (h : α → Option β) (f : β → γ) (l : List α) : (l.filterMap fun x => (h x).map f) = (l.filterMap h).map f := by
  induction l with
  | nil => rfl
  | cons x l ih =>
    rw [List.filterMap_cons, List.filterMap_cons, ih]
    cases h x <;> rfl
theorem all_scal (l : List (List Nat)) : (l.map FV.str).all scal = true := by
  rw [List.all_eq_true]
  intro x hx
  obtain ⟨s, _, rfl⟩ := List.mem_map.mp hx
  rfl
theorem all_scal_o (l : List (Option (List Nat))) : (l.map oFV).all scal = true := by
  rw [List.all_eq_true]
  intro x hx
  obtain ⟨s, _, rfl⟩ := List.mem_map.mp hx
  exact scal_o s
theorem cnt_o (l : List (Option (List Nat))) (x : Option (List Nat)) : ((l.map oFV).countP fun y => eqS y (oFV x)) = l.count x := by
  rw [← sFVs_o, ← sFV_o]; exact cnt_part l x
theorem isSome_ite {α : Type} {c : Prop} [Decidable c] {a : α} : (if c then some a else none).isSome = decide c := by by_cases h : c <;> simp [h]
theorem foldl_div_le (rows : List (Nat × List Nat)) : ∀ a : Nat, rows.foldl (fun a r => a / facN r.1) a ≤ a := by
  induction rows with
  | nil => intro a; exact Nat.le_refl _
  | cons r rows ih =>
    intro a
    rw [List.foldl_cons]
    exact Nat.le_trans (ih _) (Nat.div_le_self _ _)
theorem amountOf_le (rows : List (Nat × List Nat)) (n : Nat) : amountOf rows n ≤ facN n := foldl_div_le rows _
theorem rowsOf_le (l : List (List Nat)) : ∀ r ∈ rowsOf l, r.1 ≤ l.length := fun r hr => by
  obtain ⟨x, _, rfl⟩ := List.mem_map.mp hr
  exact List.count_le_length
theorem fdiv_nat (a b : Nat) : ((a : Int)).fdiv (b : Int) = ((a / b : Nat) : Int) := by
  rw [Int.natCast_ediv, Int.fdiv_eq_ediv_of_nonneg _ (by (first | lia | omega))]
theorem mapmap_str (l : List (List Nat)) : (l.map FV.str).length = l.length := List.length_map ..

set_option maxHeartbeats 4000000
theorem tail10 (P : Params) (mb : Str → Option Value) (prog : Program) (w : World) (nm : List (List Nat)) (ps : List (Option (List Nat))) (tk : List (List Nat)) (hnl : nm.length = 5) (hps : ps.length ≤ 10)
    (goal13 : ∀ plain mis lef : List (List Nat), lef.length ≤ 5 →
      TailGoal 13 P mb prog w (fun σ => σ.loc "taken" = some (.fv (.list (tk.map .str))) ∧ σ.loc "parts" = some (.fv (.list (ps.map oFV))) ∧ σ.loc "missing" = some (.fv (.list (mis.map .str))) ∧ σ.loc "left" = some (.fv (.list (lef.map .str))) ∧
        σ.loc "lacking" = some (.fv (.list ((lackingOf plain nm).map .str))) ∧ σ.loc "kept" = some (.fv (.list ((keptOf plain nm).map .str)))) (lawEndQ nm ps tk plain mis lef)) :
    TailGoal 10 P mb prog w (fun σ => σ.loc "name" = some (.fv (.list (nm.map .str))) ∧ σ.loc "taken" = some (.fv (.list (tk.map .str))) ∧
      σ.loc "parts" = some (.fv (.list (ps.map oFV))) ∧ σ.loc "plain" = some (.fv (.list ((plainOf ps).map .str)))) (lawEndP nm ps tk) := by
  refine tail_intro (hK := by rfl) (hdat := by rfl) ?_
  rintro A L fa cd' hfr σ ⟨m1, m2, m3, m4⟩
  have hpl : (plainOf ps).length ≤ 10 := Nat.le_trans (List.length_filterMap_le _ _) hps
  have hul := uld_len (plainOf ps) nm
  rw [show lawEndP nm ps tk = lawEndQ nm ps tk (plainOf ps) (uld (plainOf ps) nm).1 (uld (plainOf ps) nm).2 from rfl]
  generalize plainOf ps = plain at m4 hpl hul ⊢
  refine EX_cons (EX1_unpackA (ps := [(Str.ofString "missing", _), (Str.ofString "left", _)]) (fs := [.list ((uld plain nm).1.map .str), .list ((uld plain nm).2.map .str)]) (EVA_uld (P := P) (exp := plain) (act := nm) rfl rfl (by (exact ⟨by kernel_rfl, by decide +kernel, by kernel_rfl, ⟨_, _, rfl, rfl⟩⟩)) (by (first | lia | omega)) (by walk_at "ev") (fun σ' e => EV_name (by rw [e]; exact m1) (by decide +kernel)) (by (exact Nat.le_of_ble_eq_true rfl)) hfr rfl (by rfl) (by rfl))
    (by rfl) (fun x hx => by simp only [List.mem_cons, List.not_mem_nil, or_false] at hx; rcases hx with rfl | rfl <;> kernel_rfl) (by kernel_rfl) (by kernel_rfl) (by rfl) (by rfl) ?_)
  show EX _ ((St.set _ _ _).set _ _) _ _
  generalize (uld plain nm).1 = mis
  generalize (uld plain nm).2 = lef at hul ⊢
  -- lacking
  have hget : ∀ i, i < plain.length → plain[plain.length - 1 - i]? = some (plain.getD (plain.length - 1 - i) []) := fun i hi => by
    rw [List.getD_eq_getElem?_getD, List.getElem?_eq_getElem (by (first | lia | omega))]; rfl
  refine EX_cons (EX1_assign_comp1 [(Str.ofString "plain", L + 6), (Str.ofString "name", L + 3)] ["name", "plain"] (List.range plain.length) (fun i => [(Str.ofString "place", FV.int ((plain.length - 1 - i : Nat) : Int))]) (fun i => (lackG plain nm i).map FV.str) ["place"] (by kernel_rfl)
    (SRC_down (a := (plain.length : Int) - 1) (m := -1) (by (exact ⟨by kernel_rfl, by decide +kernel, by kernel_rfl, by decide +kernel, by decide +kernel⟩)) (EV_bin (f := .int plain.length) (g := .int 1) (EV_len (v := .fv (.list (plain.map .str))) (n := plain.length) (by (exact ⟨by kernel_rfl, by decide +kernel, by kernel_rfl, by decide +kernel, by decide +kernel⟩)) (by walk_at "ev") (by rw [lenAV, mapmap_str]) (by rfl)) EV_int (by rfl)) (EV_neg EV_int) (EV_neg EV_int) (by (first | lia | omega)) (by (first | lia | omega)) (by rfl) (by rfl) (by rfl)) ?_ (by intro x; rfl) (by decide +kernel) rfl (by decide +kernel)
    (fun x hx => by simp only [List.mem_cons, List.not_mem_nil, or_false] at hx; rcases hx with rfl | rfl <;> exact ⟨by kernel_rfl, by kernel_rfl, by kernel_rfl⟩) (fun _ => rfl) (fun x hx => by cases List.mem_singleton.mp hx; kernel_rfl) ?_ (by kernel_rfl) (by kernel_rfl) ?_)
  · rw [show ((plain.length : Int) - 1 - -1).toNat = plain.length by (first | lia | omega)]
    refine List.map_congr_left fun i hi => ?_
    have := List.mem_range.mp hi
    rw [show (plain.length : Int) - 1 - (i : Int) = ((plain.length - 1 - i : Nat) : Int) by (first | lia | omega)]
  · intro i hi L'
    have hi' := List.mem_range.mp hi
    have hg := hget i hi'
    generalize hp : plain.length - 1 - i = p at hg ⊢
    have hlg : lackG plain nm i = if nm.count (plain.getD p []) < (plain.drop p).count (plain.getD p []) then some (plain.getD p []) else none := by unfold lackG; rw [hp]
    rw [hlg]
    generalize plain.getD p [] = x at hg
    have n1 : ((frees ((((σ.set "missing" (.fv (.list (mis.map .str)))).set "left" (.fv (.list (lef.map .str)))))) ["name", "plain"]).set "place" (.fv (.int (p : Int)))).loc "plain" = some (.fv (.list (plain.map .str))) := free_loc (by walk_at "loc") (by simp) (by decide +kernel)
    have n2 : ((frees ((((σ.set "missing" (.fv (.list (mis.map .str)))).set "left" (.fv (.list (lef.map .str)))))) ["name", "plain"]).set "place" (.fv (.int (p : Int)))).loc "name" = some (.fv (.list (nm.map .str))) := free_loc (by walk_at "loc") (by simp) (by decide +kernel)
    have hitem : ∀ σ', itemAV σ' (.fv (.list (plain.map .str))) ((p : Nat) : Int) = some (.fv (.str x)) := fun σ' => item_list_nat (by rw [List.getElem?_map, hg]; rfl)
    refine ⟨?_, fun r hr => ?_⟩
    · rw [Option.isSome_map, isSome_ite]
      refine EVt_one (Bx (EVb_cmp (op := .Gt) (f := .int ((plain.drop p).count x : Nat)) (g := .int (nm.count x : Nat))
        (Vx (EV_count (f := .str x) (EV_slice_list (lo := some ((p : Nat) : Int)) (hi := none) (EV_name n1 (by decide +kernel)) (EV_name (loc_same _ _ _) (by decide +kernel)) (by exact trivial)) (EV_sub (v := .fv (.list (plain.map .str))) (i := (p : Int)) (EV_name n1 (by decide +kernel)) (EV_name (loc_same _ _ _) (by decide +kernel)) (hitem _) (by rfl) (by (intro _ _; rfl))) ?_ rfl (by rfl) (by rfl) (by rfl)) ?_)
        (Vx (EV_count (f := .str x) (EV_name n2 (by decide +kernel)) (EV_sub (v := .fv (.list (plain.map .str))) (i := (p : Int)) (EV_name n1 (by decide +kernel)) (EV_name (loc_same _ _ _) (by decide +kernel)) (hitem _) (by rfl) (by (intro _ _; rfl))) (all_scal _) rfl (by rfl) (by rfl) (by rfl)) (by rw [cnt_strs])) (by rfl) (by rfl)) ?_)
      · rw [cutN_from, ← List.map_drop]; exact all_scal _
      · rw [cutN_from, ← List.map_drop, cnt_strs]
      · by_cases h : nm.count x < (plain.drop p).count x
        · rw [decide_eq_true h, decide_eq_true (by (first | lia | omega))]
        · rw [decide_eq_false h, decide_eq_false (by (first | lia | omega))]
    · by_cases h : nm.count x < (plain.drop p).count x
      · rw [if_pos h] at hr; cases hr
        exact EV_sub (v := .fv (.list (plain.map .str))) (i := (p : Int)) (EV_name n1 (by decide +kernel)) (EV_name (loc_same _ _ _) (by decide +kernel)) (hitem _) (by rfl) (by (intro _ _; rfl))
      · rw [if_neg h] at hr; cases hr
  rw [fmap_opt, show (List.range plain.length).filterMap (lackG plain nm) = lackingOf plain nm from rfl]
  -- kept
  refine EX_cons (EX1_assign_comp1 [(Str.ofString "plain", L + 6), (Str.ofString "name", L + 3)] ["name", "plain"] nm.zipIdx (fun q => [(Str.ofString "place", FV.int q.2), (Str.ofString "sign", FV.str q.1)]) (fun q => (keptG plain nm q).map FV.str) ["place", "sign"] (by kernel_rfl)
    (SRC_enum (xs := nm.map .str) (by (exact ⟨by kernel_rfl, by decide +kernel, by kernel_rfl, by decide +kernel, by decide +kernel⟩)) (by walk_at "ev") (by rfl)) ?_ (by intro x; rfl) (by decide +kernel) rfl (by decide +kernel)
    (fun x hx => by simp only [List.mem_cons, List.not_mem_nil, or_false] at hx; rcases hx with rfl | rfl <;> exact ⟨by kernel_rfl, by kernel_rfl, by kernel_rfl⟩) (fun _ => rfl) (fun x hx => by simp only [List.mem_cons, List.not_mem_nil, or_false] at hx; rcases hx with rfl | rfl <;> kernel_rfl) ?_ (by kernel_rfl) (by kernel_rfl) ?_)
  · rw [List.zipIdx_map, List.map_map]; rfl
  · rintro ⟨x, p⟩ hx L'
    have n1 : ∀ σ : St, σ.loc "plain" = some (.fv (.list (plain.map .str))) → ((((frees σ ["name", "plain"]).set "place" (.fv (.int (p : Int)))).set "sign" (.fv (.str x)))).loc "plain" = some (.fv (.list (plain.map .str))) := fun σ h => free_loc2 h (by simp) (by decide +kernel) (by decide +kernel)
    have n2 : ∀ σ : St, σ.loc "name" = some (.fv (.list (nm.map .str))) → ((((frees σ ["name", "plain"]).set "place" (.fv (.int (p : Int)))).set "sign" (.fv (.str x)))).loc "name" = some (.fv (.list (nm.map .str))) := fun σ h => free_loc2 h (by simp) (by decide +kernel) (by decide +kernel)
    have n3 : ∀ σ : St, (((σ.set "place" (.fv (.int (p : Int)))).set "sign" (.fv (.str x)))).loc "place" = some (.fv (.int (p : Int))) := fun σ => (loc_ne (by decide +kernel)).trans (loc_same _ _ _)
    refine ⟨?_, fun r hr => ?_⟩
    · rw [Option.isSome_map, keptG, isSome_ite]
      refine EVt_one (Bx (EVb_cmp (op := .GtE) (f := .int ((nm.take p).count x : Nat)) (g := .int (plain.count x : Nat))
        (Vx (EV_count (f := .str x) (EV_slice_list (lo := none) (hi := some ((p : Nat) : Int)) (EV_name (n2 _ (by walk_at "loc")) (by decide +kernel)) (by exact trivial) (EV_name (n3 _) (by decide +kernel))) (EV_name (loc_same _ _ _) (by decide +kernel)) ?_ rfl (by rfl) (by rfl) (by rfl)) ?_)
        (Vx (EV_count (f := .str x) (EV_name (n1 _ (by walk_at "loc")) (by decide +kernel)) (EV_name (loc_same _ _ _) (by decide +kernel)) (all_scal _) rfl (by rfl) (by rfl) (by rfl)) (by rw [cnt_strs])) (by rfl) (by rfl)) ?_)
      · rw [cutN_to, ← List.map_take]; exact all_scal _
      · rw [cutN_to, ← List.map_take, cnt_strs]
      · by_cases h : plain.count x ≤ (nm.take p).count x
        · rw [decide_eq_true h, decide_eq_true (by (first | lia | omega))]
        · rw [decide_eq_false h, decide_eq_false (by (first | lia | omega))]
    · rw [keptG] at hr
      by_cases h : plain.count x ≤ (nm.take p).count x
      · rw [if_pos h] at hr; cases hr
        exact EV_name (loc_same _ _ _) (by decide +kernel)
      · rw [if_neg h] at hr; cases hr
  rw [fmap_opt, show nm.zipIdx.filterMap (keptG plain nm) = keptOf plain nm from rfl]
  refine goal13 plain mis lef (by (first | lia | omega)) (by rfl) (by rfl) A L fa cd' hfr _ ⟨?_, ?_, ?_, ?_, ?_, ?_⟩
  · walk_at "loc"
  · walk_at "loc"
  · walk_at "loc"
  · walk_at "loc"
  · walk_at "loc"
  · walk_at "loc"
end Mine
end
/-! Pl4 -/
section
namespace PL
/-- the orders that some template fits -/
noncomputable def takenL (ts : List Tk) (as : List Nat) : List (List Nat) := (ords as).filter fun o => (tpl ts as.length).any fun t => fitsT t o

theorem filter_any_le {α β : Type} (p : β → α → Bool) (l : List α) : ∀ ts : List β, (l.filter fun o => ts.any fun t => p t o).length ≤ (ts.map fun t => (l.filter (p t)).length).sum
  | [] => by simp
  | t :: ts => by
    have ih := filter_any_le p l ts
    rw [List.map_cons, List.sum_cons]
    have h : ∀ l : List α, (l.filter fun o => (t :: ts).any fun t => p t o).length ≤ (l.filter (p t)).length + (l.filter fun o => ts.any fun t => p t o).length := by
      intro l
      induction l with
      | nil => simp
      | cons x l ih =>
        simp only [List.filter_cons, List.any_cons] at ih ⊢
        cases p t x <;> cases (ts.any fun t => p t x) <;> simp <;> (first | lia | omega)
    have := h l
    (first | lia | omega)
theorem sum_const {β : Type} (ts : List β) (f : β → Nat) (c : Nat) (h : ∀ t ∈ ts, f t = c) : (ts.map f).sum = c * ts.length := by
  induction ts with
  | nil => simp
  | cons t ts ih =>
    rw [List.map_cons, List.sum_cons, h t (List.mem_cons_self ..), ih fun t ht => h t (List.mem_cons_of_mem _ ht), List.length_cons, Nat.mul_succ]
    (first | lia | omega)
theorem filter_le_any {α β : Type} (p : β → α → Bool) (l : List α) {t : β} {ts : List β} (h : t ∈ ts) : (l.filter (p t)).length ≤ (l.filter fun o => ts.any fun t => p t o).length := by
  induction l with
  | nil => simp
  | cons x l ih =>
    simp only [List.filter_cons]
    by_cases hp : p t x = true
    · have : (ts.any fun t => p t x) = true := List.any_eq_true.mpr ⟨t, h, hp⟩
      rw [if_pos hp, if_pos this]; simpa using ih
    · rw [if_neg hp]
      split
      · simp; (first | lia | omega)
      · exact ih

/-- between one template's count and that times the number of templates -/
theorem taken_bounds {ts : List Tk} {as left : List Nat} (h : as.Perm (litsOf ts ++ left)) :
    (takenL ts as).length ≤ (ords left).length * (tpl ts as.length).length ∧ (tpl ts as.length ≠ [] → (ords left).length ≤ (takenL ts as).length) := by
  have hc : ∀ t ∈ tpl ts as.length, ((ords as).filter (fitsT t)).length = (ords left).length := fun t ht => by
    obtain ⟨a, b⟩ := tpl_ok ts _ t ht
    exact count_tpl (b ▸ h) a
  refine ⟨?_, fun hne => ?_⟩
  · have := filter_any_le (fun t o => fitsT t o) (ords as) (tpl ts as.length)
    rw [sum_const _ _ _ hc] at this
    exact this
  · obtain ⟨t, ht⟩ := List.exists_mem_of_ne_nil _ hne
    rw [← hc t ht]
    exact filter_le_any (fun t o => fitsT t o) (ords as) ht
/-- if all templates are one, the count is that one's -/
theorem taken_one {ts : List Tk} {as left : List Nat} {t0 : List (Option Nat)} (h : as.Perm (litsOf ts ++ left)) (hne : tpl ts as.length ≠ []) (h1 : ∀ t ∈ tpl ts as.length, t = t0) : (takenL ts as).length = (ords left).length := by
  refine Nat.le_antisymm ?_ ((taken_bounds h).2 hne)
  obtain ⟨t, ht⟩ := List.exists_mem_of_ne_nil _ hne
  obtain ⟨a, b⟩ := tpl_ok ts _ t ht
  rw [← count_tpl (b ▸ h) a]
  unfold takenL
  have e : ∀ o, ((tpl ts as.length).any fun t => fitsT t o) = fitsT t o := fun o => by
    rw [Bool.eq_iff_iff, List.any_eq_true]
    constructor
    · rintro ⟨u, hu, hf⟩; rw [h1 t ht, ← h1 u hu]; exact hf
    · intro hf; exact ⟨t, ht, hf⟩
  rw [List.filter_congr (fun o _ => e o)]
  exact Nat.le_refl _
/-- nothing is taken where the plain signs are not there -/
theorem taken_nil {ts : List Tk} {as : List Nat} (h : ∀ left, ¬ as.Perm (litsOf ts ++ left)) : takenL ts as = [] := by
  refine List.filter_eq_nil_iff.mpr fun o ho hf => ?_
  obtain ⟨t, ht, hft⟩ := List.any_eq_true.mp hf
  obtain ⟨left, hp⟩ := tpl_none ho hft
  exact h left ((tpl_ok ts _ t ht).2 ▸ hp)
theorem taken_nil' {ts : List Tk} {as : List Nat} (h : tpl ts as.length = []) : takenL ts as = [] := by
  unfold takenL; rw [h]; simp
end PL
end
/-! Pl5 -/
section
namespace PL
theorem perm_map_ex {α β : Type} {f : α → β} {a : List β} {l : List α} (h : a.Perm (l.map f)) : ∃ u : List α, u.Perm l ∧ a = u.map f := by
  generalize hm : l.map f = b at h
  induction h generalizing l with
  | nil => exact ⟨[], by rw [List.map_eq_nil_iff.mp hm], rfl⟩
  | cons x _ ih =>
    obtain ⟨y, t, rfl, rfl, ht⟩ := List.map_eq_cons_iff.mp hm
    obtain ⟨u, hu, rfl⟩ := ih ht
    exact ⟨y :: u, hu.cons y, rfl⟩
  | swap x y t =>
    obtain ⟨a, t', rfl, rfl, ht⟩ := List.map_eq_cons_iff.mp hm
    obtain ⟨b, t'', rfl, rfl, ht'⟩ := List.map_eq_cons_iff.mp ht
    exact ⟨b :: a :: t'', List.Perm.swap a b t'', by rw [List.map_cons, List.map_cons, ht']⟩
  | trans _ _ ih1 ih2 =>
    obtain ⟨u, hu, e⟩ := ih2 hm
    obtain ⟨v, hv, e'⟩ := ih1 e.symm
    exact ⟨v, hv.trans hu, e'⟩
/-- renaming by a map that keeps signs apart keeps the number of orders -/
theorem ords_map {f : Nat → Nat} {l : List Nat} (hf : ∀ a ∈ l, ∀ b ∈ l, f a = f b → a = b) : (ords (l.map f)).length = (ords l).length := by
  have hinj : ∀ u ∈ ords l, ∀ v ∈ ords l, u.map f = v.map f → u = v := by
    intro u hu v hv e
    have hu := mem_ords.mp hu
    have hv := mem_ords.mp hv
    have key : ∀ (u v : List Nat), (∀ a ∈ u, a ∈ l) → (∀ a ∈ v, a ∈ l) → u.map f = v.map f → u = v := by
      intro u
      induction u with
      | nil => intro v _ _ e; exact (List.map_eq_nil_iff.mp e.symm).symm
      | cons a u ih =>
        intro v h1 h2 e
        cases v with
        | nil => cases e
        | cons b v =>
          rw [List.map_cons, List.map_cons, List.cons.injEq] at e
          rw [hf a (h1 a (List.mem_cons_self ..)) b (h2 b (List.mem_cons_self ..)) e.1, ih v (fun x hx => h1 x (List.mem_cons_of_mem _ hx)) (fun x hx => h2 x (List.mem_cons_of_mem _ hx)) e.2]
    exact key u v (fun a ha => hu.mem_iff.mp ha) (fun a ha => hv.mem_iff.mp ha) e
  have hp : (ords (l.map f)).Perm ((ords l).map (List.map f)) := by
    refine (List.perm_ext_iff_of_nodup (ords_nodup _) (nodup_map (ords_nodup l) hinj)).mpr fun o => ?_
    rw [mem_ords, List.mem_map]
    constructor
    · intro h
      obtain ⟨u, hu, rfl⟩ := perm_map_ex h
      exact ⟨u, mem_ords.mpr hu, rfl⟩
    · rintro ⟨u, hu, rfl⟩
      exact (mem_ords.mp hu).map f
  rw [hp.length_eq, List.length_map]
end PL
end
/-! Pl6 -/
section
namespace PL
noncomputable def facN : Nat → Nat
  | 0 => 1
  | n + 1 => (n + 1) * facN n
noncomputable def firsts : List Nat → List Nat
  | [] => []
  | x :: l => x :: (firsts l).filter (· != x)
noncomputable def amtL (l : List Nat) : Nat := (firsts l).foldl (fun a x => a / facN (l.count x)) (facN l.length)
noncomputable def gen : Nat → List (List Nat)
  | 0 => [[]]
  | n + 1 => (gen n).flatMap fun c => (firsts c ++ [n]).map fun x => c ++ [x]
noncomputable def heads : Nat → List Nat → Nat
  | 0, _ => 1
  | n + 1, l => ((firsts l).map fun x => heads n (l.erase x)).sum
theorem mem_firsts {x : Nat} : ∀ {l : List Nat}, x ∈ firsts l ↔ x ∈ l
  | [] => Iff.rfl
  | y :: l => by
    rw [firsts, List.mem_cons, List.mem_cons, List.mem_filter, mem_firsts (l := l)]
    by_cases h : x = y
    · simp [h]
    · simp [h]
theorem firsts_nodup : ∀ l : List Nat, (firsts l).Nodup
  | [] => List.nodup_nil
  | x :: l => by
    rw [firsts, List.nodup_cons]
    exact ⟨by simp [List.mem_filter], (firsts_nodup l).filter _⟩
theorem flat_nodup (f : Nat → List (List Nat)) : ∀ xs : List Nat, xs.Nodup → (∀ x ∈ xs, (f x).Nodup) → (xs.flatMap fun x => (f x).map (x :: ·)).Nodup
  | [], _, _ => List.nodup_nil
  | x :: xs, h, hf => by
    obtain ⟨h1, h2⟩ := List.nodup_cons.mp h
    rw [List.flatMap_cons, List.nodup_append]
    refine ⟨nodup_map (hf x (List.mem_cons_self ..)) (fun a _ b _ e => (List.cons.inj e).2), flat_nodup f xs h2 fun y hy => hf y (List.mem_cons_of_mem _ hy), fun a ha b hb e => ?_⟩
    obtain ⟨a', _, rfl⟩ := List.mem_map.mp ha
    obtain ⟨y, hy, hb⟩ := List.mem_flatMap.mp hb
    obtain ⟨b', _, rfl⟩ := List.mem_map.mp hb
    have := (List.cons.inj e).1
    exact h1 (this ▸ hy)
theorem flat_len (f : Nat → List (List Nat)) : ∀ xs : List Nat, (xs.flatMap fun x => (f x).map (x :: ·)).length = (xs.map fun x => (f x).length).sum
  | [] => rfl
  | x :: xs => by rw [List.flatMap_cons, List.length_append, List.length_map, flat_len f xs]; rfl
theorem ords_heads : ∀ (n : Nat) (l : List Nat), l.length = n → (ords l).length = heads n l
  | 0, l, h => by rw [List.length_eq_zero_iff.mp h]; rfl
  | n + 1, l, h => by
    have hp : (ords l).Perm ((firsts l).flatMap fun x => (ords (l.erase x)).map (x :: ·)) := by
      refine (List.perm_ext_iff_of_nodup (ords_nodup l) (flat_nodup _ _ (firsts_nodup l) fun x _ => ords_nodup _)).mpr fun o => ?_
      rw [mem_ords, List.mem_flatMap]
      constructor
      · intro hp
        cases o with
        | nil => have := hp.length_eq; rw [h] at this; cases this
        | cons x o =>
          have hx : x ∈ l := hp.subset (List.mem_cons_self ..)
          refine ⟨x, mem_firsts.mpr hx, List.mem_map.mpr ⟨o, mem_ords.mpr ?_, rfl⟩⟩
          exact (List.perm_cons x).mp (hp.trans (List.perm_cons_erase hx))
      · rintro ⟨x, hx, ho⟩
        obtain ⟨o', ho', rfl⟩ := List.mem_map.mp ho
        exact ((mem_ords.mp ho').cons x).trans (List.perm_cons_erase (mem_firsts.mp hx)).symm
    rw [hp.length_eq, flat_len, heads]
    congr 1
    refine List.map_congr_left fun x hx => ords_heads n (l.erase x) ?_
    rw [List.length_erase_of_mem (mem_firsts.mp hx), h]; rfl
theorem gen_heads : ∀ n, n ≤ 5 → ∀ c ∈ gen n, heads n c = amtL c := by decide +kernel
theorem gen_lt : ∀ n, ∀ c ∈ gen n, c.length = n ∧ ∀ x ∈ c, x < n
  | 0, c, h => by rw [List.mem_singleton.mp h]; exact ⟨rfl, fun x h => by cases h⟩
  | n + 1, c, h => by
    obtain ⟨d, hd, h⟩ := List.mem_flatMap.mp h
    obtain ⟨x, hx, rfl⟩ := List.mem_map.mp h
    obtain ⟨a, b⟩ := gen_lt n d hd
    refine ⟨by rw [List.length_append, a]; rfl, fun y hy => ?_⟩
    rcases List.mem_append.mp hy with hy | hy
    · have := b y hy; (first | lia | omega)
    · rw [List.mem_singleton.mp hy]
      rcases List.mem_append.mp hx with hx | hx
      · have := b x (mem_firsts.mp hx); (first | lia | omega)
      · rw [List.mem_singleton.mp hx]; (first | lia | omega)
theorem gen_small (n : Nat) (hn : n ≤ 5) (c : List Nat) (hc : c ∈ gen n) : (ords c).length = amtL c := (ords_heads n c (gen_lt n c hc).1).trans (gen_heads n hn c hc)
theorem gen_all : ∀ (n : Nat) (l : List Nat), l.length = n → ∃ c ∈ gen n, ∃ f : Nat → Nat, l = c.map f ∧ ∀ a ∈ c, ∀ b ∈ c, f a = f b → a = b
  | 0, l, h => ⟨[], List.mem_singleton.mpr rfl, id, by rw [List.length_eq_zero_iff.mp h]; rfl, fun a h => by cases h⟩
  | n + 1, l, h => by
    obtain ⟨l', a, rfl⟩ : ∃ l' a, l = l' ++ [a] := ⟨l.dropLast, l.getLast (by intro q; rw [q] at h; cases h), (List.dropLast_concat_getLast _).symm⟩
    obtain ⟨c, hc, f, rfl, hf⟩ := gen_all n l' (by simpa using h)
    obtain ⟨hl, hlt⟩ := gen_lt n c hc
    by_cases ha : a ∈ c.map f
    · obtain ⟨x, hx, rfl⟩ := List.mem_map.mp ha
      refine ⟨c ++ [x], List.mem_flatMap.mpr ⟨c, hc, List.mem_map.mpr ⟨x, List.mem_append.mpr (.inl (mem_firsts.mpr hx)), rfl⟩⟩, f, by simp, ?_⟩
      have hm : ∀ y, y ∈ c ++ [x] → y ∈ c := fun y hy => by
        rcases List.mem_append.mp hy with h | h
        · exact h
        · rw [List.mem_singleton.mp h]; exact hx
      exact fun y hy z hz => hf y (hm y hy) z (hm z hz)
    · refine ⟨c ++ [n], List.mem_flatMap.mpr ⟨c, hc, List.mem_map.mpr ⟨n, List.mem_append.mpr (.inr (List.mem_singleton.mpr rfl)), rfl⟩⟩, fun y => if y = n then a else f y, ?_, ?_⟩
      · rw [List.map_append, List.map_cons, List.map_nil, if_pos rfl]
        congr 1
        refine List.map_congr_left fun y hy => ?_
        rw [if_neg (by have := hlt y hy; (first | lia | omega))]
      · intro y hy z hz e
        replace e : (if y = n then a else f y) = (if z = n then a else f z) := e
        have key : ∀ y ∈ c, (if y = n then a else f y) = f y := fun y hy => if_neg (by have := hlt y hy; (first | lia | omega))
        rcases List.mem_append.mp hy with hy | hy <;> rcases List.mem_append.mp hz with hz | hz
        · rw [key y hy, key z hz] at e; exact hf y hy z hz e
        · rw [List.mem_singleton.mp hz] at e ⊢
          rw [key y hy, if_pos rfl] at e
          exact absurd (e ▸ List.mem_map_of_mem hy) ha
        · rw [List.mem_singleton.mp hy] at e ⊢
          rw [key z hz, if_pos rfl] at e
          exact absurd (e ▸ List.mem_map_of_mem hz) ha
        · rw [List.mem_singleton.mp hy, List.mem_singleton.mp hz]
theorem firsts_map {f : Nat → Nat} : ∀ {c : List Nat}, (∀ a ∈ c, ∀ b ∈ c, f a = f b → a = b) → firsts (c.map f) = (firsts c).map f
  | [], _ => rfl
  | x :: c, h => by
    have ih := firsts_map (c := c) fun a ha b hb => h a (List.mem_cons_of_mem _ ha) b (List.mem_cons_of_mem _ hb)
    rw [List.map_cons, firsts, firsts, List.map_cons, ih, List.filter_map]
    congr 2
    refine List.filter_congr fun y hy => ?_
    have hy := mem_firsts.mp hy
    show (f y != f x) = (y != x)
    by_cases e : y = x
    · subst e; simp
    · have : f y ≠ f x := fun q => e (h y (List.mem_cons_of_mem _ hy) x (List.mem_cons_self ..) q)
      exact (bne_iff_ne.mpr this).trans (bne_iff_ne.mpr e).symm
theorem count_map {f : Nat → Nat} {x : Nat} : ∀ {c : List Nat}, (∀ a ∈ c, f a = f x → a = x) → (c.map f).count (f x) = c.count x
  | [], _ => rfl
  | y :: c, h => by
    rw [List.map_cons, List.count_cons, List.count_cons, count_map fun a ha => h a (List.mem_cons_of_mem _ ha)]
    congr 1
    by_cases e : y = x
    · subst e; simp
    · have : f y ≠ f x := fun q => e (h y (List.mem_cons_self ..) q)
      simp [e, this]
theorem amtL_map {f : Nat → Nat} {c : List Nat} (h : ∀ a ∈ c, ∀ b ∈ c, f a = f b → a = b) : amtL (c.map f) = amtL c := by
  unfold amtL
  rw [firsts_map h, List.length_map]
  have key : ∀ (xs : List Nat) (acc : Nat), (∀ x ∈ xs, x ∈ c) → (xs.map f).foldl (fun a x => a / facN ((c.map f).count x)) acc = xs.foldl (fun a x => a / facN (c.count x)) acc := by
    intro xs
    induction xs with
    | nil => intro _ _; rfl
    | cons x xs ih =>
      intro acc hx
      rw [List.map_cons, List.foldl_cons, List.foldl_cons, count_map fun a ha => h a ha x (hx x (List.mem_cons_self ..)), ih _ fun y hy => hx y (List.mem_cons_of_mem _ hy)]
  exact key _ _ fun x hx => mem_firsts.mp hx
/-- distinct arrangements of at most five signs: n! over the factorials of the counts -/
theorem ords_amount {l : List Nat} (h : l.length ≤ 5) : (ords l).length = amtL l := by
  obtain ⟨c, hc, f, rfl, hf⟩ := gen_all _ l rfl
  rw [ords_map hf, amtL_map hf]
  exact gen_small _ (by rw [List.length_map] at h hc ⊢; exact h) c hc
end PL
end
/-! Pl7 -/
section
namespace PL
theorem shares : ∀ s, s < 5 → ∀ m, m ≤ 5 → cnt (s + 1) m = facN (m + (s + 1) - 1) / facN (s + 1 - 1) / facN m := by decide
theorem cnt_pos : ∀ s, s < 5 → ∀ m, m ≤ 5 → 0 < cnt (s + 1) m := by decide
end PL
end
/-! Px5 -/
section
open PySem PySem.W PyProof.Rows PySem.Builtin PySem.Builtin.Str
namespace Mine
noncomputable def sg (c : Nat) : List Nat := [c]
theorem facN_eq : ∀ n, facN n = PL.facN n
  | 0 => rfl
  | n + 1 => by rw [facN, PL.facN, facN_eq n]
theorem ordersL_eq : ordersL = PL.ordersL := rfl
theorem firsts_snoc (x : Nat) : ∀ l : List Nat, PL.firsts (l ++ [x]) = if x ∈ l then PL.firsts l else PL.firsts l ++ [x]
  | [] => rfl
  | y :: l => by
    rw [List.cons_append, PL.firsts, PL.firsts, firsts_snoc x l]
    by_cases h : x ∈ l
    · rw [if_pos h, if_pos (List.mem_cons_of_mem _ h)]
    · rw [if_neg h, List.filter_append]
      by_cases q : x = y
      · subst q; rw [if_pos (List.mem_cons_self ..)]; simp
      · rw [if_neg (by simp [q, h])]; simp [q]
theorem snoc_ind' {α : Type} {P : List α → Prop} (h0 : P []) (h1 : ∀ r x, P r → P (r ++ [x])) : ∀ r, P r := by
  intro r
  rw [← List.reverse_reverse r]
  induction r.reverse with
  | nil => exact h0
  | cons x l ih => rw [List.reverse_cons]; exact h1 _ _ ih
theorem mem_sg {x : Nat} {l : List Nat} : sg x ∈ l.map sg ↔ x ∈ l := by
  rw [List.mem_map]
  constructor
  · rintro ⟨y, h, e⟩
    have : y = x := by simpa [sg] using e
    exact this ▸ h
  · intro h; exact ⟨x, h, rfl⟩
theorem fsA_sg : ∀ l : List Nat, fsA (l.map sg) = (PL.firsts l).map sg := by
  refine snoc_ind' rfl fun l x ih => ?_
  rw [List.map_append, List.map_singleton, fsA_snoc, ih, firsts_snoc]
  by_cases h : x ∈ l
  · rw [if_pos h, if_pos]
    exact List.contains_iff_mem.mpr (mem_sg.mpr (PL.mem_firsts.mpr h))
  · rw [if_neg h, if_neg, List.map_append]; rfl
    intro hc
    exact h (PL.mem_firsts.mp (mem_sg.mp (List.contains_iff_mem.mp hc)))
theorem count_sg (c : Nat) : ∀ l : List Nat, (l.map sg).count (sg c) = l.count c
  | [] => rfl
  | y :: l => by
    rw [List.map_cons, List.count_cons, List.count_cons, count_sg c l]
    congr 1
    by_cases q : y = c
    · subst q; simp
    · simp [sg, q]
theorem amount_sg (l : List Nat) : amountOf (rowsOf (l.map sg)) (l.map sg).length = PL.amtL l := by
  unfold amountOf rowsOf PL.amtL
  rw [List.foldl_map, fsA_sg, List.foldl_map, List.length_map, facN_eq]
  congr 1
  funext a c
  rw [count_sg, facN_eq]

/-! stars -/
noncomputable def placesF : Nat → List (Option (List Nat)) → List Nat
  | _, [] => []
  | k, none :: l => k :: placesF (k + 1) l
  | k, some _ :: l => placesF (k + 1) l
theorem places_F : ∀ (l : List (Option (List Nat))) (k : Nat), ((l.zipIdx k).filterMap fun p => if p.1.isNone then some p.2 else none) = placesF k l
  | [], _ => rfl
  | none :: l, k => by rw [List.zipIdx_cons, List.filterMap_cons, placesF, places_F l (k + 1)]; rfl
  | some s :: l, k => by rw [List.zipIdx_cons, List.filterMap_cons, placesF, places_F l (k + 1)]; rfl
theorem places_eq (ps : List (Option (List Nat))) : placesOf ps = placesF 0 ps := places_F ps 0
theorem places_nil : ∀ (l : List (Option (List Nat))) (k : Nat), placesF k l = [] → none ∉ l
  | [], _, _ => by simp
  | none :: l, k, h => by cases h
  | some s :: l, k, h => by
    have := places_nil l (k + 1) h
    simp [this]
theorem first_split : ∀ (l : List (Option (List Nat))) (k p : Nat) (r : List Nat), placesF k l = p :: r → ∃ pre rest, l = pre ++ none :: rest ∧ none ∉ pre ∧ p = k + pre.length
  | [], _, _, _, h => by cases h
  | none :: l, k, p, r, h => by
    rw [placesF] at h
    cases h
    exact ⟨[], l, rfl, by simp, rfl⟩
  | some s :: l, k, p, r, h => by
    obtain ⟨pre, rest, e1, e2, e3⟩ := first_split l (k + 1) p r h
    exact ⟨some s :: pre, rest, by rw [e1]; rfl, by simp [e2], by rw [e3, List.length_cons]; (first | lia | omega)⟩
theorem last_split : ∀ (l : List (Option (List Nat))) (k q : Nat), (placesF k l).getLast? = some q → ∃ a suf, l = a ++ none :: suf ∧ none ∉ suf ∧ q = k + a.length
  | [], _, _, h => by cases h
  | none :: l, k, q, h => by
    rw [placesF] at h
    by_cases hn : placesF (k + 1) l = []
    · rw [hn] at h
      cases h
      exact ⟨[], l, rfl, places_nil l _ hn, rfl⟩
    · have h' : (placesF (k + 1) l).getLast? = some q := by
        rw [List.getLast?_cons] at h
        cases e : (placesF (k + 1) l).getLast? with
        | none => exact absurd (List.getLast?_eq_none_iff.mp e) hn
        | some v => rw [e] at h; exact h
      obtain ⟨a, suf, e1, e2, e3⟩ := last_split l (k + 1) q h'
      exact ⟨none :: a, suf, by rw [e1]; rfl, e2, by rw [e3, List.length_cons]; (first | lia | omega)⟩
  | some s :: l, k, q, h => by
    obtain ⟨a, suf, e1, e2, e3⟩ := last_split l (k + 1) q h
    exact ⟨some s :: a, suf, by rw [e1]; rfl, e2, by rw [e3, List.length_cons]; (first | lia | omega)⟩
theorem places_ge : ∀ (l : List (Option (List Nat))) (k : Nat), ∀ x ∈ placesF k l, k ≤ x
  | [], _, x, h => by cases h
  | none :: l, k, x, h => by
    rcases List.mem_cons.mp h with rfl | h
    · exact Nat.le_refl _
    · have := places_ge l (k + 1) x h; (first | lia | omega)
  | some s :: l, k, x, h => by have := places_ge l (k + 1) x h; (first | lia | omega)
theorem places_first_le : ∀ (l : List (Option (List Nat))) (k p : Nat) (r : List Nat), placesF k l = p :: r → ∀ x ∈ p :: r, p ≤ x
  | [], _, _, _, h => by cases h
  | none :: l, k, p, r, h => by
    intro x hx
    have hk := places_ge (none :: l) k x (h ▸ hx)
    rw [placesF] at h
    cases h
    exact hk
  | some s :: l, k, p, r, h => places_first_le l (k + 1) p r h
theorem together_split {ps : List (Option (List Nat))} (h : togetherB ps = true) : none ∉ ps ∨ ∃ pre mid suf, ps = pre ++ (mid ++ suf) ∧ none ∉ pre ∧ none ∉ suf ∧ ∀ x ∈ mid, x = none ∨ x = some [63] := by
  unfold togetherB betweenOf at h
  rw [places_eq] at h
  cases hp : placesF 0 ps with
  | nil => exact .inl (places_nil ps 0 hp)
  | cons p r =>
    right
    rw [hp] at h
    dsimp only at h
    obtain ⟨pre, rest, e1, e2, e3⟩ := first_split ps 0 p r hp
    obtain ⟨q, hq⟩ : ∃ q, (p :: r).getLast? = some q := ⟨_, List.getLast?_eq_some_getLast (by simp)⟩
    obtain ⟨a, suf, f1, f2, f3⟩ := last_split ps 0 q (hp ▸ hq)
    have hle : p ≤ q := places_first_le ps 0 p r hp q (List.mem_of_getLast? hq)
    rw [hq] at h
    simp only [Option.getD_some] at h
    refine ⟨ps.take p, (ps.drop p).take (q - p + 1), ps.drop (q + 1), ?_, ?_, ?_, ?_⟩
    · have : ps.drop (q + 1) = (ps.drop p).drop (q - p + 1) := by rw [List.drop_drop]; congr 1; (first | lia | omega)
      rw [this, List.take_append_drop, List.take_append_drop]
    · have : ps.take p = pre := by rw [e1, e3, Nat.zero_add]; simp
      rw [this]; exact e2
    · have : ps.drop (q + 1) = suf := by
        rw [f1, f3, Nat.zero_add]
        rw [show a ++ none :: suf = (a ++ [none]) ++ suf by simp]
        exact List.drop_left' (by simp)
      rw [this]; exact f2
    · intro x hx
      have hqp : (ps.drop p)[q - p]? = some none := by
        rw [List.getElem?_drop, show p + (q - p) = q by (first | lia | omega), f1, f3, Nat.zero_add]
        simp
      rw [List.take_add_one, hqp] at hx
      rcases List.mem_append.mp hx with hx | hx
      · have := List.all_eq_true.mp h x hx
        unfold plainPart at this
        cases x with
        | none => exact .inl rfl
        | some s =>
          right
          simpa using this
      · left; simpa using hx
theorem stars_tok : ∀ ps : List (Option (List Nat)), PL.stars (ps.map (tokOf [63])) = ps.count none
  | [] => rfl
  | none :: ps => by
    rw [List.map_cons, List.count_cons_self, ← stars_tok ps]; rfl
  | some s :: ps => by
    rw [List.map_cons, List.count_cons_of_ne (by simp), ← stars_tok ps, tok_some]
    split <;> rfl
theorem anys_tok : ∀ ps : List (Option (List Nat)), PL.anys (ps.map (tokOf [63])) = ps.count (some [63])
  | [] => rfl
  | none :: ps => by
    rw [List.map_cons, List.count_cons_of_ne (by simp), ← anys_tok ps]; rfl
  | some s :: ps => by
    rw [List.map_cons, tok_some]
    by_cases h : s = [63]
    · subst h
      rw [List.count_cons_self, ← anys_tok ps]; rfl
    · rw [List.count_cons_of_ne (by simpa using h), ← anys_tok ps, if_neg (by simpa using h)]; rfl
theorem lits_tok : ∀ ps : List (Option (List Nat)), plainOf ps = (PL.litsOf (ps.map (tokOf [63]))).map sg
  | [] => rfl
  | none :: ps => by
    have ih := lits_tok ps
    unfold plainOf at ih ⊢
    rw [List.filterMap_cons, ih, List.map_cons]; rfl
  | some s :: ps => by
    have ih := lits_tok ps
    unfold plainOf at ih ⊢
    rw [List.filterMap_cons, List.map_cons, tok_some]
    dsimp only
    by_cases h : (s == [63]) = true
    · rw [if_pos h, if_pos h, ih]; rfl
    · rw [if_neg h, if_neg h, ih]; rfl
theorem stars_none {ps : List (Option (List Nat))} (h : none ∉ ps) : PL.stars (ps.map (tokOf [63])) = 0 := by
  rw [stars_tok]; exact List.count_eq_zero.mpr h
end Mine
end
/-! Ew7 -/
section
open PySem PySem.W PyProof.Rows PySem.Builtin PySem.Builtin.Str
namespace Mine
theorem nat_eq (a b : Nat) : ((a : Int) == (b : Int)) = (a == b) := by
  by_cases h : a = b
  · subst h; simp
  · rw [beq_eq_false_iff_ne.mpr h, beq_eq_false_iff_ne.mpr (by (first | lia | omega))]
theorem nat_le (a b : Nat) : decide ((a : Int) ≤ (b : Int)) = decide (a ≤ b) := by
  by_cases h : a ≤ b
  · rw [decide_eq_true h, decide_eq_true (by (first | lia | omega))]
  · rw [decide_eq_false h, decide_eq_false (by (first | lia | omega))]

set_option maxHeartbeats 4000000
theorem tail13 (P : Params) (mb : Str → Option Value) (prog : Program) (w : World) (nm : List (List Nat)) (ps : List (Option (List Nat))) (tk : List (List Nat)) (hst : ps.count none ≤ 5) (plain mis lef : List (List Nat)) (hlef : lef.length ≤ 5) :
    TailGoal 13 P mb prog w (fun σ => σ.loc "taken" = some (.fv (.list (tk.map .str))) ∧ σ.loc "parts" = some (.fv (.list (ps.map oFV))) ∧ σ.loc "missing" = some (.fv (.list (mis.map .str))) ∧ σ.loc "left" = some (.fv (.list (lef.map .str))) ∧
        σ.loc "lacking" = some (.fv (.list ((lackingOf plain nm).map .str))) ∧ σ.loc "kept" = some (.fv (.list ((keptOf plain nm).map .str)))) (lawEndQ nm ps tk plain mis lef) := by
  refine tail_intro (hK := by rfl) (hdat := by rfl) ?_
  rintro A L fa cd' hfr σ ⟨m1, m2, m3, m4, m5, m6⟩
  rw [lawEndQ]
  generalize lackingOf plain nm = la at m5 ⊢
  generalize keptOf plain nm = ke at m6 ⊢
  refine EX_cons (EX1_ift (c := !(mis == la && lef == ke)) (EVb_cmp (op := .NotEq) (f := .tup [.list (mis.map .str), .list (lef.map .str)]) (g := .tup [.list (la.map .str), .list (ke.map .str)])
    (EV_tuple (xs := [.list (mis.map .str), .list (lef.map .str)]) (.cons (by walk_at "ev") (.cons (by walk_at "ev") .nil (by rfl)) (by rfl)) (by show (2 : Nat) ≤ 1000; decide))
    (EV_tuple (xs := [.list (la.map .str), .list (ke.map .str)]) (.cons (by walk_at "ev") (.cons (by walk_at "ev") .nil (by rfl)) (by rfl)) (by show (2 : Nat) ≤ 1000; decide)) (cmp_ne_pair ..) (by rfl)) (fun h => ?_) (fun h => ?_))
  · rw [if_pos h]
    exact EX_one (EX1_return EV_bool rfl)
  rw [if_neg (by rw [h]; decide)]
  clear h m5 m6
  refine EX_nil ?_
  generalize hov : (lef.length : Int) - (ps.count (some [63]) : Nat) = over
  have hov5 : over ≤ 5 := by (first | lia | omega)
  generalize hsn : ps.count none = st at hst ⊢
  refine EX_cons (EX1_tuple_swapped (vs := [.fv (.int over), .fv (.int st)]) (names := ["over", "stars"])
    (.cons (EVA_ev (Vx (EV_bin (f := .int lef.length) (g := .int (ps.count (some [63]) : Nat)) (EV_len (v := .fv (.list (lef.map .str))) (n := lef.length) (by (exact ⟨by kernel_rfl, by decide +kernel, by kernel_rfl, by decide +kernel, by decide +kernel⟩)) (by walk_at "ev") (by rw [lenAV, mapmap_str]) (by rfl))
        (Vx (EV_count (f := .str [63]) (by walk_at "ev") (EV_lit (by decide +kernel) ⟨by decide, by decide⟩) (all_scal_o _) rfl (by rfl) (by rfl) (by rfl)) (by rw [← cnt_o ps (some [63])]; rfl)) (by rfl)) (by rw [hov])))
      (.cons (EVA_ev (Vx (EV_count (f := .none) (by walk_at "ev") EV_none (all_scal_o _) rfl (by rfl) (by rfl) (by rfl)) (by rw [← hsn, ← cnt_o ps none]; rfl))) .nil (by rfl)) (by rfl)) (by rfl) (by simp) (fun x hx => by simp only [List.mem_cons, List.not_mem_nil, or_false] at hx; rcases hx with rfl | rfl <;> kernel_rfl) (by kernel_rfl) (by kernel_rfl) ?_)
  show EX _ ((St.set _ _ _).set _ _) _ _
  generalize hσ : (St.set (St.set _ _ _) _ _) = σ'
  have k1 : σ'.loc "taken" = some (.fv (.list (tk.map .str))) := by subst hσ; walk_at "loc"
  have k2 : σ'.loc "parts" = some (.fv (.list (ps.map oFV))) := by subst hσ; walk_at "loc"
  have k3 : σ'.loc "missing" = some (.fv (.list (mis.map .str))) := by subst hσ; walk_at "loc"
  have k4 : σ'.loc "left" = some (.fv (.list (lef.map .str))) := by subst hσ; walk_at "loc"
  have k5 : σ'.loc "over" = some (.fv (.int over)) := by subst hσ; walk_at "loc"
  have k6 : σ'.loc "stars" = some (.fv (.int st)) := by subst hσ; walk_at "loc"
  clear hσ m1 m2 m3 m4
  refine EX_cons (EX1_ift (c := !mis.isEmpty || (decide (over < 0) || (decide (over > 0) && st == 0))) (Bx (EVb_bool (EVall_or_cons (a := !mis.isEmpty) (EVb_value (v := .fv (.list (mis.map .str))) (by walk_at "ev") (by rw [truthAV]; simp) (by (intro _ _; rfl))) fun _ =>
    EVall_or_cons (a := decide (over < 0)) (EVb_cmp (op := .Lt) (f := .int over) (g := .int 0) (by walk_at "ev") EV_int (by rfl) (by rfl)) fun _ =>
    EVall_or_cons (a := decide (over > 0) && (st == 0 && true)) (EVb_bool (EVall_and_cons (a := decide (over > 0)) (EVb_cmp (op := .Gt) (f := .int over) (g := .int 0) (by walk_at "ev") EV_int (by rfl) (by rfl)) fun _ =>
      EVall_and_cons (a := st == 0) (EVb_cmp (op := .Eq) (f := .int st) (g := .int 0) (by walk_at "ev") EV_int (by rw [cmp_eq_int]; exact congrArg some (nat_eq st 0)) (by rfl)) fun _ => EVall_and_nil)) fun _ => EVall_or_nil)) (by simp)) (fun h => ?_) (fun h => ?_))
  · rw [if_pos h]
    refine EX_one (EX1_return (EV_cmp (op := .Eq) (f := .list (tk.map .str)) (g := .list []) (by walk_at "ev") nil_list (cmp_eq_nil (toPys_strs _)) (by rfl)) ?_)
    rw [show (tk.map FV.str).isEmpty = tk.isEmpty by simp]
    rfl
  rw [if_neg (by rw [h]; decide)]
  refine EX_nil ?_
  have hz : 0 ≤ over := by
    simp only [Bool.or_eq_false_iff, decide_eq_false_iff_not] at h
    (first | lia | omega)
  clear h hov
  obtain ⟨ov, rfl⟩ := Int.eq_ofNat_of_zero_le hz
  have hov : ov ≤ 5 := by (first | lia | omega)
  have hco : ∀ r ∈ rowsOf lef, r.1 ≤ 10 := fun r hr => by have := rowsOf_le lef r hr; (first | lia | omega)
  have ham : amountOf (rowsOf lef) lef.length ≤ 3628800 := Nat.le_trans (amountOf_le _ _) (facN_small _ (by (first | lia | omega)))
  refine EX_cons (EX1_assign (v := .fv (.int (amountOf (rowsOf lef) lef.length))) (EV_call2 (by (exact ⟨by kernel_rfl, by decide +kernel, by kernel_rfl, ⟨_, _, rfl, rfl⟩⟩)) (amount_calls P mb prog w (rowsOf lef) lef.length (by (first | lia | omega)) hco) (by (exact Nat.le_of_ble_eq_true rfl))
    (EV_call2 (by (exact ⟨by kernel_rfl, by decide +kernel, by kernel_rfl, ⟨_, _, rfl, rfl⟩⟩)) (cd_calls P mb prog w lef (by (first | lia | omega))) (by (exact Nat.le_of_ble_eq_true rfl)) (by walk_at "ev") nil_list (by rfl) (by rfl)) (EV_len (v := .fv (.list (lef.map .str))) (n := lef.length) (by (exact ⟨by kernel_rfl, by decide +kernel, by kernel_rfl, by decide +kernel, by decide +kernel⟩)) (by walk_at "ev") (by rw [lenAV, mapmap_str]) (by rfl)) (by rfl) (by rfl)) (by kernel_rfl) (by kernel_rfl) ?_)
  dsimp only
  generalize amountOf (rowsOf lef) lef.length = am at ham ⊢
  have etk : ∀ σ : St, lenAV σ (.fv (.list (tk.map .str))) = some tk.length := fun σ => by rw [lenAV, mapmap_str]
  refine EX_cons (EX1_ift (c := togetherB ps) (EVb_value (v := .fv (.bool (togetherB ps))) (EV_call1 (by (exact ⟨by kernel_rfl, by decide +kernel, by kernel_rfl, ⟨_, _, rfl, rfl⟩⟩)) (together_calls P mb prog w ps) (by (exact Nat.le_of_ble_eq_true rfl)) (by walk_at "ev") (by rfl)) (by rfl) (by (intro _ _; rfl))) (fun h => ?_) (fun h => ?_))
  · rw [if_pos h]
    refine EX_one (EX1_return (EV_cmp (op := .Eq) (f := .int tk.length) (g := .int am) (EV_len (v := .fv (.list (tk.map .str))) (n := tk.length) (by (exact ⟨by kernel_rfl, by decide +kernel, by kernel_rfl, by decide +kernel, by decide +kernel⟩)) (by walk_at "ev") (etk _) (by rfl)) (by walk_at "ev") (cmp_eq_int _ _) (by rfl)) ?_)
    rw [nat_eq]
    rfl
  rw [if_neg (by rw [h]; decide)]
  refine EX_nil ?_
  have hs1 : 1 ≤ st := hsn ▸ together_stars h
  rw [Int.toNat_natCast]
  have f1 := facN_small (ov + st - 1) (by (first | lia | omega))
  have f2 := facN_small (st - 1) (by (first | lia | omega))
  have f3 := facN_small ov (by (first | lia | omega))
  have p2 := facN_pos (st - 1)
  have p3 := facN_pos ov
  refine EX_cons (EX1_assign (v := .fv (.int ((facN (ov + st - 1) / facN (st - 1) / facN ov : Nat) : Int))) (Vx (EV_bin (f := .int ((facN (ov + st - 1) / facN (st - 1) : Nat) : Int)) (g := .int (facN ov))
    (Vx (EV_bin (f := .int (facN (ov + st - 1))) (g := .int (facN (st - 1)))
      (EV_call1 (by (exact ⟨by kernel_rfl, by decide +kernel, by kernel_rfl, ⟨_, _, rfl, rfl⟩⟩)) (product_calls P mb prog w (ov + st - 1) (by (first | lia | omega))) (by (exact Nat.le_of_ble_eq_true rfl)) (Vx (EV_bin (f := .int ((ov : Int) + st)) (g := .int 1) (EV_bin (f := .int ov) (g := .int st) (by walk_at "ev") (by walk_at "ev") (by rfl)) EV_int (by rfl)) (by rw [show (ov : Int) + st - 1 = ((ov + st - 1 : Nat) : Int) by (first | lia | omega)])) (by rfl))
      (EV_call1 (by (exact ⟨by kernel_rfl, by decide +kernel, by kernel_rfl, ⟨_, _, rfl, rfl⟩⟩)) (product_calls P mb prog w (st - 1) (by (first | lia | omega))) (by (exact Nat.le_of_ble_eq_true rfl)) (Vx (EV_bin (f := .int st) (g := .int 1) (by walk_at "ev") EV_int (by rfl)) (by rw [show (st : Int) - 1 = ((st - 1 : Nat) : Int) by (first | lia | omega)])) (by rfl)) (bin_fdiv ⟨by (first | lia | omega), by (first | lia | omega)⟩)) (by rw [fdiv_nat]))
    (EV_call1 (by (exact ⟨by kernel_rfl, by decide +kernel, by kernel_rfl, ⟨_, _, rfl, rfl⟩⟩)) (product_calls P mb prog w ov (by (first | lia | omega))) (by (exact Nat.le_of_ble_eq_true rfl)) (by walk_at "ev") (by rfl)) (bin_fdiv ⟨by (first | lia | omega), by (first | lia | omega)⟩)) (by rw [fdiv_nat])) (by kernel_rfl) (by kernel_rfl) ?_)
  generalize facN (ov + st - 1) / facN (st - 1) / facN ov = sh
  refine EX_one (EX1_return (EV_chain2 (f := .int am) (g := .int tk.length) (k := .int ((am * sh : Nat) : Int)) (by walk_at "ev") (EV_len (v := .fv (.list (tk.map .str))) (n := tk.length) (by (exact ⟨by kernel_rfl, by decide +kernel, by kernel_rfl, by decide +kernel, by decide +kernel⟩)) (by walk_at "ev") (etk _) (by rfl))
    (Vx (EV_bin (f := .int am) (g := .int sh) (by walk_at "ev") (by walk_at "ev") (bin_mul (by simp only [big]; (first | lia | omega)))) (by rw [Int.natCast_mul])) (by rfl) (by rfl) (by rfl)) ?_)
  rw [nat_le, nat_le]
end Mine
end
/-! Ew8 -/
section
open PySem PySem.W PyProof.Rows PySem.Builtin PySem.Builtin.Str
namespace Mine
theorem law_all (P : Params) (mb : Str → Option Value) (prog : Program) (w : World) (ns : List Int) : LawGoal P mb prog w ns := by
  refine law_walk P mb prog w ns fun nm pat h1 h2 h3 h4 => @tail6 P mb prog w nm pat h1 h2 h3 h4 ?_
  have hl : (trans [63] pat).length ≤ 10 := by
    have h := trans_len [63] pat []
    rw [List.length_nil, Nat.zero_add] at h
    exact Nat.le_trans h h3
  have hst : (trans [63] pat).count none ≤ 5 := by
    have h := stars_le (trans [63] pat) (trans_good [63] (by decide) pat [] trivial (fun _ h => by cases h)).1
    (first | lia | omega)
  exact @tail10 P mb prog w nm (trans [63] pat) ((ordersL nm).filter (takesB (piecesOf (joinTr (trans [46] pat))))) h1 hl (fun plain mis lef hlef => @tail13 P mb prog w nm (trans [63] pat) _ hst plain mis lef hlef)
end Mine
end
/-! Px6 -/
section
open PySem PySem.W PyProof.Rows PySem.Builtin PySem.Builtin.Str
namespace Mine

theorem map_sg_inj : ∀ {a b : List Nat}, a.map sg = b.map sg → a = b
  | [], [], _ => rfl
  | [], _ :: _, h => by cases h
  | _ :: _, [], h => by cases h
  | x :: a, y :: b, h => by
    rw [List.map_cons, List.map_cons] at h
    obtain ⟨h1, h2⟩ := List.cons.inj h
    have : x = y := by simpa [sg] using h1
    rw [this, map_sg_inj h2]
theorem perm_sg {a b : List Nat} : (a.map sg).Perm (b.map sg) ↔ a.Perm b := by
  refine ⟨fun h => ?_, fun h => h.map sg⟩
  have := h.map (fun s => s.headD 0)
  rw [List.map_map, List.map_map] at this
  have e : ((fun s : List Nat => s.headD 0) ∘ sg) = _root_.id := by funext x; rfl
  rw [e, List.map_id, List.map_id] at this
  exact this
theorem subset_sg {l : List (List Nat)} {as : List Nat} (h : ∀ s ∈ l, s ∈ as.map sg) : ∃ lf : List Nat, l = lf.map sg := by
  induction l with
  | nil => exact ⟨[], rfl⟩
  | cons s l ih =>
    obtain ⟨lf, rfl⟩ := ih fun t ht => h t (List.mem_cons_of_mem _ ht)
    obtain ⟨x, _, rfl⟩ := List.mem_map.mp (h s (List.mem_cons_self ..))
    exact ⟨x :: lf, rfl⟩
theorem kept_mem {plain name : List (List Nat)} : ∀ s ∈ keptOf plain name, s ∈ name := by
  intro s hs
  unfold keptOf at hs
  obtain ⟨⟨x, k⟩, hq, hx⟩ := List.mem_filterMap.mp hs
  dsimp only at hx
  split at hx
  · cases hx
    obtain ⟨i, hi⟩ := List.mem_iff_getElem?.mp hq
    exact List.mem_of_getElem? (zipIdx_get hi).1
  · cases hx
theorem taken_eq (as pat : List Nat) : (ordersL (as.map sg)).filter (takesB (piecesOf (joinTr (trans [46] pat)))) = PL.takenL ((trans [63] pat).map (tokOf [63])) as := by
  unfold PL.takenL
  rw [ordersL_eq]
  show (PL.ords as).filter _ = _
  refine List.filter_congr fun o ho => ?_
  have hl : o.length = as.length := (PL.mem_ords.mp ho).length_eq
  rw [Bool.eq_iff_iff, takes_tok, ← PL.gm_tpl, hl, List.any_eq_true]

theorem law_true (as pat : List Nat) (hl : as.length = 5) (hst : (trans [63] pat).count none ≤ 5) :
    lawEnd (as.map sg) pat ((ordersL (as.map sg)).filter (takesB (piecesOf (joinTr (trans [46] pat))))) = true := by
  rw [taken_eq]
  show lawEndP (as.map sg) (trans [63] pat) _ = true
  generalize trans [63] pat = ps at hst ⊢
  obtain ⟨u1, u2, u3, u4⟩ := uld_spec (plainOf ps) (as.map sg)
  unfold lawEndP
  have hk : ∀ s ∈ (uld (plainOf ps) (as.map sg)).2, s ∈ as.map sg := u2 ▸ kept_mem
  generalize (uld (plainOf ps) (as.map sg)).1 = mis at u1 u3 u4 ⊢
  generalize (uld (plainOf ps) (as.map sg)).2 = lef at u2 u3 hk ⊢
  obtain ⟨lf, rfl⟩ := subset_sg hk
  unfold lawEndQ
  rw [← u1, ← u2]
  have e0 : (mis == mis && lf.map sg == lf.map sg) = true := by simp
  rw [e0, if_neg (by decide)]
  clear e0 u1 u2 hk
  rw [lits_tok] at u3 u4
  have hanys := anys_tok ps
  have hstars := stars_tok ps
  dsimp only
  rw [List.length_map, ← hanys, ← hstars]
  rw [← hstars] at hst
  have hlen := PL.tpl_len (ps.map (tokOf [63])) as.length
  by_cases hm : mis = []
  · have hp : as.Perm (PL.litsOf (ps.map (tokOf [63])) ++ lf) := by
      have := u3 hm
      rw [← List.map_append] at this
      exact perm_sg.mp this
    have hpl := hp.length_eq
    rw [List.length_append] at hpl
    by_cases hov : (lf.length : Int) - (PL.anys (ps.map (tokOf [63])) : Nat) < 0
    · have hc : (!mis.isEmpty || (decide ((lf.length : Int) - (PL.anys (ps.map (tokOf [63])) : Nat) < 0) || (decide ((lf.length : Int) - (PL.anys (ps.map (tokOf [63])) : Nat) > 0) && PL.stars (ps.map (tokOf [63])) == 0))) = true := by
        rw [decide_eq_true hov]; simp
      rw [if_pos hc, PL.taken_nil']; rfl
      rw [if_neg (by (first | lia | omega))] at hlen
      exact List.length_eq_zero_iff.mp hlen
    · obtain ⟨ov, hov'⟩ := Int.eq_ofNat_of_zero_le (show 0 ≤ (lf.length : Int) - (PL.anys (ps.map (tokOf [63])) : Nat) by (first | lia | omega))
      have hsub : as.length - ((PL.litsOf (ps.map (tokOf [63]))).length + PL.anys (ps.map (tokOf [63]))) = ov := by (first | lia | omega)
      have hov5 : ov ≤ 5 := by (first | lia | omega)
      rw [if_pos (by (first | lia | omega)), hsub] at hlen
      rw [hov']
      by_cases hz : 0 < ov ∧ PL.stars (ps.map (tokOf [63])) = 0
      · have hc : (!mis.isEmpty || (decide ((ov : Int) < 0) || (decide ((ov : Int) > 0) && PL.stars (ps.map (tokOf [63])) == 0))) = true := by
          rw [decide_eq_true (show (ov : Int) > 0 by (first | lia | omega)), hz.2]; simp
        rw [if_pos hc, PL.taken_nil']; rfl
        rw [hz.2, PL.cnt, if_neg (by (first | lia | omega))] at hlen
        exact List.length_eq_zero_iff.mp hlen
      · have hc : (!mis.isEmpty || (decide ((ov : Int) < 0) || (decide ((ov : Int) > 0) && PL.stars (ps.map (tokOf [63])) == 0))) = false := by
          subst hm
          rw [decide_eq_false (show ¬ (ov : Int) < 0 by (first | lia | omega))]
          by_cases h0 : 0 < ov
          · have : PL.stars (ps.map (tokOf [63])) ≠ 0 := fun h => hz ⟨h0, h⟩
            simp [this]
          · rw [decide_eq_false (show ¬ (ov : Int) > 0 by (first | lia | omega))]; rfl
        rw [hc, if_neg (by decide)]
        have hlf5 : lf.length ≤ 5 := by (first | lia | omega)
        have ham : amountOf (rowsOf (lf.map sg)) lf.length = (PL.ords lf).length := by
          have := amount_sg lf
          rw [List.length_map] at this
          rw [this, PL.ords_amount hlf5]
        rw [ham]
        have hpos : 0 < PL.cnt (PL.stars (ps.map (tokOf [63]))) ov := by
          cases hs : PL.stars (ps.map (tokOf [63])) with
          | zero =>
            have : ov = 0 := by
              by_cases h0 : 0 < ov
              · exact absurd ⟨h0, hs⟩ hz
              · (first | lia | omega)
            subst this
            decide
          | succ s => exact PL.cnt_pos s (by (first | lia | omega)) ov hov5
        have hne : PL.tpl (ps.map (tokOf [63])) as.length ≠ [] := fun h => by rw [h] at hlen; simp at hlen; (first | lia | omega)
        obtain ⟨b1, b2⟩ := PL.taken_bounds hp
        by_cases ht : togetherB ps = true
        · rw [if_pos ht, beq_iff_eq]
          rcases together_split ht with hn | ⟨pre, mid, suf, rfl, n1, n2, n3⟩
          · exact PL.taken_one hp hne fun t h => (PL.tpl_plain _ (stars_none hn) _ t h).1
          · refine PL.taken_one (t0 := PL.one (pre.map (tokOf [63])) ++ (List.replicate (as.length - (pre.map (tokOf [63])).length - (suf.map (tokOf [63])).length) none ++ PL.one (suf.map (tokOf [63])))) hp hne fun t h => ?_
            rw [List.map_append, List.map_append] at h
            refine PL.tpl_together (pre.map (tokOf [63])) (mid.map (tokOf [63])) (suf.map (tokOf [63])) (stars_none n1) (fun x hx => ?_) (stars_none n2) _ t h
            obtain ⟨y, hy, rfl⟩ := List.mem_map.mp hx
            rcases n3 y hy with rfl | rfl
            · exact .inl rfl
            · exact .inr rfl
        · rw [if_neg ht, Bool.and_eq_true, decide_eq_true_eq, decide_eq_true_eq]
          refine ⟨b2 hne, ?_⟩
          rw [hlen] at b1
          have hs1 : 1 ≤ PL.stars (ps.map (tokOf [63])) := by
            rw [hstars]; exact together_stars (by simpa using ht)
          obtain ⟨s, hs⟩ : ∃ s, PL.stars (ps.map (tokOf [63])) = s + 1 := ⟨PL.stars (ps.map (tokOf [63])) - 1, by (first | lia | omega)⟩
          rw [hs] at b1 ⊢ hst
          rw [Int.toNat_natCast, facN_eq, facN_eq, facN_eq, ← PL.shares s (by (first | lia | omega)) ov hov5]
          exact b1
  · have hc : (!mis.isEmpty || (decide ((lf.length : Int) - (PL.anys (ps.map (tokOf [63])) : Nat) < 0) || (decide ((lf.length : Int) - (PL.anys (ps.map (tokOf [63])) : Nat) > 0) && PL.stars (ps.map (tokOf [63])) == 0))) = true := by
      have : mis.isEmpty = false := by simpa using hm
      rw [this]; rfl
    rw [if_pos hc, PL.taken_nil]; rfl
    intro left hp
    refine u4 hm (left.map sg) ?_
    rw [← List.map_append]
    exact perm_sg.mpr hp
theorem lawB_true (ns : List Int) : lawB ns = true := by
  have hlb : lawB ns = lawEnd (lName (signsOf (((lCells ns).getD 0 0).fdiv 243) 4) ((lCells ns).getD 0 0)) (lPat (lPieces (signsOf (((lCells ns).getD 0 0).fdiv 243) 4)) ((lCells ns).drop 1))
    ((ordersL (lName (signsOf (((lCells ns).getD 0 0).fdiv 243) 4) ((lCells ns).getD 0 0))).filter (takesB (piecesOf (joinTr (trans [46] (lPat (lPieces (signsOf (((lCells ns).getD 0 0).fdiv 243) 4)) ((lCells ns).drop 1))))))) := rfl
  rw [hlb]
  obtain ⟨hc3, hc6⟩ := lCells_len ns
  obtain ⟨hpl, _⟩ := lPat_ok (pieces_ok (((lCells ns).getD 0 0).fdiv 243) 4) ((lCells ns).drop 1)
  rw [List.length_drop] at hpl
  generalize lPat (lPieces (signsOf (((lCells ns).getD 0 0).fdiv 243) 4)) ((lCells ns).drop 1) = pat at hpl ⊢
  have hn : lName (signsOf (((lCells ns).getD 0 0).fdiv 243) 4) ((lCells ns).getD 0 0) = ((List.range 5).map fun p : Nat => (signsOf (((lCells ns).getD 0 0).fdiv 243) 4).getD (((((lCells ns).getD 0 0).fdiv (3 ^ p) + p).fmod 3).toNat) 0).map sg := by
    rw [List.map_map]; rfl
  rw [hn]
  refine law_true _ pat (by simp) ?_
  have h := stars_le (trans [63] pat) (trans_good [63] (by decide) pat [] trivial (fun _ h => by cases h)).1
  have h2 := trans_len [63] pat []
  rw [List.length_nil, Nat.zero_add] at h2
  have h2' : (trans [63] pat).length ≤ pat.length := h2
  (first | lia | omega)
end Mine
end
/-! Ew9 -/
section
open PySem PySem.W PyProof.Rows PySem.Builtin PySem.Builtin.Str
namespace Mine

theorem ints_fr {P : Params} {h h' : Heap} : ∀ {ns : List Int} {vs : List Value}, WellAll P h vs (ofPys (ns.map .int)) → Paired (FR h') (ns.map .int) vs
  | [], _, w => by cases w; exact .nil
  | i :: ns, _, w => by
    cases w with | cons a b =>
    cases a with | int _ t =>
    exact .cons (.int i t) (ints_fr b)

theorem gm_uniq {P : Params} {o3 : Obj} (h3 : (frag P).lookup 3 = some o3) {h : Heap} {mg : Str → Option Value} (X : (frag P).In h) (T : h.Ns mainGlobals mg) : mg = gm P := by
  obtain ⟨ob, es, ep, q1, q2, q3, q4⟩ := T
  have q5 := X 3 _ h3
  have e4 : ob = o3 := Option.some.inj (q1.symm.trans q5)
  funext x
  rw [← q4 x]
  unfold gm
  rw [h3]
  subst e4
  simp only [q2]

theorem cell_mem {L c : Addr} {o : Obj} {v : Option Value} {news : List (Addr × Obj)} (h : (c, o) ∈ news) (hd : o.data = .cell v) (hlt : L < c) : L < c ∧ ∃ o v, (c, o) ∈ news ∧ o.data = .cell v := ⟨hlt, o, v, h, hd⟩

theorem law_end {prog : Program} {w : World} {c : ClaimW} {cl : Str → Option Addr} {mean : ExcName → Option Value} {args : List WData} {s₁ : Shared} {p : Program} {loose : List Str} {mean' : ExcName → Option Value} {mg mb : Str → Option Value} {h₁ : Heap} {tk : Nat} {ns : List Int} {a fa : Addr} {cd : Value}
    {name : Str} {params : Arguments} {body : List Stmt} {scope : Scope} {pm doc cd2 : Value} {o : Obj} {news : List (Addr × Obj)} {m : Str → Option Value} {E : Value → Shared → Prop}
    (hplain : lawB ns = true) (hK : (frag w.params).lookup 262 = some o) (hdat : o.data = .func (Calls.docDef name params body scope pm cd2 doc))
    (X' : (frag w.params).In (ghostOf s₁.heap [(199, 195)])) (T' : Top p loose mean' mg mb (ghostOf s₁.heap [(199, 195)]))
    (F' : Fr (ghostOf s₁.heap [(199, 195)]) s₁.heap.objs.size h₁ m) (hm : m "script" = some (.ref a)) (N' : News (ghostOf s₁.heap [(199, 195)]) s₁.heap.objs.size h₁ news)
    (h195 : ∃ ps, ((195 : Addr), tabObj ps) ∈ news) (hcells : ∀ x c, (x, c) ∈ cellsFrom (s₁.heap.objs.size + 1) scope.names [] → s₁.heap.objs.size < c ∧ ∃ o v, (c, o) ∈ news ∧ o.data = .cell v)
    (hkind : scope.kind = .function) (hl : scope.names.lookup (Str.ofString "script") = some NameKind.local) (hlt : 195 < s₁.heap.objs.size) {its : Array Value} (lifted : (ghostOf s₁.heap [(199, 195)]).IsList a its)
    (w1 : Well w.params s₁.heap (.ref a) (ofPy (.list (ns.map .int)))) (hlen : ns.length ≤ 100) (hg : s₁.gens = #[]) (hr : ∀ cls, c.raises args cls = false) (hp : c.post args (.bool true) args = true) :
    wpAny (model prog w) (callerA.deeper (envOfC name scope s₁.heap.objs.size fa cd)) (execs body (envOfC name scope s₁.heap.objs.size fa cd))
      (fun f s' => GoodW c cl mean args { s₁ with heap := ghostOf s₁.heap [(199, 195)] } (.ok (.ret (match f with | .ret v => v | _ => .none))) s' ∧ GrownAll [(199, 195)] s'.heap) E { heap := h₁, gens := s₁.gens, drawn := s₁.drawn, toks := tk, os := s₁.os } := by
  have hmg : mg = gm w.params := gm_uniq (by rfl) X' T'.g
  subst hmg
  have hbig := callerA
  have hfr : (callerA.deeper (envOfC name scope s₁.heap.objs.size fa cd)).frames = some [envOfC name scope s₁.heap.objs.size fa cd] := Around.frames_deeper rfl
  have hL : ∀ b o, (ghostOf s₁.heap [(199, 195)]).get? b = some o → @LT.lt Nat _ b s₁.heap.objs.size := fun b o e => Nat.lt_of_lt_of_le (Heap.lt_size e) F'.above
  have hcf : ∀ b o, (ghostOf s₁.heap [(199, 195)]).get? b = some o → b ∉ s₁.heap.objs.size :: (cellsFrom (s₁.heap.objs.size + 1) scope.names []).map (·.2) := fun b o e hm => by
    rcases List.mem_cons.mp hm with q | q
    · exact absurd (hL b o e) (by rw [q]; exact Nat.lt_irrefl _)
    · obtain ⟨⟨x, c⟩, hx, rfl⟩ := List.mem_map.mp q
      obtain ⟨_, o', v, h1, _⟩ := hcells x c hx
      rw [N'.fresh h1] at e; cases e
  have h195g : ∀ b o, (ghostOf s₁.heap [(199, 195)]).get? b = some o → b ≠ 195 := fun b o e q => by
    obtain ⟨ps, h1⟩ := h195
    rw [q, N'.fresh h1] at e; cases e
  have hx : HExt (ghostOf s₁.heap [(199, 195)]) (Hh (195 :: s₁.heap.objs.size :: (cellsFrom (s₁.heap.objs.size + 1) scope.names []).map (·.2)) [] h₁) := fun b o e => by
    refine hideAll_get _ (F'.keep b o e) ?_
    rw [List.nil_append, List.mem_cons, not_or]
    exact ⟨h195g b o e, hcf b o e⟩
  have hCok : COk (cxl (frag w.params) (gm w.params) mb prog w name scope fa cd (callerA.deeper (envOfC name scope s₁.heap.objs.size fa cd)) s₁.heap.objs.size) :=
    ⟨rfl, (by show 1 + claimMargin + 1 + 10 < recursionLimit; decide), (by show 4 + 3 + 10 * 10 + 100 < cLine; decide), hkind, rfl, rfl, T'.builtins⟩
  have hlist : FR (Hh (195 :: s₁.heap.objs.size :: (cellsFrom (s₁.heap.objs.size + 1) scope.names []).map (·.2)) [] h₁) (.list (ns.map .int)) (.ref a) := by
    obtain ⟨ob, e1, _⟩ := lifted
    have w2 : Well w.params s₁.heap (.ref a) (.list (ofPys (ns.map .int))) := w1
    cases w2 with | @list _ vs _ e2 wa =>
    have e3 : (ghostOf s₁.heap [(199, 195)]).get? a = some { cls := .type "list", data := .seq vs.toArray } := hideAll_get _ e2 fun hm => by rw [hideAll_none _ hm] at e1; cases e1
    have hpp := ints_fr (h' := Hh (195 :: s₁.heap.objs.size :: (cellsFrom (s₁.heap.objs.size + 1) scope.names []).map (·.2)) [] h₁) wa
    have hsz := hpp.length
    rw [List.length_map] at hsz
    exact FR.list_mk (vs := vs.toArray) ⟨_, hx _ _ e3⟩ (by rw [sizeLine_eq, List.size_toArray]; (first | lia | omega)) (by simpa using hpp)
  have R : Rel (cxl (frag w.params) (gm w.params) mb prog w name scope fa cd (callerA.deeper (envOfC name scope s₁.heap.objs.size fa cd)) s₁.heap.objs.size) (195 :: s₁.heap.objs.size :: (cellsFrom (s₁.heap.objs.size + 1) scope.names []).map (·.2)) []
      (st0 ["script"] [.list (ns.map .int)]) { heap := h₁, gens := s₁.gens, drawn := s₁.drawn, toks := tk, os := s₁.os } := by
    refine ⟨⟨?_, fun b hb => ?_, fun x av e => ?_, fun k xs e => ?_⟩, ⟨List.nodup_nil, trivial, fun a h => (by cases h)⟩, rfl, ⟨_, F'.ns⟩, List.mem_cons_self .., fun a ha => List.mem_cons_of_mem _ ha, fun x c e => ?_, fun b hb => (by cases hb)⟩
    · exact (Gl.mono ⟨X', T'.g, T'.b, T'.nolimit⟩ hx : Gl _ _ _ _)
    · rw [List.nil_append, List.mem_cons, List.mem_cons] at hb
      rcases hb with rfl | rfl | hb
      · obtain ⟨ps, h1⟩ := h195; exact ⟨_, N'.get h1⟩
      · obtain ⟨o, _, _, e, _⟩ := F'.ns; exact ⟨o, e⟩
      · obtain ⟨⟨x, c⟩, hx, rfl⟩ := List.mem_map.mp hb
        obtain ⟨_, o', v, h1, _⟩ := hcells x c hx
        exact ⟨_, N'.get h1⟩
    · by_cases q : x = "script"
      · subst q
        have : (st0 ["script"] [.list (ns.map .int)]).loc "script" = some (.fv (.list (ns.map .int))) := st0_same ..
        rw [this] at e; cases e
        exact ⟨.ref a, .fv hlist, .inl ⟨hl, _, F'.ns, hm⟩⟩
      · rw [show (st0 ["script"] [.list (ns.map .int)]).loc x = (st0 [] []).loc x from st0_ne q] at e
        cases e
    · cases e
    · have hmem := mem_of_lookup e
      obtain ⟨_, o', v, h1, h2⟩ := hcells x c hmem
      exact ⟨List.mem_cons_of_mem _ (List.mem_map.mpr ⟨(x, c), hmem, rfl⟩), v, o', N'.get h1, h2⟩
  refine wpAny_mono (law_all w.params mb prog w ns hK hdat _ s₁.heap.objs.size fa cd hfr _ _ _ hCok R) (fun f s' hp' => ?_) fun _ _ e => e.elim
  obtain ⟨ρ', σ', oo, R', st, oi, hP⟩ := hp'
  subst hP
  cases oi with | ret r =>
  cases r with | fv r =>
  cases r
  rw [hplain]
  obtain ⟨h', tk', rfl⟩ := st.same
  have keep : ∀ b o, b ∉ s₁.heap.objs.size :: (cellsFrom (s₁.heap.objs.size + 1) scope.names []).map (·.2) → h₁.get? b = some o → h'.get? b = some o := fun b o hb e => st.keep b o (by simp) hb (by simp [cxl]) e
  have h195s : (195 : Addr) ∉ s₁.heap.objs.size :: (cellsFrom (s₁.heap.objs.size + 1) scope.names []).map (·.2) := fun hm => by
    rcases List.mem_cons.mp hm with q | q
    · exact absurd q (Nat.ne_of_lt hlt)
    · obtain ⟨⟨x, c⟩, hx, q⟩ := List.mem_map.mp q
      obtain ⟨h1, _⟩ := hcells x c hx
      have q : c = 195 := q
      rw [q] at h1
      exact absurd h1 (Nat.not_lt.mpr (Nat.le_of_lt hlt))
  refine ⟨⟨.inl ⟨_, _, _, rfl, hr, .bool true, hp, unshared_nil⟩, fun b o e => keep b o (hcf b o e) (F'.keep b o e), rfl, hg⟩, ?_, trivial⟩
  obtain ⟨ps, h1⟩ := h195
  exact ⟨ps, keep 195 _ h195s (N'.get h1)⟩
end Mine
end
/-! Hm -/
section
open PySem PySem.W PyProof.Rows
set_option maxHeartbeats 0
namespace Mine
/-! the start-up, run by the kernel in four parts: the opening, the top up to its eleventh statement, the twelfth for each way of the two rows it asks, the rest; the state between the parts is written out -/
noncomputable def de (P : Params) (k : String) (t : Nat) (v : Value) : DictEntry := { hash := PyData.keyHash P (Str.ofString k), key := .str (Str.ofString k) t, val := v }
noncomputable def fr (P : Params) (i : Nat) : Obj := ((frag P).lookup i).getD default
noncomputable def loQ (P : Params) (g : Obj) : List Obj :=
  [boot_o_0 P,
   { cls := Value.type "dict", data := Data.dict #[de P "builtins" 162 (Value.ref 4), de P "__main__" 163 (Value.ref 5), de P "_sre" 244 (Value.ref 12)] 3 },
   fr P 2,
   g,
   boot_o_4 P,
   boot_o_5 P,
   boot_o_6 P,
   boot_o_7 P,
   boot_o_8 P,
   boot_o_9 P,
   boot_o_10 P,
   { cls := Value.type "dict", data := Data.dict #[de P "__name__" 247 (.str (Str.ofString "_sre") 246), de P "__doc__" 248 (Value.none), de P "__package__" 250 (.str (Str.ofString "") 249), de P "__loader__" 251 (Value.builtin "off-the-table:_sre.__loader__:shared#opaque"), de P "__spec__" 252 (Value.builtin "off-the-table:_sre.__spec__:shared#opaque"), de P "compile" 253 (Value.builtin "_sre.compile"), de P "template" 254 (Value.builtin "off-the-table:_sre.template:shared#opaque"), de P "getcodesize" 255 (Value.builtin "off-the-table:_sre.getcodesize:shared#opaque"), de P "ascii_iscased" 256 (Value.builtin "off-the-table:_sre.ascii_iscased:shared#opaque"), de P "unicode_iscased" 257 (Value.builtin "off-the-table:_sre.unicode_iscased:shared#opaque"), de P "ascii_tolower" 258 (Value.builtin "off-the-table:_sre.ascii_tolower:shared#opaque"), de P "unicode_tolower" 259 (Value.builtin "off-the-table:_sre.unicode_tolower:shared#opaque"), de P "MAGIC" 261 (Value.int 20230612 260), de P "CODESIZE" 263 (Value.int 4 262), de P "MAXREPEAT" 265 (Value.int 4294967295 264), de P "MAXGROUPS" 267 (Value.int 1073741823 266), de P "copyright" 269 (.str (Str.mk #[32, 83, 82, 69, 32, 50, 46, 50, 46, 50, 32, 67, 111, 112, 121, 114, 105, 103, 104, 116, 32, 40, 99, 41, 32, 49, 57, 57, 55, 45, 50, 48, 48, 50, 32, 98, 121, 32, 83, 101, 99, 114, 101, 116, 32, 76, 97, 98, 115, 32, 65, 66, 32]) 268)] 17 },
   { cls := Value.type "module", dict := some 11 },
   { cls := Value.type "dict", data := Data.dict #[de P "__module__" 189 (.str (Str.ofString "_frozen_importlib") 186), de P "__firstlineno__" 190 (Value.int 971 187), de P "__doc__" 191 (Value.builtin "_frozen_importlib.BuiltinImporter.__doc__:str#opaque"), de P "_ORIGIN" 192 (.str (Str.ofString "built-in") 188), de P "find_spec" 193 (Value.builtin "_frozen_importlib.BuiltinImporter.find_spec#opaque"), de P "create_module" 194 (Value.builtin "_frozen_importlib.BuiltinImporter.create_module#opaque"), de P "exec_module" 195 (Value.builtin "_frozen_importlib.BuiltinImporter.exec_module#opaque"), de P "get_code" 196 (Value.builtin "_frozen_importlib.BuiltinImporter.get_code#opaque"), de P "get_source" 197 (Value.builtin "_frozen_importlib.BuiltinImporter.get_source#opaque"), de P "is_package" 198 (Value.builtin "_frozen_importlib.BuiltinImporter.is_package#opaque"), de P "load_module" 199 (Value.builtin "_frozen_importlib.BuiltinImporter.load_module#opaque"), de P "__static_attributes__" 200 (Value.ref 15), de P "__dict__" 202 (Value.ref 16), de P "__weakref__" 204 (Value.ref 17)] 14 },
   { cls := Value.type "type", data := Data.cls { name := Str.ofString "BuiltinImporter", bases := [Value.type "object"], mro := [Value.ref 14, Value.type "object"], ns := 13, qualname := Str.ofString "BuiltinImporter" } },
   { cls := Value.type "tuple", data := Data.seq #[] },
   { cls := Value.type "getset_descriptor", data := Data.fields #[.str (Str.ofString "__dict__") 201, Value.ref 14, Value.builtin "function.__dict__", Value.builtin "function.__dict__#set"] },
   { cls := Value.type "getset_descriptor", data := Data.fields #[.str (Str.ofString "__weakref__") 203, Value.ref 14, Value.builtin "ExceptionGroup.__weakref__", Value.none] },
   { cls := Value.none, data := Data.seq #[Value.int 13 0, .str (Str.mk #[6, 189, 10, 95, 95, 109, 111, 100, 117, 108, 101, 95, 95, 6, 186, 17, 95, 102, 114, 111, 122, 101, 110, 95, 105, 109, 112, 111, 114, 116, 108, 105, 98, 6, 190, 15, 95, 95, 102, 105, 114, 115, 116, 108, 105, 110, 101, 110, 111, 95, 95, 4, 187, 0, 971, 6, 191, 7, 95, 95, 100, 111, 99, 95, 95, 9, 52, 95, 102, 114, 111, 122, 101, 110, 95, 105, 109, 112, 111, 114, 116, 108, 105, 98, 46, 66, 117, 105, 108, 116, 105, 110, 73, 109, 112, 111, 114, 116, 101, 114, 46, 95, 95, 100, 111, 99, 95, 95, 58, 115, 116, 114, 35, 111, 112, 97, 113, 117, 101, 6, 192, 7, 95, 79, 82, 73, 71, 73, 78, 6, 188, 8, 98, 117, 105, 108, 116, 45, 105, 110, 6, 193, 9, 102, 105, 110, 100, 95, 115, 112, 101, 99, 9, 50, 95, 102, 114, 111, 122, 101, 110, 95, 105, 109, 112, 111, 114, 116, 108, 105, 98, 46, 66, 117, 105, 108, 116, 105, 110, 73, 109, 112, 111, 114, 116, 101, 114, 46, 102, 105, 110, 100, 95, 115, 112, 101, 99, 35, 111, 112, 97, 113, 117, 101, 6, 194, 13, 99, 114, 101, 97, 116, 101, 95, 109, 111, 100, 117, 108, 101, 9, 54, 95, 102, 114, 111, 122, 101, 110, 95, 105, 109, 112, 111, 114, 116, 108, 105, 98, 46, 66, 117, 105, 108, 116, 105, 110, 73, 109, 112, 111, 114, 116, 101, 114, 46, 99, 114, 101, 97, 116, 101, 95, 109, 111, 100, 117, 108, 101, 35, 111, 112, 97, 113, 117, 101, 6, 195, 11, 101, 120, 101, 99, 95, 109, 111, 100, 117, 108, 101, 9, 52, 95, 102, 114, 111, 122, 101, 110, 95, 105, 109, 112, 111, 114, 116, 108, 105, 98, 46, 66, 117, 105, 108, 116, 105, 110, 73, 109, 112, 111, 114, 116, 101, 114, 46, 101, 120, 101, 99, 95, 109, 111, 100, 117, 108, 101, 35, 111, 112, 97, 113, 117, 101, 6, 196, 8, 103, 101, 116, 95, 99, 111, 100, 101, 9, 49, 95, 102, 114, 111, 122, 101, 110, 95, 105, 109, 112, 111, 114, 116, 108, 105, 98, 46, 66, 117, 105, 108, 116, 105, 110, 73, 109, 112, 111, 114, 116, 101, 114, 46, 103, 101, 116, 95, 99, 111, 100, 101, 35, 111, 112, 97, 113, 117, 101, 6, 197, 10, 103, 101, 116, 95, 115, 111, 117, 114, 99, 101, 9, 51, 95, 102, 114, 111, 122, 101, 110, 95, 105, 109, 112, 111, 114, 116, 108, 105, 98, 46, 66, 117, 105, 108, 116, 105, 110, 73, 109, 112, 111, 114, 116, 101, 114, 46, 103, 101, 116, 95, 115, 111, 117, 114, 99, 101, 35, 111, 112, 97, 113, 117, 101, 6, 198, 10, 105, 115, 95, 112, 97, 99, 107, 97, 103, 101, 9, 51, 95, 102, 114, 111, 122, 101, 110, 95, 105, 109, 112, 111, 114, 116, 108, 105, 98, 46, 66, 117, 105, 108, 116, 105, 110, 73, 109, 112, 111, 114, 116, 101, 114, 46, 105, 115, 95, 112, 97, 99, 107, 97, 103, 101, 35, 111, 112, 97, 113, 117, 101, 6, 199, 11, 108, 111, 97, 100, 95, 109, 111, 100, 117, 108, 101, 9, 52, 95, 102, 114, 111, 122, 101, 110, 95, 105, 109, 112, 111, 114, 116, 108, 105, 98, 46, 66, 117, 105, 108, 116, 105, 110, 73, 109, 112, 111, 114, 116, 101, 114, 46, 108, 111, 97, 100, 95, 109, 111, 100, 117, 108, 101, 35, 111, 112, 97, 113, 117, 101, 6, 200, 21, 95, 95, 115, 116, 97, 116, 105, 99, 95, 97, 116, 116, 114, 105, 98, 117, 116, 101, 115, 95, 95, 4, 0, 0, 15, 6, 202, 8, 95, 95, 100, 105, 99, 116, 95, 95, 4, 0, 0, 16, 6, 204, 11, 95, 95, 119, 101, 97, 107, 114, 101, 102, 95, 95, 4, 0, 0, 17]) 0, Value.bool true, Value.bool true, .str (Str.ofString "") 205, Value.int 21 0, .str (Str.mk #[6, 227, 10, 95, 95, 109, 111, 100, 117, 108, 101, 95, 95, 6, 217, 17, 95, 102, 114, 111, 122, 101, 110, 95, 105, 109, 112, 111, 114, 116, 108, 105, 98, 6, 228, 15, 95, 95, 102, 105, 114, 115, 116, 108, 105, 110, 101, 110, 111, 95, 95, 4, 218, 0, 562, 6, 229, 7, 95, 95, 100, 111, 99, 95, 95, 9, 47, 95, 102, 114, 111, 122, 101, 110, 95, 105, 109, 112, 111, 114, 116, 108, 105, 98, 46, 77, 111, 100, 117, 108, 101, 83, 112, 101, 99, 46, 95, 95, 100, 111, 99, 95, 95, 58, 115, 116, 114, 35, 111, 112, 97, 113, 117, 101, 6, 230, 8, 95, 95, 105, 110, 105, 116, 95, 95, 9, 44, 95, 102, 114, 111, 122, 101, 110, 95, 105, 109, 112, 111, 114, 116, 108, 105, 98, 46, 77, 111, 100, 117, 108, 101, 83, 112, 101, 99, 46, 95, 95, 105, 110, 105, 116, 95, 95, 35, 111, 112, 97, 113, 117, 101, 6, 231, 8, 95, 95, 114, 101, 112, 114, 95, 95, 9, 44, 95, 102, 114, 111, 122, 101, 110, 95, 105, 109, 112, 111, 114, 116, 108, 105, 98, 46, 77, 111, 100, 117, 108, 101, 83, 112, 101, 99, 46, 95, 95, 114, 101, 112, 114, 95, 95, 35, 111, 112, 97, 113, 117, 101, 6, 232, 6, 95, 95, 101, 113, 95, 95, 9, 42, 95, 102, 114, 111, 122, 101, 110, 95, 105, 109, 112, 111, 114, 116, 108, 105, 98, 46, 77, 111, 100, 117, 108, 101, 83, 112, 101, 99, 46, 95, 95, 101, 113, 95, 95, 35, 111, 112, 97, 113, 117, 101, 6, 233, 6, 99, 97, 99, 104, 101, 100, 9, 42, 95, 102, 114, 111, 122, 101, 110, 95, 105, 109, 112, 111, 114, 116, 108, 105, 98, 46, 77, 111, 100, 117, 108, 101, 83, 112, 101, 99, 46, 99, 97, 99, 104, 101, 100, 35, 111, 112, 97, 113, 117, 101, 6, 234, 6, 112, 97, 114, 101, 110, 116, 9, 42, 95, 102, 114, 111, 122, 101, 110, 95, 105, 109, 112, 111, 114, 116, 108, 105, 98, 46, 77, 111, 100, 117, 108, 101, 83, 112, 101, 99, 46, 112, 97, 114, 101, 110, 116, 35, 111, 112, 97, 113, 117, 101, 6, 235, 12, 104, 97, 115, 95, 108, 111, 99, 97, 116, 105, 111, 110, 9, 48, 95, 102, 114, 111, 122, 101, 110, 95, 105, 109, 112, 111, 114, 116, 108, 105, 98, 46, 77, 111, 100, 117, 108, 101, 83, 112, 101, 99, 46, 104, 97, 115, 95, 108, 111, 99, 97, 116, 105, 111, 110, 35, 111, 112, 97, 113, 117, 101, 6, 236, 21, 95, 95, 115, 116, 97, 116, 105, 99, 95, 97, 116, 116, 114, 105, 98, 117, 116, 101, 115, 95, 95, 4, 0, 0, 23, 6, 238, 8, 95, 95, 100, 105, 99, 116, 95, 95, 4, 0, 0, 24, 6, 240, 11, 95, 95, 119, 101, 97, 107, 114, 101, 102, 95, 95, 4, 0, 0, 25, 6, 241, 8, 95, 95, 104, 97, 115, 104, 95, 95, 0]) 0, Value.bool true, Value.bool true, .str (Str.ofString "") 242] 1 },
   { cls := Value.type "list", data := Data.seq #[] },
   { cls := Value.type "dict", data := Data.dict #[de P "name" 208 (.str (Str.ofString "_sre") 207), de P "loader" 209 (Value.ref 14), de P "origin" 210 (.str (Str.ofString "built-in") 184), de P "loader_state" 211 (Value.none), de P "submodule_search_locations" 212 (Value.none), de P "_uninitialized_submodules" 213 (Value.ref 19), de P "_set_fileattr" 214 (Value.bool false), de P "_cached" 215 (Value.none), de P "_initializing" 243 (Value.bool false)] 9 },
   { cls := Value.type "dict", data := Data.dict #[de P "__module__" 227 (.str (Str.ofString "_frozen_importlib") 217), de P "__firstlineno__" 228 (Value.int 562 218), de P "__doc__" 229 (Value.builtin "_frozen_importlib.ModuleSpec.__doc__:str#opaque"), de P "__init__" 230 (Value.builtin "_frozen_importlib.ModuleSpec.__init__#opaque"), de P "__repr__" 231 (Value.builtin "_frozen_importlib.ModuleSpec.__repr__#opaque"), de P "__eq__" 232 (Value.builtin "_frozen_importlib.ModuleSpec.__eq__#opaque"), de P "cached" 233 (Value.builtin "_frozen_importlib.ModuleSpec.cached#opaque"), de P "parent" 234 (Value.builtin "_frozen_importlib.ModuleSpec.parent#opaque"), de P "has_location" 235 (Value.builtin "_frozen_importlib.ModuleSpec.has_location#opaque"), de P "__static_attributes__" 236 (Value.ref 23), de P "__dict__" 238 (Value.ref 24), de P "__weakref__" 240 (Value.ref 25), de P "__hash__" 241 (Value.none)] 13 },
   { cls := Value.type "type", data := Data.cls { name := Str.ofString "ModuleSpec", bases := [Value.type "object"], mro := [Value.ref 22, Value.type "object"], ns := 21, qualname := Str.ofString "ModuleSpec" } },
   { cls := Value.type "tuple", data := Data.seq #[.str (Str.ofString "_cached") 219, .str (Str.ofString "_set_fileattr") 220, .str (Str.ofString "_uninitialized_submodules") 221, .str (Str.ofString "loader") 222, .str (Str.ofString "loader_state") 223, .str (Str.ofString "name") 224, .str (Str.ofString "origin") 225, .str (Str.ofString "submodule_search_locations") 226] },
   { cls := Value.type "getset_descriptor", data := Data.fields #[.str (Str.ofString "__dict__") 237, Value.ref 22, Value.builtin "function.__dict__", Value.builtin "function.__dict__#set"] },
   { cls := Value.type "getset_descriptor", data := Data.fields #[.str (Str.ofString "__weakref__") 239, Value.ref 22, Value.builtin "ExceptionGroup.__weakref__", Value.none] },
   { cls := Value.ref 22, dict := some 20 },
   { cls := Value.none, data := Data.seq #[Value.int 11 0, Value.str { cps := #[6, 247, 8, 95, 95, 110, 97, 109, 101, 95, 95, 6, 246, 4, 95, 115, 114, 101, 6, 248, 7, 95, 95, 100, 111, 99, 95, 95, 0, 6, 250, 11, 95, 95, 112, 97, 99, 107, 97, 103, 101, 95, 95, 6, 249, 0, 6, 251, 10, 95, 95, 108, 111, 97, 100, 101, 114, 95, 95, 4, 0, 0, 14, 6, 252, 8, 95, 95, 115, 112, 101, 99, 95, 95, 4, 0, 0, 26, 6, 253, 7, 99, 111, 109, 112, 105, 108, 101, 9, 12, 95, 115, 114, 101, 46, 99, 111, 109, 112, 105, 108, 101, 6, 254, 8, 116, 101, 109, 112, 108, 97, 116, 101, 9, 13, 95, 115, 114, 101, 46, 116, 101, 109, 112, 108, 97, 116, 101, 6, 255, 11, 103, 101, 116, 99, 111, 100, 101, 115, 105, 122, 101, 9, 16, 95, 115, 114, 101, 46, 103, 101, 116, 99, 111, 100, 101, 115, 105, 122, 101, 6, 256, 13, 97, 115, 99, 105, 105, 95, 105, 115, 99, 97, 115, 101, 100, 9, 18, 95, 115, 114, 101, 46, 97, 115, 99, 105, 105, 95, 105, 115, 99, 97, 115, 101, 100, 6, 257, 15, 117, 110, 105, 99, 111, 100, 101, 95, 105, 115, 99, 97, 115, 101, 100, 9, 20, 95, 115, 114, 101, 46, 117, 110, 105, 99, 111, 100, 101, 95, 105, 115, 99, 97, 115, 101, 100, 6, 258, 13, 97, 115, 99, 105, 105, 95, 116, 111, 108, 111, 119, 101, 114, 9, 18, 95, 115, 114, 101, 46, 97, 115, 99, 105, 105, 95, 116, 111, 108, 111, 119, 101, 114, 6, 259, 15, 117, 110, 105, 99, 111, 100, 101, 95, 116, 111, 108, 111, 119, 101, 114, 9, 20, 95, 115, 114, 101, 46, 117, 110, 105, 99, 111, 100, 101, 95, 116, 111, 108, 111, 119, 101, 114, 6, 261, 5, 77, 65, 71, 73, 67, 4, 260, 0, 20230612, 6, 263, 8, 67, 79, 68, 69, 83, 73, 90, 69, 4, 262, 0, 4, 6, 265, 9, 77, 65, 88, 82, 69, 80, 69, 65, 84, 4, 264, 0, 4294967295, 6, 267, 9, 77, 65, 88, 71, 82, 79, 85, 80, 83, 4, 266, 0, 1073741823, 6, 269, 9, 99, 111, 112, 121, 114, 105, 103, 104, 116, 6, 268, 53, 32, 83, 82, 69, 32, 50, 46, 50, 46, 50, 32, 67, 111, 112, 121, 114, 105, 103, 104, 116, 32, 40, 99, 41, 32, 49, 57, 57, 55, 45, 50, 48, 48, 50, 32, 98, 121, 32, 83, 101, 99, 114, 101, 116, 32, 76, 97, 98, 115, 32, 65, 66, 32] } 0, Value.bool true, Value.bool false, .str (Str.ofString "_sre") 271] }]
noncomputable def g0Q (P : Params) : Obj := { cls := Value.type "dict", data := Data.dict #[de P "__name__" 165 (.str (Str.ofString "__main__") 164), de P "__doc__" 166 (Value.none), de P "__package__" 167 (Value.none), de P "__loader__" 168 (Value.builtin "__main__.__loader__#opaque"), de P "__spec__" 169 (Value.none), de P "__annotations__" 170 (Value.ref 6), de P "__builtins__" 171 (Value.ref 4), de P "__file__" 173 (.str (Str.ofString "/claim/cut.py") 172), de P "__cached__" 174 (Value.none), de P "_sre" 275 (Value.ref 12)] 10 }
noncomputable def gmQ (P : Params) : Obj := { cls := Value.type "dict", data := Data.dict #[de P "__name__" 165 (.str (Str.ofString "re") 560), de P "__doc__" 166 (Value.none), de P "__package__" 167 (Value.none), de P "__loader__" 168 (Value.builtin "__main__.__loader__#opaque"), de P "__spec__" 169 (Value.none), de P "__annotations__" 170 (Value.ref 6), de P "__builtins__" 171 (Value.ref 4), de P "__file__" 173 (.str (Str.ofString "/claim/cut.py") 172), de P "__cached__" 174 (Value.none), de P "_sre" 275 (Value.ref 12), de P "_wall" 288 (Value.ref 38), de P "_tuplegetter" 347 (Value.ref 77), de P "unorderable_list_difference" 358 (Value.ref 88), de P "Mismatch" 486 (Value.ref 159), de P "_Mismatch" 487 (Value.ref 159), de P "_count_diff_all_purpose" 509 (Value.ref 169), de P "_twin_re_1" 549 (Value.ref 174), de P "translate" 559 (Value.ref 181)] 18 }
noncomputable def gnQ (P : Params) : Obj := { cls := Value.type "dict", data := Data.dict #[de P "__name__" 165 (.str (Str.ofString "re") 560), de P "__doc__" 166 (Value.none), de P "__package__" 167 (Value.none), de P "__loader__" 168 (Value.builtin "__main__.__loader__#opaque"), de P "__spec__" 169 (Value.none), de P "__annotations__" 170 (Value.ref 6), de P "__builtins__" 171 (Value.ref 4), de P "__file__" 173 (.str (Str.ofString "/claim/cut.py") 172), de P "__cached__" 174 (Value.none), de P "_sre" 275 (Value.ref 12), de P "_wall" 288 (Value.ref 38), de P "_tuplegetter" 347 (Value.ref 77), de P "unorderable_list_difference" 358 (Value.ref 88), de P "Mismatch" 486 (Value.ref 159), de P "_Mismatch" 487 (Value.ref 159), de P "_count_diff_all_purpose" 509 (Value.ref 169), de P "_twin_re_1" 549 (Value.ref 174), de P "translate" 559 (Value.ref 181), de P "_special_chars_map" 707 (Value.ref 183)] 19 }
noncomputable def hiQ (P : Params) : List Obj :=
  [{ cls := Value.type "tuple", data := Data.seq #[] },
   { cls := Value.none, data := Data.fields #[Value.int 2 0, Value.int 0 0, Value.ref 37, Value.int 6 0, Value.int 0 0, Value.ref 44, Value.int 24 0, Value.int 0 0, Value.ref 87, Value.int 38 0, Value.int 0 0, Value.ref 95, Value.int 82 0, Value.int 0 0, Value.ref 168, Value.int 116 0, Value.int 0 0, Value.ref 180] },
   { cls := Value.type "code", data := Data.fields #[.str (Str.ofString "<module>") 277, .str (Str.ofString "<module>") 278, .str (Str.ofString "/claim/cut.py") 279, Value.int 1 0, Value.int 0 0, Value.int 0 0, Value.int 0 0, Value.int 0 0, Value.ref 28, Value.bool false, Value.int 276 0, Value.ref 29, Value.none, Value.none, Value.none, Value.none, Value.int 280 0, Value.int 1 0, .str (Str.ofString "/claim/cut.py") 281] },
   { cls := Value.type "frame", slots := #[some (Value.ref 30), some (Value.ref 3), some (Value.ref 3), none, some (.str (Str.ofString "__main__") 164), none, some (Value.ref 0)] },
   fr P 32,
   { cls := Value.none, data := Data.fields #[] },
   fr P 34,
   fr P 35,
   { cls := Value.none, data := Data.func (fnOf (stAt 1) { params := default, body := .stmts [], scope := default, name := Str.ofString "_wall", qualname := Str.ofString "_wall", globals := 0, closure := [], defaults := Value.none, kwdefaults := Value.none }) },
   fr P 37,
   fr P 38,
   { cls := Value.type "tuple", data := Data.seq #[] },
   { cls := Value.type "builtin_function_or_method", data := Data.fields #[Value.builtin "type.__prepare__", Value.type "type"] },
   { cls := Value.type "dict", data := Data.dict #[de P "__module__" 298 (.str (Str.ofString "cpy313.unittest.util") 289), de P "__qualname__" 300 (.str (Str.ofString "_tuplegetter") 299), de P "__firstlineno__" 302 (Value.int 6 301), de P "__init__" 311 (Value.ref 52), de P "__get__" 320 (Value.ref 60), de P "__set__" 329 (Value.ref 67), de P "__delete__" 337 (Value.ref 74), de P "__static_attributes__" 340 (Value.ref 75)] 8 },
   { cls := Value.type "tuple", data := Data.seq #[] },
   { cls := Value.none, data := Data.fields #[Value.int 8 0, Value.int 4 0, Value.ref 51, Value.int 12 0, Value.int 4 0, Value.ref 59, Value.int 19 0, Value.int 4 0, Value.ref 66, Value.int 22 0, Value.int 4 0, Value.ref 73] },
   { cls := Value.type "code", data := Data.fields #[.str (Str.ofString "_tuplegetter") 293, .str (Str.ofString "_tuplegetter") 294, .str (Str.ofString "/claim/cut.py") 295, Value.int 6 0, Value.int 0 0, Value.int 0 0, Value.int 0 0, Value.int 0 0, Value.ref 42, Value.bool false, Value.int 276 0, Value.ref 43, Value.none, Value.none, Value.none, Value.none, Value.int 296 0, Value.int 6 0, .str (Str.ofString "/claim/cut.py") 297] },
   { cls := Value.type "frame", slots := #[some (Value.ref 44), some (Value.ref 3), some (Value.ref 41), none, some (.str (Str.ofString "cpy313.unittest.util") 289), none, some (Value.ref 0)] },
   fr P 46,
   { cls := Value.none, data := Data.fields #[] },
   fr P 48,
   fr P 49,
   { cls := Value.none, data := Data.func (fnOf (inCls (stAt 3) 0) { params := default, body := .stmts [], scope := default, name := Str.ofString "__init__", qualname := Str.ofString "_tuplegetter.__init__", globals := 0, closure := [], defaults := Value.none, kwdefaults := Value.none }) },
   fr P 51,
   fr P 52,
   fr P 53,
   fr P 54,
   { cls := Value.none, data := Data.fields #[] },
   fr P 56,
   fr P 57,
   { cls := Value.none, data := Data.func (fnOf (inCls (stAt 3) 1) { params := default, body := .stmts [], scope := default, name := Str.ofString "__get__", qualname := Str.ofString "_tuplegetter.__get__", globals := 0, closure := [], defaults := Value.none, kwdefaults := Value.none }) },
   fr P 59,
   fr P 60,
   fr P 61,
   { cls := Value.none, data := Data.fields #[] },
   fr P 63,
   fr P 64,
   { cls := Value.none, data := Data.func (fnOf (inCls (stAt 3) 2) { params := default, body := .stmts [], scope := default, name := Str.ofString "__set__", qualname := Str.ofString "_tuplegetter.__set__", globals := 0, closure := [], defaults := Value.none, kwdefaults := Value.none }) },
   fr P 66,
   fr P 67,
   fr P 68,
   { cls := Value.none, data := Data.fields #[] },
   fr P 70,
   fr P 71,
   { cls := Value.none, data := Data.func (fnOf (inCls (stAt 3) 3) { params := default, body := .stmts [], scope := default, name := Str.ofString "__delete__", qualname := Str.ofString "_tuplegetter.__delete__", globals := 0, closure := [], defaults := Value.none, kwdefaults := Value.none }) },
   fr P 73,
   fr P 74,
   fr P 75,
   fr P 76,
   fr P 77,
   { cls := Value.type "getset_descriptor", data := Data.fields #[.str (Str.ofString "__dict__") 341, Value.ref 77, Value.builtin "function.__dict__", Value.builtin "function.__dict__#set"] },
   { cls := Value.type "getset_descriptor", data := Data.fields #[.str (Str.ofString "__weakref__") 343, Value.ref 77, Value.builtin "ExceptionGroup.__weakref__", Value.none] },
   { cls := Value.type "super", data := Data.fields #[Value.ref 77, Value.ref 77, Value.ref 77] },
   { cls := Value.type "builtin_function_or_method", data := Data.fields #[Value.builtin "object.__init_subclass__", Value.ref 77] },
   fr P 82,
   { cls := Value.none, data := Data.fields #[] },
   fr P 84,
   fr P 85,
   { cls := Value.none, data := Data.func (fnOf (stAt 4) { params := default, body := .stmts [], scope := default, name := Str.ofString "unorderable_list_difference", qualname := Str.ofString "unorderable_list_difference", globals := 0, closure := [], defaults := Value.none, kwdefaults := Value.none }) },
   fr P 87,
   fr P 88,
   fr P 89,
   { cls := Value.type "builtin_function_or_method", data := Data.fields #[Value.builtin "type.__prepare__", Value.type "type"] },
   { cls := Value.type "dict", data := Data.dict #[de P "__module__" 366 (.str (Str.ofString "cpy313.unittest.util") 289), de P "__qualname__" 368 (.str (Str.ofString "Mismatch") 367), de P "__firstlineno__" 370 (Value.int 38 369), de P "__doc__" 372 (.str (Str.ofString "Mismatch(actual, expected, value)") 371), de P "__slots__" 374 (Value.ref 97), de P "_fields" 378 (Value.ref 98), de P "_field_defaults" 379 (Value.ref 99), de P "__new__" 390 (Value.ref 106), de P "_make" 412 (Value.ref 115), de P "_replace" 423 (Value.ref 124), de P "__replace__" 424 (Value.ref 124), de P "__repr__" 432 (Value.ref 131), de P "_asdict" 439 (Value.ref 138), de P "__getnewargs__" 447 (Value.ref 145), de P "__match_args__" 451 (Value.ref 146), de P "actual" 461 (Value.ref 148), de P "expected" 471 (Value.ref 151), de P "value" 481 (Value.ref 154), de P "__static_attributes__" 482 (Value.ref 156), de P "__classcell__" 483 (Value.ref 92)] 20 },
   fr P 92,
   { cls := Value.type "tuple", data := Data.seq #[] },
   { cls := Value.none, data := Data.fields #[Value.int 44 0, Value.int 4 0, Value.ref 105, Value.int 49 0, Value.int 4 0, Value.ref 112, Value.int 56 0, Value.int 4 0, Value.ref 123, Value.int 67 0, Value.int 4 0, Value.ref 130, Value.int 71 0, Value.int 4 0, Value.ref 137, Value.int 74 0, Value.int 4 0, Value.ref 144] },
   { cls := Value.type "code", data := Data.fields #[.str (Str.ofString "Mismatch") 361, .str (Str.ofString "Mismatch") 362, .str (Str.ofString "/claim/cut.py") 363, Value.int 38 0, Value.int 0 0, Value.int 0 0, Value.int 0 0, Value.int 0 0, Value.ref 93, Value.bool false, Value.int 276 0, Value.ref 94, Value.none, Value.none, Value.none, Value.none, Value.int 364 0, Value.int 38 0, .str (Str.ofString "/claim/cut.py") 365] },
   { cls := Value.type "frame", slots := #[some (Value.ref 95), some (Value.ref 3), some (Value.ref 91), none, some (.str (Str.ofString "cpy313.unittest.util") 289), none, some (Value.ref 0)] },
   fr P 97,
   fr P 98,
   fr P 99,
   fr P 100,
   { cls := Value.none, data := Data.fields #[] },
   fr P 102,
   fr P 103,
   { cls := Value.none, data := Data.func (fnOf (inCls (stAt 5) 4) { params := default, body := .stmts [], scope := default, name := Str.ofString "__new__", qualname := Str.ofString "Mismatch.__new__", globals := 0, closure := [], defaults := Value.none, kwdefaults := Value.none }) },
   fr P 105,
   fr P 106,
   fr P 107,
   { cls := Value.none, data := Data.fields #[] },
   fr P 109,
   fr P 110,
   { cls := Value.none, data := Data.func (fnOf (inCls (stAt 5) 5) { params := default, body := .stmts [], scope := default, name := Str.ofString "_make", qualname := Str.ofString "Mismatch._make", globals := 0, closure := [], defaults := Value.none, kwdefaults := Value.none }) },
   fr P 112,
   fr P 113,
   fr P 114,
   fr P 115,
   fr P 116,
   fr P 117,
   fr P 118,
   { cls := Value.none, data := Data.fields #[] },
   fr P 120,
   fr P 121,
   { cls := Value.none, data := Data.func (fnOf (inCls (stAt 5) 6) { params := default, body := .stmts [], scope := default, name := Str.ofString "_replace", qualname := Str.ofString "Mismatch._replace", globals := 0, closure := [], defaults := Value.none, kwdefaults := Value.none }) },
   fr P 123,
   fr P 124,
   fr P 125,
   { cls := Value.none, data := Data.fields #[] },
   fr P 127,
   fr P 128,
   { cls := Value.none, data := Data.func (fnOf (inCls (stAt 5) 8) { params := default, body := .stmts [], scope := default, name := Str.ofString "__repr__", qualname := Str.ofString "Mismatch.__repr__", globals := 0, closure := [], defaults := Value.none, kwdefaults := Value.none }) },
   fr P 130,
   fr P 131,
   fr P 132,
   { cls := Value.none, data := Data.fields #[] },
   fr P 134,
   fr P 135,
   { cls := Value.none, data := Data.func (fnOf (inCls (stAt 5) 9) { params := default, body := .stmts [], scope := default, name := Str.ofString "_asdict", qualname := Str.ofString "Mismatch._asdict", globals := 0, closure := [], defaults := Value.none, kwdefaults := Value.none }) },
   fr P 137,
   fr P 138,
   fr P 139,
   { cls := Value.none, data := Data.fields #[] },
   fr P 141,
   fr P 142,
   { cls := Value.none, data := Data.func (fnOf (inCls (stAt 5) 10) { params := default, body := .stmts [], scope := default, name := Str.ofString "__getnewargs__", qualname := Str.ofString "Mismatch.__getnewargs__", globals := 0, closure := [], defaults := Value.none, kwdefaults := Value.none }) },
   fr P 144,
   fr P 145,
   fr P 146,
   fr P 147,
   fr P 148,
   { cls := Value.type "frame", data := Data.dict #[de P "self" 454 (Value.ref 148), de P "index" 455 (Value.int 0 452), de P "doc" 456 (.str (Str.ofString "Alias for field number 0") 453)] 3 },
   fr P 150,
   fr P 151,
   { cls := Value.type "frame", data := Data.dict #[de P "self" 464 (Value.ref 151), de P "index" 465 (Value.int 1 462), de P "doc" 466 (.str (Str.ofString "Alias for field number 1") 463)] 3 },
   fr P 153,
   fr P 154,
   { cls := Value.type "frame", data := Data.dict #[de P "self" 474 (Value.ref 154), de P "index" 475 (Value.int 2 472), de P "doc" 476 (.str (Str.ofString "Alias for field number 2") 473)] 3 },
   fr P 156,
   { cls := Value.type "list", data := Data.seq #[] },
   fr P 158,
   fr P 159,
   fr P 160,
   { cls := Value.type "super", data := Data.fields #[Value.ref 159, Value.ref 159, Value.ref 159] },
   { cls := Value.type "builtin_function_or_method", data := Data.fields #[Value.builtin "object.__init_subclass__", Value.ref 159] },
   fr P 163,
   { cls := Value.none, data := Data.fields #[] },
   fr P 165,
   fr P 166,
   { cls := Value.none, data := Data.func (fnOf (stAt 7) { params := default, body := .stmts [], scope := default, name := Str.ofString "_count_diff_all_purpose", qualname := Str.ofString "_count_diff_all_purpose", globals := 0, closure := [], defaults := Value.none, kwdefaults := Value.none }) },
   fr P 168,
   fr P 169,
   { cls := Value.type "list", data := Data.seq #[Value.int 14 515, Value.int 14 516, Value.int 4 517, Value.int 1 518, Value.int 1 519, Value.int 9 520, Value.int 0 521, Value.int 64 522, Value.int 0 523, Value.int 1342177280 524, Value.int 0 525, Value.int 0 526, Value.int 0 527, Value.int 0 528, Value.int 0 529, Value.int 17 530, Value.int 0 531, Value.int 13 532, Value.int 11 533, Value.int 9 534, Value.int 0 535, Value.int 64 536, Value.int 0 537, Value.int 1342177280 538, Value.int 0 539, Value.int 0 540, Value.int 0 541, Value.int 0 542, Value.int 0 543, Value.int 17 544, Value.int 1 545, Value.int 1 546] },
   { cls := Value.type "dict", data := Data.dict #[] },
   { cls := Value.type "tuple", data := Data.seq #[Value.none, Value.none] },
   fr P 173,
   { cls := Value.type "re.Pattern", data := Data.fields #[.str (Str.ofString "([&~|])") 513, Value.int 32 548, Value.int 1 0, Value.none, Value.none, Value.ref 173, Value.int 0 0] },
   fr P 175,
   { cls := Value.none, data := Data.fields #[] },
   fr P 177,
   fr P 178,
   { cls := Value.none, data := Data.func (fnOf (stAt 10) { params := default, body := .stmts [], scope := default, name := Str.ofString "translate", qualname := Str.ofString "translate", globals := 0, closure := [], defaults := Value.none, kwdefaults := Value.none }) },
   fr P 180,
   fr P 181]
noncomputable def hi2Q (P : Params) : List Obj :=
  [{ cls := Value.type "bytes_iterator", data := Data.fields #[Value.none, Value.int 24 0] },
   fr P 183,
   { cls := Value.type "dict", data := Data.dict #[] 2 },
   { cls := Value.type "tuple", data := Data.seq #[] },
   { cls := Value.type "StopIteration", data := Data.fields #[Value.ref 185, Value.none, Value.none, Value.none, Value.bool false, Value.none] }]
noncomputable def h0Q (P : Params) : Heap := ⟨⟨loQ P (g0Q P)⟩, {}⟩
noncomputable def hmQ (P : Params) : Heap := ⟨⟨loQ P (gmQ P) ++ hiQ P⟩, {}⟩
noncomputable def hnQ (P : Params) : Heap := ⟨⟨loQ P (gnQ P) ++ (hiQ P ++ hi2Q P)⟩, {}⟩
noncomputable abbrev pQ : Program := PySem.Challenge.pw_ij0108_02
noncomputable def envQ : Env := { scope := pQ.main.scope, locals := mainNs, globals := mainNs, cells := [], code := .ref 30, frame := some 31 }
noncomputable def cQ : Code := .body (behindTheImports pQ) envQ
noncomputable abbrev qQ : Pos := { line := 0, col := 0, endLine := 0, endCol := 0 }
noncomputable abbrev mQ : Pos := { line := 124, col := 0, endLine := 124, endCol := 8 }
noncomputable abbrev nQ : Pos := { line := 125, col := 0, endLine := 125, endCol := 18 }
noncomputable abbrev annQ : Option Value := some (.ref 6)
noncomputable def looksAt {α : Type} (p : Program) (H : Heap) (look : Shared → α) (s : Shared) : Bool × Bool × α :=
  (H.isNs mainGlobals && (#[] : Array GenState).size == 0, staticsOk (importedModules p.main.body) H s.heap && namesBound p s.heap && gensDone s && laidKept H s.heap, look s)
theorem ends_of_cut {α : Type} {tb : String → Option Builtin} {p : Program} {w : World} {look : Shared → α} {g : α} {H0 HM HN : Heap} {k0 kM kN m0 : Nat} {ann : Option Value} {env : Env} {c : Code} {q pm pn : Pos} {b l1 l2 rest : List Stmt} {a0 a1 a2 a3 a4 N : Nat}
    (hb : c = .body b env) (hl : b = l1 ++ (l2 ++ rest)) (hN : a0 + (a1 + (a2 + (a3 + a4))) = N)
    (h0 : (fencedOpening tb p w N).map (fun s => (s.heap, s.gens, s.drawn, s.toks)) = some (H0, #[], {}, k0))
    (hs : (H0.objs.size, H0.nsMap mainGlobals "__annotations__") = (m0, ann))
    (h1 : ∀ os, (topGo tb p w m0 ann a0 ⟨H0, #[], {}, k0, os⟩ (topStub p)).map (·.2) = some ⟨denote tb c, c, q, [topFrame q]⟩)
    (h2 : ∀ os, (topGo tb p w m0 ann a0 ⟨H0, #[], {}, k0, os⟩ (topStub p)).bind (fun x => (segRun tb p w m0 ann 1 a1 x.1 (blockOf b env c q [topFrame q])).map fun y => (y.1, y.2.2.1)) = some (.next, c))
    (h3 : ∀ os, (topGo tb p w m0 ann a0 ⟨H0, #[], {}, k0, os⟩ (topStub p)).bind (fun x => (segRun tb p w m0 ann 1 a1 x.1 (blockOf b env c q [topFrame q])).bind fun y =>
      segRun tb p w m0 ann 1 a2 y.2.1 (PySem.W.piecesOf l1 env c y.2.2.2 [topFrame q])) = some (.next, ⟨HM, #[], {}, kM, os⟩, c, pm))
    (h5 : ∀ os, segRun tb p w m0 ann 1 a3 ⟨HM, #[], {}, kM, os⟩ (PySem.W.piecesOf l2 env c pm [topFrame q]) = some (.next, ⟨HN, #[], {}, kN, os⟩, c, pn))
    (h4 : ∀ os, (topRun tb p w m0 ann a4 ⟨HN, #[], {}, kN, os⟩ (restOf rest env c pn [topFrame q])).map (looksAt p H0 look) = some (true, true, g)) :
    (openEnds tb p w N).map look = some g := by
  obtain ⟨⟨h, gs, d, k, os⟩, e0, ev⟩ := Option.map_eq_some_iff.mp h0
  obtain ⟨rfl, rfl, rfl, rfl⟩ : h = H0 ∧ gs = #[] ∧ d = {} ∧ k = k0 := by simpa using ev
  obtain ⟨⟨sa, ta⟩, f1, rfl⟩ := Option.map_eq_some_iff.mp (h1 os)
  have h2 := h2 os
  have h3 := h3 os
  rw [f1, Option.bind_some] at h2 h3
  obtain ⟨⟨fl, sb, cb, pb⟩, f2, e2⟩ := Option.map_eq_some_iff.mp h2
  obtain ⟨rfl, rfl⟩ : fl = .next ∧ cb = c := by simpa using e2
  rw [f2, Option.bind_some] at h3
  obtain ⟨r, f4, e4⟩ := Option.map_eq_some_iff.mp (h4 os)
  have hc : restOf b env cb pb [topFrame q] = restOf (l1 ++ (l2 ++ rest)) env cb pb [topFrame q] := by rw [hl]
  have run2 := piece_app h3 (piece_app (h5 os) f4)
  rw [← hc] at run2
  have run1 := piece_block f2 run2
  rw [← hb] at run1
  have run0 := go_top f1 run1
  rw [hN] at run0
  obtain ⟨z1, z2, z3⟩ : _ ∧ _ ∧ _ := by simpa only [looksAt, Prod.mk.injEq] using e4
  obtain ⟨s1, s2⟩ : _ ∧ _ := by simpa only [Prod.mk.injEq] using hs
  unfold openEnds
  rw [e0]
  show (topFrom tb p w N ⟨h, #[], {}, k, os⟩).map look = some g
  unfold topFrom
  dsimp only
  rw [z1, s1, s2, run0]
  show (match staticsOk (importedModules p.main.body) h r.heap && namesBound p r.heap && gensDone r && laidKept h r.heap with | true => some r | false => none).map look = some g
  rw [z2]
  exact congrArg some z3
end Mine
end
/-! Ho -/
section
open PySem PySem.W PyProof.Rows
set_option maxHeartbeats 0
namespace Mine
@[reducible] noncomputable def xtQ (s : Shared) : Bool := xlAt viewQ ([] : List (Str × WData)) s && recOk (RowW.records (OpenRow.toRowW (OpenLaw.row PySem.Challenge.rw_ij0108_02))) s
@[reducible] noncomputable def lookQ (s : Shared) := (openSeen viewQ looseL (importedModules PySem.Challenge.pw_ij0108_02.main.body) xtQ true s, Hook.obs hookQ s)
@[reducible] noncomputable def topAt (w : World) : Prop := (openEnds treeTable PySem.Challenge.pw_ij0108_02 w 6668).map (fun s => (openSeen viewQ looseL (importedModules PySem.Challenge.pw_ij0108_02.main.body) xtQ true s, Hook.obs hookQ s)) = some (openGood viewQ looseL, Hook.val hookQ w)
theorem top0 (w : World) : (fencedOpening treeTable pQ w 6668).map (fun s => (s.heap, s.gens, s.drawn, s.toks)) = some (h0Q w.params, #[], {}, 276) := by
  unfold fencedOpening
  rw [PySem.W.Fast.te10274390034422433532]
  kernel_rfl
theorem topS (w : World) : ((h0Q w.params).objs.size, (h0Q w.params).nsMap mainGlobals "__annotations__") = (28, annQ) := by kernel_rfl
theorem top1 (w : World) (os : OsState) : (topGo treeTable pQ w 28 annQ 12 ⟨h0Q w.params, #[], {}, 276, os⟩ (topStub pQ)).map (·.2) = some ⟨denote treeTable cQ, cQ, qQ, [topFrame qQ]⟩ := by
  rw [PySem.W.Fast.te15667345088766844465, PySem.W.Fast.te11892475500146522536]
  kernel_rfl
theorem top2 (w : World) (os : OsState) : (topGo treeTable pQ w 28 annQ 12 ⟨h0Q w.params, #[], {}, 276, os⟩ (topStub pQ)).bind (fun x => (segRun treeTable pQ w 28 annQ 1 1 x.1 (blockOf (behindTheImports pQ) envQ cQ qQ [topFrame qQ])).map fun y => (y.1, y.2.2.1)) = some (.next, cQ) := by
  rw [PySem.W.Fast.te15667345088766844465]
  kernel_rfl
theorem top3 (w : World) (os : OsState) : (topGo treeTable pQ w 28 annQ 12 ⟨h0Q w.params, #[], {}, 276, os⟩ (topStub pQ)).bind (fun x => (segRun treeTable pQ w 28 annQ 1 1 x.1 (blockOf (behindTheImports pQ) envQ cQ qQ [topFrame qQ])).bind fun y =>
    segRun treeTable pQ w 28 annQ 1 1700 y.2.1 (PySem.W.piecesOf ((behindTheImports pQ).take 11) envQ cQ y.2.2.2 [topFrame qQ])) = some (.next, ⟨hmQ w.params, #[], {}, 562, os⟩, cQ, mQ) := by
  unfold PySem.W.piecesOf
  rw [PySem.W.Fast.te15667345088766844465, PySem.W.Fast.te14374325043358763698, PySem.W.Fast.te12563942051412417395]
  kernel_rfl
@[reducible] noncomputable def stepAt (w : World) : Prop := ∀ os, segRun treeTable pQ w 28 annQ 1 1300 ⟨hmQ w.params, #[], {}, 562, os⟩ (PySem.W.piecesOf (((behindTheImports pQ).drop 11).take 1) envQ cQ mQ [topFrame qQ]) = some (.next, ⟨hnQ w.params, #[], {}, 708, os⟩, cQ, nQ)
theorem step00 (w : World) : stepAt ((w.withFollow "comprehension-iter-twice" false).withFollow "special-get-raises" false) := by
  intro os
  unfold PySem.W.piecesOf
  rw [PySem.W.Fast.te14374325043358763698, PySem.W.Fast.te12563942051412417395]
  kernel_rfl
theorem step01 (w : World) : stepAt ((w.withFollow "comprehension-iter-twice" false).withFollow "special-get-raises" true) := by
  intro os
  unfold PySem.W.piecesOf
  rw [PySem.W.Fast.te14374325043358763698, PySem.W.Fast.te12563942051412417395]
  kernel_rfl
theorem step10 (w : World) : stepAt ((w.withFollow "comprehension-iter-twice" true).withFollow "special-get-raises" false) := by
  intro os
  unfold PySem.W.piecesOf
  rw [PySem.W.Fast.te14374325043358763698, PySem.W.Fast.te12563942051412417395]
  kernel_rfl
theorem step11 (w : World) : stepAt ((w.withFollow "comprehension-iter-twice" true).withFollow "special-get-raises" true) := by
  intro os
  unfold PySem.W.piecesOf
  rw [PySem.W.Fast.te14374325043358763698, PySem.W.Fast.te12563942051412417395]
  kernel_rfl
theorem stepAll (w : World) : stepAt w :=
  byRow2 "special-get-raises" (P := stepAt)
    (fun w => byRow2 "comprehension-iter-twice" (P := fun w => stepAt (w.withFollow "special-get-raises" false)) step00 step10 w)
    (fun w => byRow2 "comprehension-iter-twice" (P := fun w => stepAt (w.withFollow "special-get-raises" true)) step01 step11 w) w
theorem top4 (w : World) (os : OsState) : (topRun treeTable pQ w 28 annQ 3655 ⟨hnQ w.params, #[], {}, 708, os⟩ (restOf (((behindTheImports pQ).drop 11).drop 1) envQ cQ nQ [topFrame qQ])).map (looksAt pQ (h0Q w.params) lookQ) = some (true, true, openGood viewQ looseL, Hook.val hookQ w) := by
  unfold looksAt restOf leaveH lookQ
  rw [PySem.W.Fast.te14082659384304107361, PySem.W.Fast.te12563942051412417395, PySem.W.Fast.te9442747609961115081, PySem.W.Fast.te4187177175401517315]
  kernel_rfl
theorem topAll (w : World) : topAt w :=
  ends_of_cut (look := lookQ) (l1 := (behindTheImports pQ).take 11) (l2 := ((behindTheImports pQ).drop 11).take 1) (rest := ((behindTheImports pQ).drop 11).drop 1) (env := envQ) (c := cQ)
    rfl (by rw [List.take_append_drop, List.take_append_drop]) rfl (top0 w) (topS w) (top1 w) (top2 w) (top3 w) (stepAll w) (top4 w)
end Mine
end
/-! Hs -/
section
open PySem PySem.W PyProof.Rows
set_option maxHeartbeats 0
namespace Mine
theorem said1 : Fast.tw11788848310118352699 PySem.Challenge.rw_ij0108_02.row.prog.main = true := by kernel_rfl
theorem said2 : ((moduleNames PySem.Challenge.rw_ij0108_02.row.prog.main.body).isEmpty || Fast.tw12862048085361865435 (moduleNames PySem.Challenge.rw_ij0108_02.row.prog.main.body) PySem.Challenge.rw_ij0108_02.row.prog.main.body) = true := by kernel_rfl
theorem said3 : Fast.tw8377067652309620493 PySem.Challenge.rw_ij0108_02.row.prog = true := by kernel_rfl
theorem said4 : ((Fast.tw18344453789297297638 PySem.Challenge.rw_ij0108_02.row.prog).all fun n => !worldNames.contains n) = true := by kernel_rfl
theorem said5 : Fast.tw8326940854005059898 { strict := !(importedModules PySem.Challenge.rw_ij0108_02.row.prog.main.body).all cThrough.contains, foot := none, bare := List.filter (readsOut PySem.Challenge.rw_ij0108_02.row.prog PySem.Challenge.rw_ij0108_02.row.prog.main.body) [Str.ofString "vars", Str.ofString "dir", Str.ofString "locals"] } PySem.Challenge.rw_ij0108_02.row.prog.main.body = true := by kernel_rfl
theorem said6 : (Fast.tw17119622794617984870 PySem.Challenge.rw_ij0108_02.row.prog PySem.Challenge.rw_ij0108_02.row.prog.main.body fun _ n => Fast.tw17868728402115742887 n) = true := by kernel_rfl
theorem said0 : OpenLaw.wellSaid PySem.Challenge.rw_ij0108_02 = true := by
  unfold OpenLaw.wellSaid OpenRow.wellSaid OpenRow.partSaid looksOpen
  rw [PySem.W.Fast.te11788848310118352699, PySem.W.Fast.te12862048085361865435, PySem.W.Fast.te8377067652309620493, PySem.W.Fast.te8326940854005059898, PySem.W.Fast.te17119622794617984870, PySem.W.Fast.te17868728402115742887, PySem.W.Fast.te8179353310426384613, PySem.W.Fast.te10501279942588096481, PySem.W.Fast.te18344453789297297638]
  repeat' (with_reducible refine look_both ?_ ?_)
  all_goals first
    | with_reducible exact said1
    | with_reducible exact said2
    | with_reducible exact said3
    | with_reducible exact said4
    | with_reducible exact said5
    | with_reducible exact said6
    | kernel_rfl
end Mine
end
/-! W2 -/
section
open PySem PySem.W PyProof.Rows
set_option maxHeartbeats 0
namespace Mine
theorem holds_all : PySem.Challenge.rw_ij0108_02.Holds := by
  w_on
  refine holds_law said0 fun said => ?_
  refine PySem.W.holds_open (q := viewQ) (loose := looseL) (Xt := xtQ) (XP := XL viewQ []) (Yf := Hook.obs (kmHook frag addrs addrsOk [195])) (Ya := Hook.val (kmHook frag addrs addrsOk [195])) (YP := Hook.says (kmHook frag addrs addrsOk [195])) (N := 6668) ?hl (Hook.of (kmHook frag addrs addrsOk [195])) (Hook.keeps (kmHook frag addrs addrsOk [195])) (fun s e => xl_of s (Bool.and_eq_true_iff.mp e).1) XL.keeps (by rfl) (by rfl) (by rfl) (fun s e => recFacts_of (Bool.and_eq_true_iff.mp e).2) (by rfl) (by first | assumption | decide +kernel) (by decide +kernel) ⟨rfl, rfl, rfl, rfl, rfl, by decide +kernel⟩ ?hw ?hc
  case hl => exact topAll
  case hw => w_witness2
  w_strict (k_go0; (all_goals try k_fold); (
    refine law_end (lawB_true _) (by rfl) (by rfl) (by assumption) (by assumption) (by assumption) (by rfl) (by assumption) ?_ ?_ (by rfl) (by rfl) (by assumption) (by assumption) (by assumption) ?_ (by assumption) (fun _ => by rfl) ?_
    · refine ⟨#[], ?_⟩
      repeat (first | exact List.Mem.head _ | apply List.Mem.tail)
    · intro x c h
      rcases h with _ | ⟨_, _ | ⟨_, _ | ⟨_, _ | ⟨_, _ | ⟨_, _ | ⟨_, h⟩⟩⟩⟩⟩⟩
      all_goals first
        | (cases h; done)
        | (apply cell_mem
           · first
               | exact List.Mem.head _
               | exact List.Mem.tail _ (List.Mem.head _)
               | exact List.Mem.tail _ (List.Mem.tail _ (List.Mem.head _))
               | exact List.Mem.tail _ (List.Mem.tail _ (List.Mem.tail _ (List.Mem.head _)))
               | exact List.Mem.tail _ (List.Mem.tail _ (List.Mem.tail _ (List.Mem.tail _ (List.Mem.head _))))
               | exact List.Mem.tail _ (List.Mem.tail _ (List.Mem.tail _ (List.Mem.tail _ (List.Mem.tail _ (List.Mem.head _)))))
           · assumption
           · (repeat (first | exact Nat.lt_succ_self _ | apply Nat.lt_succ_of_lt)))
    · (first | lia | omega)
    · first | kc_post | wrow_post
    ))
end Mine
end
theorem PySem.Challenge.cw_ij0108_02_holds : PySem.Challenge.rw_ij0108_02.Holds := by
  exact Mine.holds_all
