import PyProof.Rows.All
import Wide.All
import OpenK.AllK
import Wide.FinOn
import KE.KxDecode
import Lean
import PySem.Challenge.RW_sw0007_01
set_option Elab.async false
set_option genSizeOfSpec false
set_option genSizeOf false
set_option linter.all false
namespace Lw
open PySem PySem.Calls PyProof.Rows

abbrev Fz := Addr → Option Obj

inductive V where
  | none : V
  | bool : Bool → V
  | int : Int → V
  | str : List Nat → V
  | bytes : List UInt8 → V
  | list : List V → V
  | dict : List (Int × V) → V

abbrev lobj (xs : List Value) (n : Nat) : Obj := { cls := .type "list", dict := none, data := .seq xs.toArray n, slots := #[] }

section
variable (prog : Program) (w : World)
mutual
inductive VR (P : Fz) : V → Value → Prop
  | none : VR P .none .none
  | bool (b : Bool) : VR P (.bool b) (.bool b)
  | int (i : Int) (t : Tok) : VR P (.int i) (.int i t)
  | str (s : List Nat) (t : Tok) : VR P (.str s) (.str ⟨s.toArray⟩ t)
  | bytes (s : List UInt8) (t : Tok) : VR P (.bytes s) (.bytes s.toArray t)
  | list {a : Addr} {xs : List Value} {n : Nat} {vs : List V} : P a = some (lobj xs n) → VRs P vs xs → VR P (.list vs) (.ref a)
  | dict {a : Addr} {o : Obj} {kvs : List (Int × V)} {kxs : List (Int × Value)} : (a == sysModules) = false → P a = some o → o.IsDictOf (intKind prog w) kxs → DRs P kvs kxs → VR P (.dict kvs) (.ref a)
inductive VRs (P : Fz) : List V → List Value → Prop
  | nil : VRs P [] []
  | cons {v : V} {x : Value} {vs : List V} {xs : List Value} : VR P v x → VRs P vs xs → VRs P (v :: vs) (x :: xs)
inductive DRs (P : Fz) : List (Int × V) → List (Int × Value) → Prop
  | nil : DRs P [] []
  | cons {k : Int} {v : V} {x : Value} {r : List (Int × V)} {r' : List (Int × Value)} : VR P v x → DRs P r r' → DRs P ((k, v) :: r) ((k, x) :: r')
end
end

section
variable {prog : Program} {w : World} {P P' : Fz}
theorem VR.mono (hp : ∀ b o, P b = some o → P' b = some o) {v : V} {x : Value} (h : VR prog w P v x) : VR prog w P' v x :=
  VR.rec (motive_1 := fun v x zz => VR prog w P' v x) (motive_2 := fun v x zz => VRs prog w P' v x) (motive_3 := fun v x zz => DRs prog w P' v x) .none .bool .int .str .bytes (fun h1 zz ih => .list (hp _ _ h1) ih)
    (fun h0 h1 h2 zz ih => .dict h0 (hp _ _ h1) h2 ih) .nil (fun zz zz a b => .cons a b) .nil (fun zz zz a b => .cons a b) h
theorem VRs.mono (hp : ∀ b o, P b = some o → P' b = some o) {v : List V} {x : List Value} (h : VRs prog w P v x) : VRs prog w P' v x :=
  VRs.rec (motive_1 := fun v x zz => VR prog w P' v x) (motive_2 := fun v x zz => VRs prog w P' v x) (motive_3 := fun v x zz => DRs prog w P' v x) .none .bool .int .str .bytes (fun h1 zz ih => .list (hp _ _ h1) ih)
    (fun h0 h1 h2 zz ih => .dict h0 (hp _ _ h1) h2 ih) .nil (fun zz zz a b => .cons a b) .nil (fun zz zz a b => .cons a b) h
theorem DRs.mono (hp : ∀ b o, P b = some o → P' b = some o) {v : List (Int × V)} {x : List (Int × Value)} (h : DRs prog w P v x) : DRs prog w P' v x :=
  DRs.rec (motive_1 := fun v x zz => VR prog w P' v x) (motive_2 := fun v x zz => VRs prog w P' v x) (motive_3 := fun v x zz => DRs prog w P' v x) .none .bool .int .str .bytes (fun h1 zz ih => .list (hp _ _ h1) ih)
    (fun h0 h1 h2 zz ih => .dict h0 (hp _ _ h1) h2 ih) .nil (fun zz zz a b => .cons a b) .nil (fun zz zz a b => .cons a b) h

noncomputable def VRi : V → Value → Prop
  | .none, x => x = .none
  | .bool b, x => x = .bool b
  | .int i, x => ∃ t, x = .int i t
  | .str l, x => ∃ t, x = .str ⟨l.toArray⟩ t
  | .bytes l, x => ∃ t, x = .bytes l.toArray t
  | _, _ => True
theorem VR.inv : ∀ {v : V} {x : Value}, VR prog w P v x → VRi v x
  | _, _, .none => rfl
  | _, _, .bool _ => rfl
  | _, _, .int _ t => ⟨t, rfl⟩
  | _, _, .str _ t => ⟨t, rfl⟩
  | _, _, .bytes _ t => ⟨t, rfl⟩
  | _, _, .list _ _ => trivial
  | _, _, .dict .. => trivial

theorem VR.list_inv {vs : List V} {x : Value} (h : VR prog w P (.list vs) x) : ∃ a xs n, x = .ref a ∧ P a = some (lobj xs n) ∧ VRs prog w P vs xs := by
  cases h with
  | list h1 h2 => exact ⟨_, _, _, rfl, h1, h2⟩

theorem VRs.length {vs : List V} {xs : List Value} (h : VRs prog w P vs xs) : vs.length = xs.length := by
  induction vs generalizing xs with
  | nil => cases h; rfl
  | cons v r ih => cases h with | cons h1 h2 => simp [ih h2]
theorem VRs.get {vs : List V} {xs : List Value} (h : VRs prog w P vs xs) {i : Nat} {v : V} (hv : vs[i]? = some v) : ∃ x, xs[i]? = some x ∧ VR prog w P v x := by
  induction vs generalizing xs i with
  | nil => simp at hv
  | cons u r ih =>
    cases h with
    | cons h1 h2 =>
      cases i with
      | zero => simp at hv; subst hv; exact ⟨_, rfl, h1⟩
      | succ i => simp at hv; simpa using ih h2 hv
theorem VRs.append {vs us : List V} {xs ys : List Value} (h : VRs prog w P vs xs) (h' : VRs prog w P us ys) : VRs prog w P (vs ++ us) (xs ++ ys) := by
  induction vs generalizing xs with
  | nil => cases h; exact h'
  | cons v r ih => cases h with | cons h1 h2 => exact .cons h1 (ih h2)
theorem VRs.snoc {vs : List V} {xs : List Value} {v : V} {x : Value} (h : VRs prog w P vs xs) (h' : VR prog w P v x) : VRs prog w P (vs ++ [v]) (xs ++ [x]) :=
  h.append (.cons h' .nil)
end

inductive Slot where
  | frz : V → Slot
  | ownL : List V → Slot
  | ownD : List (Int × V) → Slot

abbrev St := List (Option Slot)

set_option genInjectivity false in
structure Cx where
  prog : Program
  w : World
  h₀ : Heap
  mg : Str → Option Value
  mb : Str → Option Value
  g : h₀.Ns mainGlobals mg
  b : h₀.Ns builtinsNs mb
  nolimit : h₀.NoLimit

abbrev Cx.VR (C : Cx) := Lw.VR C.prog C.w
abbrev Cx.VRs (C : Cx) := Lw.VRs C.prog C.w
abbrev Cx.DRs (C : Cx) := Lw.DRs C.prog C.w
abbrev Cx.M (C : Cx) : Model := model C.prog C.w

noncomputable def SlotR (C : Cx) (P : Fz) (h : Heap) : Slot → Value → Prop
  | .frz v, x => C.VR P v x
  | .ownL vs, x => ∃ a xs n, x = .ref a ∧ h.get? a = some (lobj xs n) ∧ C.VRs P vs xs
  | .ownD kvs, x => ∃ a o kxs, x = .ref a ∧ (a == sysModules) = false ∧ h.get? a = some o ∧ o.IsDictOf (intKind C.prog C.w) kxs ∧ C.DRs P kvs kxs

noncomputable def At (env : Env) (h : Heap) (x : Str) (v : Value) : Prop :=
  (env.kindOf x = some .local ∧ ∃ m, h.Ns env.locals m ∧ m x = some v) ∨
  ((env.kindOf x = some .cell ∨ (env.kindOf x = some .free ∧ (x == ("__classdict__" : Str)) = false)) ∧ ∃ c, env.cells.lookup x = some c ∧ h.IsCell c (some v))

theorem At.keeps {env : Env} {h h' : Heap} {x : Str} {v : Value} (H : At env h x v) (hk : ∀ b o, h.get? b = some o → h'.get? b = some o) : At env h' x v := by
  rcases H with ⟨h1, m, h2, h3⟩ | ⟨h1, c, h2, h3⟩
  · exact .inl ⟨h1, m, h2.keeps hk, h3⟩
  · exact .inr ⟨h1, c, h2, h3.keeps hk⟩

structure RepE (C : Cx) (env : Env) (nm : List Str) (P : Fz) (σ : St) (h : Heap) : Prop where
  base : ∀ b o, C.h₀.get? b = some o → h.get? b = some o
  sub : ∀ b o, P b = some o → h.get? b = some o
  fn : env.scope.kind = .function
  gl : env.globals = mainGlobals
  bl : env.builtins = builtinsNs
  vars : ∀ (i : Nat) (n : Str) (sl : Slot), nm[i]? = some n → σ[i]? = some (some sl) → ∃ x, At env h n x ∧ SlotR C P h sl x
  cells : ∀ n, env.kindOf n = some .cell → ∃ c, env.cells.lookup n = some c

structure Grow (P : Fz) (h : Heap) (P' : Fz) (h' : Heap) : Prop where
  le : ∀ b o, P b = some o → P' b = some o
  sub : ∀ b o, P' b = some o → h'.get? b = some o
  keep : ∀ b o, h.get? b = some o → h'.get? b = some o
  new : ∀ b o, P' b = some o → P b = some o ∨ h.get? b = none

theorem Grow.refl {P : Fz} {h : Heap} (hs : ∀ b o, P b = some o → h.get? b = some o) : Grow P h P h :=
  ⟨fun zz zz e => e, hs, fun zz zz e => e, fun zz zz e => .inl e⟩
theorem Grow.trans {P P' P'' : Fz} {h h' h'' : Heap} (g : Grow P h P' h') (g' : Grow P' h' P'' h'') : Grow P h P'' h'' :=
  ⟨fun b o e => g'.le b o (g.le b o e), g'.sub, fun b o e => g'.keep b o (g.keep b o e), fun b o e => by
    rcases g'.new b o e with e | e
    · exact g.new b o e
    · right
      cases hq : h.get? b with
      | none => rfl
      | some o' => rw [g.keep b o' hq] at e; cases e⟩
theorem Grow.of_keep {P : Fz} {h h' : Heap} (hs : ∀ b o, P b = some o → h.get? b = some o) (hk : ∀ b o, h.get? b = some o → h'.get? b = some o) : Grow P h P h' :=
  ⟨fun zz zz e => e, fun b o e => hk b o (hs b o e), hk, fun zz zz e => .inl e⟩

theorem SlotR.grow {C : Cx} {P P' : Fz} {h h' : Heap} {sl : Slot} {x : Value} (H : SlotR C P h sl x) (g : Grow P h P' h') : SlotR C P' h' sl x := by
  cases sl with
  | frz v => exact VR.mono g.le H
  | ownL vs => obtain ⟨a, xs, n, h1, h2, h3⟩ := H; exact ⟨a, xs, n, h1, g.keep _ _ h2, VRs.mono g.le h3⟩
  | ownD kvs => obtain ⟨a, o, kxs, h1, h0, h2, h3, h4⟩ := H; exact ⟨a, o, kxs, h1, h0, g.keep _ _ h2, h3, DRs.mono g.le h4⟩

theorem RepE.grow {C : Cx} {env : Env} {nm : List Str} {P P' : Fz} {σ : St} {h h' : Heap} (R : RepE C env nm P σ h) (g : Grow P h P' h') : RepE C env nm P' σ h' :=
  ⟨fun b o e => g.keep b o (R.base b o e), g.sub, R.fn, R.gl, R.bl, fun i n sl h1 h2 => by
    obtain ⟨x, h3, h4⟩ := R.vars i n sl h1 h2
    exact ⟨x, h3.keeps g.keep, h4.grow g⟩, R.cells⟩

structure AOk (A : Around) (lv : Nat) : Prop where
  handled : A.handled = none
  depth : A.depth + lv < recursionLimit
  units : A.units + 8 * lv + 120 < cLine

/-- the continuation of a value -/
abbrev KV (C : Cx) (P : Fz) (s : Shared) (v : V) (Q : Value → Shared → Prop) : Prop :=
  ∀ P' h' tk x, Grow P s.heap P' h' → C.VR P' v x → Q x { s with heap := h', toks := tk }

noncomputable def DE (C : Cx) (sc : Scope) (nm : List Str) (lv : Nat) (e : PySem.Expr) (f : St → Option V) : Prop :=
  ∀ (A : Around) (E : Value → Shared → Prop) (env : Env) (P : Fz) (σ : St) (s : Shared) (v : V) (Q : Value → Shared → Prop),
    AOk A lv → env.scope = sc → RepE C env nm P σ s.heap → f σ = some v → KV C P s v Q → wpAny C.M A (eval e env) Q E s

noncomputable def DT (C : Cx) (sc : Scope) (nm : List Str) (lv : Nat) (e : PySem.Expr) (f : St → Option Bool) : Prop :=
  ∀ (A : Around) (E : Value → Shared → Prop) (env : Env) (P : Fz) (σ : St) (s : Shared) (b : Bool) (Q : Bool → Shared → Prop),
    AOk A lv → env.scope = sc → RepE C env nm P σ s.heap → f σ = some b →
    (∀ P' h' tk, Grow P s.heap P' h' → Q b { s with heap := h', toks := tk }) → wpAny C.M A (isTrue e env (eval e env)) Q E s

abbrev KF (C : Cx) (P : Fz) (s : Shared) (vs : List V) (Q : Value → Shared → Prop) : Prop :=
  ∀ P' h' tk a xs n, Grow P s.heap P' h' → P' a = none → s.heap.get? a = none → h'.get? a = some (lobj xs n) → C.VRs P' vs xs → Q (.ref a) { s with heap := h', toks := tk }

/-- a list newly made -/
noncomputable def DF (C : Cx) (sc : Scope) (nm : List Str) (lv : Nat) (e : PySem.Expr) (f : St → Option (List V)) : Prop :=
  ∀ (A : Around) (E : Value → Shared → Prop) (env : Env) (P : Fz) (σ : St) (s : Shared) (vs : List V) (Q : Value → Shared → Prop),
    AOk A lv → env.scope = sc → RepE C env nm P σ s.heap → f σ = some vs → KF C P s vs Q → wpAny C.M A (eval e env) Q E s

theorem Grow.add {P P' : Fz} {h h' : Heap} {a : Addr} {o : Obj} (g : Grow P h P' h') (ha : P' a = none) (hn : h.get? a = none) (ho : h'.get? a = some o) :
    Grow P h (fun b => if b = a then some o else P' b) h' := by
  refine ⟨fun b o' e => ?_, fun b o' e => ?_, g.keep, fun b o' e => ?_⟩
  · by_cases hb : b = a
    · subst hb; rw [g.le _ _ e] at ha; cases ha
    · simp only [hb, if_false]; exact g.le _ _ e
  · by_cases hb : b = a
    · subst hb; simp only [if_true] at e; cases e; exact ho
    · simp only [hb, if_false] at e; exact g.sub _ _ e
  · by_cases hb : b = a
    · subst hb; exact .inr hn
    · simp only [hb, if_false] at e; exact g.new _ _ e

theorem KF.of {C : Cx} {P : Fz} {s : Shared} {vs : List V} {Q : Value → Shared → Prop} (k : KV C P s (.list vs) Q) : KF C P s vs Q := by
  intro P' h' tk a xs n g ha hn ho hv
  refine k _ h' tk (.ref a) (g.add ha hn ho) (.list (n := n) (xs := xs) (by simp) (VRs.mono (fun b o e => ?_) hv))
  have hb : b ≠ a := by rintro rfl; rw [ha] at e; cases e
  simpa [hb] using e

theorem DF.toE {C : Cx} {sc : Scope} {nm : List Str} {lv : Nat} {e : PySem.Expr} {f : St → Option (List V)} (H : DF C sc nm lv e f) : DE C sc nm lv e (fun σ => (f σ).map V.list) := by
  intro A E env P σ s v Q hA hs R hf k
  replace hf : (f σ).map V.list = some v := hf
  cases hq : f σ with
  | none => rw [hq] at hf; cases hf
  | some vs =>
    rw [hq] at hf
    simp only [Option.map_some, Option.some.injEq] at hf
    subst hf
    exact H A E env P σ s vs Q hA hs R hq (KF.of k)

end Lw

namespace Lw
open PySem PySem.Calls PyProof.Rows
set_option maxRecDepth 10000

noncomputable def lim : Nat := 100000

noncomputable def addV : V → V → Option V
  | .int a, .int b => some (.int (a + b))
  | .str a, .str b => if a.length + b.length ≤ lim then some (.str (a ++ b)) else none
  | .bytes a, .bytes b => if a.length + b.length ≤ lim then some (.bytes (a ++ b)) else none
  | .list a, .list b => if a.length + b.length ≤ lim then some (.list (a ++ b)) else none
  | _, _ => none
noncomputable def subV : V → V → Option V
  | .int a, .int b => some (.int (a - b))
  | _, _ => none
noncomputable def mulV : V → V → Option V
  | .int a, .int b => if a.natAbs < 2 ^ 40 then some (.int (a * b)) else none
  | .str a, .int n => if a.length ≤ 100 ∧ n.natAbs ≤ 100 then some (.str (List.replicate n.toNat a).flatten) else none
  | .list a, .int n => if a.length ≤ 100 ∧ n.natAbs ≤ 100 then some (.list (List.replicate n.toNat a).flatten) else none
  | _, _ => none
noncomputable def fdivV : V → V → Option V
  | .int a, .int b => if 0 < b ∧ b < 1073741824 then some (.int (a / b)) else none
  | _, _ => none
noncomputable def modV : V → V → Option V
  | .int a, .int b => if 0 < b ∧ b < 1073741824 then some (.int (a % b)) else none
  | _, _ => none
noncomputable def xorV : V → V → Option V
  | .int a, .int b => some (.int (Builtin.bitXor a b))
  | _, _ => none

/-- what a binary step gives -/
noncomputable def BinOk (C : Cx) (step : Value → Value → Sem Value) (g : V → V → Option V) : Prop :=
  ∀ (A : Around) (E : Value → Shared → Prop) (P : Fz) (s : Shared) (a b v : V) (x y : Value) (Q : Value → Shared → Prop), A.handled = none → A.units + 100 < cLine →
    (∀ b o, C.h₀.get? b = some o → s.heap.get? b = some o) → (∀ b o, P b = some o → s.heap.get? b = some o) → C.VR P a x → C.VR P b y → g a b = some v → KV C P s v Q → wpAny C.M A (step x y) Q E s

section
variable {C : Cx} {P : Fz} {s : Shared} {v : V} {Q : Value → Shared → Prop}

theorem KV.tok (k : KV C P s v Q) (hs : ∀ b o, P b = some o → s.heap.get? b = some o) {x : Value} {tk : Nat} (hx : C.VR P v x) : Q x { s with toks := tk } :=
  k P s.heap tk x (Grow.refl hs) hx
theorem KV.here (k : KV C P s v Q) (hs : ∀ b o, P b = some o → s.heap.get? b = some o) {x : Value} (hx : C.VR P v x) : Q x s :=
  k P s.heap s.toks x (Grow.refl hs) hx

/-- a fresh list pushed -/
theorem KV.pushL {vs : List V} (k : KV C P s (.list vs) Q) (hs : ∀ b o, P b = some o → s.heap.get? b = some o) {h₁ : Heap} {tk : Nat} {xs : List Value} (hk : ∀ b o, s.heap.get? b = some o → h₁.get? b = some o)
    (hx : C.VRs P vs xs) : s.heap.get? h₁.objs.size = none → Q (.ref h₁.objs.size) { s with heap := h₁.push { cls := .type "list", data := .seq xs.toArray }, toks := tk } := by
  intro hn
  have hP : P h₁.objs.size = none := by
    cases hq : P h₁.objs.size with
    | none => rfl
    | some o => rw [hs _ _ hq] at hn; cases hn
  have g : Grow P s.heap P (h₁.push { cls := .type "list", data := .seq xs.toArray }) := Grow.of_keep hs fun b o e => Heap.get?_push_of_some _ (hk b o e)
  exact KF.of k _ _ tk _ xs 0 g hP hn (Heap.get?_push_size _ rfl) hx
end

theorem fresh_none (h : Heap) : h.get? h.objs.size = none := by
  cases hq : h.get? h.objs.size with
  | none => rfl
  | some o => exact absurd (Heap.lt_size hq) (Nat.lt_irrefl _)
theorem Grow.fresh {P P' : Fz} {h h' : Heap} (g : Grow P h P' h') {D : Addr} (e : h'.get? D = none) : P' D = none ∧ h.get? D = none := by
  constructor
  · cases hq : P' D with
    | none => rfl
    | some o => rw [g.sub _ _ hq] at e; cases e
  · cases hq : h.get? D with
    | none => rfl
    | some o => rw [g.keep _ _ hq] at e; cases e
theorem fresh_ge {h : Heap} {a : Addr} (ha : h.objs.size ≤ a) : h.get? a = none := by
  cases hq : h.get? a with
  | none => rfl
  | some o => exact absurd (Heap.lt_size hq) (Nat.not_lt.mpr ha)

theorem add_ok (C : Cx) : BinOk C (binaryOp .Add) addV := by
  intro A E P s a b v x y Q hA hu hb hs hx hy hv k
  unfold addV at hv
  split at hv
  · obtain ⟨_, rfl⟩ := hx.inv; obtain ⟨_, rfl⟩ := hy.inv; cases hv
    exact add_int (k.tok hs (.int _ _))
  · rename_i a b
    split at hv
    · rename_i hl
      obtain ⟨_, rfl⟩ := hx.inv; obtain ⟨_, rfl⟩ := hy.inv; cases hv
      unfold lim at hl
      refine add_str (fun t' tk => ?_) (by rw [sizeLine_eq]; simp only [Str.length, List.size_toArray]; (first | lia | omega))
      have e : (⟨a.toArray⟩ : Str) ++ ⟨b.toArray⟩ = ⟨(a ++ b).toArray⟩ := by
        show Str.append _ _ = _
        simp [Str.append]
      rw [e]
      exact k.tok hs (.str _ _)
    · cases hv
  · rename_i a b
    split at hv
    · rename_i hl
      obtain ⟨_, rfl⟩ := hx.inv; obtain ⟨_, rfl⟩ := hy.inv; cases hv
      unfold lim at hl
      refine PySem.W.bytes_add_K (d := a ++ b) (by simp only [List.size_toArray]; (first | lia | omega)) rfl fun t' tk => ?_
      exact k.tok hs (.bytes _ _)
    · cases hv
  · rename_i a b
    split at hv
    · rename_i hl
      cases hx with
      | list h1 h2 =>
      cases hy with
      | list h3 h4 =>
      cases hv
      unfold lim at hl
      have e1 := h2.length
      have e2 := h4.length
      refine _root_.PySem.P.add_list (hs _ _ h1) (hs _ _ h3) ?_ (by rw [sizeLine_eq]; simp only [List.size_toArray]; (first | lia | omega))
      rw [List.append_toArray]
      exact k.pushL hs (fun zz zz e => e) (h2.append h4) (fresh_none _)
    · cases hv
  · cases hv

theorem sub_ok (C : Cx) : BinOk C (binaryOp .Sub) subV := by
  intro A E P s a b v x y Q hA hu hb hs hx hy hv k
  unfold subV at hv
  split at hv
  · obtain ⟨_, rfl⟩ := hx.inv; obtain ⟨_, rfl⟩ := hy.inv; cases hv
    exact sub_int (k.tok hs (.int _ _))
  · cases hv

theorem fdiv_ok (C : Cx) : BinOk C (binaryOp .FloorDiv) fdivV := by
  intro A E P s a b v x y Q hA hu hb hs hx hy hv k
  unfold fdivV at hv
  split at hv
  · rename_i a b
    split at hv
    · rename_i hl
      obtain ⟨_, rfl⟩ := hx.inv; obtain ⟨_, rfl⟩ := hy.inv; cases hv
      refine floordiv_int (by (first | lia | omega)) ?_ (.inl (PyProof.noPylong_small (by (first | lia | omega))))
      rw [show a.fdiv b = a / b from Int.fdiv_eq_ediv_of_nonneg a (by (first | lia | omega))]
      exact k.tok hs (.int _ _)
    · cases hv
  · cases hv

theorem mod_ok (C : Cx) : BinOk C (binaryOp .Mod) modV := by
  intro A E P s a b v x y Q hA hu hb hs hx hy hv k
  unfold modV at hv
  split at hv
  · rename_i a b
    split at hv
    · rename_i hl
      obtain ⟨_, rfl⟩ := hx.inv; obtain ⟨_, rfl⟩ := hy.inv; cases hv
      refine mod_int' (by (first | lia | omega)) ?_
      rw [show a.fmod b = a % b from Int.fmod_eq_emod_of_nonneg a (by (first | lia | omega))]
      exact k.tok hs (.int _ _)
    · cases hv
  · cases hv

theorem bits_small {a : Int} (h : a.natAbs < 2 ^ 40) : Builtin.Int.intBits a ≤ 64 := by
  apply PySem.intBits_le_64 <;> (first | lia | omega)

theorem VRs.replicate {prog : Program} {w : World} {P : Fz} {vs : List V} {xs : List Value} (h : VRs prog w P vs xs) : ∀ n : Nat, VRs prog w P (List.replicate n vs).flatten (List.replicate n xs).flatten
  | 0 => .nil
  | n + 1 => by
    rw [List.replicate_succ, List.replicate_succ, List.flatten_cons, List.flatten_cons]
    exact h.append (VRs.replicate h n)

theorem foldl_cat {α : Type} (a : List α) : ∀ (k : Nat) (acc : Array α), (List.replicate k a.toArray).foldl (· ++ ·) acc = acc ++ (List.replicate k a).flatten.toArray
  | 0, acc => by simp
  | k + 1, acc => by
    rw [List.replicate_succ, List.foldl_cons, foldl_cat a k]
    simp [List.replicate_succ]
theorem txt_mul (a : List Nat) (n : Int) : PySem.Txt.mul ⟨a.toArray⟩ n = ⟨(List.replicate n.toNat a).flatten.toArray⟩ := by
  unfold PySem.Txt.mul
  split
  · rename_i h
    have : n.toNat = 0 := by (first | lia | omega)
    rw [this]; rfl
  · split
    · rename_i h
      simp only [Bool.or_eq_true, beq_iff_eq, Str.length, List.size_toArray] at h
      rcases h with h | h
      · subst h; simp
      · have : a = [] := List.length_eq_zero_iff.mp h
        subst this
        have e : ∀ k : Nat, (List.replicate k ([] : List Nat)).flatten = [] := by
          intro k; induction k with
          | zero => rfl
          | succ k ih => rw [List.replicate_succ, List.flatten_cons, ih]; rfl
        rw [e]
    · rw [foldl_cat]; simp

theorem mul_ok (C : Cx) : BinOk C (binaryOp .Mult) mulV := by
  intro A E P s a b v x y Q hA hu hb hs hx hy hv k
  unfold mulV at hv
  split at hv
  · split at hv
    · rename_i hl
      obtain ⟨_, rfl⟩ := hx.inv; obtain ⟨_, rfl⟩ := hy.inv; cases hv
      exact mul_int (k.tok hs (.int _ _)) (IntMulOk.of_left (bits_small hl))
    · cases hv
  · rename_i a n
    split at hv
    · rename_i hl
      obtain ⟨_, rfl⟩ := hx.inv; obtain ⟨_, rfl⟩ := hy.inv; cases hv
      refine PySem.SB.mul (mulOk_of 100 100 (by simp [Str.length]; (first | lia | omega)) (by (first | lia | omega)) (by (first | lia | omega)) (by decide) (by decide)) fun t' k' => ?_
      rw [txt_mul]
      exact k.tok hs (.str _ _)
    · cases hv
  · rename_i a n
    split at hv
    · rename_i hl
      cases hx with
      | @list l xs n' _ h1 h2 =>
      cases hy
      cases hv
      have e1 := h2.length
      have hsz : xs.toArray.size * n.toNat ≤ 10000 := by
        have h1 : xs.toArray.size ≤ 100 := by simp only [List.size_toArray]; (first | lia | omega)
        have h2 : n.toNat ≤ 100 := by (first | lia | omega)
        exact Nat.le_trans (Nat.mul_le_mul h1 h2) (by decide)
      refine PySem.wpAny_binaryOp_repeat_ref (T := "list") (U := "int") (by decide) ⟨_, hs _ _ h1, rfl⟩ (fun s' => typeIs_int s' n _) noFill_list_mul F.fills_int_mul F.slot_int_rmul repeat_list F.slot_int_index.lookup
        (call_meets F.slot_int_rmul (typeIs_int s n _) F.entry_int_rmul (F.args_int_rmul_2 _ _) (int___rmul___int_list n _ l xs.toArray n')
          ⟨hs _ _ h1, rfl, ⟨_, hs _ _ h1, rfl⟩, call_meets F.slot_list_mul ⟨_, hs _ _ h1, rfl⟩ F.entry_list_mul (F.args_list_mul_2 _ _)
            (AutoListH.list___mul___list_int_3 l xs.toArray n' n _ (by simp [Builtin.List.listFitsIndex]; (first | lia | omega)) (by (first | lia | omega)) (by simp [Builtin.List.listTooLong, sizeLine]; simp at hsz; (first | lia | omega)))
            ⟨hs _ _ h1, ?_⟩⟩)
      rw [listMul_foldl_if]
      exact k.pushL hs (fun zz zz e => e) (VRs.replicate h2 _) (fresh_none _)
    · cases hv
  · cases hv
end Lw

namespace Lw
open PySem PySem.Calls PyProof.Rows
set_option maxRecDepth 10000

noncomputable def ints? : List V → Option (List Int)
  | [] => some []
  | .int i :: r => (ints? r).map (i :: ·)
  | _ => none
noncomputable def strs? : List V → Option (List (List Nat))
  | [] => some []
  | .str i :: r => (strs? r).map (i :: ·)
  | _ => none
@[simp] theorem ints?_map (ns : List Int) : ints? (ns.map V.int) = some ns := by
  induction ns with
  | nil => rfl
  | cons n r ih => simp [ints?, ih]
@[simp] theorem strs?_map (ns : List (List Nat)) : strs? (ns.map V.str) = some ns := by
  induction ns with
  | nil => rfl
  | cons n r ih => simp [strs?, ih]

section
variable {prog : Program} {w : World} {P : Fz}
theorem VRs.ints {vs : List V} {xs : List Value} {ns : List Int} (h : VRs prog w P vs xs) (e : ints? vs = some ns) : IntsAre xs ns := by
  induction vs generalizing xs ns with
  | nil => cases h; cases e; exact .nil
  | cons v r ih =>
    cases h with
    | cons h1 h2 =>
      cases v with
      | int i =>
        simp only [ints?, Option.map_eq_some_iff] at e
        obtain ⟨ms, e1, rfl⟩ := e
        cases h1
        exact .cons _ _ (ih h2 e1)
      | _ => cases e
theorem VRs.of_ints {xs : List Value} {ns : List Int} (h : IntsAre xs ns) : VRs prog w P (ns.map V.int) xs := by
  induction h with
  | nil => exact .nil
  | cons n t _ ih => exact .cons (.int _ _) ih
end

mutual
noncomputable def toPy : V → PyData
  | .none => .none
  | .bool b => .bool b
  | .int i => .int i
  | .str s => .str ⟨s.toArray⟩
  | .bytes _ => .none
  | .list xs => .list (toPys xs)
  | .dict _ => .none
noncomputable def toPys : List V → List PyData
  | [] => []
  | x :: r => toPy x :: toPys r
end
theorem toPys_map (xs : List V) : toPys xs = xs.map toPy := by
  induction xs with
  | nil => rfl
  | cons x r ih => simp [toPys, ih]
mutual
noncomputable def plainV : V → Bool
  | .none => true
  | .bool _ => true
  | .int _ => true
  | .str s => s.all (· < 128)
  | .bytes _ => false
  | .list xs => plainVs xs
  | .dict _ => false
noncomputable def plainVs : List V → Bool
  | [] => true
  | x :: r => plainV x && plainVs r
end
mutual
noncomputable def deepV : V → Nat
  | .list xs => deepVs xs + 1
  | _ => 0
noncomputable def deepVs : List V → Nat
  | [] => 0
  | x :: r => max (deepV x) (deepVs r)
end

section
variable {prog : Program} {w : World} {P : Fz} {h : Heap}
mutual
theorem VR.reads (hs : ∀ b o, P b = some o → h.get? b = some o) : ∀ (v : V) (x : Value), VR prog w P v x → plainV v = true → ∃ as, Reads h x (toPy v) as
  | .none, x, H, _ => by cases H; exact ⟨_, .none⟩
  | .bool b, x, H, _ => by cases H; exact ⟨_, .bool b⟩
  | .int i, x, H, _ => by cases H; exact ⟨_, .int i _⟩
  | .str s, x, H, _ => by cases H; exact ⟨_, .str _ _⟩
  | .bytes s, x, H, hp => by cases hp
  | .dict s, x, H, hp => by cases hp
  | .list xs, x, H, hp => by
    cases H with
    | list h1 h2 =>
      obtain ⟨as, hr⟩ := VRs.reads hs xs _ h2 hp
      exact ⟨_, .list (hs _ _ h1) rfl rfl hr⟩
theorem VRs.reads (hs : ∀ b o, P b = some o → h.get? b = some o) : ∀ (v : List V) (x : List Value), VRs prog w P v x → plainVs v = true → ∃ as, ReadsAll h x (toPys v) as
  | [], x, H, _ => by cases H; exact ⟨_, .nil⟩
  | v :: r, x, H, hp => by
    cases H with
    | cons h1 h2 =>
      have hp' : plainV v = true ∧ plainVs r = true := by simpa [plainVs] using hp
      obtain ⟨as, hr⟩ := VR.reads hs v _ h1 hp'.1
      obtain ⟨bs, hr'⟩ := VRs.reads hs r _ h2 hp'.2
      exact ⟨_, .cons hr hr'⟩
end
end
mutual
theorem plain_canLay : ∀ {v : V}, plainV v = true → (toPy v).canLay0 = true
  | .none, _ => rfl
  | .bool _, _ => rfl
  | .int _, _ => rfl
  | .str s, h => by
    show PyData.strOk _ = true
    have h' : s.all (· < 128) = true := h
    rw [List.all_eq_true] at h'
    unfold PyData.strOk
    rw [List.all_toArray, List.all_eq_true]
    intro c hc
    have := of_decide_eq_true (h' c hc)
    exact decide_eq_true (by (first | lia | omega))
  | .list xs, h => by
    show PyData.canLayAll0 (toPys xs) = true
    exact plains_canLay h
theorem plains_canLay : ∀ {v : List V}, plainVs v = true → PyData.canLayAll0 (toPys v) = true
  | [], _ => rfl
  | x :: r, h => by
    simp only [plainVs, Bool.and_eq_true] at h
    simp only [toPys, PyData.canLayAll0, Bool.and_eq_true]
    exact ⟨plain_canLay h.1, plains_canLay h.2⟩
end
mutual
theorem deep_toPy : ∀ (v : V), (toPy v).depth = deepV v
  | .none => rfl
  | .bool _ => rfl
  | .int _ => rfl
  | .str s => rfl
  | .bytes _ => rfl
  | .dict _ => rfl
  | .list xs => by
    simp only [toPy, deepV, PyData.depth]
    rw [deeps_toPy xs]
theorem deeps_toPy : ∀ (v : List V), PyData.depthAll (toPys v) = deepVs v
  | [] => rfl
  | x :: r => by
    simp only [toPys, deepVs, PyData.depthAll]
    rw [deep_toPy x, deeps_toPy r]
end

noncomputable def eqB (a b : V) : Bool := PyData.eqv (toPy a) (toPy b)

noncomputable def cmpV (op : CmpOp) (a b : V) : Option Bool := match a, b with
  | .int a, .int b => (match op with
    | .Lt => some (decide (a < b))
    | .LtE => some (decide (a ≤ b))
    | .Gt => some (decide (b < a))
    | .GtE => some (decide (b ≤ a))
    | .Eq => some (decide (a = b))
    | .NotEq => some (!decide (a = b))
    | _ => none)
  | .str a, .str b => (match op with
    | .Eq => some (decide (a = b))
    | _ => none)
  | .list a, .list b => if plainVs a = true ∧ plainVs b = true ∧ deepVs a ≤ 10 ∧ deepVs b ≤ 10 then (match op with
    | .Eq => some (eqB (.list a) (.list b))
    | .NotEq => some (!eqB (.list a) (.list b))
    | _ => none) else none
  | .int k, .list a => (match op with
    | .In => (ints? a).map fun ns => ns.any (· == k)
    | _ => none)
  | _, _ => none

theorem shaped_list {a : List V} (h1 : plainVs a = true) (h2 : deepVs a ≤ 10) : SeqAt.shaped (toPy (.list a)) = true := by
  unfold SeqAt.shaped
  rw [Bool.and_eq_true]
  refine ⟨plain_canLay h1, decide_eq_true ?_⟩
  rw [deep_toPy]
  show deepVs a + 1 ≤ 64
  (first | lia | omega)

theorem cmp_ok (C : Cx) (op : CmpOp) : BinOk C (compareOp op) (fun a b => (cmpV op a b).map V.bool) := by
  intro A E P s a b v x y Q hA hu hb hs hx hy hv k
  replace hv : (cmpV op a b).map V.bool = some v := hv
  unfold cmpV at hv
  split at hv
  · obtain ⟨_, rfl⟩ := hx.inv; obtain ⟨_, rfl⟩ := hy.inv
    split at hv
    · cases hv; exact lt_int (k.here hs (.bool _))
    · cases hv; exact le_int (k.here hs (.bool _))
    · cases hv; exact gt_int (k.here hs (.bool _))
    · cases hv; exact ge_int (k.here hs (.bool _))
    · cases hv; exact eq_int (k.here hs (.bool _))
    · cases hv; exact ne_int (k.here hs (.bool _))
    · cases hv
  · rename_i a b
    obtain ⟨_, rfl⟩ := hx.inv; obtain ⟨_, rfl⟩ := hy.inv
    split at hv
    · cases hv
      refine eq_str ?_
      rw [show ((⟨a.toArray⟩ : Str) == ⟨b.toArray⟩) = decide (a = b) by
        rw [Bool.eq_iff_iff]; simp]
      exact k.here hs (.bool _)
    · cases hv
  · split at hv
    · rename_i hp
      obtain ⟨as, ra⟩ := VR.reads hs _ _ hx hp.1
      obtain ⟨bs, rb⟩ := VR.reads hs _ _ hy hp.2.1
      split at hv
      · cases hv
        exact eq_dataH ra rb (shaped_list hp.1 hp.2.2.1) (shaped_list hp.2.1 hp.2.2.2) (by (first | lia | omega)) (k.here hs (.bool _))
      · cases hv
        exact ne_dataH ra rb (shaped_list hp.1 hp.2.2.1) (shaped_list hp.2.1 hp.2.2.2) (by (first | lia | omega)) (k.here hs (.bool _))
      · cases hv
    · cases hv
  · rename_i kk a
    split at hv
    · cases hq : ints? a with
      | none => rw [hq] at hv; cases hv
      | some ns =>
        rw [hq] at hv
        cases hv
        obtain ⟨_, rfl⟩ := hx.inv
        obtain ⟨_, _, _, rfl, h1, h2⟩ := hy.list_inv
        exact in_list_ints ⟨_, hs _ _ h1, rfl, _, rfl⟩ (h2.ints hq) (k.here hs (.bool _))
    · cases hv
  · cases hv

noncomputable def truthyV : V → Option Bool
  | .bool b => some b
  | .int i => some (decide (i ≠ 0))
  | .str s => if s.length ≤ lim then some (decide (s ≠ [])) else none
  | _ => none

theorem truthy_ok (C : Cx) {A : Around} {E : Value → Shared → Prop} {P : Fz} {s : Shared} {v : V} {b : Bool} {x : Value} {Q : Bool → Shared → Prop}
    (hs : ∀ b o, P b = some o → s.heap.get? b = some o) (hx : C.VR P v x) (hv : truthyV v = some b) (k : ∀ tk, Q b { s with toks := tk }) : wpAny C.M A (truthy x) Q E s := by
  unfold truthyV at hv
  split at hv
  · obtain rfl := hx.inv; cases hv; exact wpAny_truthy_bool (k _)
  · obtain ⟨_, rfl⟩ := hx.inv; cases hv
    rename_i i t
    refine PyProof.Rows.truthy_int ?_
    rw [show (i != 0) = decide (i ≠ 0) by by_cases h : i = 0 <;> simp [h]]
    exact k s.toks
  · rename_i l
    split at hv
    · rename_i hl
      cases hx; cases hv
      unfold lim at hl
      refine PySem.W.KXt.truthy ?_ (by simp only [Str.length, List.size_toArray]; (first | lia | omega)) k
      by_cases h : l = []
      · subst h; rfl
      · have : l.length ≠ 0 := fun e => h (List.length_eq_zero_iff.mp e)
        simp [Str.length, h]
    · cases hv
  · cases hv
end Lw

namespace Lw
open PySem PySem.Calls PyProof.Rows
set_option maxRecDepth 10000

section
variable {C : Cx} {sc : Scope} {nm : List Str} {lv : Nat}

theorem KV.after {P P1 : Fz} {s : Shared} {h1 : Heap} {tk1 : Nat} {v : V} {Q : Value → Shared → Prop} (k : KV C P s v Q) (g : Grow P s.heap P1 h1) :
    KV C P1 { s with heap := h1, toks := tk1 } v Q := fun P' h' tk x g' hx => k P' h' tk x (g.trans g') hx

theorem at_frz {P : Fz} {h : Heap} {env : Env} {σ : St} {i : Nat} {n : Str} {v : V} (R : RepE C env nm P σ h) (hn : nm[i]? = some n) (hv : σ[i]? = some (some (.frz v))) :
    ∃ x, At env h n x ∧ C.VR P v x := by
  obtain ⟨x, h1, h2⟩ := R.vars i n _ hn hv
  exact ⟨x, h1, h2⟩

theorem wp_at {A : Around} {E : Value → Shared → Prop} {s : Shared} {env : Env} {n : Str} {x : Value} {Q : Value → Shared → Prop} (hk : env.scope.kind = .function) (ha : At env s.heap n x) (h : Q x s) :
    wpAny C.M A (loadName env n) Q E s := by
  rcases ha with ⟨h1, m, h2, h3⟩ | ⟨h1, c, h2, h3⟩
  · exact wpAny_loadName_local hk h1 h2 h3 h
  · rcases h1 with h1 | ⟨h1, hc⟩
    · exact wpAny_loadName_cell hk h1 h2 h3 h
    · exact wpAny_loadName_free hk h1 h2 h3 h hc

noncomputable def getF (σ : St) (i : Nat) : Option V := match σ[i]? with
  | some (some (.frz v)) => some v
  | _ => none

theorem getF_some {σ : St} {i : Nat} {v : V} (h : getF σ i = some v) : σ[i]? = some (some (.frz v)) := by
  unfold getF at h
  split at h
  · cases h; assumption
  · cases h

theorem DE_var {n : Str} {pos : Pos} (i : Nat) (hn : nm[i]? = some n) (hd : (n == ("__debug__" : Str)) = false) : DE C sc nm lv (.Name n pos) (fun σ => getF σ i) := by
  intro A E env P σ s v Q hA hs R hf k
  obtain ⟨x, h1, h2⟩ := at_frz R hn (getF_some hf)
  exact wpAny_Name (wp_at R.fn h1 (k.here R.sub h2)) hd

noncomputable def Cx.glob (C : Cx) (n : Str) (v : Value) : Prop := C.mg n = some v ∨ (C.mg n = none ∧ C.mb n = some v)

theorem wp_glob {A : Around} {E : Value → Shared → Prop} {s : Shared} {env : Env} {P : Fz} {σ : St} {n : Str} {pos : Pos} {x : Value} {Q : Value → Shared → Prop} (hg : C.glob n x) (hs : env.scope = sc) (R : RepE C env nm P σ s.heap)
    (hk : sc.names.lookup n = some .globalImplicit) (hd : (n == ("__debug__" : Str)) = false) (h : Q x s) : wpAny C.M A (eval (.Name n pos) env) Q E s := by
  refine Name_function_global R.fn (by unfold Env.kindOf; rw [hs]; exact hk) ?_ hd
  have g1 : s.heap.Ns env.globals C.mg := by rw [R.gl]; exact C.g.keeps R.base
  have b1 : s.heap.Ns env.builtins C.mb := by rw [R.bl]; exact C.b.keeps R.base
  rcases hg with hg | ⟨hg, hb⟩
  · exact loadGlobal_global g1 hg h
  · exact loadGlobal_builtin g1 hg b1 hb h

theorem DE_glob {n : Str} {pos : Pos} {i : Int} {t : Tok} (hg : C.glob n (.int i t)) (hk : sc.names.lookup n = some .globalImplicit) (hd : (n == ("__debug__" : Str)) = false) :
    DE C sc nm lv (.Name n pos) (fun zz => some (.int i)) := by
  intro A E env P σ s v Q hA hs R hf k
  cases hf
  exact wp_glob hg hs R hk hd (k.here R.sub (.int _ _))

theorem DE_int {i : Int} {kk : Nat} {pos : Pos} : DE C sc nm lv (.Constant (.int i) kk pos) (fun zz => some (.int i)) := by
  intro A E env P σ s v Q hA hs R hf k
  cases hf
  exact wpAny_Constant_int (k.tok R.sub (.int _ _))
theorem DE_str {x : Str} {kk : Nat} {pos : Pos} (l : List Nat) (hx : x = ⟨l.toArray⟩) : DE C sc nm lv (.Constant (.str x) kk pos) (fun zz => some (.str l)) := by
  intro A E env P σ s v Q hA hs R hf k
  cases hf
  subst hx
  exact Constant_str (k.tok R.sub (.str _ _))
theorem DE_bytes {x : List UInt8} {kk : Nat} {pos : Pos} : DE C sc nm lv (.Constant (.bytes x) kk pos) (fun zz => some (.bytes x)) := by
  intro A E env P σ s v Q hA hs R hf k
  cases hf
  show wpAny C.M A (mkTextBytes x.toArray) Q E s
  exact fun zz zz zz => k.tok R.sub (.bytes _ _)
theorem DE_none {kk : Nat} {pos : Pos} : DE C sc nm lv (.Constant .none kk pos) (fun zz => some .none) := by
  intro A E env P σ s v Q hA hs R hf k
  cases hf
  exact wpAny_pure (k.here R.sub .none)
theorem bind_some {α β : Type} {x : Option α} {f : α → Option β} {b : β} (h : x.bind f = some b) : ∃ a, x = some a ∧ f a = some b := by
  cases x with
  | none => cases h
  | some a => exact ⟨a, rfl, h⟩

theorem AOk.u {A : Around} (h : AOk A lv) : A.units + 100 < cLine := by have := h.units; (first | lia | omega)

theorem DE_bin {l r : PySem.Expr} {op : Operator} {pos : Pos} {f g : St → Option V} {o : V → V → Option V} (ho : BinOk C (binaryOp op) o) (hl : DE C sc nm lv l f) (hr : DE C sc nm lv r g) :
    DE C sc nm lv (.BinOp l op r pos) (fun σ => (f σ).bind fun a => (g σ).bind fun b => o a b) := by
  intro A E env P σ s v Q hA hs R hf k
  obtain ⟨a, hfa, hf⟩ := bind_some hf
  obtain ⟨b, hgb, hf⟩ := bind_some hf
  refine wpAny_BinOp (hl A E env P σ s a _ hA hs R hfa fun P1 h1 tk1 x g1 hx => ?_)
  have R1 := R.grow g1
  refine hr A E env P1 σ { s with heap := h1, toks := tk1 } b _ hA hs R1 hgb fun P2 h2 tk2 y g2 hy => ?_
  have R2 := R1.grow g2
  exact ho A E P2 _ a b v x y Q hA.handled hA.u R2.base R2.sub (VR.mono g2.le hx) hy hf (k.after (g1.trans g2))

theorem DE_cmp {l r : PySem.Expr} {op : CmpOp} {pos : Pos} {f g : St → Option V} (hl : DE C sc nm lv l f) (hr : DE C sc nm lv r g) (hm : behindInMarks op r = false) :
    DE C sc nm lv (.Compare l [op] [r] pos) (fun σ => (f σ).bind fun a => (g σ).bind fun b => (cmpV op a b).map V.bool) := by
  intro A E env P σ s v Q hA hs R hf k
  obtain ⟨a, hfa, hf⟩ := bind_some hf
  obtain ⟨b, hgb, hf⟩ := bind_some hf
  refine wpAny_Compare1 (hl A E env P σ s a _ hA hs R hfa fun P1 h1 tk1 x g1 hx => ?_) hm
  have R1 := R.grow g1
  refine hr A E env P1 σ { s with heap := h1, toks := tk1 } b _ hA hs R1 hgb fun P2 h2 tk2 y g2 hy => ?_
  have R2 := R1.grow g2
  exact cmp_ok C op A E P2 _ a b v x y Q hA.handled hA.u R2.base R2.sub (VR.mono g2.le hx) hy hf (k.after (g1.trans g2))

theorem DT_cmp {l r : PySem.Expr} {op : CmpOp} {pos : Pos} {f g : St → Option V} (hl : DE C sc nm lv l f) (hr : DE C sc nm lv r g) (hm : behindInMarks op r = false) :
    DT C sc nm lv (.Compare l [op] [r] pos) (fun σ => (f σ).bind fun a => (g σ).bind fun b => cmpV op a b) := by
  intro A E env P σ s v Q hA hs R hf k
  obtain ⟨a, hfa, hf⟩ := bind_some hf
  obtain ⟨b, hgb, hf⟩ := bind_some hf
  refine wpAny_isTrue_Compare1 (hl A E env P σ s a _ hA hs R hfa fun P1 h1 tk1 x g1 hx => ?_) hm
  have R1 := R.grow g1
  refine hr A E env P1 σ { s with heap := h1, toks := tk1 } b _ hA hs R1 hgb fun P2 h2 tk2 y g2 hy => ?_
  have R2 := R1.grow g2
  refine cmp_ok C op A E P2 _ a b (.bool v) x y _ hA.handled hA.u R2.base R2.sub (VR.mono g2.le hx) hy (by show (cmpV op a b).map V.bool = _; rw [hf]; rfl) fun P3 h3 tk3 z g3 hz => ?_
  cases hz
  exact wpAny_truthy_bool (k P3 h3 tk3 ((g1.trans g2).trans g3))

theorem DT_not {x : PySem.Expr} {pos : Pos} {f : St → Option Bool} (h : DT C sc nm lv x f) : DT C sc nm lv (.UnaryOp .Not x pos) (fun σ => (f σ).map (!·)) := by
  intro A E env P σ s v Q hA hs R hf k
  obtain ⟨b, hb, rfl⟩ := Option.map_eq_some_iff.mp hf
  exact wpAny_isTrue_Not (h A E env P σ s b _ hA hs R hb fun P1 h1 tk1 g1 => k P1 h1 tk1 g1)

/-- a value as a test: neither not, and, or, a comparison, nor a conditional -/
theorem DT_val {e : PySem.Expr} {f : St → Option V} (h : DE C sc nm lv e f) (ht : ∀ env w, isTrue e env w = (do let v ← w; standAt e.pos; holding [v] (truthy v))) :
    DT C sc nm lv e (fun σ => (f σ).bind truthyV) := by
  intro A E env P σ s v Q hA hs R hf k
  obtain ⟨a, hfa, hf⟩ := bind_some hf
  rw [ht]
  refine wpAny_bind (h A E env P σ s a _ hA hs R hfa fun P1 h1 tk1 x g1 hx => ?_)
  refine wpAny_bind (wpAny_standAt (wpAny_holding ?_))
  exact truthy_ok C (s := { s with heap := h1, toks := tk1 }) g1.sub hx hf fun tk => k P1 h1 tk g1

/-- and | or in a test -/
noncomputable def DTs (C : Cx) (sc : Scope) (nm : List Str) (lv : Nat) (op : BoolOp) (es : List PySem.Expr) (f : St → Option Bool) : Prop :=
  ∀ (A : Around) (E : Value → Shared → Prop) (env : Env) (P : Fz) (σ : St) (s : Shared) (b : Bool) (Q : Bool → Shared → Prop),
    AOk A lv → env.scope = sc → RepE C env nm P σ s.heap → f σ = some b →
    (∀ P' h' tk, Grow P s.heap P' h' → Q b { s with heap := h', toks := tk }) → wpAny C.M A (allTrue op es env) Q E s

theorem DTs_nil {op : BoolOp} : DTs C sc nm lv op [] (fun zz => some (op == .And)) := by
  intro A E env P σ s v Q hA hs R hf k
  cases hf
  show wpAny C.M A (pure (op == .And)) Q E s
  exact wpAny_pure (k P s.heap s.toks (Grow.refl R.sub))
theorem DTs_and {e : PySem.Expr} {es : List PySem.Expr} {f g : St → Option Bool} (h : DT C sc nm lv e f) (h' : DTs C sc nm lv .And es g) :
    DTs C sc nm lv .And (e :: es) (fun σ => (f σ).bind fun b => if b = true then g σ else some false) := by
  intro A E env P σ s v Q hA hs R hf k
  obtain ⟨b, hb, hf⟩ := bind_some hf
  show wpAny C.M A (isTrue e env (eval e env) >>= fun t => match BoolOp.And, t with | .And, false => pure false | .Or, true => pure true | _, _ => allTrue .And es env) Q E s
  refine wpAny_bind (h A E env P σ s b _ hA hs R hb fun P1 h1 tk1 g1 => ?_)
  cases b with
  | false =>
    cases hf
    exact wpAny_pure (k P1 h1 tk1 g1)
  | true => exact h' A E env P1 σ { s with heap := h1, toks := tk1 } v Q hA hs (R.grow g1) hf fun P2 h2 tk2 g2 => k P2 h2 tk2 (g1.trans g2)
theorem DTs_or {e : PySem.Expr} {es : List PySem.Expr} {f g : St → Option Bool} (h : DT C sc nm lv e f) (h' : DTs C sc nm lv .Or es g) :
    DTs C sc nm lv .Or (e :: es) (fun σ => (f σ).bind fun b => if b = true then some true else g σ) := by
  intro A E env P σ s v Q hA hs R hf k
  obtain ⟨b, hb, hf⟩ := bind_some hf
  show wpAny C.M A (isTrue e env (eval e env) >>= fun t => match BoolOp.Or, t with | .And, false => pure false | .Or, true => pure true | _, _ => allTrue .Or es env) Q E s
  refine wpAny_bind (h A E env P σ s b _ hA hs R hb fun P1 h1 tk1 g1 => ?_)
  cases b with
  | true =>
    cases hf
    exact wpAny_pure (k P1 h1 tk1 g1)
  | false => exact h' A E env P1 σ { s with heap := h1, toks := tk1 } v Q hA hs (R.grow g1) hf fun P2 h2 tk2 g2 => k P2 h2 tk2 (g1.trans g2)
theorem DT_bool {op : BoolOp} {es : List PySem.Expr} {pos : Pos} {f : St → Option Bool} (h : DTs C sc nm lv op es f) : DT C sc nm lv (.BoolOp op es pos) f := by
  intro A E env P σ s v Q hA hs R hf k
  exact wpAny_isTrue_BoolOp (h A E env P σ s v Q hA hs R hf k)

theorem DE_ite {t b o : PySem.Expr} {pos : Pos} {f : St → Option Bool} {g g' : St → Option V} (ht : DT C sc nm lv t f) (hb : DE C sc nm lv b g) (ho : DE C sc nm lv o g') :
    DE C sc nm lv (.IfExp t b o pos) (fun σ => (f σ).bind fun c => if c = true then g σ else g' σ) := by
  intro A E env P σ s v Q hA hs R hf k
  obtain ⟨c, hc, hf⟩ := bind_some hf
  refine wpAny_IfExp (ht A E env P σ s c _ hA hs R hc fun P1 h1 tk1 g1 => ?_)
  cases c with
  | true => exact hb A E env P1 σ { s with heap := h1, toks := tk1 } v Q hA hs (R.grow g1) hf (k.after g1)
  | false => exact ho A E env P1 σ { s with heap := h1, toks := tk1 } v Q hA hs (R.grow g1) hf (k.after g1)

theorem DE_and2 {l r : PySem.Expr} {pos : Pos} {f g : St → Option V} (hl : DE C sc nm lv l f) (hr : DE C sc nm lv r g) :
    DE C sc nm lv (.BoolOp .And [l, r] pos) (fun σ => (f σ).bind fun a => (truthyV a).bind fun c => if c = true then g σ else some a) := by
  intro A E env P σ s v Q hA hs R hf k
  obtain ⟨a, ha, hf⟩ := bind_some hf
  obtain ⟨c, hc, hf⟩ := bind_some hf
  refine wpAny_And2 (hl A E env P σ s a _ hA hs R ha fun P1 h1 tk1 x g1 hx => ?_)
  refine truthy_ok C (s := { s with heap := h1, toks := tk1 }) g1.sub hx hc fun tk => ?_
  cases c with
  | true => exact hr A E env P1 σ { s with heap := h1, toks := tk } v Q hA hs (R.grow g1) hf (k.after g1)
  | false => cases hf; exact k P1 h1 tk x g1 hx
theorem DE_or2 {l r : PySem.Expr} {pos : Pos} {f g : St → Option V} (hl : DE C sc nm lv l f) (hr : DE C sc nm lv r g) :
    DE C sc nm lv (.BoolOp .Or [l, r] pos) (fun σ => (f σ).bind fun a => (truthyV a).bind fun c => if c = true then some a else g σ) := by
  intro A E env P σ s v Q hA hs R hf k
  obtain ⟨a, ha, hf⟩ := bind_some hf
  obtain ⟨c, hc, hf⟩ := bind_some hf
  refine wpAny_Or2 (hl A E env P σ s a _ hA hs R ha fun P1 h1 tk1 x g1 hx => ?_)
  refine truthy_ok C (s := { s with heap := h1, toks := tk1 }) g1.sub hx hc fun tk => ?_
  cases c with
  | false => exact hr A E env P1 σ { s with heap := h1, toks := tk } v Q hA hs (R.grow g1) hf (k.after g1)
  | true => cases hf; exact k P1 h1 tk x g1 hx

/-- the arguments of a call, the items of a display -/
noncomputable def DEs (C : Cx) (sc : Scope) (nm : List Str) (lv : Nat) (es : List PySem.Expr) (f : St → Option (List V)) : Prop :=
  ∀ (A : Around) (E : Value → Shared → Prop) (env : Env) (P : Fz) (σ : St) (s : Shared) (vs : List V) (pos : Pos) (Q : List Value → Shared → Prop),
    AOk A lv → env.scope = sc → RepE C env nm P σ s.heap → f σ = some vs →
    (∀ P' h' tk xs, Grow P s.heap P' h' → C.VRs P' vs xs → Q xs { s with heap := h', toks := tk }) →
    wpAny C.M A (spliced (backTo pos (starEach es env))) Q E s ∧ (backTo pos (starEach es env)).any (·.1) = false ∧ (es ≠ [] → ∃ t r, backTo pos (starEach es env) = (false, t) :: r)

theorem star_plain {e : PySem.Expr} {es : List PySem.Expr} {env : Env} (h : PySem.W.isStarred e = false) : starEach (e :: es) env = (false, eval e env) :: starEach es env := by
  cases e <;> first | rfl | cases h

theorem DEs_nil : DEs C sc nm lv [] (fun zz => some []) := by
  intro A E env P σ s vs pos Q hA hs R hf k
  cases hf
  exact ⟨spliced_nil (k P s.heap s.toks [] (Grow.refl R.sub) .nil), rfl, fun h => absurd rfl h⟩
theorem DEs_cons {e : PySem.Expr} {es : List PySem.Expr} {f : St → Option V} {g : St → Option (List V)} (he : DE C sc nm lv e f) (hes : DEs C sc nm lv es g) (hst : PySem.W.isStarred e = false) :
    DEs C sc nm lv (e :: es) (fun σ => (f σ).bind fun v => (g σ).map (v :: ·)) := by
  intro A E env P σ s vs pos Q hA hs R hf k
  obtain ⟨v, hv, hf⟩ := bind_some hf
  obtain ⟨us, hu, rfl⟩ := Option.map_eq_some_iff.mp hf
  have eq : backTo pos (starEach (e :: es) env) = (false, eval e env) :: backTo pos (starEach es env) := by
    rw [star_plain hst]; rfl
  rw [eq]
  refine ⟨spliced_cons (he A E env P σ s v _ hA hs R hv fun P1 h1 tk1 x g1 hx => ?_), ?_, fun zz => ⟨_, _, rfl⟩⟩
  · exact (hes A E env P1 σ { s with heap := h1, toks := tk1 } us pos _ hA hs (R.grow g1) hu fun P2 h2 tk2 xs g2 hxs => k P2 h2 tk2 (x :: xs) (g1.trans g2) (.cons (VR.mono g2.le hx) hxs)).1
  · have h2 := (hes A E env P σ s us pos (fun zz zz => True) hA hs R hu fun zz zz zz zz zz zz => trivial).2.1
    rw [List.any_cons, h2]; rfl

/-- what a call of a value gives -/
noncomputable def CallOk (C : Cx) (lv : Nat) (fv : Value) (g : List V → Option V) : Prop :=
  ∀ (A : Around) (E : Value → Shared → Prop) (P : Fz) (s : Shared) (vs : List V) (v : V) (xs : List Value) (Q : Value → Shared → Prop), AOk A lv →
    (∀ b o, C.h₀.get? b = some o → s.heap.get? b = some o) → (∀ b o, P b = some o → s.heap.get? b = some o) → C.VRs P vs xs → g vs = some v → KV C P s v Q → wpAny C.M A (call fv xs) Q E s

/-- how a callee is called -/
noncomputable def Callee (C : Cx) : Value → Prop
  | .builtin _ => True
  | .type _ => True
  | .ref a => ∃ o fd, C.h₀.get? a = some o ∧ o.data = .func fd
  | _ => False

theorem DE_call {n : Str} {np pos : Pos} {args : List PySem.Expr} {fv : Value} {f : St → Option (List V)} {g : List V → Option V} (hg : C.glob n fv) (hk : sc.names.lookup n = some .globalImplicit) (hd : (n == ("__debug__" : Str)) = false)
    (hcal : Callee C fv) (hne : args ≠ []) (ha : DEs C sc nm lv args f) (hc : CallOk C lv fv g) : DE C sc nm lv (.Call (.Name n np) args [] pos) (fun σ => (f σ).bind g) := by
  intro A E env P σ s v Q hA hs R hf k
  obtain ⟨vs, hvs, hf⟩ := bind_some hf
  refine wpAny_Call_NameR (wp_glob hg hs R hk hd ?_)
  obtain ⟨h1, h2, h3⟩ := ha A E env P σ s vs pos (fun xs s₁ => (∀ b o, C.h₀.get? b = some o → s₁.heap.get? b = some o) ∧ wpAny C.M A (call fv xs) Q E s₁) hA hs R hvs fun P1 h1 tk1 xs g1 hxs =>
    ⟨(R.grow g1).base, hc A E P1 { s with heap := h1, toks := tk1 } vs v xs Q hA (R.grow g1).base g1.sub hxs hf (k.after g1)⟩
  obtain ⟨t, r, e⟩ := h3 hne
  rw [e] at h1 h2 ⊢
  cases fv with
  | builtin id => exact callWith_builtin h2 (evalArgs_plain (wpAny_mono h1 (fun zz zz x => by simpa using x.2) fun zz zz x => x))
  | type T => exact PySem.callWith_type h2 (evalArgs_plain (wpAny_mono h1 (fun zz zz x => by simpa using x.2) fun zz zz x => x))
  | ref a =>
    obtain ⟨o, fd, ho, hd⟩ := hcal
    exact callWith_function (o := o) (fd := fd) (evalArgs_plain (wpAny_mono h1 (fun zz s₁ x => ⟨⟨x.1 _ _ ho, hd⟩, by simpa using x.2⟩) fun zz zz x => x))
  | _ => exact hcal.elim

theorem DF_list {es : List PySem.Expr} {pos : Pos} {f : St → Option (List V)} (h : DEs C sc nm lv es f) : DF C sc nm lv (.List es pos) (fun σ => (f σ).bind fun vs => if vs.length ≤ lim then some vs else none) := by
  intro A E env P σ s vs Q hA hs R hf k
  obtain ⟨us, hu, hf⟩ := bind_some hf
  split at hf
  · rename_i hl
    cases hf
    refine List_ ((h A E env P σ s vs pos _ hA hs R hu fun P1 h1 tk1 xs g1 hxs => ?_).1)
    have hlen := hxs.length
    unfold lim at hl
    refine wpAny_newObj_type ?_ (by show xs.toArray.size ≤ sizeLine; rw [List.size_toArray, sizeLine_eq]; (first | lia | omega))
    obtain ⟨hP, hn⟩ := g1.fresh (fresh_none _)
    exact k P1 _ tk1 _ xs 0 (g1.trans (Grow.of_keep g1.sub fun b o e => Heap.get?_push_of_some _ e)) hP hn (Heap.get?_push_size _ rfl) hxs
  · cases hf
end
end Lw

namespace Lw
open PySem PySem.Calls PyProof.Rows
set_option maxRecDepth 10000

noncomputable def isort1 (x : Int) : List Int → List Int
  | [] => [x]
  | y :: r => if x ≤ y then x :: y :: r else y :: isort1 x r
noncomputable def isort : List Int → List Int
  | [] => []
  | x :: r => isort1 x (isort r)
theorem isort1_perm (x : Int) : ∀ l, (isort1 x l).Perm (x :: l)
  | [] => .refl _
  | y :: r => by
    unfold isort1
    split
    · exact .refl _
    · exact ((isort1_perm x r).cons y).trans (List.Perm.swap x y r)
theorem isort_perm : ∀ l, (isort l).Perm l
  | [] => .refl _
  | x :: r => (isort1_perm x _).trans ((isort_perm r).cons x)
theorem isort1_sorted (x : Int) : ∀ l : List Int, l.Pairwise (· ≤ ·) → (isort1 x l).Pairwise (· ≤ ·)
  | [], _ => by simp [isort1]
  | y :: r, h => by
    unfold isort1
    split
    · rename_i hxy
      refine List.pairwise_cons.mpr ⟨fun z hz => ?_, h⟩
      rcases List.mem_cons.mp hz with rfl | hz
      · exact hxy
      · exact Int.le_trans hxy ((List.pairwise_cons.mp h).1 z hz)
    · rename_i hxy
      refine List.pairwise_cons.mpr ⟨fun z hz => ?_, isort1_sorted x r (List.pairwise_cons.mp h).2⟩
      rcases List.mem_cons.mp ((isort1_perm x r).mem_iff.mp hz) with rfl | hz
      · (first | lia | omega)
      · exact (List.pairwise_cons.mp h).1 z hz
theorem isort_sorted : ∀ l : List Int, (isort l).Pairwise (· ≤ ·)
  | [] => .nil
  | x :: r => isort1_sorted x _ (isort_sorted r)
theorem isort_eq {l l' : List Int} (hp : l'.Perm l) (hs : l'.Pairwise (· ≤ ·)) : l' = isort l :=
  List.Perm.eq_of_pairwise (le := (· ≤ ·)) (fun a b zz zz h1 h2 => Int.le_antisymm h1 h2) hs (isort_sorted l) (hp.trans (isort_perm l).symm)

theorem VRs.one {prog : Program} {w : World} {P : Fz} {v : V} {xs : List Value} (h : VRs prog w P [v] xs) : ∃ x, xs = [x] ∧ VR prog w P v x := by
  cases h with
  | cons h1 h2 => cases h2; exact ⟨_, rfl, h1⟩
theorem VRs.two {prog : Program} {w : World} {P : Fz} {v u : V} {xs : List Value} (h : VRs prog w P [v, u] xs) : ∃ x y, xs = [x, y] ∧ VR prog w P v x ∧ VR prog w P u y := by
  cases h with
  | cons h1 h2 => obtain ⟨y, rfl, h3⟩ := h2.one; exact ⟨_, _, rfl, h1, h3⟩
section
variable {C : Cx} {sc : Scope} {nm : List Str} {lv : Nat}

noncomputable def lenV : List V → Option V
  | [.str s] => if s.length ≤ lim then some (.int s.length) else none
  | [.list s] => if s.length ≤ lim then some (.int s.length) else none
  | _ => none
theorem len_ok : CallOk C lv (.builtin "len") lenV := by
  intro A E P s vs v xs Q hA hb hs hx hf k
  unfold lenV at hf
  split at hf
  · split at hf
    · rename_i hl
      cases hf
      obtain ⟨x, rfl, h1⟩ := hx.one
      obtain ⟨_, rfl⟩ := h1.inv
      unfold lim at hl
      refine PyProof.Rows.len_str (by simp only [Str.length, List.size_toArray]; (first | lia | omega)) ?_
      have := k.tok hs (x := .int _ (s.toks + 1)) (tk := s.toks + 1 + 1) (.int _ _)
      simpa [Str.length] using this
    · cases hf
  · split at hf
    · rename_i hl
      cases hf
      obtain ⟨x, rfl, h1⟩ := hx.one
      obtain ⟨a, ys, m, rfl, h3, h4⟩ := h1.list_inv
      have e := h4.length
      unfold lim at hl
      refine call_len_list ⟨_, hs _ _ h3, rfl, _, rfl⟩ (by simp only [List.size_toArray]; (first | lia | omega)) ?_
      rw [List.size_toArray, ← e]
      exact k.tok hs (.int _ _)
    · cases hf
  · cases hf

noncomputable def chrV : List V → Option V
  | [.int i] => if 0 ≤ i ∧ i ≤ 127 then some (.str [i.toNat]) else none
  | _ => none
theorem chr_ok : CallOk C lv (.builtin "chr") chrV := by
  intro A E P s vs v xs Q hA hb hs hx hf k
  unfold chrV at hf
  split at hf
  · split at hf
    · rename_i hl
      cases hf
      obtain ⟨x, rfl, h1⟩ := hx.one
      obtain ⟨_, rfl⟩ := h1.inv
      exact chr_of_range hl.1 (by (first | lia | omega)) (k.tok hs (.str [_] _))
    · cases hf
  · cases hf

noncomputable def ordV : List V → Option V
  | [.str [c]] => some (.int c)
  | _ => none
theorem ord_ok : CallOk C lv (.builtin "ord") ordV := by
  intro A E P s vs v xs Q hA hb hs hx hf k
  unfold ordV at hf
  split at hf
  · cases hf
    obtain ⟨x, rfl, h1⟩ := hx.one
    obtain ⟨_, rfl⟩ := h1.inv
    exact ord_of_one rfl (k.tok hs (.int _ _))
  · cases hf

noncomputable def absV : List V → Option V
  | [.int i] => some (.int (if i < 0 then -i else i))
  | _ => none
theorem abs_ok : CallOk C lv (.builtin "abs") absV := by
  intro A E P s vs v xs Q hA hb hs hx hf k
  unfold absV at hf
  split at hf
  · cases hf
    obtain ⟨x, rfl, h1⟩ := hx.one
    obtain ⟨_, rfl⟩ := h1.inv
    exact call_abs_int fun u tk => k.tok hs (.int _ _)
  · cases hf

noncomputable def intV : List V → Option V
  | [.int i] => some (.int i)
  | _ => none
theorem int_ok : CallOk C lv (.type "int") intV := by
  intro A E P s vs v xs Q hA hb hs hx hf k
  unfold intV at hf
  split at hf
  · cases hf
    obtain ⟨x, rfl, h1⟩ := hx.one
    obtain ⟨_, rfl⟩ := h1.inv
    exact call_int_int (k.here hs (.int _ _))
  · cases hf

noncomputable def minV : List V → Option V
  | [.int a, .int b] => some (.int (if b < a then b else a))
  | _ => none
theorem min_ok : CallOk C lv (.builtin "min") minV := by
  intro A E P s vs v xs Q hA hb hs hx hf k
  unfold minV at hf
  split at hf
  · cases hf
    obtain ⟨x, y, rfl, h1, h3⟩ := hx.two
    obtain ⟨_, rfl⟩ := h1.inv; obtain ⟨_, rfl⟩ := h3.inv
    refine min_two_ints hA.handled fun h' tk hk => ?_
    refine k P h' tk _ (Grow.of_keep hs hk) ?_
    split <;> exact .int _ _
  · cases hf
noncomputable def maxV : List V → Option V
  | [.int a, .int b] => some (.int (if b > a then b else a))
  | _ => none
theorem max_ok : CallOk C lv (.builtin "max") maxV := by
  intro A E P s vs v xs Q hA hb hs hx hf k
  unfold maxV at hf
  split at hf
  · cases hf
    obtain ⟨x, y, rfl, h1, h3⟩ := hx.two
    obtain ⟨_, rfl⟩ := h1.inv; obtain ⟨_, rfl⟩ := h3.inv
    refine max_two_ints hA.handled fun h' tk hk => ?_
    refine k P h' tk _ (Grow.of_keep hs hk) ?_
    split <;> exact .int _ _
  · cases hf

noncomputable def sumV : List V → Option V
  | [.list xs] => (ints? xs).map fun ns => .int ns.sum
  | _ => none
theorem sum_ok : CallOk C lv (.builtin "sum") sumV := by
  intro A E P s vs v xs Q hA hb hs hx hf k
  unfold sumV at hf
  split at hf
  · obtain ⟨ns, hn, rfl⟩ := Option.map_eq_some_iff.mp hf
    obtain ⟨x, rfl, h1⟩ := hx.one
    obtain ⟨a, ys, m, rfl, h3, h4⟩ := h1.list_inv
    have hi := h4.ints hn
    obtain ⟨zs, hy⟩ := hi.allInts.items
    have hm : PySem.numsOf ys = ns := by rw [hi.numsOf]
    have hl := hs _ _ h3
    have hI : s.heap.IsList a ys.toArray := ⟨_, hl, rfl, _, rfl⟩
    rw [hy] at hI
    refine sum_intListG hA.handled hI fun h' tk t' hk => ?_
    have e : preSum (numAt zs) zs.size = ns.sum := by
      rw [preSum_eq, List.take_of_length_le (by simp)]
      have h5 : numsOf (intItems zs).toList = ns := by rw [← hy]; exact hm
      rw [nums_intItems] at h5
      rw [h5]
    rw [e]
    exact k P h' tk _ (Grow.of_keep hs hk) (.int _ _)
  · cases hf

/-- sorted of a list of ints -/
noncomputable def sortedV : List V → Option V
  | [.list xs] => (ints? xs).bind fun ns => if ns.length < 64 then some (.list ((isort ns).map .int)) else none
  | _ => none
theorem sorted_ok : CallOk C lv (.builtin "sorted") sortedV := by
  intro A E P s vs v xs Q hA hb hs hx hf k
  unfold sortedV at hf
  split at hf
  · obtain ⟨ns, hn, hf⟩ := bind_some hf
    split at hf
    · rename_i hl
      cases hf
      obtain ⟨x, rfl, h1⟩ := hx.one
      obtain ⟨a, ys, m, rfl, h3, h4⟩ := h1.list_inv
      have hi := h4.ints hn
      have hle := IntsAre.length hi
      refine sorted_ints ⟨_, hs _ _ h3, rfl, _, rfl⟩ hi (by (first | lia | omega)) fun out ns' a1 a2 a3 => ?_
      obtain ⟨e, he⟩ := sortedAll_at s.heap ys out
      have g : Grow P s.heap P (sortedAll s.heap ys out) := Grow.of_keep hs fun b o => sortedAll_old
      have hP : P (s.heap.objs.size + 1) = none := by
        cases hq : P (s.heap.objs.size + 1) with
        | none => rfl
        | some o => have := hs _ _ hq; rw [fresh_ge (Nat.le_succ _)] at this; cases this
      refine KF.of k P _ s.toks _ out.toList e g hP (fresh_ge (Nat.le_succ _)) (by rw [he]) ?_
      rw [← isort_eq a2 a3]
      exact VRs.of_ints a1
    · cases hf
  · cases hf

/-- a list, at hand: made, kept or one's own -/
noncomputable def DB (C : Cx) (sc : Scope) (nm : List Str) (lv : Nat) (e : PySem.Expr) (f : St → Option (List V)) : Prop :=
  ∀ (A : Around) (E : Value → Shared → Prop) (env : Env) (P : Fz) (σ : St) (s : Shared) (vs : List V) (Q : Value → Shared → Prop),
    AOk A lv → env.scope = sc → RepE C env nm P σ s.heap → f σ = some vs →
    (∀ P' h' tk a xs n, Grow P s.heap P' h' → h'.get? a = some (lobj xs n) → C.VRs P' vs xs → Q (.ref a) { s with heap := h', toks := tk }) → wpAny C.M A (eval e env) Q E s

noncomputable def asList : V → Option (List V)
  | .list xs => some xs
  | _ => none
theorem DB_of {e : PySem.Expr} {f : St → Option V} (h : DE C sc nm lv e f) : DB C sc nm lv e (fun σ => (f σ).bind asList) := by
  intro A E env P σ s vs Q hA hs R hf k
  obtain ⟨v, hv, hf⟩ := bind_some hf
  cases v with
  | list xs =>
    cases hf
    refine h A E env P σ s _ Q hA hs R hv fun P1 h1 tk1 x g1 hx => ?_
    obtain ⟨_, _, _, rfl, h3, h4⟩ := hx.list_inv
    exact k P1 h1 tk1 _ _ _ g1 (g1.sub _ _ h3) h4
  | _ => cases hf

noncomputable def getO (σ : St) (i : Nat) : Option (List V) := match σ[i]? with
  | some (some (.ownL vs)) => some vs
  | _ => none
theorem getO_some {σ : St} {i : Nat} {v : List V} (h : getO σ i = some v) : σ[i]? = some (some (.ownL v)) := by
  unfold getO at h
  split at h
  · cases h; assumption
  · cases h
theorem DB_own {n : Str} {pos : Pos} (i : Nat) (hn : nm[i]? = some n) (hd : (n == ("__debug__" : Str)) = false) : DB C sc nm lv (.Name n pos) (fun σ => getO σ i) := by
  intro A E env P σ s vs Q hA hs R hf k
  obtain ⟨x, h1, a, xs, m, rfl, h2, h3⟩ := R.vars i n _ hn (getO_some hf)
  exact wpAny_Name (wp_at R.fn h1 (k P s.heap s.toks a xs m (Grow.refl R.sub) h2 h3)) hd

/-- len of a list at hand -/
theorem DE_lenB {e : PySem.Expr} {np pos : Pos} {f : St → Option (List V)} (hg : C.glob (Str.ofString "len") (.builtin "len")) (hk : sc.names.lookup (Str.ofString "len") = some .globalImplicit) (he : DB C sc nm lv e f)
    (hst : PySem.W.isStarred e = false) : DE C sc nm lv (.Call (.Name (Str.ofString "len") np) [e] [] pos) (fun σ => (f σ).bind fun xs => if xs.length ≤ lim then some (.int xs.length) else none) := by
  intro A E env P σ s v Q hA hs R hf k
  obtain ⟨vs, hvs, hf⟩ := bind_some hf
  split at hf
  · rename_i hl
    cases hf
    refine wpAny_Call_NameR (wp_glob hg hs R hk (by decide +kernel) ?_)
    rw [star_plain hst]
    show wpAny C.M A (callWith pos (.builtin "len") [] [(false, eval e env)] []) Q E s
    refine callWith_builtin rfl (evalArgs_plain (spliced_cons (he A E env P σ s vs _ hA hs R hvs fun P1 h1 tk1 a xs n g1 ho hx => spliced_nil ?_)))
    have e := hx.length
    unfold lim at hl
    refine call_len_list ⟨_, ho, rfl, _, rfl⟩ (by simp only [List.size_toArray]; (first | lia | omega)) ?_
    rw [List.size_toArray, ← e]
    exact (k.after g1 (tk1 := tk1)).tok (s := { s with heap := h1, toks := tk1 }) g1.sub (.int _ _)
  · cases hf

theorem sub_ops (slice : PySem.Expr) (o i : Value) : ∃ ops, subscripted slice false o i = operate ops (getItem o i) := by
  unfold subscripted
  split
  · exact ⟨_, rfl⟩
  · cases ‹false = true›
  · exact ⟨_, rfl⟩

noncomputable def idxLV : List V → V → Option V
  | xs, .int k => if 0 ≤ k ∧ k.toNat < 1000000 then xs[k.toNat]? else none
  | _, _ => none
theorem idxLV_inv {xs : List V} {v u : V} (h : idxLV xs v = some u) : ∃ k, v = .int k ∧ 0 ≤ k ∧ k.toNat < 1000000 ∧ xs[k.toNat]? = some u := by
  unfold idxLV at h
  split at h
  · split at h
    · rename_i hk; exact ⟨_, rfl, hk.1, hk.2, h⟩
    · cases h
  · cases h
/-- an item of a list at hand -/
theorem DE_idxB {e i : PySem.Expr} {pos : Pos} {f : St → Option (List V)} {g : St → Option V} (he : DB C sc nm lv e f) (hi : DE C sc nm lv i g) :
    DE C sc nm lv (.Subscript e i pos) (fun σ => (f σ).bind fun xs => (g σ).bind fun v => idxLV xs v) := by
  intro A E env P σ s v Q hA hs R hf k
  obtain ⟨vs, hvs, hf⟩ := bind_some hf
  obtain ⟨iv, hiv, hf⟩ := bind_some hf
  obtain ⟨j, rfl, hj1, hj2, hf⟩ := idxLV_inv hf
  refine Subscript_ (he A E env P σ s vs _ hA hs R hvs fun P1 h1 tk1 a xs n g1 ho hx => ?_)
  refine hi A E env P1 σ { s with heap := h1, toks := tk1 } _ _ hA hs (R.grow g1) hiv fun P2 h2 tk2 y g2 hy => ?_
  obtain ⟨_, rfl⟩ := hy.inv
  obtain ⟨x, hx1, hx2⟩ := (VRs.mono g2.le hx).get hf
  obtain ⟨ops, hops⟩ := sub_ops i (.ref a) (.int j _)
  have ho2 := g2.keep _ _ ho
  refine tail_any (T := "list") ⟨_, ho2, rfl⟩ slot_list_getitem.lookup (wpAny_getItem_list ⟨_, ho2, rfl, _, rfl⟩ hj1 (by (first | lia | omega)) (by simpa using hx1) ?_) hops
  exact (k.after (g1.trans g2) (tk1 := tk2)).here (s := { s with heap := h2, toks := tk2 }) g2.sub hx2

/-- a sign of a text -/
noncomputable def signAt (s : List Nat) (k : Int) : Option V :=
  if 0 ≤ k ∧ k.toNat < 1000000 then (s[k.toNat]?).map fun c => .str [c]
  else if -(s.length : Int) ≤ k ∧ k < 0 ∧ s.length < 1000000 then (s[(k + s.length).toNat]?).map fun c => .str [c] else none
theorem seqIndex_pos {j : Int} {n : Nat} (h0 : 0 ≤ j) (h1 : j < n) : seqIndex? j n = some j.toNat := by
  unfold seqIndex?
  have h2 : ¬ j < 0 := by (first | lia | omega)
  simp [h0, h1, h2]
theorem seqIndex_neg {j : Int} {n : Nat} (h0 : j < 0) (h1 : -(n : Int) ≤ j) : seqIndex? j n = some (j + n).toNat := by
  unfold seqIndex?
  rw [if_pos h0]
  have a1 : 0 ≤ j + n := by (first | lia | omega)
  have a2 : j + n < n := by (first | lia | omega)
  simp [a1, a2]
noncomputable def idxSV : V → V → Option V
  | .str s, .int k => signAt s k
  | _, _ => none
theorem idxSV_inv {x v u : V} (h : idxSV x v = some u) : ∃ l j, x = .str l ∧ v = .int j ∧ signAt l j = some u := by
  unfold idxSV at h
  split at h
  · exact ⟨_, _, rfl, rfl, h⟩
  · cases h
theorem DE_idxS {e i : PySem.Expr} {pos : Pos} {f : St → Option V} {g : St → Option V} (he : DE C sc nm lv e f) (hi : DE C sc nm lv i g) :
    DE C sc nm lv (.Subscript e i pos) (fun σ => (f σ).bind fun x => (g σ).bind fun v => idxSV x v) := by
  intro A E env P σ s v Q hA hs R hf k
  obtain ⟨xv, hxv, hf⟩ := bind_some hf
  obtain ⟨iv, hiv, hf⟩ := bind_some hf
  obtain ⟨l, j, rfl, rfl, hg⟩ := idxSV_inv hf
  · refine Subscript_ (he A E env P σ s _ _ hA hs R hxv fun P1 h1 tk1 x g1 hx => ?_)
    refine hi A E env P1 σ { s with heap := h1, toks := tk1 } _ _ hA hs (R.grow g1) hiv fun P2 h2 tk2 y g2 hy => ?_
    obtain ⟨t1, rfl⟩ := hx.inv
    obtain ⟨t2, rfl⟩ := hy.inv
    obtain ⟨ops, hops⟩ := sub_ops i (.str ⟨l.toArray⟩ t1) (.int j t2)
    have fin : ∀ c : Nat, (decide (j < -(2 ^ 63 : Int)) || decide (j ≥ 2 ^ 63)) = false → (seqIndex? j (Str.length ⟨l.toArray⟩)).bind ((⟨l.toArray⟩ : Str).cps[·]?) = some c → V.str [c] = v →
        wpAny C.M A (subscriptTail e i (.str ⟨l.toArray⟩ t1) (.int j t2)) Q E { s with heap := h2, toks := tk2 } := fun c hr hc hv => by
      subst hv
      exact tail_any (T := "str") (typeIs_str _ _ _) F.slot_str_getitem.lookup (PyProof.Rows.getItem_str hr hc ((k.after (g1.trans g2) (tk1 := tk2)).tok (s := { s with heap := h2, toks := tk2 }) g2.sub (.str [c] _))) hops
    unfold signAt at hg
    split at hg
    · rename_i hj
      obtain ⟨c, hc, hv⟩ := Option.map_eq_some_iff.mp hg
      have hlt : j.toNat < l.length := (List.getElem?_eq_some_iff.mp hc).1
      refine fin c (by simp; (first | lia | omega)) ?_ hv
      rw [seqIndex_pos hj.1 (by simp only [Str.length, List.size_toArray]; (first | lia | omega))]
      simpa using hc
    · split at hg
      · rename_i hj
        obtain ⟨c, hc, hv⟩ := Option.map_eq_some_iff.mp hg
        refine fin c (by simp; (first | lia | omega)) ?_ hv
        rw [seqIndex_neg hj.2.1 (by simp only [Str.length, List.size_toArray]; (first | lia | omega))]
        simpa [Str.length] using hc
      · cases hg
end
end Lw

namespace Lw
open PySem PySem.Calls PyProof.Rows
set_option maxRecDepth 10000

/-- the items of a slice, by their places -/
noncomputable def pickL {α : Type} (xs : List α) (lo hi st : Option Int) : List α :=
  (sliceRange (sliceBounds lo hi st xs.length).1 (sliceBounds lo hi st xs.length).2.1 (sliceBounds lo hi st xs.length).2.2).filterMap (xs[·]?)
noncomputable def cutL {α : Type} (xs : List α) (lo hi : Option Int) : List α :=
  (xs.drop (lo.elim 0 (clipAt xs.length))).take (hi.elim xs.length (clipAt xs.length) - lo.elim 0 (clipAt xs.length))
theorem pick_cut {α : Type} (xs : List α) (lo hi : Option Int) : pickL xs lo hi none = cutL xs lo hi := by
  unfold pickL cutL
  rw [sliceBounds_plain]
  have := pick_run xs.toArray (lo.elim 0 (clipAt xs.length)) (hi.elim xs.length (clipAt xs.length) - lo.elim 0 (clipAt xs.length))
  simp only [sliceRange_one]
  simpa using this
theorem pick_arr (xs : List Value) (lo hi st : Option Int) : slicePick xs.toArray lo hi st = (pickL xs lo hi st).toArray := by
  unfold slicePick pickL
  simp
theorem strPick (s : List Nat) (lo hi : Option Int) : (Builtin.Str.strSliceIndices lo hi 1 s.length).filterMap (s[·]?) = cutL s lo hi := by
  rw [← pick_cut]
  unfold pickL
  congr 1
theorem strIdx_len (lo hi : Option Int) (n : Nat) : (Builtin.Str.strSliceIndices lo hi 1 n).length = hi.elim n (clipAt n) - lo.elim 0 (clipAt n) := by
  have e : Builtin.Str.strSliceIndices lo hi 1 n = sliceRange (sliceBounds lo hi none n).1 (sliceBounds lo hi none n).2.1 1 := rfl
  rw [e, sliceBounds_plain, sliceRange_one]
  simp

section
variable {prog : Program} {w : World} {P : Fz}
theorem VRs.pickIdx {vs : List V} {xs : List Value} (h : VRs prog w P vs xs) : ∀ is : List Nat, VRs prog w P (is.filterMap (vs[·]?)) (is.filterMap (xs[·]?))
  | [] => .nil
  | i :: r => by
    have ih := VRs.pickIdx h r
    have hl := h.length
    cases hv : vs[i]? with
    | none =>
      have hx : xs[i]? = none := by
        rw [List.getElem?_eq_none_iff] at hv ⊢; (first | lia | omega)
      simp only [List.filterMap_cons, hv, hx]; exact ih
    | some v =>
      obtain ⟨x, hx, hr⟩ := h.get hv
      simp only [List.filterMap_cons, hv, hx]; exact .cons hr ih
theorem VRs.pick {vs : List V} {xs : List Value} (h : VRs prog w P vs xs) (lo hi st : Option Int) : VRs prog w P (pickL vs lo hi st) (pickL xs lo hi st) := by
  unfold pickL
  rw [h.length]
  exact h.pickIdx _
end

section
variable {C : Cx} {sc : Scope} {nm : List Str} {lv : Nat}

noncomputable def partV : V → Option (Option Int)
  | .int i => if i.natAbs ≤ 1000000 then some (some i) else none
  | .none => some none
  | _ => none

theorem partV_inv {v : V} {p : Option Int} (h : partV v = some p) : (∃ i, v = .int i ∧ p = some i) ∨ (v = .none ∧ p = none) := by
  unfold partV at h
  split at h
  · split at h
    · cases h; exact .inl ⟨_, rfl, rfl⟩
    · cases h
  · cases h; exact .inr ⟨rfl, rfl⟩
  · cases h
/-- a part of a slice -/
noncomputable def DP (C : Cx) (sc : Scope) (nm : List Str) (lv : Nat) (e : Option PySem.Expr) (f : St → Option (Option Int)) : Prop :=
  ∀ (A : Around) (E : Value → Shared → Prop) (env : Env) (P : Fz) (σ : St) (s : Shared) (p : Option Int) (Q : Value → Shared → Prop),
    AOk A lv → env.scope = sc → RepE C env nm P σ s.heap → f σ = some p →
    (∀ P' h' tk x, Grow P s.heap P' h' → (∃ q : Option (Int × Tok), x = partValue q ∧ q.map (·.1) = p) → IsPart x p → Q x { s with heap := h', toks := tk }) → wpAny C.M A (evalPart e env) Q E s
theorem DP_none : DP C sc nm lv none (fun zz => some none) := by
  intro A E env P σ s p Q hA hs R hf k
  cases hf
  rw [evalPart_none]
  exact wpAny_pure (k P s.heap s.toks _ (Grow.refl R.sub) ⟨none, rfl, rfl⟩ .none)
theorem DP_some {e : PySem.Expr} {f : St → Option V} (h : DE C sc nm lv e f) : DP C sc nm lv (some e) (fun σ => (f σ).bind partV) := by
  intro A E env P σ s p Q hA hs R hf k
  obtain ⟨v, hv, hf⟩ := bind_some hf
  show wpAny C.M A (eval e env) Q E s
  refine h A E env P σ s v Q hA hs R hv fun P1 h1 tk1 x g1 hx => ?_
  rcases partV_inv hf with ⟨i, rfl, rfl⟩ | ⟨rfl, rfl⟩
  · obtain ⟨t, rfl⟩ := hx.inv
    exact k P1 h1 tk1 _ g1 ⟨some (i, t), rfl, rfl⟩ (.int _ _)
  · obtain rfl := hx.inv
    exact k P1 h1 tk1 _ g1 ⟨none, rfl, rfl⟩ .none

noncomputable def sliceV (xs : List V) (lo hi st : Option Int) : Option (List V) := if st = some 0 ∨ lim < xs.length then none else some (pickL xs lo hi st)

theorem pickL_le {α : Type} (xs : List α) (lo hi st : Option Int) : (pickL xs lo hi st).length ≤ xs.length := by
  have e : ∀ ys : List Value, ys.length = xs.length → (pickL ys lo hi st).length ≤ ys.length := fun ys zz => by
    have := slicePick_size_le ys.toArray lo hi st
    rw [pick_arr] at this
    simpa using this
  have e2 : ∀ (is : List Nat) (ys : List Value), ys.length = xs.length → (is.filterMap (xs[·]?)).length = (is.filterMap (ys[·]?)).length := fun is ys hy => by
    induction is with
    | nil => rfl
    | cons i r ih =>
      by_cases h : i < xs.length
      · have h' : i < ys.length := by (first | lia | omega)
        simp [List.filterMap_cons, h, h', ih]
      · have h' : ¬ i < ys.length := by (first | lia | omega)
        simp [List.filterMap_cons, h, h', ih]
  have e3 := e (List.replicate xs.length Value.none) (by simp)
  have e4 := e2 (sliceRange (sliceBounds lo hi st xs.length).1 (sliceBounds lo hi st xs.length).2.1 (sliceBounds lo hi st xs.length).2.2) (List.replicate xs.length Value.none) (by simp)
  unfold pickL at e3 ⊢
  rw [e4]
  simpa using e3

theorem wp_slice {A : Around} {E : Value → Shared → Prop} {env : Env} {P : Fz} {σ : St} {s : Shared} {a b c : Option PySem.Expr} {p : Pos} {f g h : St → Option (Option Int)} {lo hi st : Option Int} {Q : Value → Shared → Prop}
    (ha : DP C sc nm lv a f) (hb : DP C sc nm lv b g) (hc : DP C sc nm lv c h) (hA : AOk A lv) (hs : env.scope = sc) (R : RepE C env nm P σ s.heap) (e1 : f σ = some lo) (e2 : g σ = some hi) (e3 : h σ = some st)
    (k : ∀ P' h' tk sl x y z, Grow P s.heap P' h' → h'.IsSliceOf sl x y z → (∃ q : Option (Int × Tok), x = partValue q ∧ q.map (·.1) = lo) → (∃ q : Option (Int × Tok), y = partValue q ∧ q.map (·.1) = hi) → (∃ q : Option (Int × Tok), z = partValue q ∧ q.map (·.1) = st) →
      IsPart x lo → IsPart y hi → IsPart z st → Q (.ref sl) { s with heap := h', toks := tk }) : wpAny C.M A (eval (.Slice a b c p) env) Q E s := by
  refine wpAny_Slice (ha A E env P σ s lo _ hA hs R e1 fun P1 h1 tk1 x g1 q1 p1 => ?_)
  have R1 := R.grow g1
  refine hb A E env P1 σ { s with heap := h1, toks := tk1 } hi _ hA hs R1 e2 fun P2 h2 tk2 y g2 q2 p2 => ?_
  have R2 := R1.grow g2
  refine hc A E env P2 σ { s with heap := h2, toks := tk2 } st _ hA hs R2 e3 fun P3 h3 tk3 z g3 q3 p3 => ?_
  exact k P3 _ tk3 _ x y z (((g1.trans g2).trans g3).trans (Grow.of_keep g3.sub fun b o e => Heap.get?_push_of_some _ e)) (Heap.IsSliceOf.new _ _ _ _) q1 q2 q3 p1 p2 p3

theorem KF.after {P P1 : Fz} {s : Shared} {h1 : Heap} {tk1 : Nat} {v : List V} {Q : Value → Shared → Prop} (k : KF C P s v Q) (g : Grow P s.heap P1 h1) :
    KF C P1 { s with heap := h1, toks := tk1 } v Q := fun P' h' tk a xs n g' ha hn ho hx => by
  refine k P' h' tk a xs n (g.trans g') ha ?_ ho hx
  cases hq : s.heap.get? a with
  | none => rfl
  | some o => have := g.keep _ _ hq; rw [show h1.get? a = none from hn] at this; cases this

theorem KF.pushed {P : Fz} {s : Shared} {vs : List V} {Q : Value → Shared → Prop} (k : KF C P s vs Q) (hs : ∀ b o, P b = some o → s.heap.get? b = some o) {xs : List Value} {tk : Nat} (hx : C.VRs P vs xs) :
    Q (.ref s.heap.objs.size) { s with heap := s.heap.push { cls := .type "list", data := .seq xs.toArray }, toks := tk } := by
  have hP : P s.heap.objs.size = none := by
    cases hq : P s.heap.objs.size with
    | none => rfl
    | some o => have := hs _ _ hq; rw [fresh_none] at this; cases this
  exact k P _ tk _ xs 0 (Grow.of_keep hs fun b o e => Heap.get?_push_of_some _ e) hP (fresh_none _) (Heap.get?_push_size _ rfl) hx

theorem DF_slice {e : PySem.Expr} {a b c : Option PySem.Expr} {p pos : Pos} {f : St → Option (List V)} {f1 f2 f3 : St → Option (Option Int)} (he : DB C sc nm lv e f) (ha : DP C sc nm lv a f1) (hb : DP C sc nm lv b f2) (hc : DP C sc nm lv c f3) :
    DF C sc nm lv (.Subscript e (.Slice a b c p) pos) (fun σ => (f σ).bind fun xs => (f1 σ).bind fun lo => (f2 σ).bind fun hi => (f3 σ).bind fun st => sliceV xs lo hi st) := by
  intro A E env P σ s vs Q hA hs R hf k
  obtain ⟨us, hu, hf⟩ := bind_some hf
  obtain ⟨lo, e1, hf⟩ := bind_some hf
  obtain ⟨hi, e2, hf⟩ := bind_some hf
  obtain ⟨st, e3, hf⟩ := bind_some hf
  unfold sliceV at hf
  split at hf
  · cases hf
  · rename_i hz
    cases hf
    refine Subscript_ (he A E env P σ s us _ hA hs R hu fun P1 h1 tk1 l xs n g1 ho hx => ?_)
    refine wp_slice ha hb hc hA hs (R.grow g1) e1 e2 e3 fun P2 h2 tk2 sl x y z g2 hsl zz zz zz p1 p2 p3 => ?_
    obtain ⟨ops, hops⟩ := sub_ops (.Slice a b c p) (.ref l) (.ref sl)
    have ho2 := g2.keep _ _ ho
    have hx2 := VRs.mono g2.le hx
    have hl := hx.length
    unfold lim at hz
    refine tail_any (T := "list") ⟨_, ho2, rfl⟩ slot_list_getitem.lookup (wpAny_getItem_list_slice ⟨_, ho2, rfl, _, rfl⟩ hsl p1 p2 p3 (fun h => hz (.inl h)) ?_ (by rw [sizeLine_eq]; simp only [List.size_toArray]; (first | lia | omega))) hops
    rw [pick_arr]
    exact (k.after (g1.trans g2) (tk1 := tk2)).pushed (s := { s with heap := h2, toks := tk2 }) g2.sub (hx2.pick lo hi st)

noncomputable def cutSV : V → Option Int → Option Int → Option V
  | .str s, lo, hi => if s.length ≤ lim then some (.str (cutL s lo hi)) else none
  | _, _, _ => none
theorem cutL_le {α : Type} (xs : List α) (lo hi : Option Int) : (cutL xs lo hi).length ≤ xs.length := by
  rw [← pick_cut]; exact pickL_le _ _ _ _
theorem cutL_all {α : Type} {xs : List α} {lo hi : Option Int} (h : (cutL xs lo hi).length = xs.length) : cutL xs lo hi = xs := by
  unfold cutL at h ⊢
  simp only [List.length_take, List.length_drop] at h
  generalize lo.elim 0 (clipAt xs.length) = a at h ⊢
  generalize hi.elim xs.length (clipAt xs.length) - a = b at h ⊢
  by_cases h0 : xs = []
  · subst h0; simp
  · have hl : 0 < xs.length := List.length_pos_iff.mpr h0
    have ha : a = 0 := by (first | lia | omega)
    subst ha
    rw [List.drop_zero, List.take_of_length_le (by (first | lia | omega))]

theorem cutSV_inv {x v : V} {lo hi : Option Int} (h : cutSV x lo hi = some v) : ∃ l, x = .str l ∧ l.length ≤ lim ∧ v = .str (cutL l lo hi) := by
  unfold cutSV at h
  split at h
  · split at h
    · cases h; exact ⟨_, rfl, by assumption, rfl⟩
    · cases h
  · cases h
theorem DE_sliceS {e : PySem.Expr} {a b : Option PySem.Expr} {p pos : Pos} {f : St → Option V} {f1 f2 : St → Option (Option Int)} (he : DE C sc nm lv e f) (ha : DP C sc nm lv a f1) (hb : DP C sc nm lv b f2) :
    DE C sc nm lv (.Subscript e (.Slice a b none p) pos) (fun σ => (f σ).bind fun x => (f1 σ).bind fun lo => (f2 σ).bind fun hi => cutSV x lo hi) := by
  intro A E env P σ s v Q hA hs R hf k
  obtain ⟨u, hu, hf⟩ := bind_some hf
  obtain ⟨lo, e1, hf⟩ := bind_some hf
  obtain ⟨hi, e2, hf⟩ := bind_some hf
  obtain ⟨l, rfl, hl, rfl⟩ := cutSV_inv hf
  refine Subscript_ (he A E env P σ s _ _ hA hs R hu fun P1 h1 tk1 x g1 hx => ?_)
  refine wp_slice ha hb DP_none hA hs (R.grow g1) e1 e2 rfl fun P2 h2 tk2 sl x y z g2 hsl q1 q2 q3 zz zz zz => ?_
  obtain ⟨t1, rfl⟩ := hx.inv
  obtain ⟨ops, hops⟩ := sub_ops (.Slice a b none p) (.str ⟨l.toArray⟩ t1) (.ref sl)
  obtain ⟨q1, rfl, hq1⟩ := q1
  obtain ⟨q2, rfl, hq2⟩ := q2
  obtain ⟨q3, rfl, hq3⟩ := q3
  have h3 : q3 = none := by cases q3 <;> simp_all
  subst h3
  refine tail_any (T := "str") (typeIs_str _ _ _) F.slot_str_getitem.lookup (wpAny_getItem_str_slice (l := q1) (u := q2) (st := none) hsl rfl ?_) hops
  have kk := (k.after (g1.trans g2) (tk1 := tk2))
  have epick : (slicePicked ⟨l.toArray⟩ q1 q2 none).filterMap ((⟨l.toArray⟩ : Str).cps[·]?) = cutL l lo hi := by
    rw [← strPick, ← hq1, ← hq2]
    unfold slicePicked
    simp [Str.length]
  have elen : (slicePicked ⟨l.toArray⟩ q1 q2 none).length = hi.elim l.length (clipAt l.length) - lo.elim 0 (clipAt l.length) := by
    rw [← hq1, ← hq2]
    unfold slicePicked
    rw [show (Option.map (fun x => x.1) (none : Option (Int × Tok))).getD 1 = 1 from rfl, strIdx_len]
    simp [Str.length]
  unfold sliceMade
  split
  · rename_i hc
    have hc' : (slicePicked ⟨l.toArray⟩ q1 q2 none).length = l.length := by simpa [Str.length] using hc
    have : cutL l lo hi = l := by
      refine cutL_all ?_
      rw [elen] at hc'
      unfold cutL
      simp only [List.length_take, List.length_drop]
      have : hi.elim l.length (clipAt l.length) ≤ l.length := by
        cases hi with
        | none => exact Nat.le_refl _
        | some i => show clipAt l.length i ≤ _; have := clipAt_cast l.length i; omega
      omega
    rw [this] at kk
    exact kk.here (s := { s with heap := h2, toks := tk2 }) g2.sub (.str _ _)
  · rw [epick]
    have := cutL_le l lo hi
    unfold lim at hl
    exact ⟨by simp only [Str.length, List.size_toArray]; rw [sizeLine_eq]; omega, kk.tok (s := { s with heap := h2, toks := tk2 }) g2.sub (.str _ _)⟩
end
end Lw

namespace Lw
open PySem PySem.Calls PyProof.Rows
set_option maxRecDepth 10000

/-- an iterator and what it has still to give -/
inductive ItR (C : Cx) (P : Fz) (h : Heap) (I : Addr) : List V → Prop
  | list {l : Addr} {xs : List Value} {n i : Nat} {vs : List V} : P l = some (lobj xs n) → C.VRs P vs (xs.drop i) → h.IsListIter I l i → ItR C P h I vs
  | range {a c : Int} {n : Nat} {left : Int} : left = n → IsRangeIter h I a left c → ItR C P h I ((List.range n).map fun k : Nat => V.int (a + (k : Int) * c))
  | text {x : List Nat} {t : Tok} {i : Nat} : h.IsStrIter I "str_ascii_iterator" ⟨x.toArray⟩ t i → ItR C P h I ((x.drop i).map fun c => .str [c])

theorem ItR.mono {C : Cx} {P P' : Fz} {h h' : Heap} {I : Addr} {vs : List V} (H : ItR C P h I vs) (hp : ∀ b o, P b = some o → P' b = some o) (hI : ∀ o, h.get? I = some o → h'.get? I = some o) : ItR C P' h' I vs := by
  cases H with
  | list h1 h2 h3 =>
    obtain ⟨o, a1, a2⟩ := h3
    exact .list (hp _ _ h1) (VRs.mono hp h2) ⟨o, hI _ a1, a2⟩
  | range e h1 => exact .range e (hI _ h1)
  | text h1 =>
    obtain ⟨o, a1, a2⟩ := h1
    exact .text ⟨o, hI _ a1, a2⟩
theorem ItR.obj {C : Cx} {P : Fz} {h : Heap} {I : Addr} {vs : List V} (H : ItR C P h I vs) : ∃ o, h.get? I = some o := by
  cases H with
  | list h1 h2 h3 => obtain ⟨o, a1, a2⟩ := h3; exact ⟨o, a1⟩
  | range e h1 => exact ⟨_, h1⟩
  | text h1 => obtain ⟨o, a1, a2⟩ := h1; exact ⟨o, a1⟩

theorem drop_cons {α : Type} {xs : List α} {i : Nat} {x : α} {r : List α} (h : xs.drop i = x :: r) : xs[i]? = some x ∧ xs.drop (i + 1) = r := by
  have h1 : (xs.drop i)[0]? = some x := by rw [h]; rfl
  rw [List.getElem?_drop] at h1
  refine ⟨by simpa using h1, ?_⟩
  have : (xs.drop i).drop 1 = r := by rw [h]; rfl
  rw [List.drop_drop] at this
  exact this
theorem drop_nil {α : Type} {xs : List α} {i : Nat} (h : xs.drop i = []) : xs[i]? = none := by
  have := List.drop_eq_nil_iff.mp h
  exact List.getElem?_eq_none this

section
variable {C : Cx} {sc : Scope} {nm : List Str} {lv : Nat}

theorem next_cons {A : Around} {E : Value → Shared → Prop} {P : Fz} {s : Shared} {I : Addr} {v : V} {r : List V} {Q : Option Value → Shared → Prop} (hs : ∀ b o, P b = some o → s.heap.get? b = some o) (hI : P I = none)
    (H : ItR C P s.heap I (v :: r)) (k : ∀ h' tk x, Heap.SameBut I s.heap h' → C.VR P v x → ItR C P h' I r → Q (some x) { s with heap := h', toks := tk }) : wpAny C.M A (pyNext (.ref I)) Q E s := by
  generalize hvs : v :: r = vs at H
  cases H with
  | @list l xs n i _ h1 h2 h3 =>
    subst hvs
    have hne : l ≠ I := by rintro rfl; rw [hI] at h1; cases h1
    have h1' := hs _ _ h1
    generalize hd : xs.drop i = ys at h2
    cases h2 with
    | @cons _ x _ xr h4 h5 =>
      obtain ⟨e1, e2⟩ := drop_cons hd
      subst e2
      refine wpAny_pyNext_list_item h3 (items := xs.toArray) ⟨_, h1', rfl, _, rfl⟩ (by simpa using e1) fun h' hi hb => k h' s.toks x hb h4 (.list h1 h5 hi)
  | @range a c n left e h1 =>
    subst e
    cases n with
    | zero => simp at hvs
    | succ n =>
      rw [List.range_succ_eq_map] at hvs
      simp only [List.map_cons, List.map_map, List.cons.injEq] at hvs
      obtain ⟨rfl, rfl⟩ := hvs
      refine wpAny_pyNext_range_item h1 (by (first | lia | omega)) fun h' hi hb => ?_
      refine k h' _ _ hb (by simpa using VR.int a s.toks) ?_
      have := ItR.range (C := C) (P := P) (h := h') (I := I) (a := a + c) (c := c) (n := n) (left := ((n + 1 : Nat) : Int) - 1) (by (first | lia | omega)) hi
      have e : (List.map ((fun k : Nat => V.int (a + k * c)) ∘ Nat.succ) (List.range n)) = (List.range n).map fun k : Nat => V.int (a + c + (k : Int) * c) := by
        refine List.map_congr_left fun j zz => ?_
        simp only [Function.comp]
        congr 1
        rw [Nat.succ_eq_add_one, Int.natCast_add, Int.add_mul, Int.natCast_one, Int.one_mul]; (first | lia | omega)
      rw [e]; exact this
  | @text x t i h1 =>
    generalize hd : x.drop i = ys at hvs
    cases ys with
    | nil => simp at hvs
    | cons c ys =>
      simp only [List.map_cons, List.cons.injEq] at hvs
      obtain ⟨rfl, rfl⟩ := hvs
      obtain ⟨e1, e2⟩ := drop_cons hd
      subst e2
      refine wpAny_pyNext_ascii_item h1 (c := c) (by simpa using e1) fun h' hi hb => ?_
      exact k h' _ _ hb (.str [c] _) (.text hi)

theorem next_nil {A : Around} {E : Value → Shared → Prop} {P : Fz} {s : Shared} {I : Addr} {Q : Option Value → Shared → Prop} (hA : A.handled = none) (hs : ∀ b o, P b = some o → s.heap.get? b = some o) (_hI : P I = none)
    (H : ItR C P s.heap I []) (k : ∀ h', Heap.ExtBut I s.heap h' → Q none { s with heap := h' }) : wpAny C.M A (pyNext (.ref I)) Q E s := by
  generalize hvs : [] = vs at H
  cases H with
  | @list l xs n i _ h1 h2 h3 =>
    subst hvs
    have h1' := hs _ _ h1
    generalize hd : xs.drop i = ys at h2
    cases h2
    exact wpAny_pyNext_list_end hA h3 (items := xs.toArray) ⟨_, h1', rfl, _, rfl⟩ (by simpa using drop_nil hd) k
  | @range a c n left e h1 =>
    subst e
    cases n with
    | zero => exact wpAny_pyNext_range_end hA h1 (by (first | lia | omega)) k
    | succ n => rw [List.range_succ_eq_map] at hvs; simp at hvs
  | @text x t i h1 =>
    have hd : x.drop i = [] := by simpa using hvs.symm
    exact wpAny_pyNext_ascii_end hA h1 (by simpa using drop_nil hd) k

theorem iter_self {A : Around} {E : Value → Shared → Prop} {P : Fz} {s : Shared} {I : Addr} {vs : List V} {Q : Value → Shared → Prop} (H : ItR C P s.heap I vs) (k : Q (.ref I) s) : wpAny C.M A (pyIter (.ref I)) Q E s := by
  cases H with
  | list h1 h2 h3 => exact wpAny_pyIter_listiter h3 k
  | range e h1 => exact wpAny_pyIter_rangeiter h1 k
  | text h1 => exact wpAny_pyIter_striter_ascii h1 k

/-- what one can go over -/
noncomputable def DI (C : Cx) (sc : Scope) (nm : List Str) (lv : Nat) (e : PySem.Expr) (f : St → Option (List V)) : Prop :=
  ∀ (A : Around) (E : Value → Shared → Prop) (env : Env) (P : Fz) (σ : St) (s : Shared) (vs : List V) (Q : Value → Shared → Prop),
    AOk A lv → env.scope = sc → RepE C env nm P σ s.heap → f σ = some vs →
    (∀ P' h' tk I, Grow P s.heap P' h' → ItR C P' h' I vs → P' I = none → s.heap.get? I = none → Q (.ref I) { s with heap := h', toks := tk }) →
    wpAny C.M A (eval e env) (fun x s₁ => wpAny C.M A (pyIter x) Q E s₁) E s

noncomputable def iterV : V → Option (List V)
  | .list vs => some vs
  | .str s => if s.all (· < 128) then some (s.map fun c => .str [c]) else none
  | _ => none

theorem grow_push {P : Fz} {s : Heap} {P1 : Fz} {h1 : Heap} (g1 : Grow P s P1 h1) (o : Obj) : Grow P s P1 (h1.push o) ∧ P1 h1.objs.size = none ∧ s.get? h1.objs.size = none := by
  exact ⟨g1.trans (Grow.of_keep g1.sub fun b o e => Heap.get?_push_of_some _ e), g1.fresh (fresh_none _)⟩

theorem DI_of {e : PySem.Expr} {f : St → Option V} (h : DE C sc nm lv e f) : DI C sc nm lv e (fun σ => (f σ).bind iterV) := by
  intro A E env P σ s vs Q hA hs R hf k
  obtain ⟨v, hv, hf⟩ := bind_some hf
  refine h A E env P σ s v _ hA hs R hv fun P1 h1 tk1 x g1 hx => ?_
  unfold iterV at hf
  split at hf
  · cases hf
    obtain ⟨l, xs, n, rfl, h3, h4⟩ := hx.list_inv
    refine wpAny_pyIter_list (items := xs.toArray) ⟨_, g1.sub _ _ h3, rfl, _, rfl⟩ ?_
    obtain ⟨a1, a2, a3⟩ := grow_push g1 { cls := .type "list_iterator", data := .fields #[.ref l, .int 0 0] }
    exact k P1 _ tk1 _ a1 (.list (i := 0) h3 (by simpa using h4) ⟨_, Heap.get?_push_size _ rfl, rfl, rfl⟩) a2 a3
  · split at hf
    · rename_i x ha
      cases hf
      obtain ⟨t, rfl⟩ := hx.inv
      refine wpAny_pyIter_ascii (by simpa using ha) ?_
      obtain ⟨a1, a2, a3⟩ := grow_push g1 { cls := .type "str_ascii_iterator", data := .fields #[.str ⟨x.toArray⟩ t, .int 0 0] }
      exact k P1 _ tk1 _ a1 (.text (i := 0) (x := x) (t := t) ⟨_, Heap.get?_push_size _ rfl, rfl, rfl⟩) a2 a3
    · cases hf
  · cases hf

noncomputable def rangeN (a b c : Int) : Nat := (Builtin.Range.rangeSize a b c).toNat
noncomputable def rangeI (a b c : Int) : List Int := (List.range (rangeN a b c)).map fun k : Nat => a + (k : Int) * c
noncomputable def rangeV : List V → Option (List V)
  | [.int b] => if b.natAbs ≤ lim then some ((rangeI 0 b 1).map .int) else none
  | [.int a, .int b] => if a.natAbs ≤ lim ∧ b.natAbs ≤ lim then some ((rangeI a b 1).map .int) else none
  | [.int a, .int b, .int c] => if a.natAbs ≤ lim ∧ b.natAbs ≤ lim ∧ c.natAbs ≤ lim ∧ 0 < c then some ((rangeI a b c).map .int) else none
  | _ => none

theorem range_le {a b c : Int} (ha : a.natAbs ≤ lim) (hb : b.natAbs ≤ lim) (hc : 0 < c) : 0 ≤ Builtin.Range.rangeSize a b c ∧ Builtin.Range.rangeSize a b c ≤ 200001 := by
  unfold lim at ha hb
  unfold Builtin.Range.rangeSize
  rw [if_pos hc]
  split
  · have h1 : 0 ≤ (b - a - 1) / c := Int.ediv_nonneg (by omega) (by omega)
    have h2 : (b - a - 1) / c ≤ b - a - 1 := Int.ediv_le_self _ (by omega)
    omega
  · omega
theorem range_small {a b c : Int} (ha : a.natAbs ≤ lim) (hb : b.natAbs ≤ lim) (hc0 : 0 < c) (hc : c.natAbs ≤ lim) : Builtin.Range.small a b c = true := by
  have := range_le ha hb hc0
  unfold lim at ha hb hc
  unfold Builtin.Range.small
  have f : ∀ x : Int, x.natAbs ≤ 1000000 → Builtin.Range.rangeFitsLong x = true := fun x hx => by
    unfold Builtin.Range.rangeFitsLong
    simp only [Bool.and_eq_true, decide_eq_true_eq]
    constructor <;> (first | lia | omega)
  rw [f a (by (first | lia | omega)), f b (by (first | lia | omega)), f c (by (first | lia | omega)), f _ (by (first | lia | omega)), if_pos hc0, f (b + (c - 1)) (by (first | lia | omega))]
  simp

theorem wp_callG {A : Around} {E : Value → Shared → Prop} {env : Env} {P : Fz} {σ : St} {s : Shared} {vs : List V} {Q : Value → Shared → Prop} {n : Str} {np pos : Pos} {args : List PySem.Expr} {fv : Value} {f : St → Option (List V)}
    (hg : C.glob n fv) (hk : sc.names.lookup n = some .globalImplicit) (hd : (n == ("__debug__" : Str)) = false)
    (hcal : Callee C fv) (hne : args ≠ []) (ha : DEs C sc nm lv args f) (hA : AOk A lv) (hs : env.scope = sc) (R : RepE C env nm P σ s.heap) (hvs : f σ = some vs)
    (k : ∀ P1 h1 tk1 xs, Grow P s.heap P1 h1 → C.VRs P1 vs xs → wpAny C.M A (call fv xs) Q E { s with heap := h1, toks := tk1 }) : wpAny C.M A (eval (.Call (.Name n np) args [] pos) env) Q E s := by
  refine wpAny_Call_NameR (wp_glob hg hs R hk hd ?_)
  obtain ⟨h1, h2, h3⟩ := ha A E env P σ s vs pos (fun xs s₁ => (∀ b o, C.h₀.get? b = some o → s₁.heap.get? b = some o) ∧ wpAny C.M A (call fv xs) Q E s₁) hA hs R hvs fun P1 h1 tk1 xs g1 hxs =>
    ⟨(R.grow g1).base, k P1 h1 tk1 xs g1 hxs⟩
  obtain ⟨t, r, e⟩ := h3 hne
  rw [e] at h1 h2 ⊢
  cases fv with
  | builtin id => exact callWith_builtin h2 (evalArgs_plain (wpAny_mono h1 (fun zz zz x => by simpa using x.2) fun zz zz x => x))
  | type T => exact PySem.callWith_type h2 (evalArgs_plain (wpAny_mono h1 (fun zz zz x => by simpa using x.2) fun zz zz x => x))
  | ref a =>
    obtain ⟨o, fd, ho, hd⟩ := hcal
    exact callWith_function (o := o) (fd := fd) (evalArgs_plain (wpAny_mono h1 (fun zz s₁ x => ⟨⟨x.1 _ _ ho, hd⟩, by simpa using x.2⟩) fun zz zz x => x))
  | _ => exact hcal.elim

theorem wp_range_iter {A : Around} {E : Value → Shared → Prop} {P P1 : Fz} {s : Shared} {h1 : Heap} {tk1 : Nat} {a b c : Int} {t u v : Tok} {Q : Value → Shared → Prop} (ha : a.natAbs ≤ lim) (hb : b.natAbs ≤ lim) (hc0 : 0 < c) (hc : c.natAbs ≤ lim) (g1 : Grow P s.heap P1 h1)
    (k : ∀ P' h' tk I, Grow P s.heap P' h' → ItR C P' h' I ((rangeI a b c).map .int) → P' I = none → s.heap.get? I = none → Q (.ref I) { s with heap := h', toks := tk }) :
    wpAny C.M A (pyIter (.ref h1.objs.size)) Q E { s with heap := h1.push { cls := .type "range", data := .fields #[.int a t, .int b u, .int c v] }, toks := tk1 } := by
  obtain ⟨a1, a2, a3⟩ := grow_push g1 { cls := .type "range", data := .fields #[.int a t, .int b u, .int c v] }
  refine wpAny_pyIter_range (a := a) (b := b) (c := c) (t := t) (u := u) (v := v) (Heap.get?_push_size _ rfl) (range_small ha hb hc0 hc) ?_
  obtain ⟨b1, b2, b3⟩ := grow_push a1 { cls := .type "range_iterator", data := .fields #[rawInt a, rawInt (Builtin.Range.rangeSize a b c), rawInt c] }
  refine k P1 _ tk1 _ b1 ?_ b2 b3
  have e := ItR.range (C := C) (P := P1) (h := (h1.push { cls := .type "range", data := .fields #[.int a t, .int b u, .int c v] }).push { cls := .type "range_iterator", data := .fields #[rawInt a, rawInt (Builtin.Range.rangeSize a b c), rawInt c] })
    (I := (h1.push { cls := .type "range", data := .fields #[.int a t, .int b u, .int c v] }).objs.size) (a := a) (c := c) (n := rangeN a b c) (left := Builtin.Range.rangeSize a b c)
    (by have := (range_le ha hb hc0).1; unfold rangeN; (first | lia | omega)) (Heap.get?_push_size _ rfl)
  unfold rangeI
  rw [List.map_map]
  exact e

theorem range_made {A : Around} {E : Value → Shared → Prop} {P : Fz} {s : Shared} {vs us : List V} {xs : List Value} {Q : Value → Shared → Prop} (hus : rangeV vs = some us) (hx : C.VRs P vs xs)
    (k : ∀ a b c t u v tk, a.natAbs ≤ lim → b.natAbs ≤ lim → 0 < c → c.natAbs ≤ lim → us = (rangeI a b c).map .int → Q (.ref s.heap.objs.size) { s with heap := s.heap.push { cls := .type "range", data := .fields #[.int a t, .int b u, .int c v] }, toks := tk }) : wpAny C.M A (call (.type "range") xs) Q E s := by
  have l0 : (0 : Int).natAbs ≤ lim := by decide
  have l1 : (1 : Int).natAbs ≤ lim := by decide
  unfold rangeV at hus
  split at hus
  · obtain ⟨x, rfl, h3⟩ := hx.one
    obtain ⟨_, rfl⟩ := h3.inv
    split at hus
    · cases hus
      exact call_range_1 (k _ _ _ _ _ _ _ l0 ‹_› (by decide) l1 rfl)
    · cases hus
  · obtain ⟨x, y, rfl, h3, h4⟩ := hx.two
    obtain ⟨_, rfl⟩ := h3.inv; obtain ⟨_, rfl⟩ := h4.inv
    split at hus
    · rename_i hl
      cases hus
      exact call_range_2 (k _ _ _ _ _ _ _ hl.1 hl.2 (by decide) l1 rfl)
    · cases hus
  · cases hx with
    | cons h2 h3 =>
    obtain ⟨y, z, rfl, h4, h5⟩ := h3.two
    obtain ⟨_, rfl⟩ := h2.inv; obtain ⟨_, rfl⟩ := h4.inv; obtain ⟨_, rfl⟩ := h5.inv
    split at hus
    · rename_i hl
      cases hus
      exact call_range_3 (by (first | lia | omega)) (k _ _ _ _ _ _ s.toks hl.1 hl.2.1 hl.2.2.2 hl.2.2.1 rfl) (.inl (PyProof.noPylong_small (by unfold lim at hl; (first | lia | omega))))
    · cases hus
  · cases hus

theorem DI_range {np pos : Pos} {args : List PySem.Expr} {f : St → Option (List V)} (hg : C.glob (Str.ofString "range") (.type "range")) (hk : sc.names.lookup (Str.ofString "range") = some .globalImplicit) (hne : args ≠ [])
    (ha : DEs C sc nm lv args f) : DI C sc nm lv (.Call (.Name (Str.ofString "range") np) args [] pos) (fun σ => (f σ).bind rangeV) := by
  intro A E env P σ s vs Q hA hs R hf k
  obtain ⟨us, hus, hf⟩ := bind_some hf
  refine wp_callG hg hk (by decide +kernel) trivial hne ha hA hs R hus fun P1 h1 tk1 xs g1 hx => range_made hf hx fun a b c t u v tk ha hb hc0 hc e => ?_
  cases e
  exact wp_range_iter (s := s) ha hb hc0 hc g1 k
end
end Lw

namespace Lw
open PySem PySem.Calls PyProof.Rows
set_option maxRecDepth 10000

section
variable {prog : Program} {w : World} {A : Around} {E : Value → Shared → Prop} {R : Result → Shared → Prop} {s : Shared}

end
end Lw

namespace Lw
open PySem PySem.Calls PyProof.Rows
set_option maxRecDepth 10000

structure GrowB (B P P' : Fz) (h' : Heap) : Prop where
  le : ∀ b o, P b = some o → P' b = some o
  sub : ∀ b o, P' b = some o → h'.get? b = some o
  keep : ∀ b o, B b = some o → h'.get? b = some o
  new : ∀ b o, P' b = some o → P b = some o ∨ B b = none

theorem GrowB.refl {B P : Fz} {h : Heap} (hs : ∀ b o, P b = some o → h.get? b = some o) (hb : ∀ b o, B b = some o → h.get? b = some o) : GrowB B P P h :=
  ⟨fun zz zz e => e, hs, hb, fun zz zz e => .inl e⟩
theorem GrowB.trans {B P P1 P2 : Fz} {h1 h2 : Heap} (g : GrowB B P P1 h1) (g' : GrowB B P1 P2 h2) : GrowB B P P2 h2 :=
  ⟨fun b o e => g'.le _ _ (g.le _ _ e), g'.sub, g'.keep, fun b o e => by
    rcases g'.new b o e with e | e
    · exact g.new b o e
    · exact .inr e⟩
theorem GrowB.grow {B P P1 P2 : Fz} {h1 h2 : Heap} (g : GrowB B P P1 h1) (g' : Grow P1 h1 P2 h2) : GrowB B P P2 h2 :=
  ⟨fun b o e => g'.le _ _ (g.le _ _ e), g'.sub, fun b o e => g'.keep _ _ (g.keep _ _ e), fun b o e => by
    rcases g'.new b o e with e | e
    · exact g.new b o e
    · right
      cases hq : B b with
      | none => rfl
      | some o' => rw [g.keep _ _ hq] at e; cases e⟩
theorem Grow.toB {P P' : Fz} {h h' : Heap} (g : Grow P h P' h') : GrowB h.get? P P' h' := ⟨g.le, g.sub, g.keep, g.new⟩
theorem GrowB.ofB {P P' : Fz} {h h' : Heap} (g : GrowB h.get? P P' h') : Grow P h P' h' := ⟨g.le, g.sub, g.keep, g.new⟩
/-- a heap changed at places out of hand -/
theorem GrowB.set {B P P1 : Fz} {h1 h2 : Heap} (g : GrowB B P P1 h1) (hk : ∀ b o, h1.get? b = some o → (∃ o', P1 b = some o') ∨ (∃ o', B b = some o') → h2.get? b = some o) : GrowB B P P1 h2 :=
  ⟨g.le, fun b o e => hk b o (g.sub b o e) (.inl ⟨o, e⟩), fun b o e => hk b o (g.keep b o e) (.inr ⟨o, e⟩), g.new⟩

theorem GrowB.but {B P P1 : Fz} {h1 h2 : Heap} {I : Addr} (g : GrowB B P P1 h1) (p : P1 I = none) (q : B I = none) (hk : ∀ b o, b ≠ I → h1.get? b = some o → h2.get? b = some o) : GrowB B P P1 h2 :=
  ⟨g.le, fun c o e => hk c o (fun r => by rw [r, p] at e; cases e) (g.sub c o e), fun c o e => hk c o (fun r => by rw [r, q] at e; cases e) (g.keep c o e), g.new⟩
theorem Grow.stay {P P' : Fz} {h h' : Heap} (g : Grow P h P' h') {b : Addr} {o : Obj} (e : h.get? b = some o) (p : P b = none) : P' b = none := by
  cases hq : P' b with
  | none => rfl
  | some o' => rcases g.new _ _ hq with q | q
               · rw [p] at q; cases q
               · rw [e] at q; cases q
theorem GrowB.stay {B P P' : Fz} {h' : Heap} (g : GrowB B P P' h') {b : Addr} {o : Obj} (e : B b = some o) (p : P b = none) : P' b = none := by
  cases hq : P' b with
  | none => rfl
  | some o' => rcases g.new _ _ hq with q | q
               · rw [p] at q; cases q
               · rw [e] at q; cases q
/-- one place more is held -/
noncomputable def hold (B : Fz) (I : Addr) (x : Option Obj) : Fz := fun b => if b = I then x else B b
theorem hold_self {B : Fz} {I : Addr} {x : Option Obj} : hold B I x I = x := if_pos rfl
theorem hold_other {B : Fz} {I b : Addr} {x : Option Obj} (h : b ≠ I) : hold B I x b = B b := if_neg h
theorem GrowB.unhold {B P P1 P2 : Fz} {h1 h2 : Heap} {I : Addr} {x : Option Obj} (g : GrowB B P P1 h1) (q : B I = none) (g' : GrowB (hold B I x) P1 P2 h2) : GrowB B P P2 h2 :=
  ⟨fun b o e => g'.le _ _ (g.le _ _ e), g'.sub, fun b o e => g'.keep b o (by rw [hold_other (fun r => by rw [r, q] at e; cases e)]; exact e), fun b o e => by
    rcases g'.new b o e with e | e
    · exact g.new b o e
    · by_cases r : b = I
      · rw [r]; exact .inr q
      · rw [hold_other r] at e; exact .inr e⟩

noncomputable def LocOk (C : Cx) (P : Fz) (m : Str → Option Value) : List Str → List V → Prop
  | [], [] => True
  | n :: ns, v :: vs => (∃ y, m n = some y ∧ C.VR P v y) ∧ LocOk C P m ns vs
  | _, _ => False
theorem LocOk.mono {C : Cx} {P P' : Fz} {m m' : Str → Option Value} (hp : ∀ b o, P b = some o → P' b = some o) : ∀ {ns : List Str} {vs : List V}, (∀ n ∈ ns, m' n = m n) → LocOk C P m ns vs → LocOk C P' m' ns vs
  | [], [], _, _ => trivial
  | n :: ns, v :: vs, hm, ⟨⟨y, h1, h2⟩, h3⟩ => ⟨⟨y, by rw [hm n List.mem_cons_self]; exact h1, VR.mono hp h2⟩, LocOk.mono hp (fun k hk => hm k (List.mem_cons_of_mem _ hk)) h3⟩
  | [], _ :: _, _, h => h.elim
  | _ :: _, [], _, h => h.elim

abbrev frzs (vs : List V) : St := vs.map fun v => some (.frz v)

theorem RepE.locs {C : Cx} {env : Env} {nm : List Str} {P : Fz} {σ : St} {h : Heap} {m : Str → Option Value} (R : RepE C env nm P σ h) (hn : h.Ns env.locals m) :
    ∀ {locs : List Str} {lvs : List V}, LocOk C P m locs lvs → (∀ n ∈ locs, env.kindOf n = some .local) → RepE C env (locs ++ nm) P (frzs lvs ++ σ) h
  | [], [], _, _ => R
  | n :: ns, v :: vs, ⟨⟨y, h1, h2⟩, h3⟩, hk => by
    have ih := RepE.locs R hn h3 fun k hk' => hk k (List.mem_cons_of_mem _ hk')
    refine ⟨ih.base, ih.sub, ih.fn, ih.gl, ih.bl, fun i n' sl e1 e2 => ?_, ih.cells⟩
    cases i with
    | zero =>
      simp at e1 e2
      subst e1 e2
      exact ⟨y, .inl ⟨hk _ List.mem_cons_self, m, hn, h1⟩, h2⟩
    | succ i =>
      simp only [List.cons_append, List.getElem?_cons_succ, List.map_cons] at e1 e2
      exact ih.vars i n' sl e1 e2
  | [], _ :: _, h, _ => h.elim
  | _ :: _, [], h, _ => h.elim

abbrev testsOf (ifs : List PySem.Expr) (env : Env) : Sem Bool := forIn ifs true fun c r => if r = true then do let ok ← isTrue c env (eval c env); pure (ForInStep.yield ok) else pure (ForInStep.yield r)

noncomputable def DIfs (C : Cx) (sc : Scope) (nm : List Str) (lv : Nat) (ifs : List PySem.Expr) (f : St → Option Bool) : Prop :=
  ∀ (A : Around) (E : Value → Shared → Prop) (env : Env) (P : Fz) (σ : St) (s : Shared) (b : Bool) (Q : Bool → Shared → Prop),
    AOk A lv → env.scope = sc → RepE C env nm P σ s.heap → f σ = some b →
    (∀ P' h' tk, Grow P s.heap P' h' → Q b { s with heap := h', toks := tk }) → wpAny C.M A (testsOf ifs env) Q E s
theorem DIfs_nil {C : Cx} {sc : Scope} {nm : List Str} {lv : Nat} : DIfs C sc nm lv [] (fun zz => some true) := by
  intro A E env P σ s b Q hA hs R hf k
  cases hf
  exact wpAny_tests_nil (k P s.heap s.toks (Grow.refl R.sub))
theorem DIfs_one {C : Cx} {sc : Scope} {nm : List Str} {lv : Nat} {c : PySem.Expr} {f : St → Option Bool} (h : DT C sc nm lv c f) : DIfs C sc nm lv [c] f := by
  intro A E env P σ s b Q hA hs R hf k
  exact wpAny_tests_one (h A E env P σ s b Q hA hs R hf k)

abbrev BodyW := Around → Env → Value → (Shared → Prop) → (Value → Shared → Prop) → Shared → Prop

noncomputable def LastW (C : Cx) (elt : PySem.Expr) : BodyW := fun A env acc Q E s => wpAny C.M A (eval elt env) (fun x s₄ => wpAny C.M A (call (.builtin "list.append") [acc, x]) (fun zz s₅ => Q s₅) E s₄) E s
noncomputable def NestW (C : Cx) (e iter' : PySem.Expr) : BodyW := fun A env acc Q E s => wpAny C.M A (eval iter' env) (fun x s₄ =>
  wpAny C.M A (pyIter x) (fun it' s₅ => codeAny C.M (A.mark none) (.compStart e 1 it' acc env) (fun r s₆ => match r with
    | .ok _ => Q s₆
    | .error x => cameBackBy C.M A env E x s₆) s₅) E s₄) E s

/-- the abode of a comprehension: its own names, its list -/
structure Abode (C : Cx) (cenv : Env) (D : Addr) (P : Fz) (locs : List Str) (lvs : List V) (us : List V) (h : Heap) (m : Str → Option Value) (ys : List Value) (n : Nat) : Prop where
  pc : P cenv.locals = none
  pd : P D = none
  ns : h.Ns cenv.locals m
  loc : LocOk C P m locs lvs
  acc : h.get? D = some (lobj ys n)
  its : C.VRs P us ys

noncomputable def DY (C : Cx) (sc : Scope) (nm locs : List Str) (lv : Nat) (W : BodyW) (g : St → Option (List V)) : Prop :=
  ∀ (A : Around) (E : Value → Shared → Prop) (cenv : Env) (B P : Fz) (σ : St) (lvs : List V) (s : Shared) (m : Str → Option Value) (D : Addr) (ys : List Value) (n : Nat) (us vs : List V) (Q : Shared → Prop),
    AOk A lv → cenv.scope = sc → (∀ P' h', GrowB B P P' h' → RepE C cenv nm P' σ h') → GrowB B P P s.heap → B cenv.locals = none → B D = none → D ≠ cenv.locals →
    Abode C cenv D P locs lvs us s.heap m ys n → us.length + vs.length ≤ lim → g (frzs lvs ++ σ) = some vs →
    (∀ P' h' tk m' ys' n', GrowB B P P' h' → Abode C cenv D P' locs lvs (us ++ vs) h' m' ys' n' → Q { s with heap := h', toks := tk }) → W A cenv (.ref D) Q E s

noncomputable def LoopRule (C : Cx) (e : PySem.Expr) (d : Nat) (target : PySem.Expr) (ifs : List PySem.Expr) (W : BodyW) : Prop :=
  ∀ (A : Around) (R : Result → Shared → Prop) (s : Shared) (it acc : Value) (env : Env) (I : Nat → Shared → Prop),
    (∀ n s, I n s → wpAny C.M A (pyNext it) (fun r s₁ => match r with
      | none => R (.ok .next) s₁
      | some v => wpAny C.M A (assign target env v) (fun zz s₂ => wpAny C.M A (testsOf ifs env) (fun ok s₃ =>
            if ok = true then W A env acc (fun s₅ => ∃ m, m < n ∧ I m s₅) (notedBy C.M A env fun e s' => R (.error e) s') s₃
            else ∃ m, m < n ∧ I m s₃) (notedBy C.M A env fun e s' => R (.error e) s') s₂) (notedBy C.M A env fun e s' => R (.error e) s') s₁) (notedBy C.M A env fun e s' => R (.error e) s') s) →
    (∀ v, letOwnedTupleGo target it v = pure ()) → ∀ n, I n s → codeAny C.M A (.compLoop e d it acc env) R s

section
variable {C : Cx} {sc : Scope} {nm locs : List Str} {lv : Nat}

theorem rule_one {elt target iter : PySem.Expr} {ifs : List PySem.Expr} {scope : Scope} {pos : Pos} : LoopRule C (.ListComp elt [⟨target, iter, ifs, 0⟩] scope pos) 0 target ifs (LastW C elt) :=
  fun A R s it acc env I turn ht n hn => codeAny_compLoop_tests I turn n hn ht
noncomputable def loopL (t : V → Option Bool) (g : V → Option (List V)) : List V → Option (List V)
  | [] => some []
  | v :: r => (t v).bind fun b => (if b = true then g v else some []).bind fun a => (loopL t g r).map (a ++ ·)

inductive LoopI (C : Cx) (cenv : Env) (B P : Fz) (D I : Addr) (locs : List Str) (lvs ws : List V) (f : List V → Option (List V)) (s : Shared) : Nat → Shared → Prop
  | mk {P' : Fz} {h' : Heap} {tk : Nat} {m' : Str → Option Value} {ys' : List Value} {n' : Nat} {us' vs' its : List V} (g : GrowB B P P' h') (H : Abode C cenv D P' locs lvs us' h' m' ys' n') (p : P' I = none) (hI : ItR C P' h' I its)
      (e : us' ++ vs' = ws) (ef : f its = some vs') : LoopI C cenv B P D I locs lvs ws f s its.length { s with heap := h', toks := tk }

theorem loop_ok {e : PySem.Expr} {d : Nat} {x : Str} {px : Pos} {ifs : List PySem.Expr} {W : BodyW} {t : St → Option Bool} {g : St → Option (List V)} (L : LoopRule C e d (.Name x px) ifs W) (hx : sc.names.lookup x = some .local) (hl : ∀ n ∈ locs, sc.names.lookup n = some .local)
    (hxl : ∀ n ∈ locs, n ≠ x) (ht : DIfs C sc ((x :: locs) ++ nm) lv ifs t) (hg : DY C sc nm (x :: locs) lv W g)
    {A : Around} {R : Result → Shared → Prop} {cenv : Env} {B P : Fz} {σ : St} {lvs : List V} {s : Shared} {m : Str → Option Value} {D I : Addr} {ys : List Value} {n : Nat} {us vs items : List V}
    (hA : AOk A lv) (hsc : cenv.scope = sc) (hk : (sc.kind == .class || (sc.kind == .module && cenv.locals != cenv.globals)) = false) (hR : ∀ P' h', GrowB B P P' h' → RepE C cenv nm P' σ h') (g0 : GrowB B P P s.heap) (bc : B cenv.locals = none) (bd : B D = none) (hDC : D ≠ cenv.locals)
    (H : Abode C cenv D P locs lvs us s.heap m ys n) (hlen : us.length + vs.length ≤ lim)
    (hI : ItR C P s.heap I items) (pI : P I = none) (bI : B I = none) (hIC : I ≠ cenv.locals) (hID : I ≠ D)
    (hv : loopL (fun v => t (frzs (v :: lvs) ++ σ)) (fun v => g (frzs (v :: lvs) ++ σ)) items = some vs)
    (k : ∀ P' h' tk m' ys' n', GrowB B P P' h' → Abode C cenv D P' locs lvs (us ++ vs) h' m' ys' n' → R (.ok .next) { s with heap := h', toks := tk }) :
    codeAny C.M A (.compLoop e d (.ref I) (.ref D) cenv) R s := by
  refine L A R s _ _ _ (LoopI C cenv B P D I locs lvs (us ++ vs) (loopL (fun v => t (frzs (v :: lvs) ++ σ)) (fun v => g (frzs (v :: lvs) ++ σ))) s) ?_ (by intro _; rfl) _
    (LoopI.mk (h' := s.heap) (tk := s.toks) g0 H pI hI rfl hv)
  rintro _ _ ⟨g1, H1, pI1, hI1, huv, hv1⟩
  rename_i P1 h1 tk1 m1 ys1 n1 us1 vs1 its
  cases its with
  | nil =>
    cases hv1
    rw [List.append_nil] at huv
    subst huv
    exact next_nil hA.handled g1.sub pI1 hI1 fun h2 hb => k P1 h2 tk1 m1 ys1 n1 (g1.but pI1 bI fun b o hne e => hb b o hne e) ⟨H1.pc, H1.pd, H1.ns.at' fun o e => hb _ o (Ne.symm hIC) e, H1.loc, hb _ _ (Ne.symm hID) H1.acc, H1.its⟩
  | cons v its =>
    obtain ⟨bt, htv, hv1⟩ := bind_some hv1
    obtain ⟨a, hga, hv1⟩ := bind_some hv1
    obtain ⟨vs2, hv2, rfl⟩ := Option.map_eq_some_iff.mp hv1
    refine next_cons g1.sub pI1 hI1 fun h2 tk2 xv hb hxv hI2 => ?_
    have g2 : GrowB B P P1 h2 := g1.but pI1 bI fun b o hne e => hb.extBut b o hne e
    refine wpAny_assign_Name (wpAny_storeName_local (by unfold Env.kindOf; rw [hsc]; exact hx) (H1.ns.at' fun o e => hb.extBut _ o (Ne.symm hIC) e) (fun h3 ns3 hb3 => ?_) (by rw [hsc]; exact hk))
    have g3 : GrowB B P P1 h3 := g2.but H1.pc bc fun b o hne e => hb3.extBut b o hne e
    have acc3 := hb3.extBut _ _ hDC (hb.extBut _ _ (Ne.symm hID) H1.acc)
    have hI3 : ItR C P1 h3 I its := hI2.mono (fun zz zz e => e) fun o e => hb3.extBut _ _ hIC e
    have loc3 : LocOk C P1 (fun x_1 => if x_1 = x then some xv else m1 x_1) (x :: locs) (v :: lvs) :=
      ⟨⟨xv, if_pos rfl, hxv⟩, H1.loc.mono (fun zz zz e => e) fun n hn => if_neg (hxl n hn)⟩
    have R3 : RepE C cenv ((x :: locs) ++ nm) P1 (frzs (v :: lvs) ++ σ) h3 := (hR P1 h3 g3).locs ns3 loc3 fun n hn => by
      unfold Env.kindOf; rw [hsc]
      rcases List.mem_cons.mp hn with rfl | hn
      · exact hx
      · exact hl n hn
    refine ht A _ cenv P1 (frzs (v :: lvs) ++ σ) _ bt _ hA hsc R3 htv fun P4 h4 tk4 g4' => ?_
    have g4 := g3.grow g4'
    obtain ⟨oc, _, _, hoc, _⟩ := id ns3
    obtain ⟨oi, hoi⟩ := hI3.obj
    have A4 : Abode C cenv D P4 (x :: locs) (v :: lvs) us1 h4 _ ys1 n1 := ⟨g4'.stay hoc H1.pc, g4'.stay acc3 H1.pd, ns3.keeps g4'.keep, loc3.mono g4'.le fun n zz => rfl, g4'.keep _ _ acc3, VRs.mono g4'.le H1.its⟩
    have pi4 := g4'.stay hoi pI1
    cases bt with
    | false =>
      cases hga
      exact ⟨_, Nat.lt_succ_self _, g4, ⟨A4.pc, A4.pd, A4.ns, A4.loc.2, A4.acc, A4.its⟩, pi4, hI3.mono g4'.le fun o e => g4'.keep _ _ e, huv, hv2⟩
    | true =>
      have hlen2 : us1.length + a.length ≤ lim := by
        have := congrArg List.length huv
        rw [List.length_append, List.length_append, List.length_append] at this
        (first | lia | omega)
      have hoi4 : hold B I (h4.get? I) I = some oi := hold_self.trans (g4'.keep _ _ hoi)
      refine hg A _ cenv (hold B I (h4.get? I)) P4 σ (v :: lvs) { s with heap := h4, toks := tk4 } _ D ys1 n1 us1 a _ hA hsc (fun P5 h5 g5 => hR P5 h5 (g4.unhold bI g5)) (.refl g4.sub fun b o e => ?_) ((hold_other (Ne.symm hIC)).trans bc) ((hold_other (Ne.symm hID)).trans bd) hDC
        A4 hlen2 hga fun P5 h5 tk5 m5 ys5 n5 g5 H5 => ?_
      · by_cases hbI : b = I
        · subst hbI; rw [hold_self] at e; exact e
        · rw [hold_other hbI] at e; exact g4.keep b o e
      · exact ⟨_, Nat.lt_succ_self _, g4.unhold bI g5, ⟨H5.pc, H5.pd, H5.ns, H5.loc.2, H5.acc, H5.its⟩, g5.stay hoi4 pi4, hI3.mono (fun b o e => g5.le _ _ (g4'.le _ _ e)) fun o e => by rw [hoi] at e; cases e; exact g5.keep I oi hoi4, by rw [List.append_assoc]; exact huv, hv2⟩

theorem DY_last {elt : PySem.Expr} {f : St → Option V} (hl : ∀ n ∈ locs, sc.names.lookup n = some .local) (he : DE C sc (locs ++ nm) lv elt f) : DY C sc nm locs lv (LastW C elt) (fun σ => (f σ).map fun v => [v]) := by
  intro A E cenv B P σ lvs s m D ys n us vs Q hA hsc hR g0 bc bd hDC H hlen hf k
  obtain ⟨v, hv, rfl⟩ := Option.map_eq_some_iff.mp hf
  have hloc : ∀ n ∈ locs, cenv.kindOf n = some .local := fun n hn => by unfold Env.kindOf; rw [hsc]; exact hl n hn
  refine he A E cenv P _ s v _ hA hsc ((hR P s.heap g0).locs H.ns H.loc hloc) hv fun P1 h1 tk1 x g1 hx => ?_
  have g1' := g0.grow g1
  obtain ⟨oc, _, _, hoc, _⟩ := H.ns
  have pc1 := g1.stay hoc H.pc
  have pd1 := g1.stay H.acc H.pd
  have hylen := H.its.length
  unfold lim at hlen
  refine wpAny_list_append_plain (items := ys.toArray) ⟨n, g1.keep _ _ H.acc⟩ (fun h2 hp hb => ?_) (by simp only [List.size_toArray]; rw [sizeLine_eq]; simp at hlen; (first | lia | omega))
  obtain ⟨n2, hp⟩ := hp
  have g2 : GrowB B P P1 h2 := g1'.but pd1 bd fun b o hne e => hb.extBut b o hne e
  refine k P1 h2 tk1 m (ys ++ [x]) n2 g2 ⟨pc1, pd1, (H.ns.keeps g1.keep).at' fun o e => hb.extBut _ o (Ne.symm hDC) e, H.loc.mono g1.le fun zz zz => rfl, ?_, (VRs.mono g1.le H.its).snoc hx⟩
  simpa using hp

end
end Lw

namespace Lw
open PySem PySem.Calls PyProof.Rows
set_option maxRecDepth 10000

noncomputable def relab (scope sc : Scope) : Scope :=
  { scope with names := scope.names.map fun (n, k) => if (k == .free && sc.kind == .function && sc.names.lookup n == some .cell) then (n, .cell) else (n, k) }
theorem relab_eq {scope sc : Scope} {env : Env} (h : env.scope = sc) : relabel scope env = relab scope sc := by
  subst h; rfl

theorem closure_ok {env : Env} : ∀ (names : List (Str × NameKind)) (acc : List (Str × Addr)), (∀ n, (n, NameKind.free) ∈ names → ∃ c, env.cells.lookup n = some c) → (∀ n c, acc.lookup n = some c → env.cells.lookup n = some c) →
    ∃ cl : List (Str × Addr), (forIn names acc (fun (p : Str × NameKind) cs => do
        if p.2 == .free then do
          let c ← cellOf env p.1
          pure (ForInStep.yield ((p.1, c) :: cs))
        else pure (ForInStep.yield cs)) : Sem (List (Str × Addr))) = pure cl ∧ (∀ n c, cl.lookup n = some c → env.cells.lookup n = some c) ∧ (∀ n, ((n, NameKind.free) ∈ names ∨ ∃ c, acc.lookup n = some c) → ∃ c, cl.lookup n = some c) := by
  intro names
  induction names with
  | nil =>
    intro acc _ ha
    exact ⟨acc, by simp, ha, fun n h => h.resolve_left fun h => by cases h⟩
  | cons p r ih =>
    intro acc hn ha
    obtain ⟨n, k⟩ := p
    by_cases hk : k = .free
    · subst hk
      obtain ⟨c, hc⟩ := hn n (by simp)
      have ha' : ∀ n' c', List.lookup n' ((n, c) :: acc) = some c' → env.cells.lookup n' = some c' := fun n' c' h => by
        simp only [List.lookup_cons] at h
        split at h
        · rename_i hb
          have : n' = n := by simpa using hb
          subst this; cases h; exact hc
        · exact ha _ _ h
      obtain ⟨cl, e1, e2, e3⟩ := ih ((n, c) :: acc) (fun n' h => hn n' (List.mem_cons_of_mem _ h)) ha'
      refine ⟨cl, ?_, e2, fun n' h => e3 n' ?_⟩
      · rw [← e1]
        simp only [List.forIn_cons, cellOf, hc]
        simp
      · by_cases hnn : n' = n
        · subst hnn; exact .inr ⟨c, by simp⟩
        · rcases h with h | ⟨c', h⟩
          · rcases List.mem_cons.mp h with h | h
            · cases h; exact absurd rfl hnn
            · exact .inl h
          · have hb : (n' == n) = false := by simpa using hnn
            exact .inr ⟨c', by simp only [List.lookup_cons, hb]; exact h⟩
    · obtain ⟨cl, e1, e2, e3⟩ := ih acc (fun n' h => hn n' (List.mem_cons_of_mem _ h)) ha
      refine ⟨cl, ?_, e2, fun n' h => e3 n' ?_⟩
      · rw [← e1]
        simp [hk]
      · rcases h with h | h
        · rcases List.mem_cons.mp h with h | h
          · cases h; exact absurd rfl hk
          · exact .inl h
        · exact .inr h

noncomputable def capsOK (scope sc : Scope) : List Str → List Bool → Bool
  | n :: r, c :: cs => (!c || (decide ((relab scope sc).names.lookup n = some .cell) && decide (sc.names.lookup n = some .cell) && decide ((n, NameKind.free) ∈ scope.names))) && capsOK scope sc r cs
  | _, _ => true
theorem capsOK_get {scope sc : Scope} : ∀ {nm : List Str} {cap : List Bool}, capsOK scope sc nm cap = true → ∀ (i : Nat) (n : Str), nm[i]? = some n → cap[i]? = some true →
    (relab scope sc).names.lookup n = some .cell ∧ sc.names.lookup n = some .cell ∧ (n, NameKind.free) ∈ scope.names
  | [], _, _, i, n, h1, _ => by simp at h1
  | _ :: _, [], _, i, n, _, h2 => by simp at h2
  | k :: r, c :: cs, h, i, n, h1, h2 => by
    simp only [capsOK, Bool.and_eq_true] at h
    cases i with
    | zero =>
      simp at h1 h2
      subst h1 h2
      simpa [and_assoc] using h.1
    | succ i => exact capsOK_get h.2 i n (by simpa using h1) (by simpa using h2)

noncomputable def maskS (cap : List Bool) (σ : St) : St := List.zipWith (fun c x => if c = true then x else none) cap σ
theorem maskS_get {cap : List Bool} {σ : St} {i : Nat} {sl : Slot} (h : (maskS cap σ)[i]? = some (some sl)) : cap[i]? = some true ∧ σ[i]? = some (some sl) := by
  unfold maskS at h
  rw [List.getElem?_zipWith] at h
  cases hc : cap[i]? with
  | none => rw [hc] at h; simp at h
  | some c =>
    cases hs : σ[i]? with
    | none => rw [hc, hs] at h; simp at h
    | some x =>
      rw [hc, hs] at h
      simp only [Option.some.injEq] at h
      cases c with
      | false => simp at h
      | true => simp at h; simp [h]

section
variable {C : Cx} {sc : Scope} {nm : List Str} {lv : Nat}

structure CompOK (sc scope : Scope) (nm : List Str) (cap : List Bool) (x : Str) : Prop where
  caps : capsOK scope sc nm cap = true
  free : ∀ p ∈ scope.names, p.2 = .free → sc.names.lookup p.1 = some .cell
  cell : ∀ p ∈ scope.names, p.2 ≠ .cell
  clook : ∀ p ∈ (relab scope sc).names, (relab scope sc).names.lookup p.1 = some .cell → (p.1, NameKind.free) ∈ scope.names
  kind : scope.kind = .function
  locals : ∀ p ∈ scope.names, p.2 = .local → scope.names.lookup p.1 = some .local
  x : (relab scope sc).names.lookup x = some .local

theorem lookup_mem {α : Type} {n : Str} {k : α} : ∀ {l : List (Str × α)}, l.lookup n = some k → ∃ p ∈ l, p.1 = n ∧ p.2 = k
  | [], h => by simp at h
  | (a, b) :: r, h => by
    simp only [List.lookup_cons] at h
    split at h
    · rename_i hb
      have : n = a := by simpa using hb
      cases h; exact ⟨_, List.mem_cons_self, this.symm, rfl⟩
    · obtain ⟨p, h1, h2⟩ := lookup_mem h
      exact ⟨p, List.mem_cons_of_mem _ h1, h2⟩

theorem closure_of {env : Env} {scope : Scope} (hcells : ∀ n, env.kindOf n = some .cell → ∃ c, env.cells.lookup n = some c) (hfree : ∀ p ∈ scope.names, p.2 = .free → env.scope.names.lookup p.1 = some .cell) :
    ∃ cl, closureFor scope env = pure cl ∧ (∀ n c, cl.lookup n = some c → env.cells.lookup n = some c) ∧ ∀ n, (n, NameKind.free) ∈ scope.names → ∃ c, cl.lookup n = some c := by
  obtain ⟨cl, e1, e2, e3⟩ := closure_ok (env := env) scope.names [] (fun n h => hcells n (hfree _ h rfl)) (fun n c h => by simp at h)
  refine ⟨cl, ?_, e2, fun n h => e3 n (.inl h)⟩
  rw [← e1]
  unfold closureFor
  simp only [bind_pure]

theorem RepE.inner {env : Env} {P : Fz} {σ : St} {h : Heap} {scope : Scope} {cap : List Bool} {x : Str} {cl : List (Str × Addr)} {L : Addr} (R : RepE C env nm P σ h) (hs : env.scope = sc) (O : CompOK sc scope nm cap x)
    (c1 : ∀ n c, cl.lookup n = some c → env.cells.lookup n = some c) (c2 : ∀ n, (n, NameKind.free) ∈ scope.names → ∃ c, cl.lookup n = some c) :
    RepE C (compEnvC scope cl L env) nm P (maskS cap σ) h := by
  refine ⟨R.base, R.sub, O.kind, R.gl, R.bl, fun i n sl e1 e2 => ?_, fun n hn => ?_⟩
  · obtain ⟨e3, e4⟩ := maskS_get e2
    obtain ⟨a1, a2, a3⟩ := capsOK_get O.caps i n e1 e3
    obtain ⟨y, h1, h2⟩ := R.vars i n sl e1 e4
    refine ⟨y, ?_, h2⟩
    rcases h1 with ⟨h1, _⟩ | ⟨h1, c, h3, h4⟩
    · unfold Env.kindOf at h1; rw [hs, a2] at h1; cases h1
    · obtain ⟨c', hc'⟩ := c2 n a3
      have := c1 _ _ hc'
      rw [h3] at this; cases this
      refine .inr ⟨.inl ?_, c, hc', h4⟩
      show (relabel scope env).names.lookup n = some .cell
      rw [relab_eq hs]; exact a1
  · have hn' : (relabel scope env).names.lookup n = some .cell := hn
    rw [relab_eq hs] at hn'
    obtain ⟨p, p1, p2, _⟩ := lookup_mem hn'
    subst p2
    exact c2 _ (O.clook p p1 hn')

theorem comp_core {elt iter : PySem.Expr} {x : Str} {px pos : Pos} {ifs : List PySem.Expr} {rest : List Comprehension} {scope : Scope} {cap : List Bool} {W : BodyW} {t : St → Option Bool} {g : St → Option (List V)}
    (O : CompOK sc scope nm cap x) (L : LoopRule C (.ListComp elt (⟨.Name x px, iter, ifs, 0⟩ :: rest) scope pos) 0 (.Name x px) ifs W)
    (ht : DIfs C (relab scope sc) (x :: nm) lv ifs t) (hg : DY C (relab scope sc) nm [x] lv W g)
    {A : Around} {E : Value → Shared → Prop} {env : Env} {P P1 : Fz} {σ : St} {s : Shared} {h1 : Heap} {tk1 : Nat} {I : Addr} {vs items : List V} {cl : List (Str × Addr)} {RR : Value → Addr → Result → Shared → Prop}
    (hA : AOk A lv) (hs : env.scope = sc) (R : RepE C env nm P σ s.heap) (g1 : Grow P s.heap P1 h1) (hI : ItR C P1 h1 I items) (pI : P1 I = none) (sI : s.heap.get? I = none)
    (c1 : ∀ n c, cl.lookup n = some c → env.cells.lookup n = some c) (c2 : ∀ n, (n, NameKind.free) ∈ scope.names → ∃ c, cl.lookup n = some c)
    (hv : loopL (fun v => t (some (.frz v) :: maskS cap σ)) (fun v => g (some (.frz v) :: maskS cap σ)) items = some vs) (hlen : vs.length ≤ lim)
    (k : ∀ P' h' tk m' D L ys n, Grow P s.heap P' h' → P' L = none → P' D = none → s.heap.get? D = none → s.heap.get? L = none → D ≠ L → h'.Ns L m' → h'.get? D = some (lobj ys n) → C.VRs P' vs ys → RR (.ref D) L (.ok .next) { s with heap := h', toks := tk }) :
    wpAny C.M A (newList []) (fun acc s₃ => wpAny C.M A (newFunctionEnv scope env.globals cl [] env.qual none .none (some env)) (fun cenv s₄ =>
      codeAny C.M A (.compStart (.ListComp elt (⟨.Name x px, iter, ifs, 0⟩ :: rest) scope pos) 0 (.ref I) acc { cenv with scope := relabel scope env }) (RR acc cenv.locals) s₄) E s₃) E { s with heap := h1, toks := tk1 } := by
  refine wpAny_newObj_type (wpAny_newFunctionEnv O.cell (by intro y hy; simp at hy) (fun h₁ hns₁ hsb₁ => ?_) O.kind)
  dsimp only at hns₁ hsb₁ ⊢
  generalize hH2 : h1.push { cls := .type "list", dict := none, data := .seq ([] : List Value).toArray } = H2 at hns₁ hsb₁ ⊢
  have hC : H2.objs.size = h1.objs.size + 1 := by rw [← hH2, Heap.size_push]
  have hDC : h1.objs.size ≠ H2.objs.size := by rw [hC]; exact Nat.ne_of_lt (Nat.lt_succ_self _)
  have below : ∀ b, b < h1.objs.size → b ≠ H2.objs.size := fun b hb => by rw [hC]; exact Nat.ne_of_lt (Nat.lt_succ_of_lt hb)
  have old : ∀ b o, h1.get? b = some o → h₁.get? b = some o := fun b o e => hsb₁.extBut b o (below b (Heap.lt_size e)) (Heap.get?_push_of_some _ (hH2 ▸ Heap.get?_push_of_some _ e))
  have hacc : h₁.get? h1.objs.size = some (lobj [] 0) := hsb₁.extBut _ _ hDC (Heap.get?_push_of_some _ (hH2 ▸ Heap.get?_push_size _ rfl))
  have freshS : ∀ b, h1.get? b = none → s.heap.get? b = none := fun b e => by
    cases hq : s.heap.get? b with
    | none => rfl
    | some o => have := g1.keep _ _ hq; rw [e] at this; cases this
  have freshP : ∀ b, h1.get? b = none → P1 b = none := fun b e => by
    cases hq : P1 b with
    | none => rfl
    | some o => have := g1.sub _ _ hq; rw [e] at this; cases this
  have nD : h1.get? h1.objs.size = none := fresh_none _
  have nC : h1.get? H2.objs.size = none := fresh_ge (by rw [hC]; exact Nat.le_succ _)
  have g2 : Grow P s.heap P1 h₁ := ⟨g1.le, fun b o e => old _ _ (g1.sub _ _ e), fun b o e => old _ _ (g1.keep _ _ e), g1.new⟩
  obtain ⟨oi, hoi⟩ := hI.obj
  have Rin : ∀ P' h', GrowB s.heap.get? P P' h' → RepE C (compEnvC scope cl H2.objs.size env) nm P' (maskS cap σ) h' := fun P' h' g' => (R.grow g'.ofB).inner hs O c1 c2
  have loop : codeAny C.M A (.compLoop (.ListComp elt (⟨.Name x px, iter, ifs, 0⟩ :: rest) scope pos) 0 (.ref I) (.ref h1.objs.size) (compEnvC scope cl H2.objs.size env)) (RR (.ref h1.objs.size) H2.objs.size)
      { s with heap := h₁, toks := tk1 + ([] : List (Str × Value)).length } := by
    refine loop_ok (locs := []) (lvs := []) (us := []) (B := s.heap.get?) (P := P1) (σ := maskS cap σ) L O.x (by simp) (by simp) ht hg hA (relab_eq hs) (by rw [show (relab scope sc).kind = .function from O.kind]; rfl)
      (fun P' h' g' => Rin P' h' (g2.toB.trans g')) ⟨fun zz zz e => e, g2.sub, g2.keep, fun zz zz e => .inl e⟩ (freshS _ nC) (freshS _ nD) hDC ⟨freshP _ nC, freshP _ nD, hns₁, trivial, hacc, .nil⟩ (by simpa using hlen)
      (hI.mono (fun zz zz e => e) fun o e => old _ _ e) pI sI (fun e => by replace e : I = H2.objs.size := e; rw [e, nC] at hoi; cases hoi) (fun e => by rw [e, nD] at hoi; cases hoi) hv fun P' h' tk m' ys' n' g' H => ?_
    exact k P' h' tk m' _ _ ys' n' (g2.toB.trans g').ofB H.pc H.pd (freshS _ nD) (freshS _ nC) hDC H.ns H.acc (by simpa using H.its)
  exact codeAny_compStart_list loop (iter_self (C := C) (P := P1) (hI.mono (fun zz zz e => e) fun o e => old _ _ e) loop)

theorem DF_comp {elt iter : PySem.Expr} {x : Str} {px pos : Pos} {ifs : List PySem.Expr} {rest : List Comprehension} {scope : Scope} {cap : List Bool} {W : BodyW} {fi : St → Option (List V)} {t : St → Option Bool} {g : St → Option (List V)}
    (O : CompOK sc scope nm cap x) (hfold : ∀ env x, foldedSetIterable iter env x = pure x) (L : LoopRule C (.ListComp elt (⟨.Name x px, iter, ifs, 0⟩ :: rest) scope pos) 0 (.Name x px) ifs W)
    (hi : DI C sc nm lv iter fi) (ht : DIfs C (relab scope sc) (x :: nm) lv ifs t) (hg : DY C (relab scope sc) nm [x] lv W g) :
    DF C sc nm lv (.ListComp elt (⟨.Name x px, iter, ifs, 0⟩ :: rest) scope pos) (fun σ => (fi σ).bind fun items =>
      (loopL (fun v => t (some (.frz v) :: maskS cap σ)) (fun v => g (some (.frz v) :: maskS cap σ)) items).bind fun vs => if vs.length ≤ lim then some vs else none) := by
  intro A E env P σ s vs Q hA hs R hf k
  obtain ⟨items, hit, hf⟩ := bind_some hf
  obtain ⟨vs', hv, hf⟩ := bind_some hf
  split at hf
  · rename_i hlen
    cases hf
    obtain ⟨cl, ecl, c1, c2⟩ := closure_of (env := env) (scope := scope) R.cells (by rw [hs]; exact O.free)
    rw [eval_ListComp]
    refine wpAny_comprehension_free (use := none) rfl (hfold env) ecl O.kind O.locals (hi A E env P σ s items _ hA hs R hit fun P1 h1 tk1 I g1 hI pI sI => ?_)
    refine comp_core (RR := fun acc C' => compPost C.M A E none Q acc C') O L ht hg hA hs R g1 hI pI sI c1 c2 hv hlen fun P' h' tk m' D L ys n g' pL pD sD sL hDL hn hacc hx => ?_
    refine ⟨m', hn, fun h'' hb => ?_⟩
    have up : ∀ b o, b ≠ L → h'.get? b = some o → h''.get? b = some o := fun b o hne e => hb.extBut b o hne e
    refine k P' h'' tk D ys n ⟨g'.le, fun b o e => up b o (by rintro rfl; rw [pL] at e; cases e) (g'.sub _ _ e), fun b o e => up b o (by rintro rfl; rw [sL] at e; cases e) (g'.keep _ _ e), g'.new⟩ pD sD (up _ _ hDL hacc) hx
  · cases hf
end
end Lw

namespace Lw
open PySem PySem.Calls PyProof.Rows
set_option maxRecDepth 10000

noncomputable def Slot.isOwn : Slot → Bool
  | .frz _ => false
  | _ => true
noncomputable def OwnR (C : Cx) (P : Fz) (h : Heap) : Slot → Addr → Prop
  | .frz _, _ => False
  | .ownL vs, a => ∃ xs n, h.get? a = some (lobj xs n) ∧ C.VRs P vs xs
  | .ownD kvs, a => (a == sysModules) = false ∧ ∃ o kxs, h.get? a = some o ∧ o.IsDictOf (intKind C.prog C.w) kxs ∧ C.DRs P kvs kxs
theorem OwnR.slot {C : Cx} {P : Fz} {h : Heap} {sl : Slot} {a : Addr} (H : OwnR C P h sl a) : SlotR C P h sl (.ref a) := by
  cases sl with
  | frz v => exact H.elim
  | ownL vs => obtain ⟨xs, n, h1, h2⟩ := H; exact ⟨a, xs, n, rfl, h1, h2⟩
  | ownD kvs => obtain ⟨h0, o, kxs, h1, h2, h3⟩ := H; exact ⟨a, o, kxs, rfl, h0, h1, h2, h3⟩
theorem OwnR.mono {C : Cx} {P P' : Fz} {h h' : Heap} {sl : Slot} {a : Addr} (H : OwnR C P h sl a) (hp : ∀ b o, P b = some o → P' b = some o) (hk : ∀ o, h.get? a = some o → h'.get? a = some o) : OwnR C P' h' sl a := by
  cases sl with
  | frz v => exact H.elim
  | ownL vs => obtain ⟨xs, n, h1, h2⟩ := H; exact ⟨xs, n, hk _ h1, VRs.mono hp h2⟩
  | ownD kvs => obtain ⟨h0, o, kxs, h1, h2, h3⟩ := H; exact ⟨h0, o, kxs, hk _ h1, h2, DRs.mono hp h3⟩
theorem OwnR.obj {C : Cx} {P : Fz} {h : Heap} {sl : Slot} {a : Addr} (H : OwnR C P h sl a) : ∃ o, h.get? a = some o := by
  cases sl with
  | frz v => exact H.elim
  | ownL vs => obtain ⟨xs, n, h1, h2⟩ := H; exact ⟨_, h1⟩
  | ownD kvs => obtain ⟨h0, o, kxs, h1, h2, h3⟩ := H; exact ⟨_, h1⟩

structure EnvOk (env : Env) (nm : List Str) : Prop where
  fn : env.scope.kind = .function
  gl : env.globals = mainGlobals
  bl : env.builtins = builtinsNs
  cells : ∀ n, env.kindOf n = some .cell → ∃ c, env.cells.lookup n = some c
  inj : ∀ n n' c, env.cells.lookup n = some c → env.cells.lookup n' = some c → n = n'
  cloc : ∀ n c, env.cells.lookup n = some c → c ≠ env.locals
  kinds : ∀ n ∈ nm, env.kindOf n = some .local ∨ env.kindOf n = some .cell
  nd : nm.Nodup

structure RepW (C : Cx) (env : Env) (nm : List Str) (B P : Fz) (σ : St) (h : Heap) (ow : Nat → Addr) : Prop where
  st : EnvOk env nm
  h0 : ∀ b o, C.h₀.get? b = some o → B b = some o
  bsub : ∀ b o, B b = some o → h.get? b = some o
  sub : ∀ b o, P b = some o → h.get? b = some o
  ns : ∃ m, h.Ns env.locals m
  bl : B env.locals = none
  pl : P env.locals = none
  cell : ∀ n c, env.cells.lookup n = some c → (∃ v, h.IsCell c v) ∧ B c = none ∧ P c = none
  frz : ∀ (i : Nat) (n : Str) (v : V), nm[i]? = some n → σ[i]? = some (some (.frz v)) → ∃ x, At env h n x ∧ C.VR P v x
  own : ∀ (i : Nat) (n : Str) (sl : Slot), nm[i]? = some n → σ[i]? = some (some sl) → sl.isOwn = true → At env h n (.ref (ow i)) ∧ OwnR C P h sl (ow i)
  apart : ∀ (i : Nat) (n : Str) (sl : Slot), nm[i]? = some n → σ[i]? = some (some sl) → sl.isOwn = true → B (ow i) = none ∧ P (ow i) = none ∧ ow i ≠ env.locals ∧ (∀ n c, env.cells.lookup n = some c → ow i ≠ c) ∧
    ∀ (j : Nat) (n' : Str) (sl' : Slot), nm[j]? = some n' → σ[j]? = some (some sl') → sl'.isOwn = true → i ≠ j → ow i ≠ ow j

section
variable {C : Cx} {env : Env} {nm : List Str} {B B' P P' : Fz} {σ : St} {h h' : Heap} {ow : Nat → Addr}

theorem RepW.toE (R : RepW C env nm B P σ h ow) : RepE C env nm P σ h :=
  ⟨fun b o e => R.bsub _ _ (R.h0 _ _ e), R.sub, R.st.fn, R.st.gl, R.st.bl, fun i n sl e1 e2 => by
    by_cases hs : sl.isOwn = true
    · obtain ⟨a1, a2⟩ := R.own i n sl e1 e2 hs
      exact ⟨_, a1, a2.slot⟩
    · cases sl with
      | frz v => exact R.frz i n v e1 e2
      | ownL vs => exact absurd rfl hs
      | ownD vs => exact absurd rfl hs, R.st.cells⟩

theorem none_of_grow {P P' : Fz} {h h' : Heap} (g : Grow P h P' h') {b : Addr} {o : Obj} (e : h.get? b = some o) (e' : P b = none) : P' b = none := by
  cases hq : P' b with
  | none => rfl
  | some o' =>
    rcases g.new _ _ hq with e2 | e2
    · rw [e'] at e2; cases e2
    · rw [e] at e2; cases e2

theorem RepW.locObj (R : RepW C env nm B P σ h ow) : ∃ o, h.get? env.locals = some o := by
  obtain ⟨m, o, _, _, ho, _⟩ := R.ns; exact ⟨o, ho⟩
theorem RepW.cellObj (R : RepW C env nm B P σ h ow) {n : Str} {c : Addr} (hc : env.cells.lookup n = some c) : ∃ o, h.get? c = some o := by
  obtain ⟨v, o, ho, _⟩ := (R.cell n c hc).1; exact ⟨o, ho⟩

theorem RepW.grow (R : RepW C env nm B P σ h ow) (g : Grow P h P' h') : RepW C env nm B P' σ h' ow := by
  obtain ⟨lo, hlo⟩ := R.locObj
  refine ⟨R.st, R.h0, fun b o e => g.keep _ _ (R.bsub _ _ e), g.sub, ?_, R.bl, none_of_grow g hlo R.pl, fun n c hc => ?_, fun i n v e1 e2 => ?_, fun i n sl e1 e2 e3 => ?_, fun i n sl e1 e2 e3 => ?_⟩
  · obtain ⟨m, hm⟩ := R.ns; exact ⟨m, hm.keeps g.keep⟩
  · obtain ⟨⟨v, hv⟩, a2, a3⟩ := R.cell n c hc
    obtain ⟨o, ho⟩ := R.cellObj hc
    exact ⟨⟨v, hv.keeps g.keep⟩, a2, none_of_grow g ho a3⟩
  · obtain ⟨x, a1, a2⟩ := R.frz i n v e1 e2
    exact ⟨x, a1.keeps g.keep, VR.mono g.le a2⟩
  · obtain ⟨a1, a2⟩ := R.own i n sl e1 e2 e3
    exact ⟨a1.keeps g.keep, a2.mono g.le fun o e => g.keep _ _ e⟩
  · obtain ⟨a1, a2, a3, a4, a5⟩ := R.apart i n sl e1 e2 e3
    obtain ⟨o, ho⟩ := (R.own i n sl e1 e2 e3).2.obj
    exact ⟨a1, none_of_grow g ho a2, a3, a4, a5⟩

theorem set_get {σ : St} {i j : Nat} {x : Option Slot} {sl : Slot} (h : (σ.set i x)[j]? = some (some sl)) : (j = i ∧ x = some sl) ∨ (j ≠ i ∧ σ[j]? = some (some sl)) := by
  rw [List.getElem?_set] at h
  by_cases hij : i = j
  · subst hij
    simp only [if_true] at h
    split at h
    · exact .inl ⟨rfl, by simpa using h⟩
    · cases h
  · rw [if_neg hij] at h
    exact .inr ⟨fun e => hij e.symm, h⟩

/-- what a variable newly takes -/
inductive NewIn (C : Cx) (env : Env) (nm : List Str) (B P : Fz) (σ : St) (h : Heap) (ow : Nat → Addr) (i : Nat) : Slot → Value → Prop
  | frz {v : V} {x : Value} : C.VR P v x → NewIn C env nm B P σ h ow i (.frz v) x
  | own {sl : Slot} {a : Addr} : sl.isOwn = true → OwnR C P h sl a → B a = none → P a = none → a ≠ env.locals → (∀ n c, env.cells.lookup n = some c → a ≠ c) →
      (∀ (j : Nat) (n' : Str) (sl' : Slot), nm[j]? = some n' → σ[j]? = some (some sl') → sl'.isOwn = true → i ≠ j → a ≠ ow j) → NewIn C env nm B P σ h ow i sl (.ref a)

theorem NewIn.facts {i : Nat} {sl : Slot} {x : Value} (N : NewIn C env nm B P σ h ow i sl x) : (∀ v, sl = .frz v → C.VR P v x) ∧ ∃ a, sl.isOwn = true → x = .ref a ∧ OwnR C P h sl a ∧ B a = none ∧ P a = none ∧ a ≠ env.locals ∧ (∀ n c, env.cells.lookup n = some c → a ≠ c) ∧
    (∀ (j : Nat) (n' : Str) (sl' : Slot), nm[j]? = some n' → σ[j]? = some (some sl') → sl'.isOwn = true → i ≠ j → a ≠ ow j) := by
  cases N with
  | frz hx => exact ⟨fun v e => (by cases e; exact hx), 0, fun e => (by cases e)⟩
  | own h1 h2 h3 h4 h5 h6 h7 => exact ⟨fun v e => (by subst e; cases h1), _, fun zz => ⟨rfl, h2, h3, h4, h5, h6, h7⟩⟩

theorem RepW.put (R : RepW C env nm B P σ h ow) {i : Nat} {n : Str} {sl : Slot} {x : Value} (hn : nm[i]? = some n) (N : NewIn C env nm B P σ h ow i sl x)
    (k1 : At env h' n x) (k2 : ∀ n' y, n' ≠ n → At env h n' y → At env h' n' y) (k3 : ∀ b o, b ≠ env.locals → (∀ n c, env.cells.lookup n = some c → b ≠ c) → h.get? b = some o → h'.get? b = some o)
    (k4 : ∃ m, h'.Ns env.locals m) (k5 : ∀ n c, env.cells.lookup n = some c → ∃ v, h'.IsCell c v) : ∃ ow', RepW C env nm B P (σ.set i (some sl)) h' ow' := by
  obtain ⟨N1, a, N2⟩ := N.facts
  have hne : ∀ {j : Nat} {n' : Str}, nm[j]? = some n' → j ≠ i → n' ≠ n := fun e1 hji e => by
    subst e
    exact hji ((List.getElem?_inj (List.getElem?_eq_some_iff.mp e1).1 R.st.nd).mp (e1.trans hn.symm))
  refine ⟨fun j => if j = i then a else ow j, R.st, R.h0, fun b o e => k3 b o (by rintro rfl; rw [R.bl] at e; cases e) (fun n c hc => by rintro rfl; rw [(R.cell n _ hc).2.1] at e; cases e) (R.bsub _ _ e),
    fun b o e => k3 b o (by rintro rfl; rw [R.pl] at e; cases e) (fun n c hc => by rintro rfl; rw [(R.cell n _ hc).2.2] at e; cases e) (R.sub _ _ e), k4, R.bl, R.pl, fun n c hc => ⟨k5 n c hc, (R.cell n c hc).2⟩, fun j n' v e1 e2 => ?_, fun j n' sl' e1 e2 e3 => ?_, fun j n' sl' e1 e2 e3 => ?_⟩
  · rcases set_get e2 with ⟨rfl, e⟩ | ⟨hji, e⟩
    · cases e
      rw [hn] at e1; cases e1
      exact ⟨x, k1, N1 v rfl⟩
    · obtain ⟨y, a1, a2⟩ := R.frz j n' v e1 e
      exact ⟨y, k2 _ _ (hne e1 hji) a1, a2⟩
  · rcases set_get e2 with ⟨rfl, e⟩ | ⟨hji, e⟩
    · cases e
      rw [hn] at e1; cases e1
      obtain ⟨rfl, h2, _, _, h5, h6, _⟩ := N2 e3
      rw [if_pos rfl]
      exact ⟨k1, h2.mono (fun zz zz e => e) fun o e => k3 _ o h5 h6 e⟩
    · rw [if_neg hji]
      obtain ⟨a1, a2⟩ := R.own j n' sl' e1 e e3
      obtain ⟨_, _, b1, b2, _⟩ := R.apart j n' sl' e1 e e3
      exact ⟨k2 _ _ (hne e1 hji) a1, a2.mono (fun zz zz e => e) fun o e => k3 _ o b1 b2 e⟩
  · rcases set_get e2 with ⟨rfl, e⟩ | ⟨hji, e⟩
    · cases e
      obtain ⟨_, _, h3, h4, h5, h6, h7⟩ := N2 e3
      rw [if_pos rfl]
      refine ⟨h3, h4, h5, h6, fun q n'' sl'' f1 f2 f3 hq => ?_⟩
      rcases set_get f2 with ⟨rfl, f⟩ | ⟨hqi, f⟩
      · exact absurd rfl hq
      · rw [if_neg hqi]
        exact h7 q n'' sl'' f1 f f3 hq
    · rw [if_neg hji]
      obtain ⟨c1, c2, c3, c4, c5⟩ := R.apart j n' sl' e1 e e3
      refine ⟨c1, c2, c3, c4, fun q n'' sl'' f1 f2 f3 hq => ?_⟩
      rcases set_get f2 with ⟨rfl, f⟩ | ⟨hqi, f⟩
      · cases f
        rw [if_pos rfl]
        exact ((N2 f3).2.2.2.2.2.2 j n' sl' e1 e e3 (Ne.symm hji)).symm
      · rw [if_neg hqi]
        exact c5 q n'' sl'' f1 f f3 hq

/-- an owned object changed -/
theorem RepW.change (R : RepW C env nm B P σ h ow) {i : Nat} {n : Str} {sl sl' : Slot} (hn : nm[i]? = some n) (hi : σ[i]? = some (some sl)) (hs : sl.isOwn = true) (hs' : sl'.isOwn = true) (hb : ∀ b o, b ≠ ow i → h.get? b = some o → h'.get? b = some o)
    (ho : OwnR C P h' sl' (ow i)) : RepW C env nm B P (σ.set i (some sl')) h' ow := by
  obtain ⟨b1, b2, b3, b4, b5⟩ := R.apart i n sl hn hi hs
  have atk : ∀ n y, At env h n y → At env h' n y := fun n y H => by
    rcases H with ⟨h1, m, h2, h3⟩ | ⟨h1, c, h2, h3⟩
    · exact .inl ⟨h1, m, h2.at' fun o e => hb _ o (Ne.symm b3) e, h3⟩
    · exact .inr ⟨h1, c, h2, by obtain ⟨o, e1, e2⟩ := h3; exact ⟨o, hb _ o (Ne.symm (b4 n c h2)) e1, e2⟩⟩
  refine ⟨R.st, R.h0, fun b o e => hb _ _ (by rintro rfl; rw [b1] at e; cases e) (R.bsub _ _ e), fun b o e => hb _ _ (by rintro rfl; rw [b2] at e; cases e) (R.sub _ _ e), ?_, R.bl, R.pl, fun n c hc => ?_, fun j n' v e1 e2 => ?_, fun j n' sl₂ e1 e2 e3 => ?_, fun j n' sl₂ e1 e2 e3 => ?_⟩
  · obtain ⟨m, hm⟩ := R.ns; exact ⟨m, hm.at' fun o e => hb _ o (Ne.symm b3) e⟩
  · obtain ⟨⟨v, o, e1, e2⟩, a2⟩ := R.cell n c hc
    exact ⟨⟨v, o, hb _ o (Ne.symm (b4 n c hc)) e1, e2⟩, a2⟩
  · rcases set_get e2 with ⟨rfl, e⟩ | ⟨hji, e⟩
    · cases e; cases hs'
    · obtain ⟨y, a1, a2⟩ := R.frz j n' v e1 e
      exact ⟨y, atk _ _ a1, a2⟩
  · rcases set_get e2 with ⟨rfl, e⟩ | ⟨hji, e⟩
    · cases e
      rw [hn] at e1; cases e1
      exact ⟨atk _ _ (R.own j n sl hn hi hs).1, ho⟩
    · obtain ⟨a1, a2⟩ := R.own j n' sl₂ e1 e e3
      exact ⟨atk _ _ a1, a2.mono (fun zz zz e => e) fun o e' => hb _ o (Ne.symm (b5 j n' sl₂ e1 e e3 (Ne.symm hji))) e'⟩
  · have key : ∀ (q : Nat) (n'' : Str) (sl'' : Slot), nm[q]? = some n'' → (σ.set i (some sl'))[q]? = some (some sl'') → sl''.isOwn = true → ∃ s3, σ[q]? = some (some s3) ∧ s3.isOwn = true := fun q n'' sl'' f1 f2 f3 => by
      rcases set_get f2 with ⟨rfl, f⟩ | ⟨hqi, f⟩
      · exact ⟨sl, hi, hs⟩
      · exact ⟨sl'', f, f3⟩
    obtain ⟨s3, g1, g2⟩ := key j n' sl₂ e1 e2 e3
    obtain ⟨c1, c2, c3, c4, c5⟩ := R.apart j n' s3 e1 g1 g2
    refine ⟨c1, c2, c3, c4, fun q n'' sl'' f1 f2 f3 hq => ?_⟩
    obtain ⟨s4, g3, g4⟩ := key q n'' sl'' f1 f2 f3
    exact c5 q n'' s4 f1 g3 g4 hq

/-- an object out of hand changed, or newly kept -/
theorem RepW.reB (R : RepW C env nm B P σ h ow) {I : Addr} (pI : P I = none) (hL : I ≠ env.locals) (hc : ∀ n c, env.cells.lookup n = some c → I ≠ c) (ho : ∀ (i : Nat) (n : Str) (sl : Slot), nm[i]? = some n → σ[i]? = some (some sl) → sl.isOwn = true → ow i ≠ I)
    (hb : ∀ b o, b ≠ I → h.get? b = some o → h'.get? b = some o) (hB : ∀ b, b ≠ I → B' b = B b) (hBI : ∀ o, B' I = some o → h'.get? I = some o) (h0 : C.h₀.get? I = none) : RepW C env nm B' P σ h' ow := by
  have atk : ∀ n y, At env h n y → At env h' n y := fun n y H => by
    rcases H with ⟨h1, m, h2, h3⟩ | ⟨h1, c, h2, h3⟩
    · exact .inl ⟨h1, m, h2.at' fun o e => hb _ o (Ne.symm hL) e, h3⟩
    · exact .inr ⟨h1, c, h2, by obtain ⟨o, e1, e2⟩ := h3; exact ⟨o, hb _ o (Ne.symm (hc n c h2)) e1, e2⟩⟩
  refine ⟨R.st, fun b o e => ?_, fun b o e => ?_, fun b o e => hb _ _ (by rintro rfl; rw [pI] at e; cases e) (R.sub _ _ e), ?_, by rw [hB _ (Ne.symm hL)]; exact R.bl, R.pl, fun n c hcl => ?_, fun j n' v e1 e2 => ?_, fun j n' sl₂ e1 e2 e3 => ?_, fun j n' sl₂ e1 e2 e3 => ?_⟩
  · rw [hB _ (by rintro rfl; rw [h0] at e; cases e)]; exact R.h0 _ _ e
  · by_cases hbI : b = I
    · subst hbI; exact hBI _ e
    · rw [hB _ hbI] at e; exact hb _ _ hbI (R.bsub _ _ e)
  · obtain ⟨m, hm⟩ := R.ns; exact ⟨m, hm.at' fun o e => hb _ o (Ne.symm hL) e⟩
  · obtain ⟨⟨v, o, e1, e2⟩, a2, a3⟩ := R.cell n c hcl
    exact ⟨⟨v, o, hb _ o (Ne.symm (hc n c hcl)) e1, e2⟩, by rw [hB _ (Ne.symm (hc n c hcl))]; exact a2, a3⟩
  · obtain ⟨y, a1, a2⟩ := R.frz j n' v e1 e2
    exact ⟨y, atk _ _ a1, a2⟩
  · obtain ⟨a1, a2⟩ := R.own j n' sl₂ e1 e2 e3
    exact ⟨atk _ _ a1, a2.mono (fun zz zz e => e) fun o e' => hb _ o (ho j n' sl₂ e1 e2 e3) e'⟩
  · obtain ⟨c1, c2, c3, c4, c5⟩ := R.apart j n' sl₂ e1 e2 e3
    exact ⟨by rw [hB _ (ho j n' sl₂ e1 e2 e3)]; exact c1, c2, c3, c4, c5⟩

noncomputable def frozenS : Slot → V
  | .frz v => v
  | .ownL vs => .list vs
  | .ownD kvs => .dict kvs
/-- an owned object let be for good -/
theorem RepW.freeze (R : RepW C env nm B P σ h ow) {i : Nat} {n : Str} {sl : Slot} (hn : nm[i]? = some n) (hi : σ[i]? = some (some sl)) (hs : sl.isOwn = true) :
    ∃ P', GrowB B P P' h ∧ RepW C env nm B P' (σ.set i (some (.frz (frozenS sl)))) h ow := by
  obtain ⟨b1, b2, b3, b4, b5⟩ := R.apart i n sl hn hi hs
  obtain ⟨a1, a2⟩ := R.own i n sl hn hi hs
  obtain ⟨o, ho⟩ := a2.obj
  have le : ∀ b o', P b = some o' → hold P (ow i) (some o) b = some o' := fun b o' e => (hold_other fun q => by rw [q, b2] at e; cases e).trans e
  have sub : ∀ b o', hold P (ow i) (some o) b = some o' → h.get? b = some o' := fun b o' e => by
    by_cases hb : b = ow i
    · subst hb; rw [hold_self] at e; cases e; exact ho
    · rw [hold_other hb] at e; exact R.sub _ _ e
  refine ⟨_, ⟨le, sub, R.bsub, fun b o' e => ?_⟩, R.st, R.h0, R.bsub, sub, R.ns, R.bl, (hold_other (Ne.symm b3)).trans R.pl, fun n c hc => ?_, fun j n' v e1 e2 => ?_, fun j n' sl₂ e1 e2 e3 => ?_, fun j n' sl₂ e1 e2 e3 => ?_⟩
  · by_cases hb : b = ow i
    · subst hb; exact .inr b1
    · rw [hold_other hb] at e; exact .inl e
  · obtain ⟨c1, c2, c3⟩ := R.cell n c hc
    exact ⟨c1, c2, (hold_other (Ne.symm (b4 n c hc))).trans c3⟩
  · rcases set_get e2 with ⟨rfl, e⟩ | ⟨hji, e⟩
    · cases e
      rw [hn] at e1; cases e1
      refine ⟨_, a1, ?_⟩
      cases sl with
      | frz v => cases hs
      | ownL vs =>
        obtain ⟨xs, m, h1, h2⟩ := a2
        rw [ho] at h1; cases h1
        exact .list (xs := xs) (n := m) hold_self (VRs.mono le h2)
      | ownD vs =>
        obtain ⟨h0, o', xs, h1, h2, h3⟩ := a2
        rw [ho] at h1; cases h1
        exact .dict h0 hold_self h2 (DRs.mono le h3)
    · obtain ⟨y, c1, c2⟩ := R.frz j n' v e1 e
      exact ⟨y, c1, VR.mono le c2⟩
  all_goals
    rcases set_get e2 with ⟨rfl, e⟩ | ⟨hji, e⟩
    · cases e; cases e3
  · obtain ⟨c1, c2⟩ := R.own j n' sl₂ e1 e e3
    exact ⟨c1, c2.mono le fun o e => e⟩
  · obtain ⟨c1, c2, c3, c4, c5⟩ := R.apart j n' sl₂ e1 e e3
    refine ⟨c1, (hold_other (Ne.symm (b5 j n' sl₂ e1 e e3 (Ne.symm hji)))).trans c2, c3, c4, fun q n'' sl'' f1 f2 f3 hq => ?_⟩
    rcases set_get f2 with ⟨rfl, f⟩ | ⟨hqi, f⟩
    · cases f; cases f3
    · exact c5 q n'' sl'' f1 f f3 hq
end
end Lw

namespace Lw
open PySem PySem.Calls PyProof.Rows
set_option maxRecDepth 10000

inductive Fl where
  | next | brk | cont
  | ret (v : V)
noncomputable def FlR (C : Cx) (P : Fz) : Fl → Flow → Prop
  | .next, f => f = .next
  | .brk, f => f = .brk
  | .cont, f => f = .cont
  | .ret v, f => ∃ x, f = .ret x ∧ C.VR P v x

abbrev KS (C : Cx) (env : Env) (nm : List Str) (B P : Fz) (s : Shared) (σ' : St) (fl : Fl) (Q : Flow → Shared → Prop) : Prop :=
  ∀ P' h' tk ow' w, GrowB B P P' h' → RepW C env nm B P' σ' h' ow' → FlR C P' fl w → Q w { s with heap := h', toks := tk }

noncomputable def DX (C : Cx) (sc : Scope) (nm : List Str) (lv : Nat) (st : Stmt) (f : St → Option (St × Fl)) : Prop :=
  ∀ (A : Around) (E : Value → Shared → Prop) (env : Env) (B P : Fz) (σ : St) (s : Shared) (ow : Nat → Addr) (σ' : St) (fl : Fl) (Q : Flow → Shared → Prop),
    AOk A lv → env.scope = sc → RepW C env nm B P σ s.heap ow → f σ = some (σ', fl) → KS C env nm B P s σ' fl Q → wpAny C.M A (exec st env) Q E s

noncomputable def DS (C : Cx) (sc : Scope) (nm : List Str) (lv : Nat) (ss : List Stmt) (f : St → Option (St × Fl)) : Prop :=
  ∀ (A : Around) (E : Value → Shared → Prop) (env : Env) (B P : Fz) (σ : St) (s : Shared) (ow : Nat → Addr) (σ' : St) (fl : Fl) (Q : Flow → Shared → Prop),
    AOk A lv → env.scope = sc → RepW C env nm B P σ s.heap ow → f σ = some (σ', fl) → KS C env nm B P s σ' fl Q → wpAny C.M A (execs ss env) Q E s

theorem ns_uniq {h : Heap} {a : Addr} {m m' : Str → Option Value} (h1 : h.Ns a m) (h2 : h.Ns a m') (x : Str) : m x = m' x := by
  obtain ⟨o, es, ep, e1, e2, e3, e4⟩ := h1
  obtain ⟨o', es', ep', f1, f2, f3, f4⟩ := h2
  rw [e1] at f1; cases f1
  rw [e2] at f2; cases f2
  rw [← e4, ← f4]

section
variable {C : Cx} {sc : Scope} {nm : List Str} {lv : Nat}

theorem wp_store {A : Around} {E : Value → Shared → Prop} {env : Env} {B P : Fz} {σ : St} {s : Shared} {ow : Nat → Addr} {i : Nat} {n : Str} {sl : Slot} {x : Value} {Q : Unit → Shared → Prop}
    (R : RepW C env nm B P σ s.heap ow) (hn : nm[i]? = some n) (N : NewIn C env nm B P σ s.heap ow i sl x)
    (k : ∀ h' tk ow', GrowB B P P h' → RepW C env nm B P (σ.set i (some sl)) h' ow' → (∀ b o, b ≠ env.locals → (∀ n c, env.cells.lookup n = some c → b ≠ c) → s.heap.get? b = some o → h'.get? b = some o) ∧ (∀ n' y, n' ≠ n → At env s.heap n' y → At env h' n' y) → Q () { s with heap := h', toks := tk }) : wpAny C.M A (storeName env n x) Q E s := by
  have fin : ∀ h' tk, At env h' n x → (∀ n' y, n' ≠ n → At env s.heap n' y → At env h' n' y) → (∀ b o, b ≠ env.locals → (∀ n c, env.cells.lookup n = some c → b ≠ c) → s.heap.get? b = some o → h'.get? b = some o) →
      (∃ m, h'.Ns env.locals m) → (∀ n c, env.cells.lookup n = some c → ∃ v, h'.IsCell c v) → Q () { s with heap := h', toks := tk } := fun h' tk k1 k2 k3 k4 k5 => by
    obtain ⟨ow', R'⟩ := R.put hn N k1 k2 k3 k4 k5
    exact k h' tk ow' ⟨fun zz zz e => e, R'.sub, R'.bsub, fun zz zz e => .inl e⟩ R' ⟨k3, k2⟩
  obtain ⟨m, hm⟩ := R.ns
  have hnm : n ∈ nm := List.mem_of_getElem? hn
  rcases R.st.kinds n hnm with hk | hk
  · refine wpAny_storeName_local hk hm (fun h' hn' hb => fin h' _ (.inl ⟨hk, _, hn', by simp⟩) (fun n' y hne H => ?_) (fun b o hb1 zz e => hb.extBut b o hb1 e) ⟨_, hn'⟩ fun n' c hc => ?_) (by rw [R.st.fn]; rfl)
    · rcases H with ⟨h1, m0, h2, h3⟩ | ⟨h1, c, h2, h3⟩
      · refine .inl ⟨h1, _, hn', ?_⟩
        rw [if_neg hne, ns_uniq hm h2]; exact h3
      · exact .inr ⟨h1, c, h2, h3.sameBut hb (R.st.cloc n' c h2)⟩
    · obtain ⟨v, hv⟩ := (R.cell n' c hc).1
      exact ⟨v, hv.sameBut hb (R.st.cloc n' c hc)⟩
  · obtain ⟨c, hc⟩ := R.st.cells n hk
    obtain ⟨v0, hv0⟩ := (R.cell n c hc).1
    refine wpAny_storeName_cell R.st.fn hk hc hv0 fun h' hc' hb => fin h' _ (.inr ⟨.inl hk, c, hc, hc'⟩) (fun n' y hne H => ?_) (fun b o zz hb2 e => hb.extBut b o (hb2 n c hc) e) ⟨m, hm.sameBut hb (Ne.symm (R.st.cloc n c hc))⟩ fun n' c' hc2 => ?_
    · rcases H with ⟨h1, m0, h2, h3⟩ | ⟨h1, c', h2, h3⟩
      · exact .inl ⟨h1, m0, h2.sameBut hb (Ne.symm (R.st.cloc n c hc)), h3⟩
      · refine .inr ⟨h1, c', h2, h3.sameBut hb ?_⟩
        rintro rfl
        exact hne (R.st.inj _ _ _ h2 hc)
    · by_cases hcc : c' = c
      · subst hcc; exact ⟨_, hc'⟩
      · obtain ⟨v, hv⟩ := (R.cell n' c' hc2).1
        exact ⟨v, hv.sameBut hb hcc⟩

/-- statements, with what they let be -/
abbrev Keep := Env → Heap → Heap → Prop
structure JOk (J : Keep) : Prop where
  refl : ∀ env h, J env h h
  trans : ∀ {env h h' h''}, J env h h' → J env h' h'' → J env h h''
  grow : ∀ {env P h P' h'}, Grow P h P' h' → J env h h'
abbrev JN (J : Keep) (n : Str) : Prop := ∀ env h h', (∀ n' y, n' ≠ n → At env h n' y → At env h' n' y) → J env h h'
abbrev KSJ (J : Keep) (C : Cx) (env : Env) (nm : List Str) (B P : Fz) (s : Shared) (σ' : St) (fl : Fl) (Q : Flow → Shared → Prop) : Prop :=
  ∀ P' h' tk ow' w, GrowB B P P' h' → RepW C env nm B P' σ' h' ow' → FlR C P' fl w → J env s.heap h' → Q w { s with heap := h', toks := tk }
noncomputable def DXJ (J : Keep) (C : Cx) (sc : Scope) (nm : List Str) (lv : Nat) (st : Stmt) (f : St → Option (St × Fl)) : Prop :=
  ∀ (A : Around) (E : Value → Shared → Prop) (env : Env) (B P : Fz) (σ : St) (s : Shared) (ow : Nat → Addr) (σ' : St) (fl : Fl) (Q : Flow → Shared → Prop),
    AOk A lv → env.scope = sc → RepW C env nm B P σ s.heap ow → f σ = some (σ', fl) → KSJ J C env nm B P s σ' fl Q → wpAny C.M A (exec st env) Q E s
noncomputable def DSJ (J : Keep) (C : Cx) (sc : Scope) (nm : List Str) (lv : Nat) (ss : List Stmt) (f : St → Option (St × Fl)) : Prop :=
  ∀ (A : Around) (E : Value → Shared → Prop) (env : Env) (B P : Fz) (σ : St) (s : Shared) (ow : Nat → Addr) (σ' : St) (fl : Fl) (Q : Flow → Shared → Prop),
    AOk A lv → env.scope = sc → RepW C env nm B P σ s.heap ow → f σ = some (σ', fl) → KSJ J C env nm B P s σ' fl Q → wpAny C.M A (execs ss env) Q E s
noncomputable def JT : Keep := fun zz zz zz => True
theorem JT_ok : JOk JT := ⟨fun zz zz => trivial, fun zz zz => trivial, fun zz => trivial⟩
theorem DX.ofJ {st : Stmt} {f : St → Option (St × Fl)} (H : DXJ JT C sc nm lv st f) : DX C sc nm lv st f :=
  fun A E env B P σ s ow σ' fl Q hA hs R hf k => H A E env B P σ s ow σ' fl Q hA hs R hf fun P' h' tk ow' w g R' hw zz => k P' h' tk ow' w g R' hw
theorem DX.toJ {st : Stmt} {f : St → Option (St × Fl)} (H : DX C sc nm lv st f) : DXJ JT C sc nm lv st f :=
  fun A E env B P σ s ow σ' fl Q hA hs R hf k => H A E env B P σ s ow σ' fl Q hA hs R hf fun P' h' tk ow' w g R' hw => k P' h' tk ow' w g R' hw trivial
theorem DS.ofJ {ss : List Stmt} {f : St → Option (St × Fl)} (H : DSJ JT C sc nm lv ss f) : DS C sc nm lv ss f :=
  fun A E env B P σ s ow σ' fl Q hA hs R hf k => H A E env B P σ s ow σ' fl Q hA hs R hf fun P' h' tk ow' w g R' hw zz => k P' h' tk ow' w g R' hw
theorem DS.toJ {ss : List Stmt} {f : St → Option (St × Fl)} (H : DS C sc nm lv ss f) : DSJ JT C sc nm lv ss f :=
  fun A E env B P σ s ow σ' fl Q hA hs R hf k => H A E env B P σ s ow σ' fl Q hA hs R hf fun P' h' tk ow' w g R' hw => k P' h' tk ow' w g R' hw trivial

theorem DS_nil : DS C sc nm lv [] (fun σ => some (σ, .next)) := by
  intro A E env B P σ s ow σ' fl Q hA hs R hf k
  cases hf
  exact wpAny_execs_nil (k P s.heap s.toks ow _ ⟨fun zz zz e => e, R.sub, R.bsub, fun zz zz e => .inl e⟩ R rfl)

noncomputable def seqF (f g : St → Option (St × Fl)) : St → Option (St × Fl) := fun σ => (f σ).bind fun r => match r.2 with
  | .next => g r.1
  | fl => some (r.1, fl)
theorem DSJ_cons {J : Keep} (jo : JOk J) {st : Stmt} {ss : List Stmt} {f g : St → Option (St × Fl)} (h : DXJ J C sc nm lv st f) (h' : DSJ J C sc nm lv ss g) : DSJ J C sc nm lv (st :: ss) (seqF f g) := by
  intro A E env B P σ s ow σ' fl Q hA hs R hf k
  obtain ⟨⟨σ1, fl1⟩, e1, hf⟩ := bind_some hf
  refine wpAny_execs_cons (h A E env B P σ s ow σ1 fl1 _ hA hs R e1 fun P1 h1 tk1 ow1 w g1 R1 hw q1 => ?_)
  cases fl1 with
  | next =>
    cases hw
    exact h' A E env B P1 σ1 { s with heap := h1, toks := tk1 } ow1 σ' fl Q hA hs R1 hf fun P2 h2 tk2 ow2 w2 g2 R2 hw2 q2 => k P2 h2 tk2 ow2 w2 (g1.trans g2) R2 hw2 (jo.trans q1 q2)
  | brk => cases hf; cases hw; exact k P1 h1 tk1 ow1 _ g1 R1 rfl q1
  | cont => cases hf; cases hw; exact k P1 h1 tk1 ow1 _ g1 R1 rfl q1
  | ret v =>
    cases hf
    obtain ⟨x, rfl, hx⟩ := hw
    exact k P1 h1 tk1 ow1 _ g1 R1 ⟨x, rfl, hx⟩ q1
theorem DS_cons {st : Stmt} {ss : List Stmt} {f g : St → Option (St × Fl)} (h : DX C sc nm lv st f) (h' : DS C sc nm lv ss g) : DS C sc nm lv (st :: ss) (seqF f g) := DS.ofJ (DSJ_cons JT_ok h.toJ h'.toJ)

noncomputable def freezeS (i : Nat) (σ : St) : St := match σ[i]? with
  | some (some sl) => σ.set i (some (.frz (frozenS sl)))
  | _ => σ
theorem freeze_ok {env : Env} {B P : Fz} {σ : St} {h : Heap} {ow : Nat → Addr} (R : RepW C env nm B P σ h ow) (i : Nat) (n : Str) (hn : nm[i]? = some n) : ∃ P', GrowB B P P' h ∧ RepW C env nm B P' (freezeS i σ) h ow := by
  have self : GrowB B P P h := ⟨fun zz zz e => e, R.sub, R.bsub, fun zz zz e => .inl e⟩
  unfold freezeS
  split
  · rename_i sl hi
    cases hs : sl.isOwn with
    | true => exact R.freeze hn hi hs
    | false =>
      cases sl with
      | frz v =>
        refine ⟨P, self, ?_⟩
        have : σ.set i (some (.frz (frozenS (.frz v)))) = σ := by
          refine List.ext_getElem? fun j => ?_
          rw [List.getElem?_set]
          split
          · rename_i e; subst e
            split
            · rw [hi]; rfl
            · rename_i hl; rw [hi]; exact absurd (List.getElem?_eq_some_iff.mp hi).1 hl
          · rfl
        rw [this]; exact R
      | ownL vs => cases hs
      | ownD vs => cases hs
  · exact ⟨P, self, R⟩
theorem DS_freeze {ss : List Stmt} {f : St → Option (St × Fl)} (i : Nat) (n : Str) (hn : nm[i]? = some n) (h : DS C sc nm lv ss f) : DS C sc nm lv ss (fun σ => f (freezeS i σ)) := by
  intro A E env B P σ s ow σ' fl Q hA hs R hf k
  obtain ⟨P1, g1, R1⟩ := freeze_ok R i n hn
  exact h A E env B P1 _ s ow σ' fl Q hA hs R1 hf fun P2 h2 tk2 ow2 w2 g2 R2 hw2 => k P2 h2 tk2 ow2 w2 (g1.trans g2) R2 hw2

theorem GrowB.ofGrow {B P P' : Fz} {h h' : Heap} (hb : ∀ b o, B b = some o → h.get? b = some o) (g : Grow P h P' h') : GrowB B P P' h' :=
  ⟨g.le, g.sub, fun b o e => g.keep _ _ (hb _ _ e), fun b o e => by
    rcases g.new b o e with e | e
    · exact .inl e
    · right
      cases hq : B b with
      | none => rfl
      | some o' => rw [hb _ _ hq] at e; cases e⟩

noncomputable def setF (i : Nat) (v : V) (σ : St) : St := σ.set i (some (.frz v))

theorem DX_assign {n : Str} {px pos : Pos} {value : PySem.Expr} {f : St → Option V} (i : Nat) (hn : nm[i]? = some n) (he : DE C sc nm lv value f) (hsw : ∀ env, env.scope = sc → swapsWith value (some (.Name n px)) pos.line env = pure false) :
    DX C sc nm lv (.Assign [.Name n px] value pos) (fun σ => (f σ).map fun v => (setF i v σ, .next)) := by
  intro A E env B P σ s ow σ' fl Q hA hs R hf k
  obtain ⟨v, hv, e⟩ := Option.map_eq_some_iff.mp hf
  cases e
  refine wpAny_Assign_Name (he A E env P σ s v _ hA hs R.toE hv fun P1 h1 tk1 x g1 hx => ?_) (hsw env hs)
  refine wp_store (s := { s with heap := h1, toks := tk1 }) (R.grow g1) hn (.frz hx) fun h2 tk2 ow2 g2 R2 zz => ?_
  exact k P1 h2 tk2 ow2 _ ((GrowB.ofGrow R.bsub g1).trans g2) R2 rfl

/-- a list of one's own -/
theorem new_own {env : Env} {B P P1 : Fz} {σ : St} {h h1 : Heap} {ow : Nat → Addr} {a : Addr} {sl : Slot} {i : Nat} (R : RepW C env nm B P σ h ow) (_g1 : Grow P h P1 h1) (pa : P1 a = none) (ha : h.get? a = none) (hs : sl.isOwn = true) (ho : OwnR C P1 h1 sl a) :
    NewIn C env nm B P1 σ h1 ow i sl (.ref a) := by
  refine .own hs ho ?_ pa ?_ (fun n c hc => ?_) fun j n' sl' e1 e2 e3 zz => ?_
  · cases hq : B a with
    | none => rfl
    | some o => rw [R.bsub _ _ hq] at ha; cases ha
  · rintro rfl
    obtain ⟨o, ho⟩ := R.locObj
    rw [ho] at ha; cases ha
  · rintro rfl
    obtain ⟨o, ho⟩ := R.cellObj hc
    rw [ho] at ha; cases ha
  · rintro rfl
    obtain ⟨o, ho⟩ := (R.own j n' sl' e1 e2 e3).2.obj
    rw [ho] at ha; cases ha
theorem DX_assignL {n : Str} {px pos : Pos} {value : PySem.Expr} {f : St → Option (List V)} (i : Nat) (hn : nm[i]? = some n) (he : DF C sc nm lv value f) (hsw : ∀ env, env.scope = sc → swapsWith value (some (.Name n px)) pos.line env = pure false) :
    DX C sc nm lv (.Assign [.Name n px] value pos) (fun σ => (f σ).map fun v => (σ.set i (some (.ownL v)), .next)) := by
  intro A E env B P σ s ow σ' fl Q hA hs R hf k
  obtain ⟨v, hv, e⟩ := Option.map_eq_some_iff.mp hf
  cases e
  refine wpAny_Assign_Name (he A E env P σ s v _ hA hs R.toE hv fun P1 h1 tk1 a xs m g1 pa sa ho hx => ?_) (hsw env hs)
  refine wp_store (s := { s with heap := h1, toks := tk1 }) (R.grow g1) hn (new_own (sl := .ownL v) R g1 pa sa rfl ⟨xs, m, ho, hx⟩) fun h2 tk2 ow2 g2 R2 zz => ?_
  exact k P1 h2 tk2 ow2 _ ((GrowB.ofGrow R.bsub g1).trans g2) R2 rfl

theorem DX_assign2 {n n' : Str} {px px' pos : Pos} {value : PySem.Expr} {f : St → Option V} (i j : Nat) (hn : nm[i]? = some n) (hn' : nm[j]? = some n') (he : DE C sc nm lv value f) (hw : ∀ env, swappedStores [.Name n px, .Name n' px'] value env = pure none) :
    DX C sc nm lv (.Assign [.Name n px, .Name n' px'] value pos) (fun σ => (f σ).map fun v => (setF j v (setF i v σ), .next)) := by
  intro A E env B P σ s ow σ' fl Q hA hs R hf k
  obtain ⟨v, hv, e⟩ := Option.map_eq_some_iff.mp hf
  cases e
  refine wpAny_Assign_two (he A E env P σ s v _ hA hs R.toE hv fun P1 h1 tk1 x g1 hx => ?_) (hw := hw env)
  refine wpAny_assign_Name (wp_store (s := { s with heap := h1, toks := tk1 }) (R.grow g1) hn (.frz hx) fun h2 tk2 ow2 g2 R2 zz => ?_)
  refine wpAny_assign_Name (wp_store (s := { s with heap := h2, toks := tk2 }) R2 hn' (.frz hx) fun h3 tk3 ow3 g3 R3 zz => ?_)
  exact k P1 h3 tk3 ow3 _ (((GrowB.ofGrow R.bsub g1).trans g2).trans g3) R3 rfl

/-- an operation in place, of ints -/
noncomputable def augI : Operator → Int → Int → Option V
  | .Add, a, b => some (.int (a + b))
  | .Sub, a, b => some (.int (a - b))
  | _, _, _ => none
noncomputable def augV (op : Operator) : V → V → Option V
  | .int a, .int b => augI op a b
  | _, _ => none

theorem ite_some {α : Type} {c : Prop} [Decidable c] {x y : α} (h : (if c then some x else none) = some y) : c ∧ x = y := by
  by_cases hc : c
  · rw [if_pos hc] at h; exact ⟨hc, Option.some.inj h⟩
  · rw [if_neg hc] at h; cases h
theorem intOf_inv {α : Type} {v : V} {G : Int → Option α} {x : α} (h : (match v with
    | .int q => G q
    | _ => none) = some x) : ∃ q, v = .int q ∧ G q = some x := by
  split at h
  · exact ⟨_, rfl, h⟩
  · cases h
theorem augV_inv {op : Operator} {a b v : V} (hv : augV op a b = some v) : ∃ p q, a = .int p ∧ b = .int q := by
  unfold augV at hv
  split at hv
  · exact ⟨_, _, rfl, rfl⟩
  · cases hv

theorem DXJ_aug {J : Keep} (jo : JOk J) {n : Str} (jn : JN J n) {px pos : Pos} {op : Operator} {value : PySem.Expr} {f : St → Option V} (i : Nat) (hn : nm[i]? = some n) (he : DE C sc nm lv value f)
    (hop : ∀ (A : Around) (E : Value → Shared → Prop) (s : Shared) (a b : Int) (t u : Tok) (v : V) (Q : Value → Shared → Prop), augV op (.int a) (.int b) = some v → (∀ tk x, (∀ P, C.VR P v x) → Q x { s with toks := tk }) → wpAny C.M A (inplaceOp op (.int a t) (.int b u)) Q E s) :
    DXJ J C sc nm lv (.AugAssign (.Name n px) op value pos) (fun σ => (getF σ i).bind fun a => (f σ).bind fun b => (augV op a b).map fun v => (setF i v σ, .next)) := by
  intro A E env B P σ s ow σ' fl Q hA hs R hf k
  obtain ⟨a, ha, hf⟩ := bind_some hf
  obtain ⟨b, hb, hf⟩ := bind_some hf
  obtain ⟨v, hv, e⟩ := Option.map_eq_some_iff.mp hf
  cases e
  obtain ⟨x, hx1, hx2⟩ := at_frz R.toE hn (getF_some ha)
  refine wpAny_AugAssign_Name (wp_at R.st.fn hx1 (he A E env P σ s b _ hA hs R.toE hb fun P1 h1 tk1 y g1 hy => ?_))
  obtain ⟨p, q, rfl, rfl⟩ := augV_inv hv
  obtain ⟨_, rfl⟩ := hx2.inv; obtain ⟨_, rfl⟩ := hy.inv
  refine hop A E _ p q _ _ v _ hv fun tk2 z hz => ?_
  refine wp_store (s := { s with heap := h1, toks := tk2 }) (R.grow g1) hn (.frz (hz P1)) fun h2 tk2 ow2 g2 R2 q2 => ?_
  exact k P1 h2 tk2 ow2 _ ((GrowB.ofGrow R.bsub g1).trans g2) R2 rfl (jo.trans (jo.grow g1) (jn _ _ _ q2.2))
theorem DX_aug {n : Str} {px pos : Pos} {op : Operator} {value : PySem.Expr} {f : St → Option V} (i : Nat) (hn : nm[i]? = some n) (he : DE C sc nm lv value f)
    (hop : ∀ (A : Around) (E : Value → Shared → Prop) (s : Shared) (a b : Int) (t u : Tok) (v : V) (Q : Value → Shared → Prop), augV op (.int a) (.int b) = some v → (∀ tk x, (∀ P, C.VR P v x) → Q x { s with toks := tk }) → wpAny C.M A (inplaceOp op (.int a t) (.int b u)) Q E s) :
    DX C sc nm lv (.AugAssign (.Name n px) op value pos) (fun σ => (getF σ i).bind fun a => (f σ).bind fun b => (augV op a b).map fun v => (setF i v σ, .next)) := DX.ofJ (DXJ_aug JT_ok (fun zz zz zz zz => trivial) i hn he hop)

theorem DX_if {t : PySem.Expr} {b o : List Stmt} {pos : Pos} {f : St → Option Bool} {g g' : St → Option (St × Fl)} (ht : DT C sc nm lv t f) (hb : DS C sc nm lv b g) (ho : DS C sc nm lv o g') :
    DX C sc nm lv (.If t b o pos) (fun σ => (f σ).bind fun c => if c = true then g σ else g' σ) := by
  intro A E env B P σ s ow σ' fl Q hA hs R hf k
  obtain ⟨c, hc, hf⟩ := bind_some hf
  refine wpAny_If (ht A E env P σ s c _ hA hs R.toE hc fun P1 h1 tk1 g1 => ?_)
  have g1' := GrowB.ofGrow R.bsub g1
  cases c with
  | true => exact hb A E env B P1 σ { s with heap := h1, toks := tk1 } ow σ' fl Q hA hs (R.grow g1) hf fun P2 h2 tk2 ow2 w2 g2 R2 hw2 => k P2 h2 tk2 ow2 w2 (g1'.trans g2) R2 hw2
  | false => exact ho A E env B P1 σ { s with heap := h1, toks := tk1 } ow σ' fl Q hA hs (R.grow g1) hf fun P2 h2 tk2 ow2 w2 g2 R2 hw2 => k P2 h2 tk2 ow2 w2 (g1'.trans g2) R2 hw2

theorem DX_ret {e : PySem.Expr} {pos : Pos} {f : St → Option V} (he : DE C sc nm lv e f) : DX C sc nm lv (.Return (some e) pos) (fun σ => (f σ).map fun v => (σ, .ret v)) := by
  intro A E env B P σ s ow σ' fl Q hA hs R hf k
  obtain ⟨v, hv, e⟩ := Option.map_eq_some_iff.mp hf
  cases e
  refine wpAny_Return_some (he A E env P σ s v _ hA hs R.toE hv fun P1 h1 tk1 x g1 hx => ?_)
  exact k P1 h1 tk1 ow _ (GrowB.ofGrow R.bsub g1) (R.grow g1) ⟨x, rfl, hx⟩
theorem DX_break {pos : Pos} : DX C sc nm lv (.Break pos) (fun σ => some (σ, .brk)) := by
  intro A E env B P σ s ow σ' fl Q hA hs R hf k
  cases hf
  exact wpAny_Break (k P s.heap s.toks ow _ ⟨fun zz zz e => e, R.sub, R.bsub, fun zz zz e => .inl e⟩ R rfl)

noncomputable def whileF (t : St → Option Bool) (b : St → Option (St × Fl)) : Nat → St → Option (St × Fl)
  | 0, _ => none
  | n + 1, σ => (t σ).bind fun c => if c = true then (b σ).bind fun r => match r.2 with
      | .next => whileF t b n r.1
      | .cont => whileF t b n r.1
      | .brk => some (r.1, .next)
      | .ret v => some (r.1, .ret v)
    else some (σ, .next)

/-- where a while loop stands -/
inductive WInv (J : Keep) (C : Cx) (env : Env) (nm : List Str) (B P : Fz) (s : Shared) (F : Nat → St → Option (St × Fl)) (r : St × Fl) (q : Nat) (s' : Shared) : Prop
  | mk (P' : Fz) (h' : Heap) (tk : Nat) (ow' : Nat → Addr) (σ1 : St) : s' = { s with heap := h', toks := tk } → GrowB B P P' h' → RepW C env nm B P' σ1 h' ow' → F q σ1 = some r → J env s.heap h' → WInv J C env nm B P s F r q s'

theorem whileF_inv {f : St → Option Bool} {g : St → Option (St × Fl)} {q : Nat} {σ : St} {r : St × Fl} (h : whileF f g (q + 1) σ = some r) :
    (f σ = some false ∧ r = (σ, .next)) ∨ (f σ = some true ∧ ∃ σ3 fl3, g σ = some (σ3, fl3) ∧ (((fl3 = .next ∨ fl3 = .cont) ∧ whileF f g q σ3 = some r) ∨ (fl3 = .brk ∧ r = (σ3, .next)) ∨ (∃ v, fl3 = .ret v ∧ r = (σ3, .ret v)))) := by
  obtain ⟨c, hc, h⟩ := bind_some h
  cases c with
  | false => cases h; exact .inl ⟨hc, rfl⟩
  | true =>
    obtain ⟨⟨σ3, fl3⟩, e3, h⟩ := bind_some h
    refine .inr ⟨hc, σ3, fl3, e3, ?_⟩
    cases fl3 with
    | next => exact .inl ⟨.inl rfl, h⟩
    | cont => exact .inl ⟨.inr rfl, h⟩
    | brk => cases h; exact .inr (.inl ⟨rfl, rfl⟩)
    | ret v => cases h; exact .inr (.inr ⟨v, rfl, rfl⟩)

theorem DXJ_while {J : Keep} (jo : JOk J) {t : PySem.Expr} {b : List Stmt} {pos : Pos} {f : St → Option Bool} {g : St → Option (St × Fl)} (fuel : Nat) (ht : DT C sc nm lv t f) (hb : DSJ J C sc nm lv b g) :
    DXJ J C sc nm lv (.While t b [] pos) (whileF f g fuel) := by
  intro A E env B P σ s ow σ' fl Q hA hs R hf k
  refine wpAny_While (codeAny_whileLoop (WInv J C env nm B P s (whileF f g) (σ', fl)) ?_ fuel ⟨P, s.heap, s.toks, ow, σ, rfl, ⟨fun zz zz e => e, R.sub, R.bsub, fun zz zz e => .inl e⟩, R, hf, jo.refl _ _⟩)
  rintro q s' ⟨P1, h1, tk1, ow1, σ1, rfl, g1, R1, hf1, z1⟩
  cases q with
  | zero => cases hf1
  | succ q =>
    rcases whileF_inv hf1 with ⟨hc, e⟩ | ⟨hc, σ3, fl3, e3, hh⟩
    · cases e
      exact ht A _ env P1 _ { s with heap := h1, toks := tk1 } false _ hA hs R1.toE hc fun P2 h2 tk2 g2 => wpAny_execs_nil (k P2 h2 tk2 ow1 _ (g1.trans (GrowB.ofGrow R1.bsub g2)) (R1.grow g2) rfl (jo.trans z1 (jo.grow g2)))
    · refine ht A _ env P1 σ1 { s with heap := h1, toks := tk1 } true _ hA hs R1.toE hc fun P2 h2 tk2 g2 => ?_
      refine hb A _ env B P2 σ1 { s with heap := h2, toks := tk2 } ow1 σ3 fl3 _ hA hs (R1.grow g2) e3 fun P3 h3 tk3 ow3 w3 g3 R3 hw3 z3 => ?_
      have g3' := (g1.trans (GrowB.ofGrow R1.bsub g2)).trans g3
      have z3' := jo.trans (jo.trans z1 (jo.grow g2)) z3
      rcases hh with ⟨(rfl | rfl), hh⟩ | ⟨rfl, hh⟩ | ⟨v, rfl, hh⟩
      · cases hw3; exact ⟨q, Nat.lt_succ_self _, P3, _, tk3, ow3, σ3, rfl, g3', R3, hh, z3'⟩
      · cases hw3; exact ⟨q, Nat.lt_succ_self _, P3, _, tk3, ow3, σ3, rfl, g3', R3, hh, z3'⟩
      · cases hw3; cases hh; exact k P3 _ tk3 ow3 _ g3' R3 rfl z3'
      · obtain ⟨x, rfl, hx⟩ := hw3
        cases hh
        exact k P3 _ tk3 ow3 _ g3' R3 ⟨x, rfl, hx⟩ z3'
theorem DX_while {t : PySem.Expr} {b : List Stmt} {pos : Pos} {f : St → Option Bool} {g : St → Option (St × Fl)} (fuel : Nat) (ht : DT C sc nm lv t f) (hb : DS C sc nm lv b g) :
    DX C sc nm lv (.While t b [] pos) (whileF f g fuel) := DX.ofJ (DXJ_while JT_ok fuel ht hb.toJ)

/-- the target of a for -/
noncomputable def DTg (C : Cx) (sc : Scope) (nm : List Str) (lv : Nat) (target : PySem.Expr) (st : V → St → Option St) : Prop :=
  ∀ (A : Around) (E : Value → Shared → Prop) (env : Env) (B P : Fz) (σ : St) (s : Shared) (ow : Nat → Addr) (σ' : St) (v : V) (x : Value) (I : Addr) (Q : Unit → Shared → Prop),
    AOk A lv → env.scope = sc → RepW C env nm B P σ s.heap ow → C.VR P v x → st v σ = some σ' → (∃ vs, ItR C P s.heap I vs) → (∀ o, s.heap.get? I = some o → B I = some o) →
    (∀ h' tk ow', GrowB B P P h' → RepW C env nm B P σ' h' ow' → Q () { s with heap := h', toks := tk }) →
    wpAny C.M A (letOwnedTupleGo target (.ref I) x) (fun zz s₁ => wpAny C.M A (assign target env x) Q E s₁) E s

theorem DTg_name {n : Str} {px : Pos} (i : Nat) (hn : nm[i]? = some n) : DTg C sc nm lv (.Name n px) (fun v σ => some (setF i v σ)) := by
  intro A E env B P σ s ow σ' v x I Q hA hs R hx hf hI hB k
  cases hf
  refine wpAny_pure (wpAny_assign_Name (wp_store R hn (.frz hx) fun h2 tk2 ow2 g2 R2 zz => k h2 tk2 ow2 g2 R2))

noncomputable def forF (st : V → St → Option St) (b : St → Option (St × Fl)) : List V → St → Option (St × Fl)
  | [], σ => some (σ, .next)
  | v :: r, σ => (st v σ).bind fun σ1 => (b σ1).bind fun q => match q.2 with
      | .next => forF st b r q.1
      | .cont => forF st b r q.1
      | .brk => some (q.1, .next)
      | .ret v => some (q.1, .ret v)

theorem apartI {env : Env} {B P : Fz} {σ : St} {h : Heap} {ow : Nat → Addr} (R : RepW C env nm B P σ h ow) {I : Addr} {o : Obj} (hI : B I = some o) :
    I ≠ env.locals ∧ (∀ n c, env.cells.lookup n = some c → I ≠ c) ∧ ∀ (i : Nat) (n : Str) (sl : Slot), nm[i]? = some n → σ[i]? = some (some sl) → sl.isOwn = true → ow i ≠ I := by
  refine ⟨fun e => ?_, fun n c hc e => ?_, fun i n sl e1 e2 e3 e => ?_⟩
  · rw [e, R.bl] at hI; cases hI
  · rw [e, (R.cell n c hc).2.1] at hI; cases hI
  · rw [← e, (R.apart i n sl e1 e2 e3).1] at hI; cases hI

theorem RepW.fresh {env : Env} {B P : Fz} {σ : St} {h : Heap} {ow : Nat → Addr} (R : RepW C env nm B P σ h ow) {I : Addr} (sI : h.get? I = none) : B I = none ∧ C.h₀.get? I = none := by
  have bI : B I = none := by
    cases hq : B I with
    | none => rfl
    | some o => rw [R.bsub _ _ hq] at sI; cases sI
  refine ⟨bI, ?_⟩
  cases hq : C.h₀.get? I with
  | none => rfl
  | some o => rw [R.h0 _ _ hq] at bI; cases bI
theorem RepW.hold1 {env : Env} {B P P1 : Fz} {σ : St} {h h1 : Heap} {ow : Nat → Addr} (R : RepW C env nm B P σ h ow) {I : Addr} (sI : h.get? I = none) (g : Grow P h P1 h1) (p : P1 I = none) : RepW C env nm (hold B I (h1.get? I)) P1 σ h1 ow :=
  (R.grow g).reB p (by rintro rfl; obtain ⟨o, ho⟩ := R.locObj; rw [ho] at sI; cases sI) (fun n c hc => by rintro rfl; obtain ⟨o, ho⟩ := R.cellObj hc; rw [ho] at sI; cases sI)
      (fun i n sl e1 e2 e3 => by rintro rfl; obtain ⟨o, ho⟩ := (R.own i n sl e1 e2 e3).2.obj; rw [ho] at sI; cases sI) (fun b o zz e => e) (fun b hb => hold_other hb) (fun o e => hold_self.symm.trans e) (R.fresh sI).2
theorem RepW.held {env : Env} {B P : Fz} {σ : St} {h h' : Heap} {ow : Nat → Addr} {I : Addr} {x : Option Obj} {o : Obj} (R : RepW C env nm (hold B I x) P σ h ow) (hx : x = some o) (q : B I = none ∧ C.h₀.get? I = none) (p : P I = none)
    (hk : ∀ b o, b ≠ I → h.get? b = some o → h'.get? b = some o) : RepW C env nm (hold B I (h'.get? I)) P σ h' ow ∧ RepW C env nm B P σ h' ow := by
  obtain ⟨l, c, w⟩ := apartI R (hold_self.trans hx)
  exact ⟨R.reB p l c w hk (fun b hb => (hold_other hb).trans (hold_other hb).symm) (fun o e => hold_self.symm.trans e) q.2,
    R.reB p l c w hk (fun b hb => (hold_other hb).symm) (fun o e => by rw [q.1] at e; cases e) q.2⟩

inductive ForI (C : Cx) (env : Env) (nm : List Str) (B P : Fz) (I : Addr) (f : List V → St → Option (St × Fl)) (r : St × Fl) (s : Shared) : Nat → Shared → Prop
  | mk {P' : Fz} {h' : Heap} {tk : Nat} {ow' : Nat → Addr} {σ1 : St} {its : List V} (g : GrowB B P P' h') (R : RepW C env nm (hold B I (h'.get? I)) P' σ1 h' ow') (p : P' I = none) (hI : ItR C P' h' I its) (e : f its σ1 = some r) :
      ForI C env nm B P I f r s its.length { s with heap := h', toks := tk }

theorem DX_for {target iter : PySem.Expr} {body : List Stmt} {pos : Pos} {fi : St → Option (List V)} {st : V → St → Option St} {g : St → Option (St × Fl)} (hfold : ∀ env x, foldedSetIterable iter env x = pure x)
    (hi : DI C sc nm lv iter fi) (ht : DTg C sc nm lv target st) (hb : DS C sc nm lv body g) :
    DX C sc nm lv (.For target iter body [] pos) (fun σ => (fi σ).bind fun items => forF st g items σ) := by
  intro A E env B P σ s ow σ' fl Q hA hs R hf k
  obtain ⟨items, hit, hf⟩ := bind_some hf
  refine wpAny_For (hi A E env P σ s items _ hA hs R.toE hit fun P1 h1 tk1 I g1 hI1 pI1 sI => ?_) (hfold env)
  have bI := R.fresh sI
  refine codeAny_forLoop_any (ForI C env nm B P I (forF st g) (σ', fl) s) ?_ _ (ForI.mk (h' := h1) (tk := tk1) (GrowB.ofGrow R.bsub g1) (R.hold1 sI g1 pI1) pI1 hI1 hf)
  rintro _ _ ⟨g2, R2, pI2, hI2, hf2⟩
  rename_i P2 h2 tk2 ow2 σ2 its
  obtain ⟨oi, hoi⟩ := hI2.obj
  cases its with
  | nil =>
    cases hf2
    exact next_nil hA.handled R2.sub pI2 hI2 fun h3 hb3 => wpAny_execs_nil (by
      have R3 := (R2.held hoi bI pI2 fun b o hb e => hb3 b o hb e).2
      exact k P2 h3 tk2 ow2 _ ⟨g2.le, R3.sub, R3.bsub, g2.new⟩ R3 rfl)
  | cons v its =>
    obtain ⟨σ3, hst, hf2⟩ := bind_some hf2
    obtain ⟨⟨σ4, fl4⟩, e4, hf2⟩ := bind_some hf2
    refine next_cons R2.sub pI2 hI2 fun h3 tk3 x hb3 hx hI3 => ?_
    refine ht A _ env _ P2 σ2 { s with heap := h3, toks := tk3 } ow2 σ3 v x I _ hA hs (R2.held hoi bI pI2 fun b o hne e => hb3.extBut b o hne e).1 hx hst ⟨_, hI3⟩ (fun o e => hold_self.trans e) fun h4 tk4 ow4 g4 R4 => ?_
    obtain ⟨oi3, hoi3⟩ := hI3.obj
    refine hb A _ env _ P2 σ3 { s with heap := h4, toks := tk4 } ow4 σ4 fl4 _ hA hs R4 e4 fun P5 h5 tk5 ow5 w5 g5 R5 hw5 => ?_
    have pI5 := g5.stay (hold_self.trans hoi3) pI2
    have g5' := g2.unhold bI.1 g5
    obtain ⟨R7, R6⟩ := R5.held hoi3 bI pI5 fun b o zz e => e
    have again : forF st g its σ4 = some (σ', fl) → ∃ m, m < (v :: its).length ∧ ForI C env nm B P I (forF st g) (σ', fl) s m { s with heap := h5, toks := tk5 } := fun e =>
      ⟨_, Nat.lt_succ_self _, g5', R7, pI5, hI3.mono g5.le fun o e => by rw [hoi3] at e; cases e; exact R5.bsub I oi3 (hold_self.trans hoi3), e⟩
    cases fl4 with
    | next => cases hw5; exact again hf2
    | cont => cases hw5; exact again hf2
    | brk => cases hw5; cases hf2; exact k P5 h5 tk5 ow5 _ g5' R6 rfl
    | ret v =>
      obtain ⟨y, rfl, hy⟩ := hw5
      cases hf2
      exact k P5 h5 tk5 ow5 _ g5' R6 ⟨y, rfl, hy⟩
end
end Lw

namespace Lw
open PySem PySem.Calls PyProof.Rows
set_option maxRecDepth 10000

section
variable {C : Cx} {sc : Scope} {nm : List Str} {lv : Nat}

theorem DX_assignC {elt iter : PySem.Expr} {x y : Str} {px py pos spos : Pos} {ifs : List PySem.Expr} {rest : List Comprehension} {scope : Scope} {cap : List Bool} {W : BodyW} {fi : St → Option (List V)} {t : St → Option Bool} {g : St → Option (List V)}
    (i : Nat) (hn : nm[i]? = some y)
    (O : CompOK sc scope nm cap x) (hfold : ∀ env x, foldedSetIterable iter env x = pure x) (L : LoopRule C (.ListComp elt (⟨.Name x px, iter, ifs, 0⟩ :: rest) scope pos) 0 (.Name x px) ifs W)
    (hsw : ∀ env, env.scope = sc → swapsWith (.ListComp elt (⟨.Name x px, iter, ifs, 0⟩ :: rest) scope pos) (some (.Name y py)) spos.line env = pure true)
    (hi : DI C sc nm lv iter fi) (ht : DIfs C (relab scope sc) (x :: nm) lv ifs t) (hg : DY C (relab scope sc) nm [x] lv W g) :
    DX C sc nm lv (.Assign [.Name y py] (.ListComp elt (⟨.Name x px, iter, ifs, 0⟩ :: rest) scope pos) spos) (fun σ => (fi σ).bind fun items =>
      (loopL (fun v => t (some (.frz v) :: maskS cap σ)) (fun v => g (some (.frz v) :: maskS cap σ)) items).bind fun vs => if vs.length ≤ lim then some (σ.set i (some (.ownL vs)), .next) else none) := by
  intro A E env B P σ s ow σ' fl Q hA hs R hf k
  obtain ⟨items, hit, hf⟩ := bind_some hf
  obtain ⟨vs', hv, hf⟩ := bind_some hf
  split at hf
  · rename_i hlen
    cases hf
    obtain ⟨cl, ecl, c1, c2⟩ := closure_of (env := env) (scope := scope) R.st.cells (by rw [hs]; exact O.free)
    rw [exec_Assign_Name_used _ _ _ _ (hsw env hs)]
    refine wpAny_bind (wpAny_standAt (wpAny_bind ?_))
    show wpAny _ A (do let _ ← comprehension (.ListComp elt (⟨.Name x px, iter, ifs, 0⟩ :: rest) scope pos) scope env _ (newList []) false (eval iter env) (some (assign (.Name y py) env))) _ _ s
    refine wpAny_bind (wpAny_mono (wpAny_comprehension_free (use := some (assign (.Name y py) env)) (Q := fun zz s' => Q .next s') rfl (hfold env) ecl O.kind O.locals (hi A E env P σ s items _ hA hs R.toE hit fun P1 h1 tk1 I g1 hI pI sI => ?_))
      (fun zz s' hq => wpAny_pure (wpAny_pure hq)) fun zz zz e => e)
    refine comp_core (RR := fun acc C' => compPost C.M A E (some (assign (.Name y py) env)) (fun zz s' => Q .next s') acc C') O L ht hg hA hs R.toE g1 hI pI sI c1 c2 hv hlen fun P' h' tk m' D L ys n g' pL pD sD sL hDL hnL hacc hx => ?_
    show wpAny _ A (assign (.Name y py) env (.ref D)) _ _ _
    have bL := R.fresh sL
    obtain ⟨oL, _, _, hoL, _⟩ := id hnL
    have N' : NewIn C env nm (hold B L (h'.get? L)) P' σ h' ow i (.ownL vs') (.ref D) := by
      cases new_own (sl := .ownL vs') (i := i) R g' pD sD rfl ⟨ys, n, hacc, hx⟩ with
      | own a1 a2 a3 a4 a5 a6 a7 => exact .own a1 a2 ((hold_other hDL).trans a3) a4 a5 a6 a7
    refine wpAny_assign_Name (wp_store (s := { s with heap := h', toks := tk }) (R.hold1 sL g' pL) hn N' fun h2 tk2 ow2 g2 R2 zz => ?_)
    have hoL2 : h2.get? L = some oL := R2.bsub L oL (hold_self.trans hoL)
    refine ⟨m', hnL.at' fun o e => by rw [hoL] at e; cases e; exact hoL2, fun h3 hb3 => ?_⟩
    have R3 := (R2.held hoL bL pL fun b o hne e => hb3.extBut b o hne e).2
    exact k P' h3 tk2 ow2 _ ⟨g'.le, R3.sub, R3.bsub, (GrowB.ofGrow R.bsub g').new⟩ R3 rfl
  · cases hf
end
end Lw

namespace Lw
open PySem PySem.Calls PyProof.Rows
set_option maxRecDepth 10000

theorem VRs.set {prog : Program} {w : World} {P : Fz} {vs : List V} {xs : List Value} {v : V} {x : Value} (h : VRs prog w P vs xs) (hx : VR prog w P v x) : ∀ i : Nat, VRs prog w P (vs.set i v) (xs.set i x) := by
  induction vs generalizing xs with
  | nil => cases h; intro i; exact .nil
  | cons u r ih =>
    cases h with
    | cons h1 h2 =>
      intro i
      cases i with
      | zero => exact .cons hx h2
      | succ i => exact .cons h1 (ih h2 i)

section
variable {C : Cx} {sc : Scope} {nm : List Str} {lv : Nat}

/-- two names take two values, in order -/
theorem two_stores {A : Around} {E : Value → Shared → Prop} {env : Env} {B P : Fz} {σ : St} {s : Shared} {ow : Nat → Addr} {i j : Nat} {n n' : Str} {v v' : V} {x x' : Value} {Q : Unit → Shared → Prop}
    (f g : Value → Sem Unit) (hf : ∀ (s : Shared) (x : Value) (Q : Unit → Shared → Prop), wpAny C.M A (storeName env n x) Q E s → wpAny C.M A (f x) Q E s) (hg : ∀ (s : Shared) (x : Value) (Q : Unit → Shared → Prop), wpAny C.M A (storeName env n' x) Q E s → wpAny C.M A (g x) Q E s)
    (R : RepW C env nm B P σ s.heap ow) (hn : nm[i]? = some n) (hn' : nm[j]? = some n') (hx : C.VR P v x) (hx' : C.VR P v' x')
    (k : ∀ h' tk ow', GrowB B P P h' → RepW C env nm B P (setF j v' (setF i v σ)) h' ow' → Q () { s with heap := h', toks := tk }) : wpAny C.M A (assignInOrder [f, g] [x, x']) Q E s := by
  show wpAny C.M A (do holding [x'] (f x); assignInOrder [g] [x']) Q E s
  refine wpAny_bind (wpAny_holding (hf _ _ _ (wp_store R hn (.frz hx) fun h2 tk2 ow2 g2 R2 zz => ?_)))
  show wpAny C.M A (do holding [] (g x'); assignInOrder [] []) Q E _
  refine wpAny_bind (wpAny_holding (hg _ _ _ (wp_store (s := { s with heap := h2, toks := tk2 }) R2 hn' (.frz hx') fun h3 tk3 ow3 g3 R3 zz => ?_)))
  exact wpAny_pure (k h3 tk3 ow3 (g2.trans g3) R3)

theorem grow_extBut {P P1 : Fz} {s h1 h3 : Heap} {o : Obj} (g1 : Grow P s P1 h1) (hb : Heap.ExtBut (h1.push o).objs.size (h1.push o) h3) : Grow P s P1 h3 := by
  have ne : ∀ b o', h1.get? b = some o' → b ≠ (h1.push o).objs.size := fun b o' e => by
    rintro rfl
    have := Heap.lt_size e
    rw [Heap.size_push] at this
    exact Nat.lt_irrefl _ (Nat.lt_of_succ_lt this)
  exact ⟨g1.le, fun b o' e => hb b o' (ne b o' (g1.sub _ _ e)) (Heap.get?_push_of_some _ (g1.sub _ _ e)), fun b o' e => hb b o' (ne b o' (g1.keep _ _ e)) (Heap.get?_push_of_some _ (g1.keep _ _ e)), g1.new⟩
noncomputable def pairF (i j : Nat) : V → St → Option St
  | .list [a, b], σ => some (setF j b (setF i a σ))
  | _, _ => none
theorem isTup_push {h : Heap} {xs : Array Value} : IsTup (h.push { cls := .type "tuple", data := .seq xs }) h.objs.size xs := ⟨_, Heap.get?_push_size _ rfl, rfl, _, rfl⟩

noncomputable def divmodV : V → V → Option (Int × Int)
  | .int a, .int b => if 0 ≤ a ∧ a.toNat < 1000000000 ∧ 0 < b ∧ b < 1000 then some (a / b, a % b) else none
  | _, _ => none

theorem divmodV_inv {a b : V} {q : Int × Int} (h : divmodV a b = some q) : ∃ a' b' : Int, a = .int a' ∧ b = .int b' ∧ (0 ≤ a' ∧ a'.toNat < 1000000000 ∧ 0 < b' ∧ b' < 1000) ∧ q = (a' / b', a' % b') := by
  unfold divmodV at h
  split at h
  · split at h
    · cases h; exact ⟨_, _, rfl, rfl, ‹_›, rfl⟩
    · cases h
  · cases h

theorem DX_divmod {n n' : Str} {p1 p2 tp np cp pos : Pos} {kk : Nat} {e1 e2 : PySem.Expr} {f g : St → Option V} (i j : Nat) (hn : nm[i]? = some n) (hn' : nm[j]? = some n') (hgl : C.glob (Str.ofString "divmod") (.builtin "divmod")) (hk : sc.names.lookup (Str.ofString "divmod") = some .globalImplicit)
    (h1 : DE C sc nm lv e1 f) (h2 : DE C sc nm lv e2 g) (s1 : PySem.W.isStarred e1 = false) (s2 : PySem.W.isStarred e2 = false) :
    DX C sc nm lv (.Assign [.Tuple [.Name n p1, .Name n' p2] kk tp] (.Call (.Name (Str.ofString "divmod") np) [e1, e2] [] cp) pos) (fun σ => (f σ).bind fun a => (g σ).bind fun b => (divmodV a b).map fun q => (setF j (.int q.2) (setF i (.int q.1) σ), .next)) := by
  intro A E env B P σ s ow σ' fl Q hA hs R hf k
  obtain ⟨a, ha, hf⟩ := bind_some hf
  obtain ⟨b, hb, hf⟩ := bind_some hf
  obtain ⟨q, hq, e⟩ := Option.map_eq_some_iff.mp hf
  cases e
  obtain ⟨a, b, rfl, rfl, hab, rfl⟩ := divmodV_inv hq
  have hargs : DEs C sc nm lv [e1, e2] _ := DEs_cons h1 (DEs_cons h2 DEs_nil s2) s1
  refine PyProof.Rows.Assign_Tuple (wp_callG hgl hk (by decide +kernel) trivial (by simp) hargs hA hs R.toE (vs := [.int a, .int b]) (by simp [ha, hb]) fun P1 h1 tk1 xs g1 hx => ?_)
  obtain ⟨x, y, rfl, hx1, hx2⟩ := hx.two
  obtain ⟨_, rfl⟩ := hx1.inv; obtain ⟨_, rfl⟩ := hx2.inv
  refine divmod_int (by omega) ?_ (.inl ?_)
  · have ⟨g2, _, _⟩ := grow_push g1 { cls := .type "tuple", data := .seq #[.int (a.fdiv b) tk1, .int (a.fmod b) (tk1 + 1)] }
    refine assign_Tuple_tuple hA.handled isTup_push rfl rfl fun h3 hb3 => ?_
    have g3 : Grow P s.heap P1 h3 := grow_extBut g1 hb3
    refine two_stores (s := { s with heap := h3, toks := tk1 + 1 + 1 }) (assign (.Name n p1) env) (assign (.Name n' p2) env) (fun zz zz zz h => wpAny_assign_Name h) (fun zz zz zz h => wpAny_assign_Name h) (R.grow g3) hn hn' (v := .int (a / b)) (v' := .int (a % b)) ?_ ?_ fun h4 tk4 ow4 g4 R4 => ?_
    · rw [Int.fdiv_eq_ediv_of_nonneg _ (by omega)]; exact .int _ _
    · rw [Int.fmod_eq_emod_of_nonneg _ (by omega)]; exact .int _ _
    · exact k P1 h4 tk4 ow4 _ ((GrowB.ofGrow R.bsub g3).trans g4) R4 rfl
  · exact PyProof.noPylong_small (by omega)

theorem DX_swap {n n' : Str} {p1 p2 p3 p4 tp vp pos : Pos} {kk kk' : Nat} (i j : Nat) (hn : nm[i]? = some n) (hn' : nm[j]? = some n') (hd : (n == ("__debug__" : Str)) = false) (hd' : (n' == ("__debug__" : Str)) = false)
    (hw : ∀ env, env.scope = sc → swappedStores [.Tuple [.Name n p1, .Name n' p2] kk tp] (.Tuple [.Name n' p3, .Name n p4] kk' vp) env = pure (some [n, n'])) :
    DX C sc nm lv (.Assign [.Tuple [.Name n p1, .Name n' p2] kk tp] (.Tuple [.Name n' p3, .Name n p4] kk' vp) pos) (fun σ => (getF σ j).bind fun a => (getF σ i).map fun b => (setF i a (setF j b σ), .next)) := by
  intro A E env B P σ s ow σ' fl Q hA hs R hf k
  obtain ⟨a, ha, hf⟩ := bind_some hf
  obtain ⟨b, hb, e⟩ := Option.map_eq_some_iff.mp hf
  cases e
  have hargs : DEs C sc nm lv [.Name n' p3, .Name n p4] _ := DEs_cons (DE_var j hn' hd') (DEs_cons (DE_var i hn hd) DEs_nil rfl) rfl
  refine PyProof.Rows.Assign_Tuple_swapped (wpAny_Tuple_spliced ((hargs A E env P σ s [a, b] vp _ hA hs R.toE (by simp [ha, hb]) fun P1 h1 tk1 xs g1 hx => ?_).1)) rfl (hw env hs)
  obtain ⟨x, y, rfl, hx1, hx2⟩ := hx.two
  refine ⟨by rw [sizeLine_eq]; simp, ?_⟩
  have ⟨g2, _, _⟩ := grow_push g1 { cls := .type "tuple", data := .seq #[x, y] }
  refine unpackItems_tuple (items := #[x, y]) hA.handled isTup_push fun h3 hb3 => ?_
  have g3 : Grow P s.heap P1 h3 := grow_extBut g1 hb3
  refine two_stores (s := { s with heap := h3, toks := tk1 }) (bindName env n') (bindName env n) (fun zz zz zz h => bindName_ h) (fun zz zz zz h => bindName_ h) (R.grow g3) hn' hn (x := y) (x' := x) (v := b) (v' := a) hx2 hx1 fun h4 tk4 ow4 g4 R4 => ?_
  exact k P1 h4 tk4 ow4 _ ((GrowB.ofGrow R.bsub g3).trans g4) R4 rfl

theorem same_keep {a : Addr} {h h' : Heap} (hb : Heap.SameBut a h h') : ∀ b o, b ≠ a → h.get? b = some o → h'.get? b = some o := fun b o hne e => hb.extBut b o hne e

theorem RepW.ownL {env : Env} {B P : Fz} {σ : St} {h : Heap} {ow : Nat → Addr} (R : RepW C env nm B P σ h ow) {i : Nat} {n : Str} {vs : List V} (hn : nm[i]? = some n) (hv : getO σ i = some vs) :
    At env h n (.ref (ow i)) ∧ ∃ xs m, h.get? (ow i) = some (lobj xs m) ∧ C.VRs P vs xs :=
  R.own i n (.ownL vs) hn (getO_some hv) rfl

theorem setItem_own {A : Around} {E : Value → Shared → Prop} {s : Shared} {l : Addr} {xs : List Value} {m : Nat} {q : Int} {t : Tok} {v : Value} {Q : Unit → Shared → Prop} (ho : s.heap.get? l = some (lobj xs m)) (h0 : 0 ≤ q) (hq : q < 1000000) (hn : q < xs.length)
    (k : ∀ h' m', h'.get? l = some (lobj (xs.set q.toNat v) m') → Heap.SameBut l s.heap h' → Q () { s with heap := h' }) : wpAny C.M A (setItem (.ref l) (.int q t) v) Q E s := by
  have hT : s.TypeIs (.ref l) "list" := ⟨_, ho, rfl⟩
  unfold setItem
  try with_reducible refine wpAny_holding ?_
  first | refine wpAny_bind (wpAny_pure ?_) | skip
  refine wpAny_bind (wpAny_sequenceKey hT (by decide) ?_)
  refine wpAny_bind (wpAny_callSpecial?_slot (name := Str.ofString "__setitem__") hT slot_list_setitem (wpAny_call_entry slot_list_setitem hT entry_list_setitem ?_ (args_list_setitem _ _ _)))
  show wpAny _ _ (Builtin.List.listSubscript? (.int q t) >>= _) _ _ s
  refine wpAny_bind (wpAny_listSubscript_int (fitsIndex_of h0 (by (first | lia | omega))) ?_)
  obtain ⟨j, rfl⟩ := Int.eq_ofNat_of_zero_le h0
  have hj : xs.toArray[j]? = some (xs.toArray[j]'(by simp; (first | lia | omega))) := Array.getElem?_eq_getElem _
  show wpAny _ _ ((seqItemAt l j >>= fun r => pure (r.map (j, ·))) >>= _) _ _ s
  refine wpAny_bind (wpAny_bind (wpAny_seqItemAt ho rfl (wpAny_pure ?_)))
  rw [hj]
  show wpAny _ _ (setSeqItemAt l j v >>= _) _ _ s
  have fin : (s.heap.update l (Obj.mapSeq (·.setIfInBounds j v))).get? l = some (lobj (xs.set j v) m) := by
    rw [Heap.get?_update_self _ ho (by rfl)]
    simp [Obj.mapSeq]
  refine wpAny_bind (wpAny_setSeqItemAt ho rfl ?_)
  have kk := k _ _ fin (Heap.SameBut.update ..)
  first
    | exact wpAny_bind (wpAny_pure (wpAny_pure ⟨.none, rfl, wpAny_pure kk⟩))
    | exact wpAny_pure ⟨.none, rfl, wpAny_pure kk⟩

noncomputable def setLV : List V → V → V → Option (List V)
  | xs, .int q, v => if 0 ≤ q ∧ q.toNat < xs.length ∧ q.toNat < 1000000 then some (xs.set q.toNat v) else none
  | _, _, _ => none
theorem setLV_inv {xs ys : List V} {i v : V} (h : setLV xs i v = some ys) : ∃ q, i = .int q ∧ 0 ≤ q ∧ q.toNat < xs.length ∧ q.toNat < 1000000 ∧ ys = xs.set q.toNat v := by
  unfold setLV at h
  split at h
  · split at h
    · rename_i hq; cases h; exact ⟨_, rfl, hq.1, hq.2.1, hq.2.2, rfl⟩
    · cases h
  · cases h
/-- x[i] = v, of a list of one's own -/
theorem DX_setL {n : Str} {np tp pos : Pos} {ix value : PySem.Expr} {f g : St → Option V} (i : Nat) (hn : nm[i]? = some n) (hd : (n == ("__debug__" : Str)) = false) (hv : DE C sc nm lv value f) (hix : DE C sc nm lv ix g)
    (hsw : ∀ env, swapsWith value (some (.Subscript (.Name n np) ix tp)) pos.line env = pure false) :
    DX C sc nm lv (.Assign [.Subscript (.Name n np) ix tp] value pos) (fun σ => (f σ).bind fun v => (g σ).bind fun iv => (getO σ i).bind fun xs => (setLV xs iv v).map fun ys => (σ.set i (some (.ownL ys)), .next)) := by
  intro A E env B P σ s ow σ' fl Q hA hs R hf k
  obtain ⟨v, hfv, hf⟩ := bind_some hf
  obtain ⟨iv, hiv, hf⟩ := bind_some hf
  obtain ⟨us, hus, hf⟩ := bind_some hf
  obtain ⟨ys, hys, e⟩ := Option.map_eq_some_iff.mp hf
  obtain ⟨q, rfl, hq1, hq2, hq3, rfl⟩ := setLV_inv hys
  cases e
  · ·
      refine wpAny_Assign_Subscript (hv A E env P σ s v _ hA hs R.toE hfv fun P1 h1 tk1 x g1 hx => ?_) (hsw env)
      have R1 := R.grow g1
      obtain ⟨a1, xs, m, a2, a3⟩ := R1.ownL hn hus
      refine wpAny_Name (wp_at (s := { s with heap := h1, toks := tk1 }) R.st.fn a1 ?_) hd
      refine hix A E env P1 σ { s with heap := h1, toks := tk1 } _ _ hA hs R1.toE hiv fun P2 h2 tk2 y g2 hy => ?_
      obtain ⟨_, rfl⟩ := hy.inv
      have R2 := R1.grow g2
      obtain ⟨_, xs2, m2, a4, a5⟩ := R2.ownL hn hus
      have hlen := a5.length
      refine setItem_own a4 hq1 (by (first | lia | omega)) (by (first | lia | omega)) fun h3 m3 ho3 hb3 => ?_
      have hx2 := VR.mono g2.le hx
      have g12 := GrowB.ofGrow R.bsub (g1.trans g2)
      have R3 : RepW C env nm B P2 (σ.set i (some (.ownL (us.set q.toNat v)))) h3 ow := R2.change hn (getO_some hus) rfl rfl (same_keep hb3) ⟨_, _, ho3, VRs.set a5 hx2 _⟩
      exact k P2 h3 tk2 ow _ ⟨g12.le, R3.sub, R3.bsub, g12.new⟩ R3 rfl
end
end Lw

namespace Lw
open PySem PySem.Calls PyProof.Rows
set_option maxRecDepth 10000

section
variable {C : Cx} {sc : Scope} {nm : List Str} {lv : Nat}

theorem wp_method {o : PySem.Expr} {name : Str} {apos pos : Pos} {args : List PySem.Expr} {T id : String} {f : St → Option (List V)} {O : Fz → Heap → Value → Prop} {A : Around} {E : Value → Shared → Prop} {env : Env} {P : Fz} {σ : St} {s : Shared} {vs : List V} {Q : Value → Shared → Prop}
    (hbase : attributeBase o name env (eval o env) = eval o env) (hfew : ((backTo pos (starEach args env)).all (fun x => !x.1) && (backToKw pos (keywordEach [] env)).all (fun x => x.1.isSome) && decide (args.length + ([] : List Keyword).length + (if ([] : List Keyword).isEmpty then 0 else 1) < 30)) = true)
    (hline : (apos.endLine == pos.line) = true) (pa : PlainAttrs T) (slot : PySem.Slot T name id) (hty : typeOf (.builtin id) = pure (.type "method_descriptor")) (hne : args ≠ []) (ha : DEs C sc nm lv args f) (hA : AOk A lv) (hs : env.scope = sc) (R : RepE C env nm P σ s.heap) (hvs : f σ = some vs)
    (hobj : ∀ Q' : Value → Shared → Prop, (∀ P1 h1 tk1 ov, Grow P s.heap P1 h1 → Shared.TypeIs { s with heap := h1, toks := tk1 } ov T → (∀ a, ov = .ref a → ∃ ob, h1.get? a = some ob ∧ ob.dict = none) → O P1 h1 ov → Q' ov { s with heap := h1, toks := tk1 }) → wpAny C.M A (eval o env) Q' E s)
    (k : ∀ P1 h1 ov P2 h2 tk2 xs, O P1 h1 ov → Grow P s.heap P1 h1 → Grow P1 h1 P2 h2 → C.VRs P2 vs xs → wpAny C.M A (call (.builtin id) (ov :: xs)) Q E { s with heap := h2, toks := tk2 }) :
    wpAny C.M A (eval (.Call (.Attribute o name apos) args [] pos) env) Q E s := by
  refine wpAny_Call_method hbase hfew hline pa slot hty (hobj _ fun P1 h1 tk1 ov g1 hT hd hO => ⟨hT, hd, ?_⟩)
  obtain ⟨q1, q2, q3⟩ := ha A E env P1 σ { s with heap := h1, toks := tk1 } vs pos (fun xs s₁ => wpAny C.M A (call (.builtin id) (ov :: xs)) Q E s₁) hA hs (R.grow g1) hvs fun P2 h2 tk2 xs g2 hxs => k P1 h1 ov P2 h2 tk2 xs hO g1 g2 hxs
  obtain ⟨t, r, e⟩ := q3 hne
  rw [e] at q1 q2 ⊢
  exact callWith_builtin q2 (evalArgs_plain (wpAny_mono q1 (fun zz zz x => by simpa using x) fun zz zz x => x))

theorem wp_method0 {o : PySem.Expr} {name : Str} {apos pos : Pos} {T id : String} {O : Fz → Heap → Value → Prop} {A : Around} {E : Value → Shared → Prop} {env : Env} {P : Fz} {s : Shared} {Q : Value → Shared → Prop}
    (hbase : attributeBase o name env (eval o env) = eval o env)
    (hline : (apos.endLine == pos.line) = true) (pa : PlainAttrs T) (slot : PySem.Slot T name id) (hty : typeOf (.builtin id) = pure (.type "method_descriptor"))
    (hobj : ∀ Q' : Value → Shared → Prop, (∀ P1 h1 tk1 ov, Grow P s.heap P1 h1 → Shared.TypeIs { s with heap := h1, toks := tk1 } ov T → (∀ a, ov = .ref a → ∃ ob, h1.get? a = some ob ∧ ob.dict = none) → O P1 h1 ov → Q' ov { s with heap := h1, toks := tk1 }) → wpAny C.M A (eval o env) Q' E s)
    (k : ∀ P1 h1 tk1 ov, O P1 h1 ov → Grow P s.heap P1 h1 → wpAny C.M A (call (.builtin id) [ov]) Q E { s with heap := h1, toks := tk1 }) :
    wpAny C.M A (eval (.Call (.Attribute o name apos) [] [] pos) env) Q E s := by
  refine wpAny_Call_method hbase (by rfl) hline pa slot hty (hobj _ fun P1 h1 tk1 ov g1 hT hd hO => ⟨hT, hd, ?_⟩)
  show wpAny C.M A (callWith pos (.builtin id) [ov] [] []) Q E _
  exact callWith_builtin rfl (PySem.evalArgs_none (k P1 h1 tk1 ov hO g1))

theorem not_interactive {env : Env} (h : env.scope.kind = .function) : interactive env = false := by unfold interactive; rw [h]; rfl

/-- x.append(v), of a list of one's own -/
theorem DX_append {n : Str} {np apos cpos pos : Pos} {e : PySem.Expr} {f : St → Option V} (i : Nat) (hn : nm[i]? = some n) (hd : (n == ("__debug__" : Str)) = false) (he : DE C sc nm lv e f) (hst : PySem.W.isStarred e = false) (hline : (apos.endLine == cpos.line) = true) :
    DX C sc nm lv (.Expr (.Call (.Attribute (.Name n np) (Str.ofString "append") apos) [e] [] cpos) pos) (fun σ => (getO σ i).bind fun xs => (f σ).bind fun v => if xs.length < lim then some (σ.set i (some (.ownL (xs ++ [v]))), .next) else none) := by
  intro A E env B P σ s ow σ' fl Q hA hs R hf k
  obtain ⟨us, hus, hf⟩ := bind_some hf
  obtain ⟨v, hv, hf⟩ := bind_some hf
  split at hf
  · rename_i hlen
    cases hf
    obtain ⟨a1, xs0, m0, a2, a3⟩ := R.ownL hn hus
    refine wpAny_Expr (wp_method (O := fun P1 h1 ov => P1 = P ∧ h1 = s.heap ∧ ov = .ref (ow i)) rfl (by rw [star_plain hst]; rfl) hline F.plainAttrs_list F.slot_list_append F.type_list_append (by simp) (DEs_cons he DEs_nil hst) hA hs R.toE (vs := [v]) (by simp [hv])
      (fun Q' kq => wpAny_Name (wp_at R.st.fn a1 (kq P s.heap s.toks _ (Grow.refl R.sub) ⟨_, a2, rfl⟩ (fun a e => by cases e; exact ⟨_, a2, rfl⟩) ⟨rfl, rfl, rfl⟩)) hd) ?_) (not_interactive R.st.fn)
    rintro P1 h1 ov P2 h2 tk2 ys ⟨rfl, rfl, rfl⟩ _ g2 hx
    obtain ⟨x, rfl, hx1⟩ := hx.one
    have R2 := R.grow g2
    obtain ⟨_, xs, m, a4, a5⟩ := R2.ownL hn hus
    have hl := a5.length
    unfold lim at hlen
    refine wpAny_list_append_plain (items := xs.toArray) ⟨m, a4⟩ (fun h3 hp hb => ?_) (by simp only [List.size_toArray]; rw [sizeLine_eq]; (first | lia | omega))
    obtain ⟨m3, hp⟩ := hp
    have g12 := GrowB.ofGrow R.bsub g2
    have R3 : RepW C env nm B P2 (σ.set i (some (.ownL (us ++ [v])))) h3 ow := R2.change hn (getO_some hus) rfl rfl (same_keep hb) ⟨xs ++ [x], m3, by simpa using hp, a5.snoc hx1⟩
    exact k P2 h3 tk2 ow _ ⟨g12.le, R3.sub, R3.bsub, g12.new⟩ R3 rfl
  · cases hf

/-- the dict of ints -/
noncomputable def getD (σ : St) (i : Nat) : Option (List (Int × V)) := match σ[i]? with
  | some (some (.ownD vs)) => some vs
  | _ => none
theorem getD_some {σ : St} {i : Nat} {v : List (Int × V)} (h : getD σ i = some v) : σ[i]? = some (some (.ownD v)) := by
  unfold getD at h
  split at h
  · cases h; assumption
  · cases h
theorem RepW.ownD {env : Env} {B P : Fz} {σ : St} {h : Heap} {ow : Nat → Addr} (R : RepW C env nm B P σ h ow) {i : Nat} {n : Str} {vs : List (Int × V)} (hn : nm[i]? = some n) (hv : getD σ i = some vs) :
    At env h n (.ref (ow i)) ∧ (ow i == sysModules) = false ∧ ∃ o kxs, h.get? (ow i) = some o ∧ o.IsDictOf (intKind C.prog C.w) kxs ∧ C.DRs P vs kxs :=
  R.own i n (.ownD vs) hn (getD_some hv) rfl

theorem fresh_notSys {h : Heap} (hb : ∀ b o, C.h₀.get? b = some o → h.get? b = some o) : (h.objs.size == sysModules) = false := by
  have h1 : mainGlobals < C.h₀.objs.size := C.g.lt
  have h2 : h.get? mainGlobals ≠ none := by
    obtain ⟨o, _, _, ho, _⟩ := C.g
    rw [hb _ _ ho]; simp
  have h3 : mainGlobals < h.objs.size := by
    cases hq : h.get? mainGlobals with
    | none => exact absurd hq h2
    | some o => exact Heap.lt_size hq
  have h4 : h.objs.size ≠ sysModules := by
    intro e
    rw [e] at h3
    exact absurd h3 (by decide)
  simpa using h4

theorem DX_newD {n : Str} {px dp pos : Pos} (i : Nat) (hn : nm[i]? = some n) : DX C sc nm lv (.Assign [.Name n px] (.Dict [] [] dp) pos) (fun σ => some (σ.set i (some (.ownD [])), .next)) := by
  intro A E env B P σ s ow σ' fl Q hA hs R hf k
  cases hf
  obtain ⟨g1, p1, s1⟩ := grow_push (Grow.refl (P := P) (h := s.heap) R.sub) { cls := .type "dict", data := .dict #[] }
  refine wpAny_Assign_Name (wpAny_Dict_empty ?_)
  obtain ⟨o, ho, hd⟩ := Heap.dictOf_iff.mp (Heap.DictOf.new (knd := intKind C.prog C.w) s.heap)
  refine wp_store (s := { s with heap := s.heap.push { cls := .type "dict", data := .dict #[] } }) (R.grow g1) hn (new_own (sl := .ownD []) R g1 p1 s1 rfl ⟨fresh_notSys R.toE.base, o, [], ho, hd, .nil⟩) fun h2 tk2 ow2 g2 R2 zz => ?_
  exact k P h2 tk2 ow2 _ ((GrowB.ofGrow R.bsub g1).trans g2) R2 rfl

/-- a dict's store -/
noncomputable def storeD : List (Int × V) → Int → V → List (Int × V)
  | [], k, v => [(k, v)]
  | (k', u) :: r, k, v => if k' = k then (k', v) :: r else (k', u) :: storeD r k v
noncomputable def lookD : List (Int × V) → Int → Option V
  | [], _ => none
  | (k', u) :: r, k => if k' = k then some u else lookD r k

theorem DRs.nil_inv {prog : Program} {w : World} {P : Fz} {xs : List (Int × Value)} (h : DRs prog w P [] xs) : xs = [] := by cases h; rfl
theorem DRs.cons_inv {prog : Program} {w : World} {P : Fz} {p : Int × V} {r : List (Int × V)} {xs : List (Int × Value)} (h : DRs prog w P (p :: r) xs) : ∃ x r', xs = (p.1, x) :: r' ∧ VR prog w P p.2 x ∧ DRs prog w P r r' := by
  cases h with
  | cons h1 h2 => exact ⟨_, _, rfl, h1, h2⟩
theorem DRs.keys {prog : Program} {w : World} {P : Fz} {vs : List (Int × V)} {xs : List (Int × Value)} (h : DRs prog w P vs xs) : xs.map (·.1) = vs.map (·.1) := by
  induction vs generalizing xs with
  | nil => obtain rfl := h.nil_inv; rfl
  | cons p r ih =>
    obtain ⟨x, r', rfl, _, h2⟩ := h.cons_inv
    rw [List.map_cons, List.map_cons, ih h2]
theorem DRs.length {prog : Program} {w : World} {P : Fz} {vs : List (Int × V)} {xs : List (Int × Value)} (h : DRs prog w P vs xs) : vs.length = xs.length := by
  have := congrArg List.length h.keys
  rw [List.length_map, List.length_map] at this
  exact this.symm
theorem map_absent {K : Type} [DecidableEq K] {r : List (K × Value)} {k : K} {x : Value} (h : k ∉ r.map (·.1)) : r.map (fun kv => if kv.1 = k then (kv.1, x) else kv) = r := by
  induction r with
  | nil => rfl
  | cons p r ih =>
    simp only [List.map_cons, List.mem_cons, not_or] at h ⊢
    rw [ih h.2, if_neg (Ne.symm h.1)]
theorem DRs.store {prog : Program} {w : World} {P : Fz} {k : Int} {v : V} {x : Value} (hx : VR prog w P v x) {vs : List (Int × V)} : ∀ {xs : List (Int × Value)}, (vs.map (·.1)).Nodup → DRs prog w P vs xs → DRs prog w P (storeD vs k v) (stored xs k x) := by
  induction vs with
  | nil => intro xs _ h; obtain rfl := h.nil_inv; exact .cons hx .nil
  | cons p r ih =>
    intro xs hnd h
    obtain ⟨k', u⟩ := p
    obtain ⟨y, r', rfl, h1, h2⟩ := h.cons_inv
    have hk := DRs.keys h2
    simp only [List.map_cons, List.nodup_cons] at hnd
    unfold storeD stored
    by_cases e : k' = k
    · subst e
      simp only [if_true, List.any_cons, decide_true, Bool.true_or, List.map_cons]
      rw [map_absent (by rw [hk]; exact hnd.1)]
      exact .cons hx h2
    · have ih := ih hnd.2 h2
      unfold stored at ih
      simp only [e, if_false, List.any_cons, decide_false, Bool.false_or, List.map_cons]
      by_cases hany : r'.any (fun kv => decide (kv.1 = k)) = true
      · rw [if_pos hany] at ih ⊢
        exact .cons h1 ih
      · rw [if_neg hany] at ih ⊢
        exact .cons h1 ih
theorem DRs.look {prog : Program} {w : World} {P : Fz} {k : Int} {v : V} {vs : List (Int × V)} : ∀ {xs : List (Int × Value)}, DRs prog w P vs xs → lookD vs k = some v → ∃ x, valueAt xs k = some x ∧ VR prog w P v x := by
  induction vs with
  | nil => intro xs _ h; cases h
  | cons p r ih =>
    intro xs H h
    obtain ⟨k', u⟩ := p
    obtain ⟨y, r', rfl, h1, h2⟩ := H.cons_inv
    unfold lookD at h
    unfold valueAt
    by_cases e : k' = k
    · subst e
      simp at h; subst h
      exact ⟨y, by simp, h1⟩
    · rw [if_neg e] at h
      obtain ⟨x, a1, a2⟩ := ih h2 h
      exact ⟨x, by unfold valueAt at a1; simpa [e] using a1, a2⟩

noncomputable def storeDV : List (Int × V) → V → V → Option (List (Int × V))
  | xs, .int q, v => if xs.length < lim then some (storeD xs q v) else none
  | _, _, _ => none
theorem storeDV_inv {xs ys : List (Int × V)} {i v : V} (h : storeDV xs i v = some ys) : ∃ q, i = .int q ∧ xs.length < lim ∧ ys = storeD xs q v := by
  unfold storeDV at h
  split at h
  · split at h
    · rename_i hq; cases h; exact ⟨_, rfl, hq, rfl⟩
    · cases h
  · cases h
/-- d[k] = v, of a dict of one's own -/
theorem DX_setD {n : Str} {np tp pos : Pos} {ix value : PySem.Expr} {f g : St → Option V} (i : Nat) (hn : nm[i]? = some n) (hd : (n == ("__debug__" : Str)) = false) (hv : DE C sc nm lv value f) (hix : DE C sc nm lv ix g)
    (hsw : ∀ env, swapsWith value (some (.Subscript (.Name n np) ix tp)) pos.line env = pure false) :
    DX C sc nm lv (.Assign [.Subscript (.Name n np) ix tp] value pos) (fun σ => (f σ).bind fun v => (g σ).bind fun iv => (getD σ i).bind fun xs => (storeDV xs iv v).map fun ys => (σ.set i (some (.ownD ys)), .next)) := by
  intro A E env B P σ s ow σ' fl Q hA hs R hf k
  obtain ⟨v, hfv, hf⟩ := bind_some hf
  obtain ⟨iv, hiv, hf⟩ := bind_some hf
  obtain ⟨us, hus, hf⟩ := bind_some hf
  obtain ⟨ys, hys, e⟩ := Option.map_eq_some_iff.mp hf
  obtain ⟨q, rfl, hq, rfl⟩ := storeDV_inv hys
  cases e
  · ·
      refine wpAny_Assign_Subscript (hv A E env P σ s v _ hA hs R.toE hfv fun P1 h1 tk1 x g1 hx => ?_) (hsw env)
      have R1 := R.grow g1
      obtain ⟨a1, _⟩ := R1.ownD hn hus
      refine wpAny_Name (wp_at (s := { s with heap := h1, toks := tk1 }) R.st.fn a1 ?_) hd
      refine hix A E env P1 σ { s with heap := h1, toks := tk1 } _ _ hA hs R1.toE hiv fun P2 h2 tk2 y g2 hy => ?_
      obtain ⟨t, rfl⟩ := hy.inv
      have R2 := R1.grow g2
      obtain ⟨_, nsys, o, kxs, a4, a5, a6⟩ := R2.ownD hn hus
      have hlen := a6.length
      have hnd : (us.map (·.1)).Nodup := by rw [← a6.keys]; obtain ⟨_, _, _, _, _, _, h⟩ := a5; exact h
      unfold lim at hq
      refine wpAny_setItem_pairs (knd := intKind C.prog C.w) (k := q) (key := .int q t) (intKind_is _ _ _ _) (Heap.dictOf_iff.mpr ⟨o, a4, a5⟩) (fun h3 hm3 hb3 => ?_) (by rw [sizeLine_eq]; (first | lia | omega))
      obtain ⟨o3, ho3, hd3⟩ := Heap.dictOf_iff.mp hm3
      have hx2 := VR.mono g2.le hx
      have g12 := GrowB.ofGrow R.bsub (g1.trans g2)
      have R3 : RepW C env nm B P2 (σ.set i (some (.ownD (storeD us q v)))) h3 ow := R2.change hn (getD_some hus) rfl rfl (same_keep hb3) ⟨nsys, o3, _, ho3, hd3, DRs.store hx2 hnd a6⟩
      exact k P2 h3 _ ow _ ⟨g12.le, R3.sub, R3.bsub, g12.new⟩ R3 rfl

/-- a dict at hand, kept or one's own -/
noncomputable def DBD (C : Cx) (sc : Scope) (nm : List Str) (lv : Nat) (e : PySem.Expr) (f : St → Option (List (Int × V))) : Prop :=
  ∀ (A : Around) (E : Value → Shared → Prop) (env : Env) (P : Fz) (σ : St) (s : Shared) (vs : List (Int × V)) (Q : Value → Shared → Prop),
    AOk A lv → env.scope = sc → RepE C env nm P σ s.heap → f σ = some vs →
    (∀ P' h' tk a o kxs, Grow P s.heap P' h' → (a == sysModules) = false → h'.get? a = some o → o.IsDictOf (intKind C.prog C.w) kxs → C.DRs P' vs kxs → Q (.ref a) { s with heap := h', toks := tk }) → wpAny C.M A (eval e env) Q E s
noncomputable def asDict : V → Option (List (Int × V))
  | .dict xs => some xs
  | _ => none
theorem DBD_of {e : PySem.Expr} {f : St → Option V} (h : DE C sc nm lv e f) : DBD C sc nm lv e (fun σ => (f σ).bind asDict) := by
  intro A E env P σ s vs Q hA hs R hf k
  obtain ⟨v, hv, hf⟩ := bind_some hf
  cases v with
  | dict xs =>
    cases hf
    refine h A E env P σ s _ Q hA hs R hv fun P1 h1 tk1 x g1 hx => ?_
    cases hx with
    | dict h0 h3 h4 h5 => exact k P1 h1 tk1 _ _ _ g1 h0 (g1.sub _ _ h3) h4 h5
  | _ => cases hf

noncomputable def lookDV : List (Int × V) → V → Option V
  | xs, .int k => lookD xs k
  | _, _ => none
theorem lookDV_inv {xs : List (Int × V)} {v u : V} (h : lookDV xs v = some u) : ∃ k, v = .int k ∧ lookD xs k = some u := by
  unfold lookDV at h
  split at h
  · exact ⟨_, rfl, h⟩
  · cases h
theorem DE_idxD {e i : PySem.Expr} {pos : Pos} {f : St → Option (List (Int × V))} {g : St → Option V} (he : DBD C sc nm lv e f) (hi : DE C sc nm lv i g) :
    DE C sc nm lv (.Subscript e i pos) (fun σ => (f σ).bind fun xs => (g σ).bind fun v => lookDV xs v) := by
  intro A E env P σ s v Q hA hs R hf k
  obtain ⟨vs, hvs, hf⟩ := bind_some hf
  obtain ⟨iv, hiv, hf⟩ := bind_some hf
  obtain ⟨j, rfl, hf⟩ := lookDV_inv hf
  · refine Subscript_ (he A E env P σ s vs _ hA hs R hvs fun P1 h1 tk1 a o kxs g1 nsys ho hd hx => ?_)
    refine hi A E env P1 σ { s with heap := h1, toks := tk1 } _ _ hA hs (R.grow g1) hiv fun P2 h2 tk2 y g2 hy => ?_
    obtain ⟨t, rfl⟩ := hy.inv
    obtain ⟨x, hx1, hx2⟩ := DRs.look (DRs.mono g2.le hx) hf
    obtain ⟨ops, hops⟩ := sub_ops i (.ref a) (.int j t)
    have ho2 := g2.keep _ _ ho
    have hD : h2.DictOf (intKind C.prog C.w) a kxs := Heap.dictOf_iff.mpr ⟨o, ho2, hd⟩
    refine tail_any (T := "dict") (Heap.DictOf.typeIs (s := { s with heap := h2, toks := tk2 }) hD) slot_dict_getitem.lookup (wpAny_getItem_of (s := { s with heap := h2, toks := tk2 }) (knd := intKind C.prog C.w) (k := j) (intKind_is _ _ _ _) hD.mapOf hx1 ?_) hops
    exact (k.after (g1.trans g2) (tk1 := tk2)).tok (s := { s with heap := h2, toks := tk2 }) g2.sub hx2
end
end Lw

namespace Lw
open PySem PySem.Calls PyProof.Rows
set_option maxRecDepth 10000

theorem intsAre_of {P : Nat → Value → Prop} {val : Nat → Int} (hval : ∀ i v, P i v → ∃ t : Tok, v = .int (val i) t) : ∀ (xs : List Value) (k : Nat), (∀ j v, xs[j]? = some v → P (k + j) v) → IntsAre xs ((List.range xs.length).map fun j => val (k + j))
  | [], _, _ => .nil
  | x :: r, k, h => by
    obtain ⟨t, rfl⟩ := hval _ _ (h 0 x rfl)
    have ih := intsAre_of hval r (k + 1) fun j v e => by
      have := h (j + 1) v (by simpa using e)
      rw [show k + 1 + j = k + (j + 1) by (first | lia | omega)]; exact this
    simp only [List.length_cons, List.range_succ_eq_map, List.map_cons, List.map_map]
    refine .cons _ _ ?_
    have e : ((fun j => val (k + j)) ∘ Nat.succ) = fun j => val (k + 1 + j) := by
      funext j; simp only [Function.comp]; congr 1; (first | lia | omega)
    rw [e]; exact ih

section
variable {C : Cx} {lv : Nat}

theorem sorted_src {A : Around} {E : Value → Shared → Prop} {s : Shared} {T : String} {r d : Addr} {n : Nat} {Pv : Nat → Value → Prop} {OK : Heap → Prop} {Q : Value → Shared → Prop} (K : PySem.W.KdlSrc C.prog C.w T r d n Pv OK) (hh : A.handled = none) (hok : OK s.heap) (hn : n < 64)
    (val : Nat → Int) (hval : ∀ i v, Pv i v → ∃ t : Tok, v = .int (val i) t)
    (k : ∀ h' tk D ys m, (∀ b o, s.heap.get? b = some o → h'.get? b = some o) → s.heap.get? D = none → h'.get? D = some (lobj ys m) → IntsAre ys (isort ((List.range n).map val)) → Q (.ref D) { s with heap := h', toks := tk }) :
    wpAny C.M A (call (.builtin "sorted") [.ref r]) Q E s := by
  refine call_function_entry kind_sorted plain_sorted entry_sorted (args_sorted1 _) ?_
  unfold Builtin.«sorted»
  refine wpAny_bind (m := checkCount "sorted" 1 1 _) (wpAny_pure ?_)
  refine wpAny_bind (PySem.W.kdu_collect (A := A.in1) K hh hok (by rw [sizeLine_eq]; (first | lia | omega)) fun h' tk acc hk hacc => ?_)
  have hl : acc.toList.length = n := by rw [Array.length_toList]; exact hacc.1
  refine wpAny_bind (wpAny_newList ?_ (by rw [hl, sizeLine_eq]; (first | lia | omega)))
  have hI0 := intsAre_of hval acc.toList 0 fun j v e => by
    rw [Nat.zero_add]
    exact hacc.2 j v (by rw [← Array.getElem?_toList]; exact e)
  have hI : IntsAre acc.toList ((List.range n).map val) := by
    rw [hl] at hI0
    simpa using hI0
  have hoD : (h'.push { cls := .type "list", data := .seq acc.toList.toArray }).get? h'.objs.size = some (seqObj "list" acc.toList.toArray 0) := Heap.get?_push_size _ rfl
  refine wpAny_bind (wpAny_holding (wpAny_call_entry slot_list_sort ⟨_, hoD, rfl⟩ entry_list_sort (list_sort_tree hoD hI (by rw [hl]; exact hn) fun out ns' a1 a2 a3 => ⟨_, rfl, ?_⟩) (args_list_sort _)))
  obtain ⟨e, he⟩ := sortedHeap_at (out := out) hoD
  refine wpAny_pure ⟨_, rfl, ?_⟩
  rw [isort_eq a2 a3] at a1
  refine k _ tk h'.objs.size out.toList e (fun b o e' => ?_) ?_ (by simpa using he) a1
  · have hb := hk b o e'
    have hlt := Heap.lt_size hb
    rw [sortedHeap_old (Nat.ne_of_lt hlt) (by rw [Heap.size_push]; exact Nat.lt_succ_of_lt hlt)]
    exact Heap.get?_push_of_some _ hb
  · cases hq : s.heap.get? h'.objs.size with
    | none => rfl
    | some o => exact absurd (Heap.lt_size (hk _ _ hq)) (Nat.lt_irrefl _)

noncomputable def sortedV2 : List V → Option V
  | [.list xs] => sortedV [.list xs]
  | [.dict kvs] => if kvs.length < 64 then some (.list ((isort (kvs.map (·.1))).map .int)) else none
  | _ => none
theorem sorted_ok2 : CallOk C lv (.builtin "sorted") sortedV2 := by
  intro A E P s vs v xs Q hA hb hs hx hf k
  unfold sortedV2 at hf
  split at hf
  · exact sorted_ok A E P s _ v xs Q hA hb hs hx hf k
  · split at hf
    · rename_i kvs hl
      cases hf
      obtain ⟨x, rfl, h1⟩ := hx.one
      cases h1 with
      | @dict a o _ kxs nsys ho hd hdr =>
        have hks := hdr.keys
        have hlen := hdr.length
        obtain ⟨es, ep, q1, q2, q3, q4, q5⟩ := hd
        have hD : s.heap.DictAt (intKind C.prog C.w) a kxs ep := ⟨o, es, hs _ _ ho, q1, q2, q3, q4, q5⟩
        refine sorted_src (PySem.W.kdl_dict nsys) hA.handled hD (by (first | lia | omega)) (fun i => ((kxs[i]?).map (·.1)).getD 0) (fun i v hv => ?_) fun h' tk D ys m hk hD0 hoD hI => ?_
        · obtain ⟨kk, x, e1, e2⟩ := hv
          obtain ⟨t, rfl⟩ := Value.isInt_shape e2
          exact ⟨t, by rw [e1]; rfl⟩
        · have e : ((List.range kxs.length).map fun i => ((kxs[i]?).map (·.1)).getD 0) = kvs.map (·.1) := by
            rw [← hks]
            refine List.ext_getElem? fun i => ?_
            by_cases hi : i < kxs.length
            · simp [hi]
            · simp [hi]
          rw [e] at hI
          have hPD : P D = none := by
            cases hq : P D with
            | none => rfl
            | some o => rw [hs _ _ hq] at hD0; cases hD0
          exact KF.of k P h' tk D ys m (Grow.of_keep hs hk) hPD hD0 hoD (VRs.of_ints hI)
    · cases hf
  · cases hf
end
end Lw

namespace Lw
open PySem PySem.Calls PyProof.Rows
set_option maxRecDepth 10000

theorem bindL_not {kd : Str → Option NameKind} : ∀ {binds : List (Str × Value)} {m : Str → Option Value} {n : Str}, n ∉ binds.map (·.1) → bindL kd binds m n = m n
  | [], _, _, _ => rfl
  | (k, v) :: r, m, n, h => by
    simp only [List.map_cons, List.mem_cons, not_or] at h
    unfold bindL
    rw [bindL_not h.2]
    split
    · simp [h.1]
    · rfl
theorem bindC_not {kd : Str → Option NameKind} : ∀ {binds : List (Str × Value)} {m : Str → Option Value} {n : Str}, n ∉ binds.map (·.1) → bindC kd binds m n = m n
  | [], _, _, _ => rfl
  | (k, v) :: r, m, n, h => by
    simp only [List.map_cons, List.mem_cons, not_or] at h
    unfold bindC
    rw [bindC_not h.2]
    split
    · rfl
    · simp [h.1]
theorem bindL_get {kd : Str → Option NameKind} : ∀ {ns : List Str} {xs : List Value} {m : Str → Option Value} {i : Nat} {n : Str} {x : Value}, ns.Nodup → ns[i]? = some n → xs[i]? = some x → kd n = some .local → bindL kd (ns.zip xs) m n = some x
  | [], _, _, i, _, _, _, h, _, _ => by simp at h
  | _ :: _, [], _, i, _, _, _, _, h, _ => by simp at h
  | k :: r, y :: ys, m, i, n, x, nd, h1, h2, h3 => by
    simp only [List.nodup_cons] at nd
    cases i with
    | zero =>
      simp at h1 h2
      subst h1 h2
      rw [List.zip_cons_cons]; unfold bindL
      rw [bindL_not (fun h => nd.1 (by obtain ⟨p, hp, e⟩ := List.mem_map.mp h; rw [← e]; exact (List.of_mem_zip hp).1)), if_pos h3]
      simp
    | succ i =>
      rw [List.zip_cons_cons]; unfold bindL
      exact bindL_get nd.2 (by simpa using h1) (by simpa using h2) h3
theorem bindC_get {kd : Str → Option NameKind} : ∀ {ns : List Str} {xs : List Value} {m : Str → Option Value} {i : Nat} {n : Str} {x : Value}, ns.Nodup → ns[i]? = some n → xs[i]? = some x → kd n = some .cell → bindC kd (ns.zip xs) m n = some x
  | [], _, _, i, _, _, _, h, _, _ => by simp at h
  | _ :: _, [], _, i, _, _, _, _, h, _ => by simp at h
  | k :: r, y :: ys, m, i, n, x, nd, h1, h2, h3 => by
    simp only [List.nodup_cons] at nd
    cases i with
    | zero =>
      simp at h1 h2
      subst h1 h2
      rw [List.zip_cons_cons]; unfold bindC
      rw [bindC_not (fun h => nd.1 (by obtain ⟨p, hp, e⟩ := List.mem_map.mp h; rw [← e]; exact (List.of_mem_zip hp).1)), if_neg (by rw [h3]; simp)]
      simp
    | succ i =>
      rw [List.zip_cons_cons]; unfold bindC
      exact bindC_get nd.2 (by simpa using h1) (by simpa using h2) h3

theorem lookup_memC {n : Str} {c : Addr} {cs : List (Str × Addr)} (h : cs.lookup n = some c) : (n, c) ∈ cs := by
  obtain ⟨⟨a, b⟩, h1, h2, h3⟩ := lookup_mem h
  subst h2 h3; exact h1

theorem pair_inj {cs : List (Str × Addr)} (hp : cs.Pairwise fun x y => x.2 ≠ y.2) {n n' : Str} {c : Addr} (h1 : (n, c) ∈ cs) (h2 : (n', c) ∈ cs) : n = n' := by
  induction cs with
  | nil => cases h1
  | cons p r ih =>
    rw [List.pairwise_cons] at hp
    rcases List.mem_cons.mp h1 with e1 | h1'
    · rcases List.mem_cons.mp h2 with e2 | h2'
      · rw [← e1] at e2; cases e2; rfl
      · subst e1; exact absurd rfl (hp.1 (n', c) h2')
    · rcases List.mem_cons.mp h2 with e2 | h2
      · subst e2; exact absurd rfl (hp.1 (n, c) h1')
      · exact ih hp.2 h1' h2

theorem len1 {α : Type} {F : List α → Prop} {n : Nat} (hn : n = 1) (h : ∀ x, F [x]) (xs : List α) (e : xs.length = n) : F xs := by
  obtain ⟨x, rfl⟩ := List.length_eq_one_iff.mp (e.trans hn)
  exact h x
theorem len2 {α : Type} {F : List α → Prop} {n : Nat} (hn : n = 2) (h : ∀ x y, F [x, y]) (xs : List α) (e : xs.length = n) : F xs := by
  cases xs with
  | nil => subst hn; cases e
  | cons x r => exact len1 (F := fun r => F (x :: r)) (n := 1) rfl (h x) r (by subst hn; exact Nat.succ.inj e)
theorem len3 {α : Type} {F : List α → Prop} {n : Nat} (hn : n = 3) (h : ∀ x y z, F [x, y, z]) (xs : List α) (e : xs.length = n) : F xs := by
  cases xs with
  | nil => subst hn; cases e
  | cons x r => exact len2 (F := fun r => F (x :: r)) (n := 2) rfl (h x) r (by subst hn; exact Nat.succ.inj e)

/-- what is so of a function's text -/
structure FnOK (name : Str) (params : Arguments) (scope : Scope) (pn nm : List Str) : Prop where
  bind : ∀ body pm cd doc (xs : List Value), xs.length = pn.length → bindArgs (Calls.docDef name params body scope pm cd doc) ⟨xs, []⟩ = pure (pn.zip xs)
  kind : scope.kind = .function
  co : scope.isCoroutine = false
  gen : scope.isGenerator = false
  pre : ∃ rest, nm = pn ++ rest
  nd : nm.Nodup
  kinds : ∀ n ∈ nm, scope.names.lookup n = some .local ∨ scope.names.lookup n = some .cell

noncomputable def startS (nm : List Str) (vs : List V) : St := frzs vs ++ List.replicate (nm.length - vs.length) none
noncomputable def giveF : Option (St × Fl) → Option V
  | some (_, .ret v) => some v
  | some (_, .next) => some .none
  | _ => none

section
variable {C : Cx} {lv : Nat}

theorem start_rep {name : Str} {params : Arguments} {scope : Scope} {pn nm : List Str} (F : FnOK name params scope pn nm) {s : Shared} {P : Fz} {h₁ : Heap} {a : Addr} {cd : Value} {xs : List Value} {vs : List V} (hb : ∀ b o, C.h₀.get? b = some o → s.heap.get? b = some o) (hs : ∀ b o, P b = some o → s.heap.get? b = some o)
    (hx : C.VRs P vs xs) (hlen : xs.length = pn.length)
    (Fr1 : Fr s.heap s.heap.objs.size h₁ (bindL (envOfC name scope s.heap.objs.size a cd).kindOf (pn.zip xs) fun zz => none))
    (Cl1 : Cl s.heap.objs.size (cellsFrom (s.heap.objs.size + 1) scope.names []) h₁ (bindC (envOfC name scope s.heap.objs.size a cd).kindOf (pn.zip xs) fun zz => none)) :
    RepW C (envOfC name scope s.heap.objs.size a cd) nm s.heap.get? P (startS nm vs) h₁ (fun zz => 0) := by
  have kindOf : ∀ n, (envOfC name scope s.heap.objs.size a cd).kindOf n = scope.names.lookup n := fun n => rfl
  have cl : (envOfC name scope s.heap.objs.size a cd).cells = cellsFrom (s.heap.objs.size + 1) scope.names [] := rfl
  have freshP : ∀ b, s.heap.get? b = none → P b = none := fun b e => by
    cases hq : P b with
    | none => rfl
    | some o => rw [hs _ _ hq] at e; cases e
  have above : ∀ n c, (envOfC name scope s.heap.objs.size a cd).cells.lookup n = some c → s.heap.objs.size < c := fun n c h => Cl1.above n c (lookup_memC (by rw [← cl]; exact h))
  have noOwn : ∀ (i : Nat) (sl : Slot), (startS nm vs)[i]? = some (some sl) → ∃ v, sl = .frz v ∧ vs[i]? = some v := fun i sl h => by
    unfold startS at h
    rw [List.getElem?_append] at h
    split at h
    · simp only [List.getElem?_map, Option.map_eq_some_iff] at h
      obtain ⟨v, h1, h2⟩ := h
      cases h2
      exact ⟨v, rfl, h1⟩
    · rw [List.getElem?_replicate] at h
      split at h <;> simp at h
  have hcell : ∀ n, scope.names.lookup n = some .cell → ∃ c, (envOfC name scope s.heap.objs.size a cd).cells.lookup n = some c := fun n h => by
    have := PySem.W.cellsFrom_some scope.names (s.heap.objs.size + 1) [] (.inl h)
    rw [cl]
    exact Option.isSome_iff_exists.mp this
  refine ⟨⟨F.kind, rfl, rfl, fun n h => hcell n h, fun n n' c h1 h2 => ?_, fun n c h => Ne.symm (Nat.ne_of_lt (above n c h)), F.kinds, F.nd⟩, hb, fun b o e => Fr1.keep _ _ e, fun b o e => Fr1.keep _ _ (hs _ _ e), ⟨_, Fr1.ns⟩, fresh_none _, freshP _ (fresh_none _), fun n c h => ⟨⟨_, Cl1.cell n c h⟩, ?_, ?_⟩, fun i n v h1 h2 => ?_, fun i n sl h1 h2 h3 => ?_, fun i n sl h1 h2 h3 => ?_⟩
  · exact pair_inj Cl1.apart (lookup_memC h1) (lookup_memC h2)
  · exact fresh_ge (Nat.le_of_lt (above n c h))
  · exact freshP _ (fresh_ge (Nat.le_of_lt (above n c h)))
  · obtain ⟨v', e1, e2⟩ := noOwn i _ h2
    cases e1
    obtain ⟨x, hx1, hx2⟩ := hx.get e2
    obtain ⟨rest, hpre⟩ := F.pre
    have hi : i < pn.length := by rw [← hlen]; exact (List.getElem?_eq_some_iff.mp hx1).1
    have hpn : pn[i]? = some n := by rw [hpre, List.getElem?_append_left hi] at h1; exact h1
    have hnd : pn.Nodup := by have := F.nd; rw [hpre] at this; exact (List.nodup_append.mp this).1
    refine ⟨x, ?_, hx2⟩
    rcases F.kinds n (List.mem_of_getElem? h1) with hk | hk
    · exact .inl ⟨hk, _, Fr1.ns, bindL_get hnd hpn hx1 hk⟩
    · obtain ⟨c, hc⟩ := hcell n hk
      refine .inr ⟨.inl hk, c, hc, ?_⟩
      have := Cl1.cell n c hc
      rw [bindC_get hnd hpn hx1 hk] at this
      exact this
  · obtain ⟨v, rfl, _⟩ := noOwn i _ h2; cases h3
  · obtain ⟨v, rfl, _⟩ := noOwn i _ h2; cases h3

theorem call_code {name : Str} {params : Arguments} {body : List Stmt} {scope : Scope} {pn nm : List Str} {a : Addr} {o : Obj} {pm cd doc : Value} {f : St → Option (St × Fl)} (F : FnOK name params scope pn nm)
    (ho : C.h₀.get? a = some o) (hd : o.data = .func (Calls.docDef name params body scope pm cd doc)) (hcd : C.h₀.CodeRec cd name) (hD : DS C scope nm lv body f)
    {A : Around} {P : Fz} {s : Shared} {vs : List V} {v : V} {xs : List Value} {R : Result → Shared → Prop} (hA : AOk A (lv + 1)) (hb : ∀ b o, C.h₀.get? b = some o → s.heap.get? b = some o) (hs : ∀ b o, P b = some o → s.heap.get? b = some o)
    (hx : C.VRs P vs xs) (hf : (if vs.length = pn.length then giveF (f (startS nm vs)) else none) = some v) (k : ∀ P' h' tk x, Grow P s.heap P' h' → C.VR P' v x → R (.ok (.ret x)) { s with heap := h', toks := tk }) : codeAny C.M A (.call (.ref a) ⟨xs, []⟩) R s := by
  split at hf
  · rename_i hl
    have hlen : xs.length = pn.length := by rw [← hx.length]; exact hl
    obtain ⟨rest, hpre⟩ := F.pre
    refine call_cells_ret (by have := hA.depth; (first | lia | omega)) (hb _ _ ho) hd (C.nolimit.keeps hb) (hcd.keeps hb) (F.bind _ _ _ _ _ hlen) (fun p hp => ?_) (fun h₁ tk Fr1 Cl1 => ?_) F.co F.gen F.kind
    · have : p.1 ∈ pn := (List.of_mem_zip (by simpa using hp)).1
      rcases F.kinds p.1 (by rw [hpre]; exact List.mem_append_left _ this) with hk | hk
      · exact .inl hk
      · exact .inr ⟨hk, PySem.W.cellsFrom_some _ _ _ (.inl hk)⟩
    · have R := start_rep F hb hs hx hlen Fr1 Cl1
      have hA' : AOk (A.deeper (envOfC name scope s.heap.objs.size a cd)) lv := ⟨hA.handled, by have := hA.depth; show A.depth + 1 + lv < _; (first | lia | omega), by have := hA.units; show A.units + 3 + 8 * lv + 120 < _; (first | lia | omega)⟩
      cases hq : f (startS nm vs) with
      | none => rw [hq] at hf; cases hf
      | some r =>
        obtain ⟨σ', fl⟩ := r
        rw [hq] at hf
        refine hD _ _ _ _ P _ { s with heap := h₁, toks := tk } _ σ' fl _ hA' rfl R hq fun P' h' tk' ow' w g R' hw => ?_
        cases fl with
        | next => cases hf; cases hw; exact k P' h' tk' _ g.ofB .none
        | brk => cases hf
        | cont => cases hf
        | ret u =>
          cases hf
          obtain ⟨x, rfl, hx'⟩ := hw
          exact k P' h' tk' _ g.ofB hx'
  · cases hf

theorem call_fn {name : Str} {params : Arguments} {body : List Stmt} {scope : Scope} {pn nm : List Str} {a : Addr} {o : Obj} {pm cd doc : Value} {f : St → Option (St × Fl)} (F : FnOK name params scope pn nm)
    (ho : C.h₀.get? a = some o) (hd : o.data = .func (Calls.docDef name params body scope pm cd doc)) (hcd : C.h₀.CodeRec cd name) (hD : DS C scope nm lv body f) :
    CallOk C (lv + 1) (.ref a) (fun vs => if vs.length = pn.length then giveF (f (startS nm vs)) else none) :=
  fun A E P s vs v xs Q hA hb hs hx hf k => wpAny_call (call_code F ho hd hcd hD hA hb hs hx hf fun P' h' tk x g hx' => k P' h' tk x g hx')
end
end Lw

namespace Lw
open PySem PySem.Calls PyProof.Rows Builtin
set_option maxRecDepth 100000

noncomputable def ascii : PySem.Str := PySem.Str.ofString "ascii"
section
variable {b : Array UInt8} {c : UInt8} {cs : List UInt8} {t t2 : Tok}
theorem road_ascii {id : String} : _codecs.decodeRoad id b ascii none [] = (_codecs.runDecoder id _codecs.asciiDecoder none true b 0 [] >>= fun r => mkStr ⟨r.1⟩) := by kernel_rfl
theorem entry_ascii : «bytes.decode» ⟨[.bytes (c :: cs).toArray t, .str ascii t2], []⟩ = (mkStr (PySem.Str.ofString "utf-8") >>= fun zz => mkStr ascii >>= fun e => mkStr (PySem.Str.ofString "bytes.decode") >>= fun d =>
    call (.builtin "_codecs.decode.text") [.bytes (c :: cs).toArray t, e, .none, d] >>= fun v => ret v) := by kernel_rfl
theorem args_decode2 (a b : Value) : argsOk "bytes.decode" ⟨[a, b], []⟩ := by unfold argsOk; kernel_rfl
theorem forIn_steps {n : Nat} {β : Type} (f : Nat → β → Sem (ForInStep β)) (st : Nat → β) (h : ∀ i k, k < n → f i (st k) = pure (.yield (st (k + 1)))) : ∀ (is : List Nat) (k : Nat), k + is.length ≤ n → forIn is (st k) f = pure (st (k + is.length))
  | [], k, _ => rfl
  | i :: r, k, hk => by
    simp only [List.length_cons] at hk
    rw [List.forIn_cons, h i k (by (first | lia | omega))]
    show forIn r (st (k + 1)) f = _
    rw [forIn_steps f st h r (k + 1) (by (first | lia | omega))]
    simp only [List.length_cons]
    congr 2; (first | lia | omega)
theorem run_ascii {id : String} {b : List UInt8} (h : ∀ x ∈ b, x.toNat < 128) (hsz : b.length ≤ 1000) : _codecs.runDecoder id _codecs.asciiDecoder none true b.toArray 0 [] = pure ((b.map (·.toNat)).toArray, b.length) := by
  unfold _codecs.runDecoder
  simp only [Std.Legacy.Range.forIn_eq_forIn_range', Std.Legacy.Range.size]
  refine Eq.trans (congrArg (fun m => m >>= fun (s : Nat × Array Nat × _codecs.Faults) => pure (s.2.1, s.1)) (forIn_steps (n := b.length) _ (fun k => ((k, ((b.take k).map (·.toNat)).toArray, ({} : _codecs.Faults)) : Nat × Array Nat × _codecs.Faults)) (fun i k hk => ?_) (List.range' 0 ((b.toArray.size - 0 + 1 - 1) / 1)) 0 (by simp))) ?_
  · have h1 : ¬ (((b.take k).map (·.toNat)).toArray.size > sizeLine) := by
      rw [sizeLine_eq]
      simp only [List.size_toArray, List.length_map, List.length_take]
      (first | lia | omega)
    have h2 : ¬ (k ≥ b.toArray.size) := by simp; (first | lia | omega)
    have h3 : _codecs.asciiDecoder.find true b.toArray k = .text [(b[k]).toNat] (k + 1) := by
      show (if (b.toArray.getD k 0).toNat < 128 then _codecs.Found.char _ _ else _) = _
      have e : b.toArray.getD k 0 = b[k] := by simp [hk]
      rw [e, if_pos (h _ (List.getElem_mem _))]
      rfl
    simp only [h1, h2, if_false, h3]
    congr 3
    simp only [List.map_take, List.append_toArray]
    congr 1
    rw [List.take_add_one (l := b.map (·.toNat))]
    simp [hk]
  · simp
theorem meets_text {b : List UInt8} {t1 t2 : Tok} {d : PySem.Str} (h : ∀ x ∈ b, x.toNat < 128) (hsz : b.length ≤ 1000) :
    Meets («_codecs.decode.text» ⟨[.bytes b.toArray t, .str ascii t1, .none, .str d t2], []⟩) (fun zz R s => R (.ok (.ret (.str ⟨(b.map (·.toNat)).toArray⟩ s.toks))) { s with toks := s.toks + 1 }) := by
  refine .of_wp fun prog w A R s hS => ?_
  show wpAny _ _ (Bytes.bytesLike _ (.bytes b.toArray t) >>= fun r => _) _ _ s
  refine wpAny_bind (wpAny_of_eq PySem.W.KBd.like_eq ?_)
  refine wpAny_bind (wpAny_of_eq PySem.W.KBd.held_eq ?_)
  show wpAny _ _ (_codecs.decodeRoad _ b.toArray ascii none [] >>= fun v => _) _ _ s
  rw [road_ascii, run_ascii h hsz]
  refine wpAny_bind (wpAny_bind (wpAny_pure ?_))
  exact wpAny_mkStr (wpAny_pure ⟨_, rfl, hS⟩) (by simp only [PySem.Str.length, List.size_toArray, List.length_map]; rw [sizeLine_eq]; (first | lia | omega))
theorem meets_decode (h : ∀ x ∈ (c :: cs), x.toNat < 128) (hsz : (c :: cs).length ≤ 1000) :
    Meets («bytes.decode» ⟨[.bytes (c :: cs).toArray t, .str ascii t2], []⟩) (fun zz R s => ∀ t' k, R (.ok (.ret (.str ⟨((c :: cs).map (·.toNat)).toArray⟩ t'))) { s with toks := k }) := by
  refine .of_wp fun prog w A R s hS => ?_
  rw [entry_ascii]
  refine wpAny_bind (wpAny_mkStr ?_ (by decide))
  refine wpAny_bind (wpAny_mkStr ?_ (by decide))
  refine wpAny_bind (wpAny_mkStr ?_ (by decide))
  exact wpAny_bind (call_function_meets PySem.W.KBd.kind_text PySem.W.KBd.plain_text PySem.W.KBd.entry_text (PySem.W.KBd.args_text _ _ _ _) (meets_text h hsz) (wpAny_pure ⟨_, rfl, hS _ _⟩))
end
theorem call_decode {prog : Program} {w : World} {A : Around} {E : Value → Shared → Prop} {s : Shared} {c : UInt8} {cs : List UInt8} {t t2 : Tok} {Q : Value → Shared → Prop} (h : ∀ x ∈ (c :: cs), x.toNat < 128) (hsz : (c :: cs).length ≤ 1000)
    (k : ∀ t' k, Q (.str ⟨((c :: cs).map (·.toNat)).toArray⟩ t') { s with toks := k }) : wpAny (model prog w) A (call (.builtin "bytes.decode") [.bytes (c :: cs).toArray t, .str ascii t2]) Q E s :=
  call_meets PySem.W.FB.slot_bytes_decode (PySem.W.typeIs_bytes _ _ _) PySem.W.FB.entry_bytes_decode (args_decode2 _ _) (meets_decode h hsz) k
end Lw

namespace Lw
open PySem PySem.Calls PyProof.Rows
set_option maxRecDepth 100000

noncomputable def isStrV : V → Bool
  | .str _ => true
  | _ => false
noncomputable def isBytesV : V → Bool
  | .bytes _ => true
  | _ => false
noncomputable def isListV : V → Bool
  | .list _ => true
  | _ => false

section
variable {C : Cx} {sc : Scope} {nm : List Str} {lv : Nat}

/-- values of a type, at hand -/
noncomputable def OfType (C : Cx) (T : String) (isT : V → Bool) : Prop :=
  ∀ (P : Fz) (s : Shared) (v : V) (x : Value), isT v = true → C.VR P v x → (∀ b o, P b = some o → s.heap.get? b = some o) → s.TypeIs x T ∧ ∀ a, x = .ref a → ∃ ob, s.heap.get? a = some ob ∧ ob.dict = none
theorem ofStr : OfType C "str" isStrV := by
  intro P s v x hv hx hs
  cases hx with
  | str l t => exact ⟨typeIs_str _ _ _, fun a e => nomatch e⟩
  | _ => cases hv
theorem ofBytes : OfType C "bytes" isBytesV := by
  intro P s v x hv hx hs
  cases hx with
  | bytes l t => exact ⟨PySem.W.typeIs_bytes _ _ _, fun a e => nomatch e⟩
  | _ => cases hv
theorem ofList : OfType C "list" isListV := by
  intro P s v x hv hx hs
  cases hx with
  | list h1 h2 => exact ⟨⟨_, hs _ _ h1, rfl⟩, fun a e => by cases e; exact ⟨_, hs _ _ h1, rfl⟩⟩
  | _ => cases hv

theorem DE_method {o : PySem.Expr} {name : Str} {apos pos : Pos} {args : List PySem.Expr} {T id : String} {isT : V → Bool} {f : St → Option V} {fa : St → Option (List V)} {g : List V → Option V} (hT : OfType C T isT)
    (hbase : ∀ env, attributeBase o name env (eval o env) = eval o env) (hfew : ∀ env, ((backTo pos (starEach args env)).all (fun x => !x.1) && (backToKw pos (keywordEach [] env)).all (fun x => x.1.isSome) && decide (args.length + ([] : List Keyword).length + (if ([] : List Keyword).isEmpty then 0 else 1) < 30)) = true)
    (hline : (apos.endLine == pos.line) = true) (pa : PlainAttrs T) (slot : PySem.Slot T name id) (hty : typeOf (.builtin id) = pure (.type "method_descriptor")) (hne : args ≠ []) (ho : DE C sc nm lv o f) (ha : DEs C sc nm lv args fa) (hg : CallOk C lv (.builtin id) g) :
    DE C sc nm lv (.Call (.Attribute o name apos) args [] pos) (fun σ => (f σ).bind fun ov => (fa σ).bind fun vs => if isT ov = true then g (ov :: vs) else none) := by
  intro A E env P σ s v Q hA hs R hf k
  obtain ⟨ov, hov, hf⟩ := bind_some hf
  obtain ⟨vs, hvs, hf⟩ := bind_some hf
  split at hf
  · rename_i hov2
    refine wp_method (O := fun P1 h1 x => C.VR P1 ov x ∧ ∀ b o, P1 b = some o → h1.get? b = some o) (hbase env) (hfew env) hline pa slot hty hne ha hA hs R hvs (fun Q' kq => ho A E env P σ s ov Q' hA hs R hov fun P1 h1 tk1 x g1 hx => ?_) ?_
    · obtain ⟨q1, q2⟩ := hT P1 { s with heap := h1, toks := tk1 } ov x hov2 hx g1.sub
      exact kq P1 h1 tk1 x g1 q1 q2 ⟨hx, g1.sub⟩
    · rintro P1 h1 x P2 h2 tk2 xs ⟨hx, _⟩ g1 g2 hxs
      exact hg A E P2 { s with heap := h2, toks := tk2 } (ov :: vs) v (x :: xs) Q hA ((R.grow g1).grow g2).base g2.sub (.cons (VR.mono g2.le hx) hxs) hf (k.after (g1.trans g2))
  · cases hf
theorem DE_method0 {o : PySem.Expr} {name : Str} {apos pos : Pos} {T id : String} {isT : V → Bool} {f : St → Option V} {g : List V → Option V} (hT : OfType C T isT) (hbase : ∀ env, attributeBase o name env (eval o env) = eval o env)
    (hline : (apos.endLine == pos.line) = true) (pa : PlainAttrs T) (slot : PySem.Slot T name id) (hty : typeOf (.builtin id) = pure (.type "method_descriptor")) (ho : DE C sc nm lv o f) (hg : CallOk C lv (.builtin id) g) :
    DE C sc nm lv (.Call (.Attribute o name apos) [] [] pos) (fun σ => (f σ).bind fun ov => if isT ov = true then g [ov] else none) := by
  intro A E env P σ s v Q hA hs R hf k
  obtain ⟨ov, hov, hf⟩ := bind_some hf
  split at hf
  · rename_i hov2
    refine wp_method0 (P := P) (O := fun P1 h1 x => C.VR P1 ov x ∧ ∀ b o, P1 b = some o → h1.get? b = some o) (hbase env) hline pa slot hty (fun Q' kq => ho A E env P σ s ov Q' hA hs R hov fun P1 h1 tk1 x g1 hx => ?_) ?_
    · obtain ⟨q1, q2⟩ := hT P1 { s with heap := h1, toks := tk1 } ov x hov2 hx g1.sub
      exact kq P1 h1 tk1 x g1 q1 q2 ⟨hx, g1.sub⟩
    · rintro P1 h1 tk1 x ⟨hx, _⟩ g1
      exact hg A E P1 { s with heap := h1, toks := tk1 } [ov] v [x] Q hA (R.grow g1).base g1.sub (.cons hx .nil) hf (k.after g1)
  · cases hf

noncomputable def lowC (c : Nat) : Nat := if 65 ≤ c ∧ c ≤ 90 then c + 32 else c
noncomputable def lowerV : List V → Option V
  | [.str [c]] => if c < 128 then some (.str [lowC c]) else none
  | _ => none
theorem lower_one : ∀ c : Fin 128, Txt.lower ⟨#[c.val]⟩ = ⟨#[lowC c.val]⟩ := by decide +kernel
theorem lower_ok : CallOk C lv (.builtin "str.lower") lowerV := by
  intro A E P s vs v xs Q hA hb hs hx hf k
  unfold lowerV at hf
  split at hf
  · split at hf
    · rename_i c hc
      cases hf
      obtain ⟨x, rfl, h1⟩ := hx.one
      obtain ⟨t, rfl⟩ := h1.inv
      refine SCL.lower (x := ⟨#[c]⟩) (by show 1 ≤ _; decide) fun zz => ?_
      have e := lower_one ⟨c, hc⟩
      rw [e]
      exact k.tok hs (.str [lowC c] _)
    · cases hf
  · cases hf

theorem glued_nil : ∀ ys : List (List Nat), Txt.join ⟨#[]⟩ (ys.map fun l => ⟨l.toArray⟩) = ⟨(ys.flatten).toArray⟩ := by
  intro ys
  show Builtin.Str.glued _ _ = _
  unfold Builtin.Str.glued
  cases ys with
  | nil => rfl
  | cons y r =>
    simp only [List.map_cons, List.drop_succ_cons, List.drop_zero, List.headD_cons]
    have key : ∀ (r : List (List Nat)) (acc : List Nat), (r.map fun l => (⟨l.toArray⟩ : Str)).foldl (fun acc p => acc ++ (⟨#[]⟩ : Str).cps ++ p.cps) acc.toArray = (acc ++ r.flatten).toArray := by
      intro r
      induction r with
      | nil => intro acc; simp
      | cons z r ih =>
        intro acc
        simp only [List.map_cons, List.foldl_cons]
        have := ih (acc ++ z)
        simp only [List.append_toArray, List.flatten_cons, Array.append_empty] at this ⊢
        rw [this, List.append_assoc]
    rw [key, List.flatten_cons]
noncomputable def joinV : List V → Option V
  | [.str [], .list xs] => (strs? xs).bind fun ss => if (ss.map List.length).sum ≤ lim then some (.str ss.flatten) else none
  | _ => none
theorem VRs.strs {prog : Program} {w : World} {P : Fz} {vs : List V} {xs : List Value} {ss : List (List Nat)} (h : VRs prog w P vs xs) (e : strs? vs = some ss) : StrsAre xs (ss.map fun l => ⟨l.toArray⟩) := by
  induction vs generalizing xs ss with
  | nil => cases h; cases e; exact .nil
  | cons v r ih =>
    cases h with
    | cons h1 h2 =>
      cases v with
      | str i =>
        simp only [strs?, Option.map_eq_some_iff] at e
        obtain ⟨ms, e1, rfl⟩ := e
        obtain ⟨_, rfl⟩ := h1.inv
        exact .cons _ _ (ih h2 e1)
      | _ => cases e
theorem join_ok : CallOk C lv (.builtin "str.join") joinV := by
  intro A E P s vs v xs Q hA hb hs hx hf k
  unfold joinV at hf
  split at hf
  · obtain ⟨ss, hss, hf⟩ := bind_some hf
    split at hf
    · rename_i hl
      cases hf
      obtain ⟨x, y, rfl, h1, h2⟩ := hx.two
      obtain ⟨t, rfl⟩ := h1.inv
      obtain ⟨a, ys, m, rfl, h3, h4⟩ := h2.list_inv
      unfold lim at hl
      refine join_list (x := ⟨#[]⟩) (items := ys.toArray) ⟨_, hs _ _ h3, rfl, _, rfl⟩ (h4.strs hss) ?_ fun t' kk => ?_
      · have e : ((ss.map fun l => (⟨l.toArray⟩ : Str)).map (·.length)).sum = (ss.map List.length).sum := by
          congr 1
          rw [List.map_map]
          refine List.map_congr_left fun l zz => ?_
          simp [Str.length]
        rw [e]
        show _ + _ * 0 ≤ _
        (first | lia | omega)
      · rw [glued_nil]
        exact k.tok hs (.str _ _)
    · cases hf
  · cases hf

noncomputable def decodeV : List V → Option V
  | [.bytes (c :: cs), .str w] => if w = [97, 115, 99, 105, 105] ∧ ((c :: cs).all fun x => decide (x.toNat < 128)) = true ∧ (c :: cs).length ≤ 1000 then some (.str ((c :: cs).map (·.toNat))) else none
  | _ => none
theorem ascii_eq : (⟨([97, 115, 99, 105, 105] : List Nat).toArray⟩ : Str) = ascii := by decide +kernel
theorem decode_ok : CallOk C lv (.builtin "bytes.decode") decodeV := by
  intro A E P s vs v xs Q hA hb hs hx hf k
  unfold decodeV at hf
  split at hf
  · split at hf
    · rename_i c cs w hc'
      obtain ⟨hw, hc⟩ := hc'
      cases hf
      obtain ⟨x, y, rfl, h1, h2⟩ := hx.two
      obtain ⟨_, rfl⟩ := h1.inv; obtain ⟨_, rfl⟩ := h2.inv
      subst hw
      rw [ascii_eq]
      refine call_decode (fun x hx => ?_) hc.2 fun t' kk => k.tok hs (.str _ _)
      have := List.all_eq_true.mp hc.1 x hx
      simpa using this
    · cases hf
  · cases hf

/-- a slice of bytes -/
noncomputable def cutBV : V → Option Int → Option Int → Option V
  | .bytes s, lo, hi => if s.length ≤ lim then some (.bytes (cutL s lo hi)) else none
  | _, _, _ => none
theorem cutBV_inv {x v : V} {lo hi : Option Int} (h : cutBV x lo hi = some v) : ∃ l, x = .bytes l ∧ l.length ≤ lim ∧ v = .bytes (cutL l lo hi) := by
  unfold cutBV at h
  split at h
  · split at h
    · cases h; exact ⟨_, rfl, by assumption, rfl⟩
    · cases h
  · cases h
theorem DE_sliceB {e : PySem.Expr} {a b : Option PySem.Expr} {p pos : Pos} {f : St → Option V} {f1 f2 : St → Option (Option Int)} (he : DE C sc nm lv e f) (ha : DP C sc nm lv a f1) (hb : DP C sc nm lv b f2) :
    DE C sc nm lv (.Subscript e (.Slice a b none p) pos) (fun σ => (f σ).bind fun x => (f1 σ).bind fun lo => (f2 σ).bind fun hi => cutBV x lo hi) := by
  intro A E env P σ s v Q hA hs R hf k
  obtain ⟨u, hu, hf⟩ := bind_some hf
  obtain ⟨lo, e1, hf⟩ := bind_some hf
  obtain ⟨hi, e2, hf⟩ := bind_some hf
  obtain ⟨l, rfl, hl, rfl⟩ := cutBV_inv hf
  refine Subscript_ (he A E env P σ s _ _ hA hs R hu fun P1 h1 tk1 x g1 hx => ?_)
  refine wp_slice ha hb DP_none hA hs (R.grow g1) e1 e2 rfl fun P2 h2 tk2 sl x y z g2 hsl q1 q2 q3 p1 p2 p3 => ?_
  obtain ⟨t1, rfl⟩ := hx.inv
  obtain ⟨ops, hops⟩ := sub_ops (.Slice a b none p) (.bytes l.toArray t1) (.ref sl)
  obtain ⟨q3, rfl, hq3⟩ := q3
  have h3 : q3 = none := by cases q3 <;> simp_all
  subst h3
  have hpk : PySem.W.KBy.picked l.toArray lo hi = (cutL l lo hi).toArray := by
    rw [PySem.W.KBc.picked_eq]
    unfold cutL
    simp
  have kk := (k.after (g1.trans g2) (tk1 := tk2))
  refine tail_any (T := "bytes") (PySem.W.typeIs_bytes _ _ _) PySem.W.FB.slot_bytes_getitem.lookup (getItem_meets (PySem.W.typeIs_bytes _ _ _) (by decide +kernel) PySem.W.FB.slot_bytes_getitem PySem.W.FB.entry_bytes_getitem (PySem.W.FB.args_bytes_getitem_2 _ _) (PySem.W.KBc.meets_slice2 _ t1 sl p1 p2) ⟨hsl, ?_, fun t' q => ?_⟩) hops
  · rw [hpk]
    have := cutL_le l lo hi
    unfold lim at hl
    rw [sizeLine_eq]; simp only [List.size_toArray]; (first | lia | omega)
  · rw [hpk]
    exact kk.tok (s := { s with heap := h2, toks := tk2 }) g2.sub (.bytes _ _)
end
end Lw

namespace Lw
open PySem PySem.Calls PyProof.Rows
set_option maxRecDepth 100000

theorem AOk.down {A : Around} {lv lv' : Nat} (h : lv ≤ lv') (hA : AOk A lv') : AOk A lv := ⟨hA.handled, by have := hA.depth; (first | lia | omega), by have := hA.units; (first | lia | omega)⟩
theorem CallOk.up {C : Cx} {lv lv' : Nat} {fv : Value} {g : List V → Option V} (h : lv ≤ lv') (H : CallOk C lv fv g) : CallOk C lv' fv g :=
  fun A E P s vs v xs Q hA => H A E P s vs v xs Q (hA.down h)

section
variable {C : Cx} {sc : Scope} {nm : List Str} {lv : Nat}

theorem DE_globE {n : Str} {pos : Pos} {i : Int} (hg : ∃ t, C.glob n (.int i t)) (hk : sc.names.lookup n = some .globalImplicit) (hd : (n == ("__debug__" : Str)) = false) : DE C sc nm lv (.Name n pos) (fun zz => some (.int i)) := by
  obtain ⟨t, h⟩ := hg
  exact DE_glob h hk hd

theorem swaps_eq {elt : PySem.Expr} {gens : List Comprehension} {scope : Scope} {pos p : Pos} {t : Str} {line : Nat} (b : Bool) (hk : sc.kind = .function)
    (hb : (sc.names.lookup t == some .local && p.line == pos.line && !(scope.names.any fun (n, k) => n == t && (k == .local || k == .cell))) = b) :
    ∀ env : Env, env.scope = sc → swapsWith (.ListComp elt gens scope pos) (some (.Name t p)) line env = pure b := by
  intro env h
  subst h
  subst hb
  have b1 : env.blockKind = .function := by unfold Env.blockKind; rw [hk]; rfl
  unfold swapsWith
  simp only [b1]
  rfl

theorem stores_eq {n n' : Str} {p1 p2 p3 p4 tp vp : Pos} {kk kk' : Nat} (h1 : sc.kind = .function) (h2 : sc.names.lookup n = some .local) (h3 : sc.names.lookup n' = some .local) (h4 : (p1.line == p1.line && p2.line == p1.line) = true) (h5 : ([n, n'].eraseDups.length != 2) = false) (h7 : (n' == ("__debug__" : Str)) = false) :
    ∀ env : Env, env.scope = sc → swappedStores [.Tuple [.Name n p1, .Name n' p2] kk tp] (.Tuple [.Name n' p3, .Name n p4] kk' vp) env = pure (some [n, n']) := by
  intro env h
  subst h
  unfold swappedStores
  have k1 : env.kindOf n = some .local := h2
  have k2 : env.kindOf n' = some .local := h3
  have b1 : env.blockKind = .function := by unfold Env.blockKind; rw [h1]; rfl
  simp only [Bool.and_eq_true] at h4
  simp [b1]
  have e1 : p1.line = (PySem.Expr.Name n p1).pos.line := rfl
  have hl : p2.line = (PySem.Expr.Name n p1).pos.line := e1 ▸ (by simpa using h4.2)
  generalize hL : List.filterMap _ [PySem.Expr.Name n p1, PySem.Expr.Name n' p2] = L
  have key : L = [n, n'] := by
    rw [← hL]
    simp [k1, k2, hl, ← e1]
  have f1 : foldedForSure 8 (PySem.Expr.Name n' p3) = false := rfl
  have f2 : constantsAlone 8 (PySem.Expr.Name n' p3) = false := h7
  have h6 : [n, n'].eraseDups.length = 2 := by simpa using h5
  rw [key, f1, f2, h6]
  simp
end
end Lw

namespace Lw
open PySem PySem.Calls PyProof.Rows
set_option maxRecDepth 100000

structure Globs (C : Cx) : Prop where
  len : C.glob (Str.ofString "len") (.builtin "len")
  chr : C.glob (Str.ofString "chr") (.builtin "chr")
  ord : C.glob (Str.ofString "ord") (.builtin "ord")
  abs : C.glob (Str.ofString "abs") (.builtin "abs")
  min : C.glob (Str.ofString "min") (.builtin "min")
  max : C.glob (Str.ofString "max") (.builtin "max")
  sum : C.glob (Str.ofString "sum") (.builtin "sum")
  sorted : C.glob (Str.ofString "sorted") (.builtin "sorted")
  divmod : C.glob (Str.ofString "divmod") (.builtin "divmod")
  int : C.glob (Str.ofString "int") (.type "int")
  range : C.glob (Str.ofString "range") (.type "range")
  list : C.glob (Str.ofString "list") (.type "list")
  set : C.glob (Str.ofString "set") (.type "set")

/-- a function of the text, and what it gives -/
noncomputable def Fun (C : Cx) (lv : Nat) (n : Str) (g : List V → Option V) : Prop := ∃ a, C.glob n (.ref a) ∧ Callee C (.ref a) ∧ CallOk C lv (.ref a) g
theorem Fun.up {C : Cx} {lv lv' : Nat} {n : Str} {g : List V → Option V} (h : lv ≤ lv') (H : Fun C lv n g) : Fun C lv' n g := by
  obtain ⟨a, h1, h2, h3⟩ := H
  exact ⟨a, h1, h2, h3.up h⟩

noncomputable def bodyN (p : Program) (k : Nat) : List Stmt := match (recsOf p)[k]? with
  | some d => d.body
  | none => []
noncomputable def scopeN (p : Program) (k : Nat) : Scope := match (recsOf p)[k]? with
  | some d => d.scope
  | none => default
noncomputable def specOf (pn nm : List Str) (f : St → Option (St × Fl)) (vs : List V) : Option V := if vs.length = pn.length then giveF (f (startS nm vs)) else none

section
variable {C : Cx} {sc : Scope} {nm : List Str} {lv : Nat}

theorem DE_user {n : Str} {np pos : Pos} {args : List PySem.Expr} {f : St → Option (List V)} {g : List V → Option V} (H : Fun C lv n g) (hk : sc.names.lookup n = some .globalImplicit) (hd : (n == ("__debug__" : Str)) = false)
    (hne : args ≠ []) (ha : DEs C sc nm lv args f) : DE C sc nm lv (.Call (.Name n np) args [] pos) (fun σ => (f σ).bind g) := by
  obtain ⟨a, h1, h2, h3⟩ := H
  exact DE_call h1 hk hd h2 hne ha h3

theorem aug_add : ∀ (A : Around) (E : Value → Shared → Prop) (s : Shared) (a b : Int) (t u : Tok) (v : V) (Q : Value → Shared → Prop), augV .Add (.int a) (.int b) = some v → (∀ tk x, (∀ P, C.VR P v x) → Q x { s with toks := tk }) → wpAny C.M A (inplaceOp .Add (.int a t) (.int b u)) Q E s := by
  intro A E s a b t u v Q hv k
  cases hv
  exact P.iadd_int (k _ _ fun P => .int _ _)
theorem aug_sub : ∀ (A : Around) (E : Value → Shared → Prop) (s : Shared) (a b : Int) (t u : Tok) (v : V) (Q : Value → Shared → Prop), augV .Sub (.int a) (.int b) = some v → (∀ tk x, (∀ P, C.VR P v x) → Q x { s with toks := tk }) → wpAny C.M A (inplaceOp .Sub (.int a t) (.int b u)) Q E s := by
  intro A E s a b t u v Q hv k
  cases hv
  exact P.isub_int (k _ _ fun P => .int _ _)

theorem listRange_ok {A : Around} {E : Value → Shared → Prop} {P P1 : Fz} {h : Heap} {s : Shared} {r : Addr} {a b c : Int} {t u v : Tok} {us : List V} {Q : Value → Shared → Prop} (hh : A.handled = none) (g : Grow P h P1 s.heap)
    (ho : s.heap.get? r = some { cls := .type "range", data := .fields #[.int a t, .int b u, .int c v] }) (ha : a.natAbs ≤ lim) (hb : b.natAbs ≤ lim) (hc0 : 0 < c) (hc : c.natAbs ≤ lim) (e : us = (rangeI a b c).map .int) (hlen : us.length ≤ lim)
    (k : ∀ h' tk D xs m, Grow P h P1 h' → P1 D = none → h.get? D = none → h'.get? D = some (lobj xs m) → C.VRs P1 us xs → Q (.ref D) { s with heap := h', toks := tk }) : wpAny C.M A (call (.type "list") [.ref r]) Q E s := by
  have hn : Builtin.Range.rangeSize a b c = (rangeN a b c : Int) := by have := (range_le ha hb hc0).1; unfold rangeN; (first | lia | omega)
  have hln : rangeN a b c = us.length := by rw [e]; simp [rangeI]
  unfold lim at hlen
  refine call_list_range (s := s) (a := a) (b := b) (c := c) (t := t) (u := u) (v := v) (n := rangeN a b c) hh ho (range_small ha hb hc0 hc) hn (by (first | lia | omega)) fun h' tk' acc c' hk ho' hacc => ?_
  obtain ⟨hP, hN⟩ := g.fresh (fresh_none _)
  refine k h' tk' _ acc.toList c' (g.trans (Grow.of_keep g.sub hk)) hP hN (by simpa using ho') ?_
  have hI := intsAre_of (P := fun (i : Nat) (v : Value) => ∃ t, v = .int (a + i * c) t) (val := fun i => a + i * c) (fun i v h => h) acc.toList 0 fun j v e => by
    rw [Nat.zero_add]; exact hacc.2 j v (by rw [← Array.getElem?_toList]; exact e)
  have hl2 : acc.toList.length = rangeN a b c := by rw [Array.length_toList]; exact hacc.1
  rw [hl2] at hI
  rw [e]
  exact VRs.of_ints (by simpa [rangeI] using hI)

/-- list(range(..)), new -/
theorem DF_listRange {np rp pos rpos : Pos} {args : List PySem.Expr} {f : St → Option (List V)} (hl : C.glob (Str.ofString "list") (.type "list")) (hr : C.glob (Str.ofString "range") (.type "range")) (hkl : sc.names.lookup (Str.ofString "list") = some .globalImplicit) (hkr : sc.names.lookup (Str.ofString "range") = some .globalImplicit) (hne : args ≠ [])
    (ha : DEs C sc nm lv args f) : DF C sc nm lv (.Call (.Name (Str.ofString "list") np) [.Call (.Name (Str.ofString "range") rp) args [] rpos] [] pos) (fun σ => (f σ).bind fun vs => (rangeV vs).bind fun us => if us.length ≤ lim then some us else none) := by
  intro A E env P σ s us Q hA hs R hf k
  obtain ⟨vs, hvs, hf⟩ := bind_some hf
  obtain ⟨us', hus, hf⟩ := bind_some hf
  split at hf
  · rename_i hlen
    cases hf
    refine wpAny_Call_NameR (wp_glob hl hs R hkl (by decide +kernel) ?_)
    show wpAny C.M A (callWith pos (.type "list") [] [(false, eval (.Call (.Name (Str.ofString "range") rp) args [] rpos) env)] []) Q E s
    refine PySem.callWith_type rfl (evalArgs_plain (spliced_cons (wp_callG hr hkr (by decide +kernel) trivial hne ha hA hs R hvs fun P1 h1 tk1 xs g1 hx => ?_)))
    exact range_made hus hx fun a b c t u v tk ha hb hc0 hc e => spliced_nil (listRange_ok hA.handled (grow_push g1 _).1 (Heap.get?_push_size _ rfl) ha hb hc0 hc e hlen (k P1))
  · cases hf
end
end Lw

namespace Lw
open PySem PySem.Calls PyProof.Rows
set_option maxRecDepth 100000

section
variable {C : Cx} {lv : Nat}

theorem Fun.of {name : Str} {params : Arguments} {body : List Stmt} {scope : Scope} {mg : Str → Option Value} {h : Heap} (pn nm : List Str) (f : St → Option (St × Fl)) (em : C.mg = mg) (eh : C.h₀ = h)
    (t : ∃ a o pm code doc, mg name = some (.ref a) ∧ h.get? a = some o ∧ o.data = .func (Calls.docDef name params body scope pm code doc) ∧ h.CodeRec code name) (F : FnOK name params scope pn nm) (hD : DS C scope nm lv body f) : Fun C (lv + 1) name (specOf pn nm f) := by
  obtain ⟨a, o, pm, code, doc, h1, h2, h3, h4⟩ := t
  subst em eh
  exact ⟨a, .inl h1, ⟨o, _, h2, h3⟩, call_fn F h2 h3 h4 hD⟩

theorem glob_builtin {x : Str} {v : Value} (h1 : C.mg x = none) (h2 : C.mb x = some v) : C.glob x v := .inr ⟨h1, h2⟩

theorem const_int {x : Str} {i : Int} (h : ∃ v, C.mg x = some v ∧ ∀ h' : Heap, Reads h' v (.int i) []) : ∃ t, C.glob x (.int i t) := by
  obtain ⟨v, h1, h2⟩ := h
  have := h2 C.h₀
  cases this with
  | int _ t => exact ⟨t, .inl h1⟩

theorem callerA_ok {lv : Nat} (h : lv ≤ 12) : AOk callerA lv := by
  refine ⟨rfl, ?_, ?_⟩
  · have : callerA.depth + 12 < recursionLimit := by decide +kernel
    (first | lia | omega)
  · have : callerA.units + 8 * 12 + 120 < cLine := by decide +kernel
    (first | lia | omega)
end

noncomputable def builtinNames : List Str := ["len", "chr", "ord", "abs", "min", "max", "sum", "sorted", "divmod", "int", "range", "list", "set"].map Str.ofString
theorem all_not {L N : List Str} {x : Str} (h : ∀ y ∈ N, y ∉ L) (hx : x ∈ N) : x ∉ L := h x hx
theorem all_ne {N : List Str} {x y : Str} (h : ∀ z ∈ N, z ≠ y) (hx : x ∈ N) : x ≠ y := h x hx

theorem well_list {P : PySem.Params} {h : Heap} {l : Addr} {vs : List Value} {ns : List Int} (hw : PySem.W.Well P h (.ref l) (PySem.W.ofPy (.list (ns.map .int)))) (hl : h.IsList l vs.toArray) : h.get? l = some (lobj vs 0) := by
  have e : PySem.W.ofPy (.list (ns.map .int)) = .list (PySem.W.ofPys (ns.map .int)) := rfl
  rw [e] at hw
  cases hw with
  | @list _ vs' _ h1 h2 =>
    obtain ⟨o, ho, _, _, hd⟩ := hl
    rw [h1] at ho; cases ho
    simp only [Data.seq.injEq] at hd
    have e2 : vs' = vs := by simpa using hd.1
    rw [← e2]
    exact h1
end Lw

namespace Lw
open PySem PySem.Calls PyProof.Rows
set_option maxRecDepth 10000

/-! # the table of a small set of ints -/
noncomputable def Rise (xs : Array Nat) : Prop := xs.toList.Pairwise (· < ·)

theorem Rise.lt {xs : Array Nat} (h : Rise xs) {i k : Nat} (hik : i < k) (hk : k < xs.size) : xs.getD i 0 < xs.getD k 0 := by
  have hi : i < xs.size := by (first | lia | omega)
  have := List.pairwise_iff_getElem.mp h i k (by simpa using hi) (by simpa using hk) hik
  simp only [Array.getD, hi, hk, dif_pos]
  simpa using this

theorem below_go {xs : Array Nat} (h : Rise xs) (j : Nat) : ∀ (fuel lo hi : Nat), hi - lo ≤ fuel → lo ≤ hi → hi ≤ xs.size → (∀ i < lo, xs.getD i 0 < j) → (∀ i, hi ≤ i → i < xs.size → j ≤ xs.getD i 0) →
    SetTable.below.go xs j fuel lo hi ≤ xs.size ∧ (∀ i < SetTable.below.go xs j fuel lo hi, xs.getD i 0 < j) ∧ (∀ i, SetTable.below.go xs j fuel lo hi ≤ i → i < xs.size → j ≤ xs.getD i 0) := by
  intro fuel
  induction fuel with
  | zero =>
    intro lo hi h1 h2 h3 h4 h5
    have : lo = hi := by omega
    subst this
    exact ⟨h3, h4, h5⟩
  | succ fuel ih =>
    intro lo hi h1 h2 h3 h4 h5
    unfold SetTable.below.go
    by_cases hlt : lo < hi
    · simp only [hlt, if_true]
      have hm : (lo + hi) / 2 < xs.size := by omega
      have e : xs.getD ((lo + hi) / 2) j = xs.getD ((lo + hi) / 2) 0 := by simp only [Array.getD, hm, dif_pos]
      rw [e]
      by_cases hc : xs.getD ((lo + hi) / 2) 0 < j
      · simp only [hc, if_true]
        refine ih _ _ (by omega) (by omega) h3 (fun i hi' => ?_) h5
        rcases Nat.lt_or_ge i ((lo + hi) / 2) with q | q
        · exact Nat.lt_trans (h.lt q hm) hc
        · have : i = (lo + hi) / 2 := by omega
          rw [this]; exact hc
      · simp only [hc, if_false]
        refine ih _ _ (by omega) (by omega) (by omega) h4 (fun i hi' hs => ?_)
        rcases Nat.lt_or_ge ((lo + hi) / 2) i with q | q
        · have := h.lt q hs; omega
        · have : i = (lo + hi) / 2 := by omega
          rw [this]; omega
    · simp only [hlt, if_false]
      have : lo = hi := by omega
      subst this
      exact ⟨h3, h4, h5⟩

theorem below_spec {xs : Array Nat} (h : Rise xs) (j : Nat) :
    SetTable.below xs j ≤ xs.size ∧ (∀ i < SetTable.below xs j, xs.getD i 0 < j) ∧ (∀ i, SetTable.below xs j ≤ i → i < xs.size → j ≤ xs.getD i 0) :=
  below_go h j xs.size 0 xs.size (by (first | lia | omega)) (by (first | lia | omega)) (by (first | lia | omega)) (fun i hi => by (first | lia | omega)) (fun i h1 h2 => by (first | lia | omega))

theorem mem_below {xs : Array Nat} (h : Rise xs) {j : Nat} (hj : j ∈ xs.toList) : xs[SetTable.below xs j]? = some j := by
  obtain ⟨i, hi, e⟩ := List.getElem_of_mem hj
  have hi' : i < xs.size := by simpa using hi
  have e' : xs.getD i 0 = j := by simp only [Array.getD, hi', dif_pos]; simpa using e
  obtain ⟨h1, h2, h3⟩ := below_spec h j
  have hb : SetTable.below xs j = i := by
    rcases Nat.lt_trichotomy i (SetTable.below xs j) with q | q | q
    · have := h2 i q; (first | lia | omega)
    · exact q.symm
    · have a := h3 _ (Nat.le_refl _) (by (first | lia | omega))
      have b := h.lt q hi'
      (first | lia | omega)
  rw [hb, Array.getElem?_eq_getElem hi']
  simp only [Array.getD, hi', dif_pos] at e'
  simpa using e'

theorem insertAt_toList {α : Type} (xs : Array α) (p : Nat) (x : α) (hp : p ≤ xs.size) : (SetTable.insertAt xs p x).toList = xs.toList.take p ++ x :: xs.toList.drop p := by
  unfold SetTable.insertAt
  simp
  rw [List.take_of_length_le (by simp)]

theorem rise_insert {xs : Array Nat} (h : Rise xs) {j : Nat} (hj : j ∉ xs.toList) : Rise (SetTable.insertAt xs (SetTable.below xs j) j) := by
  obtain ⟨h1, h2, h3⟩ := below_spec h j
  unfold Rise
  rw [insertAt_toList _ _ _ h1]
  have ht : ∀ a ∈ xs.toList.take (SetTable.below xs j), a < j := fun a ha => by
    obtain ⟨i, hi, e⟩ := List.getElem_of_mem ha
    simp only [List.length_take, Array.length_toList] at hi
    have := h2 i (by (first | lia | omega))
    have hi' : i < xs.size := by (first | lia | omega)
    simp only [Array.getD, hi', dif_pos] at this
    simp at e
    rw [← e]; simpa using this
  have hd : ∀ b ∈ xs.toList.drop (SetTable.below xs j), j < b := fun b hb => by
    obtain ⟨i, hi, e⟩ := List.getElem_of_mem hb
    simp only [List.length_drop, Array.length_toList] at hi
    have hi' : SetTable.below xs j + i < xs.size := by (first | lia | omega)
    have := h3 (SetTable.below xs j + i) (by (first | lia | omega)) hi'
    simp only [Array.getD, hi', dif_pos] at this
    simp at e
    have q : j ≤ b := by rw [← e]; simpa using this
    have q2 : j ≠ b := by rintro rfl; exact hj (List.mem_of_mem_drop hb)
    (first | lia | omega)
  refine List.pairwise_append.mpr ⟨h.sublist (List.take_sublist _ _), List.pairwise_cons.mpr ⟨hd, h.sublist (List.drop_sublist _ _)⟩, fun a ha b hb => ?_⟩
  have := ht a ha
  rcases List.mem_cons.mp hb with rfl | hb
  · exact this
  · have := hd b hb; (first | lia | omega)

/-- a table of at most four small ints -/
structure Small (b : Bool) (t : SetTable) : Prop where
  led : t.led = b
  plain : t.plain = true
  rise : Rise t.place
  mask : t.mask = 7
  dum : t.dummies = #[]
  le : ∀ j ∈ t.place.toList, j < 8

theorem Small.slot {b : Bool} {t : SetTable} (H : Small b t) (j : Nat) : (t.slot j = .empty ∧ j ∉ t.place.toList) ∨ (∃ i, t.slot j = .live i ∧ j ∈ t.place.toList) := by
  unfold SetTable.slot
  have hd : SetTable.has t.dummies j = false := by rw [H.dum]; unfold SetTable.has; simp
  rw [hd]
  by_cases hj : j ∈ t.place.toList
  · right
    have := mem_below H.rise hj
    exact ⟨SetTable.below t.place j, by simp [this], hj⟩
  · left
    refine ⟨?_, hj⟩
    have : (t.place[SetTable.below t.place j]? == some j) = false := by
      refine beq_eq_false_iff_ne.mpr fun e => hj ?_
      obtain ⟨h1, h2⟩ := Array.getElem?_eq_some_iff.mp e
      rw [← h2]; simp
    simp [this]

/-- the chain of the slots -/
noncomputable def chain : Nat → Nat → Nat
  | 0, i => i
  | k + 1, i => chain k ((i * 5 + 1) % 8)
theorem chain_all : ∀ i < 8, ∀ j < 8, ∃ k < 8, chain k i = j := by decide +kernel

theorem probe_go {b : Bool} {t : SetTable} (H : Small b t) (h : Int) : ∀ (k f i pert : Nat), i < 8 → pert < 32 → k < f → chain k i ∉ t.place.toList →
    ∃ j, j < 8 ∧ SetTable.probe.go t (fun zz => h + 1) h f ⟨i, 0, i, pert, none⟩ = some (.empty j none) ∧ j ∉ t.place.toList
  | k, 0, i, pert, _, _, hk, _ => by (first | lia | omega)
  | k, f + 1, i, pert, hi, hp, hk, hc => by
    unfold SetTable.probe.go
    rcases H.slot i with ⟨e, hn⟩ | ⟨l, e, hm⟩
    · exact ⟨i, hi, by simp [e], hn⟩
    · cases k with
      | zero => exact absurd hm hc
      | succ k =>
        have hne : ((h + 1 : Int) == h) = false := beq_eq_false_iff_ne.mpr (by (first | lia | omega))
        have hadv : t.advance ⟨i, 0, i, pert, none⟩ = ⟨(i * 5 + 1) % 8, 0, (i * 5 + 1) % 8, 0, none⟩ := by
          unfold SetTable.advance SetTable.leap SetTable.runEnd
          rw [H.mask]
          have e0 : pert / 32 = 0 := by (first | lia | omega)
          have e1 : ¬ ((i * 5 + 1) % 8 + 9 ≤ 7) := by (first | lia | omega)
          simp [e0, e1]
        simp only [e, hne, hadv, Bool.false_eq_true, if_false]
        exact probe_go H h k f _ 0 (by (first | lia | omega)) (by (first | lia | omega)) (by (first | lia | omega)) hc

theorem pigeon {xs : List Nat} (h : xs.length < 8) : ∃ j < 8, j ∉ xs := by
  refine Classical.byContradiction fun hn => ?_
  have hall : ∀ j ∈ List.range 8, j ∈ xs := fun j hj => Classical.byContradiction fun q => hn ⟨j, by simpa using hj, q⟩
  have := List.Nodup.length_le_of_subset (List.nodup_range (n := 8)) hall
  simp at this; (first | lia | omega)

theorem free_small {b : Bool} {t : SetTable} (H : Small b t) (hs : t.place.size < 8) {h : Nat} (hh : h < 32) : ∃ j, j < 8 ∧ t.freeSlot (h : Int) = some (j, false) ∧ j ∉ t.place.toList := by
  have hbits : SetTable.bits (h : Int) = h := by unfold SetTable.bits; (first | lia | omega)
  obtain ⟨j0, hj0, hn⟩ := pigeon (xs := t.place.toList) (by simpa using hs)
  obtain ⟨k, hk, e⟩ := chain_all (h % 8) (by (first | lia | omega)) j0 hj0
  obtain ⟨j, q1, q2, q3⟩ := probe_go H (h : Int) k 220 (h % 8) h (by (first | lia | omega)) hh (by (first | lia | omega)) (by rw [e]; exact hn)
  refine ⟨j, q1, ?_, q3⟩
  have ep : t.probeStart (h : Int) = ⟨h % 8, 0, h % 8, h, none⟩ := by
    unfold SetTable.probeStart SetTable.runEnd
    rw [hbits, H.mask]
    have e1 : ¬ (h % 8 + 9 ≤ 7) := by (first | lia | omega)
    simp [e1]
  have e2 : 10 * SetTable.turns t.mask = 220 := by rw [H.mask]; rfl
  unfold SetTable.freeSlot SetTable.probe
  rw [ep, e2, q2]
  rfl

theorem layNew_small {b : Bool} {t : SetTable} (H : Small b t) {es : Array (Int × Value)} (hs : t.place.size = es.size) (h4 : es.size ≤ 4) {h : Nat} (hh : h < 32) (x : Value) :
    ∃ p t', p ≤ es.size ∧ layNew t es (h : Int) x = (SetTable.insertAt es p (h, x), t', false, false) ∧ Small b t' ∧ t'.place.size = es.size + 1 := by
  obtain ⟨j, hj, e, hn⟩ := free_small H (by (first | lia | omega)) hh
  obtain ⟨h1, _, _⟩ := below_spec H.rise j
  have hd : SetTable.has t.dummies j = false := by rw [H.dum]; unfold SetTable.has; simp
  let t' : SetTable := { t with place := SetTable.insertAt t.place (SetTable.below t.place j) j }
  have hsz : t'.place.size = es.size + 1 := by
    show (SetTable.insertAt t.place (SetTable.below t.place j) j).size = _
    rw [← Array.length_toList, insertAt_toList _ _ _ h1]
    simp; (first | lia | omega)
  have hsz2 : (SetTable.insertAt es (SetTable.below t.place j) ((h : Int), x)).size = es.size + 1 := by
    rw [← Array.length_toList, insertAt_toList _ _ _ (by (first | lia | omega))]
    simp; (first | lia | omega)
  have hput : t.put j = (t', SetTable.below t.place j) := by
    unfold SetTable.put
    simp [hd, t']
  have hf : t'.fits (es.size + 1) = true := by
    unfold SetTable.fits SetTable.fill
    rw [hsz]
    have : t'.dummies = #[] := H.dum
    rw [this, show t'.mask = 7 from H.mask]
    simp; (first | lia | omega)
  refine ⟨SetTable.below t.place j, t', by (first | lia | omega), ?_, ⟨H.led, H.plain, rise_insert H.rise hn, H.mask, H.dum, fun i hi => ?_⟩, hsz⟩
  · unfold layNew
    rw [e]
    simp only [hput]
    rw [hsz2]
    unfold SetTable.orStandIn
    simp [hf]
  · have hi' : i ∈ t.place.toList.take (SetTable.below t.place j) ++ j :: t.place.toList.drop (SetTable.below t.place j) := by
      rw [← insertAt_toList _ _ _ h1]; exact hi
    rcases List.mem_append.mp hi' with q | q
    · exact H.le i (List.mem_of_mem_take q)
    · rcases List.mem_cons.mp q with rfl | q
      · exact hj
      · exact H.le i (List.mem_of_mem_drop q)
end Lw

namespace Lw
open PySem PySem.Calls PyProof.Rows
set_option maxRecDepth 10000

theorem fm_congr {α β : Type} {f g : α → Option β} {l : List α} (h : ∀ a ∈ l, f a = g a) : l.filterMap f = l.filterMap g := by
  induction l with
  | nil => rfl
  | cons a l ih => rw [List.filterMap_cons, List.filterMap_cons, h a (by simp), ih fun b hb => h b (by simp [hb])]

/-- who owns a slot of a table newly laid -/
noncomputable def ownF : List Nat → Nat → (Nat → Option Nat) → (Nat → Option Nat)
  | [], _, F => F
  | h :: r, k, F => ownF r (k + 1) fun j => if j = h then some k else F j

theorem free_at {F : Nat → Option Nat} {h : Nat} (hh : h < 32) (hF : F h = none) :
    SetTable.layClean.free 31 ((List.range 32).map F).toArray 46 h h = some h := by
  unfold SetTable.layClean.free
  have hm : SetTable.runEnd 31 h + 1 - h = (SetTable.runEnd 31 h - h) + 1 := by unfold SetTable.runEnd; split <;> (first | lia | omega)
  rw [hm, List.range_succ_eq_map (n := SetTable.runEnd 31 h - h), List.find?_cons]
  have : (Array.getD ((List.range 32).map F).toArray (h + 0) (some 0)).isNone = true := by
    simp [Array.getD, hh, hF]
  simp only [this]
  rfl

theorem clean_go : ∀ (hs : List Nat) (k : Nat) (F : Nat → Option Nat), (∀ h ∈ hs, h < 32 ∧ F h = none) → hs.Nodup →
    (hs.map Int.ofNat).foldl (fun (acc : Option (Array (Option Nat) × Nat)) h => acc.bind fun p => (SetTable.layClean.free 31 p.1 (SetTable.turns 31) (SetTable.bits h % (31 + 1)) (SetTable.bits h)).bind fun j => some (p.1.setIfInBounds j (some p.2), p.2 + 1)) (some (((List.range 32).map F).toArray, k))
      = some (((List.range 32).map (ownF hs k F)).toArray, k + hs.length) := by
  intro hs
  induction hs with
  | nil =>
    intro k F _ _
    exact rfl
  | cons h r ih =>
    intro k F hF hn
    obtain ⟨h1, h2⟩ := hF h (by simp)
    have hb : SetTable.bits (Int.ofNat h) = h := by unfold SetTable.bits; simp only [Int.ofNat_eq_natCast]; (first | lia | omega)
    have hb2 : h % (31 + 1) = h := by (first | lia | omega)
    simp only [List.map_cons, List.foldl_cons, Option.bind_some, hb, hb2]
    have e0 : SetTable.turns 31 = 46 := rfl
    rw [e0, free_at h1 h2]
    simp only [Option.bind_some]
    have e : (Array.setIfInBounds ((List.range 32).map F).toArray h (some k)) = ((List.range 32).map fun j => if j = h then some k else F j).toArray := by
      apply Array.ext'
      simp only [Array.toList_setIfInBounds]
      refine List.ext_getElem? fun i => ?_
      rw [List.getElem?_set]
      by_cases hi : h = i
      · subst hi
        simp [h1]
      · have hi' : ¬ i = h := fun q => hi q.symm
        by_cases h32 : i < 32
        · simp [hi, hi', h32]
        · simp [hi, h32]
    rw [e]
    have hn' := List.nodup_cons.mp hn
    have ih := ih (k + 1) (fun j => if j = h then some k else F j) (fun x hx => ⟨(hF x (by simp [hx])).1, by
      have : x ≠ h := by rintro rfl; exact hn'.1 hx
      simp only [this, if_false]; exact (hF x (by simp [hx])).2⟩) hn'.2
    have e1 := ih
    rw [e0] at e1
    rw [e1]
    simp only [ownF, List.length_cons]
    congr 2
    (first | lia | omega)

theorem ownF_spec : ∀ (hs : List Nat) (k : Nat) (F : Nat → Option Nat), hs.Nodup → (∀ j i, F j = some i → i < k ∧ j ∉ hs) → ∀ j i, ownF hs k F j = some i ↔ (F j = some i ∨ ∃ m, hs[m]? = some j ∧ i = k + m) := by
  intro hs
  induction hs with
  | nil =>
    intro k F _ _ j i
    simp [ownF]
  | cons h r ih =>
    intro k F hn hF j i
    have hn' := List.nodup_cons.mp hn
    have ih := ih (k + 1) (fun j => if j = h then some k else F j) hn'.2 (fun j i e => by
      by_cases q : j = h
      · subst q; simp at e; subst e; exact ⟨by (first | lia | omega), hn'.1⟩
      · simp only [q, if_false] at e
        have := hF j i e
        exact ⟨by (first | lia | omega), fun x => this.2 (by simp [x])⟩) j i
    show ownF r (k + 1) _ j = some i ↔ _
    rw [ih]
    by_cases q : j = h
    · subst q
      simp only [if_true]
      constructor
      · rintro (e | ⟨m, e1, e2⟩)
        · cases e; exact .inr ⟨0, rfl, rfl⟩
        · exact absurd (List.mem_of_getElem? e1) hn'.1
      · rintro (e | ⟨m, e1, e2⟩)
        · exact absurd (List.mem_cons_self) (hF _ _ e).2
        · cases m with
          | zero => left; rw [e2]; rfl
          | succ m => exact absurd (List.mem_of_getElem? (by simpa using e1)) hn'.1
    · simp only [q, if_false]
      constructor
      · rintro (e | ⟨m, e1, e2⟩)
        · exact .inl e
        · exact .inr ⟨m + 1, by simpa using e1, by (first | lia | omega)⟩
      · rintro (e | ⟨m, e1, e2⟩)
        · exact .inl e
        · cases m with
          | zero => simp at e1; exact absurd e1.symm q
          | succ m => exact .inr ⟨m, by simpa using e1, by (first | lia | omega)⟩

theorem relay_small {b : Bool} {t : SetTable} (H : Small b t) {es : Array (Int × Value)} {hs : List Nat} (hes : es.toList.map (·.1) = hs.map Int.ofNat) (h5 : hs.length ≤ 5) (hlt : ∀ h ∈ hs, h < 32) (hn : hs.Nodup) :
    ∃ es' t', relayAll t es 20 = (es', t', false) ∧ t'.led = b ∧ t'.plain = true ∧ Rise t'.place ∧ t'.place.size = es'.size ∧ t'.dummies = #[] ∧ t'.mask = 31 := by
  have hF : ∀ j i, ownF hs 0 (fun zz => none) j = some i ↔ hs[i]? = some j := fun j i => by
    rw [ownF_spec hs 0 _ hn (fun zz zz e => by cases e)]
    simp
  have hsz : es.size = hs.length := by
    have := congrArg List.length hes
    simpa using this
  have hclean : SetTable.layClean 31 (es.map (·.1)) = some ((List.range 32).map (ownF hs 0 fun zz => none)).toArray := by
    unfold SetTable.layClean
    have e1 := clean_go hs 0 (fun zz => none) (fun h hh => ⟨hlt h hh, rfl⟩) hn
    rw [← Array.foldl_toList, Array.toList_map, hes]
    have e2 : (Array.replicate (31 + 1) (none : Option Nat)) = ((List.range 32).map fun zz => (none : Option Nat)).toArray := by
      decide +kernel
    rw [e2]
    exact congrArg (Option.map (fun x : Array (Option Nat) × Nat => x.1)) e1
  let own := ownF hs 0 fun zz => none
  let live := (List.range 32).filterMap fun j => (own j).map (j, ·)
  let t' : SetTable := { mask := 31, place := (live.map (·.1)).toArray, dummies := #[], finger := t.finger, led := t.led, moves := t.movedTo 31, plain := t.plain }
  have hlaid : t.relaid (es.map (·.1)) 20 = some (t', (live.map (·.2)).toArray) := by
    unfold SetTable.relaid SetTable.laid
    have e0 : SetTable.sizeAbove 20 - 1 = 31 := by decide +kernel
    rw [e0, hclean]
    have el : (List.range (31 + 1)).filterMap (fun j => (Array.getD ((List.range 32).map (ownF hs 0 fun zz => none)).toArray j none).map (j, ·)) = live := by
      refine fm_congr fun j hj => ?_
      have hj' : j < 32 := by simpa using hj
      simp [Array.getD, hj', own]
    simp only [Option.bind_eq_bind, Option.bind_some, el]
    rfl
  have hsnd : live.map (·.2) = (List.range 32).filterMap own := by
    show (List.filterMap _ _).map _ = _
    rw [List.map_filterMap]
    refine fm_congr fun j zz => ?_
    cases own j <;> rfl
  have hfst : (live.map (·.1)).Sublist (List.range 32) := by
    have : live.map (·.1) = (List.range 32).filter fun j => (own j).isSome := by
      show (List.filterMap _ _).map _ = _
      rw [List.map_filterMap, ← List.filterMap_eq_filter]
      refine fm_congr fun j zz => ?_
      cases q : own j <;> simp [Option.guard, q]
    rw [this]; exact List.filter_sublist
  have hperm : (live.map (·.2)).Perm (List.range hs.length) := by
    rw [hsnd]
    refine (List.perm_ext_iff_of_nodup ?_ List.nodup_range).mpr fun k => ?_
    · refine List.Pairwise.filterMap _ (R := (· ≠ ·)) ?_ (List.nodup_range)
      intro a a' haa x hx y hy hxy
      subst hxy
      have h1 := (hF a x).mp hx
      have h2 := (hF a' x).mp hy
      rw [h1] at h2; exact haa (Option.some.inj h2)
    · simp only [List.mem_filterMap, List.mem_range]
      constructor
      · rintro ⟨j, _, e⟩
        have := (hF j k).mp e
        exact (List.getElem?_eq_some_iff.mp this).1
      · intro hk
        refine ⟨hs[k], hlt _ (List.getElem_mem hk), (hF _ _).mpr ?_⟩
        simp [hk]
  have hlen : (live.map (·.2)).length = hs.length := by rw [hperm.length_eq]; simp
  have hlen1 : (live.map (·.1)).length = hs.length := by rw [← hlen]; simp
  let es' := ((live.map (·.2)).toArray).filterMap (es[·]?)
  have hes' : es'.size = hs.length := by
    show (Array.filterMap _ _).size = _
    rw [← Array.length_toList, Array.toList_filterMap]
    have : ∀ l : List Nat, (∀ k ∈ l, k < es.size) → (l.filterMap (es[·]?)).length = l.length := by
      intro l hl
      induction l with
      | nil => rfl
      | cons a l ih =>
        have ha : es[a]? = some es[a]! := by
          have := hl a (by simp)
          rw [Array.getElem?_eq_getElem this]; simp [this]
        rw [List.filterMap_cons, ha]
        simp [ih fun k hk => hl k (by simp [hk])]
    rw [this]
    · simpa using hlen
    · intro k hk
      have := (hperm.mem_iff (a := k)).mp (by simpa using hk)
      rw [hsz]; simpa using this
  have hcov : coversAll (live.map (·.2)).toArray es.size = true := by
    unfold coversAll
    rw [hsz]
    exact List.isPerm_iff.mpr hperm
  have hfit : t'.fits es'.size = true := by
    unfold SetTable.fits SetTable.fill
    have h1 : t'.place.size = hs.length := by
      show ((live.map (·.1)).toArray).size = _
      simpa using hlen1
    rw [h1, hes']
    have h2 : t'.dummies.size = 0 := rfl
    have h3 : t'.mask = 31 := rfl
    rw [h2, h3]
    simp; (first | lia | omega)
  refine ⟨es', t', ?_, H.led, H.plain, ?_, ?_, rfl, rfl⟩
  · unfold relayAll
    rw [hlaid]
    simp only [hcov, Bool.true_and]
    show (if t'.fits es'.size = true then (es', t', false) else _) = _
    rw [if_pos hfit]
  · exact (List.pairwise_lt_range (n := 32)).sublist (by simpa [t'] using hfst)
  · show ((live.map (·.1)).toArray).size = _
    rw [hes']; simpa using hlen1
end Lw

namespace Lw
open PySem PySem.Calls PyProof.Rows
set_option maxRecDepth 10000

noncomputable def byText (w : World) : Bool := w.params.followText "set-order"

structure Tab (b : Bool) (t : SetTable) (n : Nat) : Prop where
  led : t.led = b
  plain : t.plain = true
  rise : Rise t.place
  size : t.place.size = n
  fits : t.fits n = true
  small : n ≤ 4 → Small b t

abbrev setObj (es : Array (Int × Value)) (ep : Nat) (t : SetTable) : Obj := { cls := .type "set", dict := none, data := .set es ep t, slots := #[] }

structure SetR (w : World) (a : Addr) (D : List Int) (es : Array (Int × Value)) (ep : Nat) (t : SetTable) (h : Heap) : Prop where
  obj : h.get? a = some (setObj es ep t)
  tab : Tab (!byText w) t es.size
  vals : ∀ e ∈ es.toList, ∃ k : Nat, k < 32 ∧ ∃ u : Tok, e = ((k : Int), .int k u)
  perm : (es.toList.map (·.1)).Perm D
  nodup : D.Nodup

theorem hashInt_small {k : Nat} (h : k < 32) : hashInt (k : Int) = k := by
  unfold hashInt; revert h; revert k; decide +kernel

section
variable {prog : Program} {w : World} {A : Around} {E : Value → Shared → Prop} {s : Shared} {a : Addr} {D : List Int} {es : Array (Int × Value)} {ep : Nat} {t : SetTable}

theorem SetR.elems {h : Heap} (S : SetR w a D es ep t h) : ElemsOf (intKind prog w) es.toList := fun e he => by
  obtain ⟨k, hk, u, rfl⟩ := S.vals e he
  exact ⟨⟨(k : Int), intKind_is _ _ _ _, (hashInt_small hk).symm⟩, rfl⟩

theorem SetR.size {h : Heap} (S : SetR w a D es ep t h) : es.size = D.length := by
  have := S.perm.length_eq
  simpa using this

theorem SetR.push {h h' : Heap} (S : SetR w a D es ep t h) (e : ∀ o, h.get? a = some o → h'.get? a = some o) : SetR w a D es ep t h' :=
  ⟨e _ S.obj, S.tab, S.vals, S.perm, S.nodup⟩

theorem keys_small : ∀ l : List (Int × Value), (∀ e ∈ l, ∃ k : Nat, k < 32 ∧ ∃ u : Tok, e = ((k : Int), Value.int k u)) → ∃ hs : List Nat, l.map (·.1) = hs.map Int.ofNat ∧ ∀ x ∈ hs, x < 32
  | [], _ => ⟨[], rfl, fun zz q => (List.not_mem_nil q).elim⟩
  | x :: l, hl => by
    obtain ⟨k', q1, u', rfl⟩ := hl x (.head _)
    obtain ⟨hs, e1, e2⟩ := keys_small l fun e he => hl e (.tail _ he)
    refine ⟨k' :: hs, by rw [List.map_cons, e1]; rfl, fun y hy => ?_⟩
    rcases List.mem_cons.mp hy with rfl | hy
    · exact q1
    · exact e2 y hy
theorem stored_at {h : Heap} {es1 : Array (Int × Value)} {t1 : SetTable} (ho : h.get? a = some (setObj es ep t)) : (h.update a (Obj.putSet es1 t1)).get? a = some (setObj es1 (ep + 1) t1) := by
  have := Heap.get?_update_self (Obj.putSet es1 t1) ho (by rw [putSet_of es1 t1 rfl]; rfl)
  rw [putSet_of es1 t1 rfl] at this; exact this
theorem SetR.found {h : Heap} {k j : Nat} {u : Tok} (S : SetR w a D es ep t h) (hr : List.findIdx? (fun e => (intKind prog w).is (k : Int) e.2) es.toList = some j) : (k : Int) ∈ D := by
  obtain ⟨hj, hpj, _⟩ := List.findIdx?_eq_some_iff_getElem.mp hr
  refine (S.perm.mem_iff).mp (List.mem_map.mpr ⟨_, List.getElem_mem hj, ?_⟩)
  obtain ⟨k', hk', u', e⟩ := S.vals _ (List.getElem_mem hj)
  rw [e] at hpj ⊢
  simp only [intKind, Value.isInt, beq_iff_eq] at hpj ⊢
  first | exact hpj | exact hpj.symm | (first | lia | omega)
theorem SetR.anew {h : Heap} {k : Nat} (S : SetR w a D es ep t h) (hr : List.findIdx? (fun e => (intKind prog w).is (k : Int) e.2) es.toList = none) : (k : Int) ∉ D := fun q => by
  obtain ⟨e, he, e1⟩ := List.mem_map.mp ((S.perm.mem_iff).mpr q)
  have h1 := List.findIdx?_eq_none_iff.mp hr e he
  obtain ⟨k', hk', u', rfl⟩ := S.vals e he
  simp only at e1
  rw [e1] at h1
  simp [intKind, Value.isInt] at h1

theorem add_setR {k : Nat} {u : Tok} {Q : Bool → Shared → Prop} (S : SetR w a D es ep t s.heap) (hk : k < 32) (hD : D.length ≤ 4)
    (h : ∀ es' ep' t' h' b, SetR w a (step_dedup D (k : Int)) es' ep' t' h' → Heap.SameBut a s.heap h' → Q b { s with heap := h' }) :
    wpAny (model prog w) A (setAddHashed a (.int k u) (k : Int)) Q E s := by
  have hf := S.tab.fits
  have hsz := S.size
  have hel := S.elems (prog := prog)
  have hb : es.size < scanBound := by rw [hsz]; unfold scanBound; (first | lia | omega)
  have hkey : (intKind prog w).is (k : Int) (.int k u) = true := intKind_is _ _ _ _
  have hhash : (intKind prog w).hash (k : Int) = (k : Int) := hashInt_small hk
  unfold setAddHashed setAddHashedIn
  refine wpAny_holding (wpAny_bind (wpAny_setState_of S.obj rfl hf ?_))
  dsimp only
  rw [byScan_of rfl hb hel]
  simp only [↓reduceIte]
  unfold setAddByScan
  refine wpAny_bind ?_
  refine wpAny_bind (wpAny_rule ?_)
  have hscan := fun Q hQ => wpAny_setScan_of (A := A) (E := E) (adding := true) (Q := Q) hkey S.obj rfl hf hel hQ
  rw [hhash] at hscan
  refine wpAny_bind (hscan _ ?_)
  cases hr : List.findIdx? (fun e => (intKind prog w).is (k : Int) e.2) es.toList with
  | some j =>
    dsimp only
    have hm := S.found (u := u) hr
    have hst : step_dedup D (k : Int) = D := by
      unfold step_dedup
      rw [if_pos]
      simpa using hm
    refine wpAny_pure (wpAny_pure ?_)
    have := h es ep t s.heap false (by rw [hst]; exact S) (Heap.SameBut.refl a s.heap)
    exact this
  | none =>
    dsimp only
    have hm := S.anew hr
    have hst : step_dedup D (k : Int) = D ++ [(k : Int)] := by
      unfold step_dedup
      rw [if_neg]
      simpa using hm
    have H := S.tab.small (by (first | lia | omega))
    obtain ⟨p, t1, hp, hlay, H1, hs1⟩ := layNew_small H S.tab.size (by (first | lia | omega)) hk (.int k u)
    rw [hlay]
    let es1 := SetTable.insertAt es p ((k : Int), Value.int k u)
    have hl1 : es1.toList = es.toList.take p ++ ((k : Int), Value.int k u) :: es.toList.drop p := insertAt_toList _ _ _ hp
    have hsz1 : es1.size = es.size + 1 := by
      rw [← Array.length_toList, hl1]; simp; (first | lia | omega)
    have hpm : es1.toList.Perm (((k : Int), Value.int k u) :: es.toList) := by
      rw [hl1]
      refine (List.perm_middle).trans (List.Perm.cons _ ?_)
      rw [List.take_append_drop]
    have hv1 : ∀ e ∈ es1.toList, ∃ k : Nat, k < 32 ∧ ∃ u : Tok, e = ((k : Int), .int k u) := fun e he => by
      rcases List.mem_cons.mp ((hpm.mem_iff).mp he) with rfl | he
      · exact ⟨k, hk, u, rfl⟩
      · exact S.vals e he
    have hp1 : (es1.toList.map (·.1)).Perm (D ++ [(k : Int)]) := by
      refine (hpm.map _).trans ?_
      simp only [List.map_cons]
      exact ((S.perm.cons _).trans (List.perm_append_singleton _ _).symm)
    have hn1 : (D ++ [(k : Int)]).Nodup := (List.perm_append_singleton _ _).symm.nodup_iff.mp (List.nodup_cons.mpr ⟨hm, S.nodup⟩)
    have hf1 : t1.fits es1.size = true := by
      unfold SetTable.fits SetTable.fill
      rw [hs1, hsz1, H1.dum, H1.mask]
      simp; (first | lia | omega)
    show wpAny _ _ (_ >>= _) _ _ _
    refine wpAny_bind (wpAny_pure ?_)
    dsimp only
    rw [if_pos H1.plain]
    refine wpAny_bind (wpAny_pure ?_)
    simp only [if_true]
    refine wpAny_bind (wpAny_storeSet_of S.obj rfl ?_ (fits_of_scanBound (by rw [hsz1, hsz]; unfold scanBound; (first | lia | omega))))
    have hg1 := stored_at (es1 := es1) (t1 := t1) S.obj
    have hsb1 := Heap.SameBut.update s.heap a (Obj.putSet es1 t1)
    by_cases h5 : es.size = 4
    · have htf : t1.tooFull = true := by
        unfold SetTable.tooFull SetTable.fill
        rw [hs1, H1.dum, H1.mask, h5]; decide
      rw [htf]
      simp only [Bool.not_false, Bool.and_true, if_true]
      have hgr : SetTable.grown es1.size = 20 := by rw [hsz1, h5]; rfl
      obtain ⟨hs, ehs, hlt⟩ := keys_small _ hv1
      have hnd : hs.Nodup := by
        have h1 : (hs.map Int.ofNat).Nodup := by rw [← ehs]; exact hp1.nodup_iff.mpr hn1
        exact List.Pairwise.of_map Int.ofNat (fun a b hab e => hab (by rw [e])) h1
      have hlen : hs.length ≤ 5 := by
        have := congrArg List.length ehs
        simp at this; (first | lia | omega)
      obtain ⟨es2, t2, hrel, r1, r2, r3, r4, r5, r6⟩ := relay_small H1 ehs hlen hlt hnd
      have hp2 := relayAll_perm t1 es1 20
      have hf2 := relayAll_fits t1 es1 20
      rw [hrel] at hp2 hf2
      simp only at hp2 hf2
      rw [hgr, hrel]
      have hsz2 : es2.size = es1.size := by rw [← Array.length_toList, hp2.length_eq, Array.length_toList]
      refine wpAny_bind (wpAny_bind (wpAny_pure ?_))
      refine wpAny_pure ?_
      show wpAny _ _ (storeSet a es2 t2 >>= _) _ _ _
      refine wpAny_bind (wpAny_storeSet_of hg1 rfl ?_ (fits_of_scanBound (by rw [hsz2, hsz1, hsz]; unfold scanBound; (first | lia | omega))))
      have hg2 := stored_at (es1 := es2) (t1 := t2) hg1
      refine wpAny_pure (wpAny_pure (h es2 (ep + 1 + 1) t2 _ true ⟨hg2, ⟨r1, r2, r3, r4, hf2, fun q => by (first | lia | omega)⟩, fun e he => hv1 e ((hp2.mem_iff).mp he), by rw [hst]; exact (hp2.map _).trans hp1, by rw [hst]; exact hn1⟩ (hsb1.trans (Heap.SameBut.update _ a _))))
    · have htf : t1.tooFull = false := by
        unfold SetTable.tooFull SetTable.fill
        rw [hs1, H1.dum, H1.mask]
        simp; (first | lia | omega)
      rw [htf]
      simp only [Bool.not_false, Bool.and_false, Bool.false_eq_true, if_false]
      refine wpAny_pure (wpAny_pure (h es1 (ep + 1) t1 _ true ⟨hg1, ⟨H1.led, H1.plain, H1.rise, by rw [hs1, hsz1], hf1, fun zz => H1⟩, hv1, by rw [hst]; exact hp1, by rw [hst]; exact hn1⟩ hsb1))
end
end Lw

namespace Lw
open PySem PySem.Calls PyProof.Rows PySem.Spec
set_option maxRecDepth 100000

section
variable {prog : Program} {w : World} {A : Around} {E : Value → Shared → Prop}

theorem fold_le : ∀ (l a : List Int), (l.foldl step_dedup a).length ≤ a.length + l.length
  | [], a => Nat.le_refl _
  | x :: l, a => by
    have := fold_le l (step_dedup a x)
    have h2 := step_length a x
    rw [List.foldl_cons, List.length_cons]
    split at h2 <;> (first | lia | omega)

theorem set_loop {R : Result → Shared → Prop} {I S l : Addr} {items : Array Value} {ns : List Nat} (hh : A.handled = none) (hne : l ≠ I) (hSI : S ≠ I) (hSl : S ≠ l) (hi : IntsAre items.toList (ns.map Int.ofNat)) (h32 : ∀ n ∈ ns, n < 32) (h5 : ns.length ≤ 5) :
    ∀ (k i : Nat) (s : Shared) (es : Array (Int × Value)) (ep : Nat) (t : SetTable), items.size - i = k → i ≤ items.size → s.heap.IsListIter I l i ∧ s.heap.IsList l items →
      SetR w S (((ns.map Int.ofNat).take i).foldl step_dedup []) es ep t s.heap →
      (∀ h' tk es ep t, SetR w S ((ns.map Int.ofNat).foldl step_dedup []) es ep t h' → (∀ b o, b ≠ S → b ≠ I → s.heap.get? b = some o → h'.get? b = some o) → R (.ok (.ret .none)) { s with heap := h', toks := tk }) →
      codeAny (model prog w) A (.builtin "set.update.loop" ⟨[.ref S, .ref I], []⟩) R s := by
  have hlen : items.size = ns.length := by have := hi.length; simpa using this
  have W : Walks prog w A.in1 I [I, l] [I] items.size (fun i v => items[i]? = some v) (fun i h => h.IsListIter I l i ∧ h.IsList l items) := Walks.list (by simpa using hh) I l hne items
  intro k
  induction k with
  | zero =>
    intro i s es ep t hk hile hst hS hR
    have hin : i = items.size := by (first | lia | omega)
    subst hin
    refine codeAny_builtin F.entry_set_update_loop ?_
    rw [Around.under_plainId F.plain_set_update_loop _]
    show wpAny _ A.in1 (pyNext (.ref I) >>= _) _ _ s
    refine wpAny_bind (W.done s _ _ hst fun h' tk hk' => ?_)
    show wpAny _ A.in1 (ret Value.none) _ _ _
    rw [List.take_of_length_le (by rw [List.length_map]; (first | lia | omega))] at hS
    exact wpAny_pure (hR h' tk es ep t (hS.push fun o e => hk' S o (by simpa using hSI) e) fun b o zz hb e => hk' b o (by simpa using hb) e)
  | succ k ih =>
    intro i s es ep t hk hile hst hS hR
    have hlt : i < items.size := by (first | lia | omega)
    refine codeAny_builtin F.entry_set_update_loop ?_
    rw [Around.under_plainId F.plain_set_update_loop _]
    show wpAny _ A.in1 (pyNext (.ref I) >>= _) _ _ s
    refine wpAny_bind (W.item i s _ _ hlt hst fun v h1 tk1 hv hst1 hk1 => ?_)
    obtain ⟨u, rfl⟩ := IntsAre.int_at hi i v (by rw [Array.getElem?_toList]; exact hv)
    have hin : i < ns.length := by (first | lia | omega)
    have hval : (ns.map Int.ofNat).getD i 0 = ((ns[i] : Nat) : Int) := by simp [hin]
    rw [hval]
    have hk32 : ns[i] < 32 := h32 _ (List.getElem_mem hin)
    show wpAny _ A.in1 (holding [Value.int ((ns[i] : Nat) : Int) u] (setAdd S (.int ((ns[i] : Nat) : Int) u)) >>= _) _ _ _
    refine wpAny_bind (wpAny_holding ?_)
    unfold setAdd
    refine wpAny_holding ?_
    refine wpAny_bind ((intKind prog w).pyHash (k := ((ns[i] : Nat) : Int)) (intKind_is _ _ _ _) ?_)
    have hhash : (intKind prog w).hash ((ns[i] : Nat) : Int) = ((ns[i] : Nat) : Int) := hashInt_small hk32
    rw [hhash]
    have hS1 : SetR w S (((ns.map Int.ofNat).take i).foldl step_dedup []) es ep t h1 := hS.push fun o e => hk1 S o (by simpa using hSI) e
    have hDl : (((ns.map Int.ofNat).take i).foldl step_dedup []).length ≤ 4 := by
      have := fold_le ((ns.map Int.ofNat).take i) []
      simp at this; (first | lia | omega)
    refine add_setR (s := { s with heap := h1, toks := tk1 + 1 }) hS1 hk32 hDl fun es' ep' t' h2 b hS2 hsb => ?_
    have e2 : ((ns.map Int.ofNat).take (i + 1)).foldl step_dedup [] = step_dedup (((ns.map Int.ofNat).take i).foldl step_dedup []) ((ns[i] : Nat) : Int) := by
      rw [List.take_succ_eq_append_getElem (by simpa using hin), List.foldl_append]
      simp
    rw [← e2] at hS2
    refine wpAny_pure ⟨plainId_quiet F.plain_set_update_loop _, ih (i + 1) _ es' ep' t' (by (first | lia | omega)) (by (first | lia | omega)) (W.frame _ _ _ hst1 fun b hb o e => ?_) hS2 fun h3 tk3 es3 ep3 t3 hS3 hk3 => ?_⟩
    · rw [hsb.2 b (fun h : b = S => by
        subst h
        simp at hb
        rcases hb with hb | hb
        · exact hSI hb
        · exact hSl hb)]; exact e
    · refine hR h3 tk3 es3 ep3 t3 hS3 fun b o hb1 hb2 e => hk3 b o hb1 hb2 ?_
      rw [hsb.2 b hb1]; exact hk1 b o (by simpa using hb2) e

theorem new_set (a : Value) {s : Shared} {Q₁ : Value → Shared → Prop}
    (h : Q₁ (.ref s.heap.objs.size) { s with heap := s.heap.push (setObj #[] 0 (.fresh 0 0 (!byText w))) }) :
    codeAny (model prog w) A (.call (.builtin "set.__new__") ⟨[.type "set", a], []⟩) (wants Q₁ E) s := by
  refine codeAny_of_tree ?_
  show wpAny _ A.in1 (do checkBuiltinCall "set.__new__" ⟨[.type "set", a], []⟩; again (.builtin "set.__new__" ⟨[.type "set", a], []⟩)) _ _ s
  refine wpAny_bind (wpAny_of_eq (F.newCall_set_1 a) (wpAny_pure ⟨plainId_quiet F.plain_set_new _, codeAny_builtin F.entry_set_new ?_⟩))
  rw [Around.under_plainId F.plain_set_new _]
  unfold Builtin.«set.__new__» Builtin.Frozenset.newClass
  have hsub := sub_set_self
  obtain ⟨hp, g, d, tk, os⟩ := s
  dsimp only
  wp_walk
  refine wpAny_askSetting (wpAny_pure ?_)
  dsimp only
  simp only [newObj]
  refine wpAny_bind (wpAny_alloc (wpAny_pure ?_))
  exact wpAny_pure h

theorem fresh_setR {h : Heap} : SetR w h.objs.size [] #[] 0 (.fresh 0 0 (!byText w)) (h.push (setObj #[] 0 (.fresh 0 0 (!byText w)))) :=
  ⟨Heap.get?_push_size _ rfl, ⟨rfl, rfl, .nil, rfl, by rfl, fun zz => ⟨rfl, rfl, .nil, rfl, rfl, by simp [SetTable.fresh]⟩⟩, by simp, by simp, .nil⟩

theorem set_init {s : Shared} {S l : Addr} {items : Array Value} {ns : List Nat} {Q : PySem.Fin → Shared → Prop} (hh : A.handled = none) (hS0 : SetR w S [] #[] 0 (.fresh 0 0 (!byText w)) s.heap) (hl : s.heap.IsList l items) (hSl : S ≠ l) (hi : IntsAre items.toList (ns.map Int.ofNat)) (h32 : ∀ n ∈ ns, n < 32) (h5 : ns.length ≤ 5)
    (h : ∀ h' tk es ep t, SetR w S ((ns.map Int.ofNat).foldl step_dedup []) es ep t h' → (∀ b o, b ≠ S → s.heap.get? b = some o → h'.get? b = some o) → Q (.done (.ret .none)) { s with heap := h', toks := tk }) :
    wpAny (model prog w) A (Builtin.«set.__init__» ⟨[.ref S, .ref l], []⟩) Q E s := by
  obtain ⟨⟨ocls, odict, odata, oslots⟩, hol, hcl, nl, hdl⟩ := id hl
  simp only at hcl hdl
  subst hcl; subst hdl
  have hsls := F.sub_list_set
  have hslf := F.sub_list_frozenset
  have hne : (Value.type "list" == Value.type "dict") = false := by decide
  have hT : Shared.TypeIs s (.ref S) "set" := ⟨_, hS0.obj, rfl⟩
  have hSo := hS0.obj
  unfold Builtin.«set.__init__» noKeywords Builtin.Frozenset.updateFrom
  generalize hPI : pyIter = PI
  wp_walk
  subst hPI
  refine wpAny_pyIter_list hl ?_
  refine wpAny_bind (wpAny_runValue ?_)
  have hlI := Heap.lt_size hol
  have hSI := Heap.lt_size hSo
  refine set_loop (A := A) hh (Nat.ne_of_lt hlI) (Nat.ne_of_lt hSI) hSl hi h32 h5 (items.size - 0) 0 _ #[] 0 (.fresh 0 0 (!byText w)) (by (first | lia | omega)) (Nat.zero_le _)
    ?hst ?hS fun h' tk es ep t hS' hk' => ?hk
  case hst => exact ⟨⟨_, Heap.get?_push_size _ rfl, rfl, rfl⟩, hl.push _⟩
  case hS => exact hS0.push fun o e => Heap.get?_push_of_some _ e
  refine wpAny_pure ?_
  show wpAny _ _ (ret Value.none) _ _ _
  exact wpAny_pure (h h' tk es ep t hS' fun b o hb e => hk' b o hb (Nat.ne_of_lt (Heap.lt_size e)) (Heap.get?_push_of_some _ e))

set_option maxHeartbeats 3200000 in
theorem set_call {s : Shared} {l : Addr} {items : Array Value} {ns : List Nat} {Q : Value → Shared → Prop} (hh : A.handled = none) (hl : s.heap.IsList l items) (hi : IntsAre items.toList (ns.map Int.ofNat)) (h32 : ∀ n ∈ ns, n < 32) (h5 : ns.length ≤ 5)
    (h : ∀ h' tk es ep t, SetR w s.heap.objs.size ((ns.map Int.ofNat).foldl step_dedup []) es ep t h' → (∀ b o, s.heap.get? b = some o → h'.get? b = some o) → Q (.ref s.heap.objs.size) { s with heap := h', toks := tk }) :
    wpAny (model prog w) A (call (.type "set") [.ref l]) Q E s := by
  obtain ⟨c, tl, hmro⟩ := F.called_set.mro
  have hmade := F.called_set.made
  have hsub := F.called_set.sub
  refine wpAny_call (codeAny_of_tree ?_)
  show wpAny _ _ (callAny (.type "set") _) _ _ _
  refine wpAny_pure ⟨Code.quiet_builtin _ (by decide +kernel), codeAny_builtin F.entry_type_call ?_⟩
  rw [Around.under_plain (weight_type_call_type "set" [.ref l] []) rfl]
  have h1 := F.called_set.notType
  have h2 := F.called_set.canCreate
  have hct := F.typeCall_set_1 (.ref l)
  repeat (any_goals (first | assumption | wp_step))
  refine codeAny_mono (new_set (.ref l) (E := E) (Q₁ := fun obj s₁ => obj = .ref s.heap.objs.size ∧ s₁ = { s with heap := s.heap.push (setObj #[] 0 (.fresh 0 0 (!byText w))) }) ⟨rfl, rfl⟩) fun r s₁ hr => ?_
  cases r with
  | error e => exact hr
  | ok fl =>
    cases fl with
    | ret obj =>
      obtain ⟨rfl, rfl⟩ := hr
      have hS0 := fresh_setR (w := w) (h := s.heap)
      have hT : Shared.TypeIs { s with heap := s.heap.push (setObj #[] 0 (.fresh 0 0 (!byText w))) } (.ref s.heap.objs.size) "set" := ⟨_, hS0.obj, rfl⟩
      have hli := F.called_set.init.lookup
      have hbi := F.called_set.init.bind (.ref s.heap.objs.size)
      repeat (any_goals (first | assumption | wp_step))
      refine codeAny_mono (codeAny_call_builtin (R := wants (fun r s₂ => r = .none ∧ Q (.ref s.heap.objs.size) s₂) E) F.called_set.init.plain F.entry_set_init (check_set_init_1 hT
        (set_init (by simp [hh]) hS0 (hl.push _) (Nat.ne_of_gt (by obtain ⟨o, ho, _⟩ := hl; exact Heap.lt_size ho)) hi h32 h5 fun h' tk es ep t hS' hk' => ⟨rfl, h h' tk es ep t hS' fun b o e => hk' b o (Nat.ne_of_lt (Heap.lt_size e)) (Heap.get?_push_of_some _ e)⟩))) fun r₂ s₂ hr₂ => ?_
      cases r₂ with
      | error e => exact hr₂
      | ok fl₂ =>
        cases fl₂ with
        | ret r =>
          obtain ⟨rfl, hq⟩ := hr₂
          repeat (any_goals (first | assumption | wp_step))
        | _ => exact hr₂.elim
    | _ => exact hr.elim
end
end Lw

namespace Lw
open PySem PySem.Calls PyProof.Rows PySem.Spec
set_option maxRecDepth 100000

theorem slot_setit_next : PySem.Slot "set_iterator" "__next__" "set_iterator.__next__" :=
  .of (owner := "set_iterator") (n := "__next__") (by rw [typeLookup_type, builtinLookup_eq_fast]; kernel_rfl) (by decide +kernel) (by decide +kernel) (by decide +kernel)
    (by first | exact .inl (by decide +kernel) | exact .inr (by decide +kernel)) (by rw [isSubtype_type]; kernel_rfl)
theorem slot_setit_iter : PySem.Slot "set_iterator" "__iter__" "set_iterator.__iter__" :=
  .of (owner := "set_iterator") (n := "__iter__") (by rw [typeLookup_type, builtinLookup_eq_fast]; kernel_rfl) (by decide +kernel) (by decide +kernel) (by decide +kernel)
    (by first | exact .inl (by decide +kernel) | exact .inr (by decide +kernel)) (by rw [isSubtype_type]; kernel_rfl)
theorem entry_setit_next : entryFor table "set_iterator.__next__" = some Builtin.«set_iterator.__next__» := entryFor_of_tree (by kernel_rfl)
theorem entry_setit_iter : entryFor table "set_iterator.__iter__" = some Builtin.«dict_keyiterator.__iter__» :=
  entryFor_alias (id' := "dict_keyiterator.__iter__") (by kernel_rfl) rfl (by decide +kernel) (by kernel_rfl)
theorem entry_set_iter : entryFor table "set.__iter__" = some Builtin.«frozenset.__iter__» :=
  entryFor_alias (id' := "frozenset.__iter__") (by kernel_rfl) rfl (by decide +kernel) (by kernel_rfl)
theorem owner_setit : Manifest.owners.lookup (String.ofList ['r', 'o', 't', 'a', 'r', 'e', 't', 'i', '_', 't', 'e', 's'].reverse) = some Manifest.sig_set_iterator := by kernel_rfl
theorem args_setit_next (a : Value) : argsOk "set_iterator.__next__" ⟨[a], []⟩ := by
  unfold argsOk; rw [signature?_of (id := "set_iterator.__next__") (n := ['_', '_', 't', 'x', 'e', 'n', '_', '_']) (o := ['r', 'o', 't', 'a', 'r', 'e', 't', 'i', '_', 't', 'e', 's']) (by kernel_rfl) owner_setit]; kernel_rfl
theorem args_setit_iter (a : Value) : argsOk "set_iterator.__iter__" ⟨[a], []⟩ := by
  unfold argsOk; rw [signature?_of (id := "set_iterator.__iter__") (n := ['_', '_', 'r', 'e', 't', 'i', '_', '_']) (o := ['r', 'o', 't', 'a', 'r', 'e', 't', 'i', '_', 't', 'e', 's']) (by kernel_rfl) owner_setit]; kernel_rfl

section
variable {prog : Program} {w : World} {A : Around} {E : Value → Shared → Prop} {s : Shared} {a I : Addr} {D : List Int} {es : Array (Int × Value)} {ep : Nat} {t : SetTable}

noncomputable def itObj (slot i a n ep : Nat) : Obj := { cls := .type "set_iterator", data := .fields #[.int slot 0, .int i 0, .ref a, .int n 0, .int ep 0] }

/-- the order in which a set is walked -/
noncomputable def ordOf (w : World) (a ep : Nat) (es : Array (Int × Value)) : Array (Int × Value) := if byText w = true then pickOrder (w.params.setOrder a ep) es else es

theorem pick_go {α : Type} (next : Nat → Nat) : ∀ (fuel k : Nat) (left : List α) (out : Array α), fuel = left.length → (pickOrder.go next fuel k left out).toList.Perm (out.toList ++ left) := by
  intro fuel
  induction fuel with
  | zero =>
    intro k left out h
    have : left = [] := List.length_eq_zero_iff.mp h.symm
    subst this; unfold pickOrder.go; simp
  | succ fuel ih =>
    intro k left out h
    unfold pickOrder.go
    have hp : 0 < left.length := by (first | lia | omega)
    have hlt : next k % left.length < left.length := Nat.mod_lt _ hp
    rw [List.getElem?_eq_getElem hlt]
    simp only
    refine (ih (k + 1) _ _ (by rw [List.length_eraseIdx]; simp [hlt]; (first | lia | omega))).trans ?_
    rw [Array.toList_push, List.append_assoc]
    refine List.Perm.append_left _ ?_
    rw [List.eraseIdx_eq_take_drop_succ]
    refine ((List.perm_middle (l₁ := left.take (next k % left.length)) (a := left[next k % left.length]) (l₂ := left.drop (next k % left.length + 1))).symm).trans ?_
    rw [← List.drop_eq_getElem_cons hlt, List.take_append_drop]

theorem ord_perm : (ordOf w a ep es).toList.Perm es.toList := by
  unfold ordOf
  split
  · unfold pickOrder
    simpa using pick_go (w.params.setOrder a ep) es.size 0 es.toList #[] (by simp)
  · exact .refl _
theorem ord_size : (ordOf w a ep es).size = es.size := by
  have := (ord_perm (w := w) (a := a) (ep := ep) (es := es)).length_eq
  simpa using this

theorem iter_set {Q : Value → Shared → Prop} (S : SetR w a D es ep t s.heap) (h : Q (.ref s.heap.objs.size) { s with heap := s.heap.push (itObj 0 0 a es.size ep) }) : wpAny (model prog w) A (pyIter (.ref a)) Q E s := by
  have hT : s.TypeIs (.ref a) "set" := ⟨_, S.obj, rfl⟩
  refine wpAny_pyIter_slot hT F.slot_set_iter (wpAny_call_entry F.slot_set_iter hT entry_set_iter ?_ (F.args_set_iter_1 _))
  refine wpAny_bind (m := Builtin.Frozenset.slot0 "__iter__" ⟨[.ref a], []⟩) (wpAny_bind (m := slotArgs "__iter__" 0 ⟨[.ref a], []⟩) (wpAny_pure (wpAny_pure ?_)))
  refine wpAny_bind (wpAny_bind (wpAny_setEntries_of S.obj rfl S.tab.fits (wpAny_pure ?_)))
  refine wpAny_bind (m := setDrawn a) ?_
  unfold setDrawn setsByText
  refine wpAny_bind (wpAny_setState_of S.obj rfl S.tab.fits ?_)
  dsimp only
  refine wpAny_bind (wpAny_bind (wpAny_askSetting (wpAny_pure ?_)))
  refine wpAny_pure ?_
  have hdr : (!(w.params.followText "set-order") && (!t.plain && decide (es.size > 1))) = false := by rw [S.tab.plain]; simp
  show wpAny _ _ (if (!(w.params.followText "set-order") && (!t.plain && decide (es.size > 1))) = true then _ else _) _ _ _
  rw [hdr]
  simp only [Bool.false_eq_true, if_false]
  refine wpAny_bind (wpAny_pure ?_)
  refine wpAny_bind (wpAny_setEpoch_of S.obj rfl S.tab.fits ?_)
  refine wpAny_bind (m := newFields _ _) (wpAny_newObj_type ?_)
  exact wpAny_pure ⟨_, rfl, "set_iterator", _, ⟨_, Heap.get?_push_size _ rfl, rfl⟩, slot_setit_next.lookup, h⟩

/-- where the walk stands -/
noncomputable def Stand (w : World) (t : SetTable) (n slot i : Nat) : Prop := i ≤ n ∧ (byText w = true ∨ SetTable.below t.place slot = i)

theorem below_next {xs : Array Nat} (h : Rise xs) {i : Nat} (hi : i < xs.size) : SetTable.below xs (xs[i] + 1) = i + 1 := by
  obtain ⟨h1, h2, h3⟩ := below_spec h (xs[i] + 1)
  have e : xs.getD i 0 = xs[i] := by simp [Array.getD, hi]
  rcases Nat.lt_trichotomy (SetTable.below xs (xs[i] + 1)) (i + 1) with q | q | q
  · have := h3 i (by (first | lia | omega)) hi; (first | lia | omega)
  · exact q
  · have a1 := h2 (i + 1) q
    have a2 : xs.getD i 0 < xs.getD (i + 1) 0 := h.lt (Nat.lt_succ_self i) (by (first | lia | omega))
    (first | lia | omega)

theorem setNext_item {slot i : Nat} {e : Int × Value} {Q : Option (Value × Nat) → Shared → Prop} (S : SetR w a D es ep t s.heap) (hs : Stand w t es.size slot i) (he : (ordOf w a ep es)[i]? = some e)
    (h : ∀ slot', Stand w t es.size slot' (i + 1) → Q (some (e.2, slot')) s) : wpAny (model prog w) A (setNext a slot i ep) Q E s := by
  have hi : i < es.size := by
    have := (Array.getElem?_eq_some_iff.mp he).1
    rwa [ord_size] at this
  unfold setNext
  refine wpAny_bind (wpAny_setState_of S.obj rfl S.tab.fits ?_)
  dsimp only
  refine wpAny_bind (m := setsByText) ?_
  unfold setsByText
  refine wpAny_bind (wpAny_askSetting (wpAny_pure ?_))
  show wpAny _ _ (if byText w = true then _ else _) _ _ _
  by_cases hb : byText w = true
  · rw [if_pos hb]
    simp only [bne_self_eq_false, Bool.false_eq_true, if_false]
    refine wpAny_bind (m := setWalk a) ?_
    unfold setWalk
    refine wpAny_bind (wpAny_setState_of S.obj rfl S.tab.fits ?_)
    dsimp only
    refine wpAny_bind (m := setsByText) ?_
    unfold setsByText
    refine wpAny_bind (wpAny_askSetting (wpAny_pure ?_))
    show wpAny _ _ (if byText w = true then _ else _) _ _ _
    rw [if_pos hb]
    refine wpAny_bind (wpAny_askSetting (wpAny_pure ?_))
    refine wpAny_pure ?_
    have e1 : (pickOrder (w.params.setOrder a ep) es)[i]? = some e := by
      unfold ordOf at he
      rw [if_pos hb] at he; exact he
    show Q (Option.map (fun e => (e.2, slot)) (pickOrder (w.params.setOrder a ep) es)[i]?) s
    rw [e1]
    exact h slot ⟨hi, .inl hb⟩
  · rw [if_neg hb]
    have hbl : SetTable.below t.place slot = i := by
      rcases hs.2 with q | q
      · exact absurd q hb
      · exact q
    have hdr : (!t.plain && decide (es.size > 1)) = false := by rw [S.tab.plain]; simp
    show wpAny _ _ (if (!t.plain && decide (es.size > 1)) = true then _ else _) _ _ _
    rw [hdr]
    simp only [Bool.false_eq_true, if_false]
    refine wpAny_bind ?_
    have hled : (!t.led && !es.isEmpty) = false := by rw [S.tab.led]; simp [hb]
    show wpAny _ _ (if (!t.led && !es.isEmpty) = true then _ else _) _ _ _
    rw [hled]
    simp only [Bool.false_eq_true, if_false]
    refine wpAny_pure ?_
    rw [hbl]
    have e1 : es[i]? = some e := by
      unfold ordOf at he
      rw [if_neg hb] at he; exact he
    have hp : i < t.place.size := by rw [S.tab.size]; exact hi
    obtain ⟨e1a, e1b⟩ := e
    rw [e1, Array.getElem?_eq_getElem hp]
    exact wpAny_pure (h _ ⟨hi, .inr (below_next S.tab.rise hp)⟩)

theorem setNext_end {slot : Nat} {Q : Option (Value × Nat) → Shared → Prop} (S : SetR w a D es ep t s.heap) (hs : Stand w t es.size slot es.size)
    (h : Q none s) : wpAny (model prog w) A (setNext a slot es.size ep) Q E s := by
  unfold setNext
  refine wpAny_bind (wpAny_setState_of S.obj rfl S.tab.fits ?_)
  dsimp only
  refine wpAny_bind (m := setsByText) ?_
  unfold setsByText
  refine wpAny_bind (wpAny_askSetting (wpAny_pure ?_))
  show wpAny _ _ (if byText w = true then _ else _) _ _ _
  by_cases hb : byText w = true
  · rw [if_pos hb]
    simp only [bne_self_eq_false, Bool.false_eq_true, if_false]
    refine wpAny_bind (m := setWalk a) ?_
    unfold setWalk
    refine wpAny_bind (wpAny_setState_of S.obj rfl S.tab.fits ?_)
    dsimp only
    refine wpAny_bind (m := setsByText) ?_
    unfold setsByText
    refine wpAny_bind (wpAny_askSetting (wpAny_pure ?_))
    show wpAny _ _ (if byText w = true then _ else _) _ _ _
    rw [if_pos hb]
    refine wpAny_bind (wpAny_askSetting (wpAny_pure ?_))
    refine wpAny_pure ?_
    have e1 : (pickOrder (w.params.setOrder a ep) es)[es.size]? = none := by
      have := ord_size (w := w) (a := a) (ep := ep) (es := es)
      unfold ordOf at this
      rw [if_pos hb] at this
      exact Array.getElem?_eq_none (by (first | lia | omega))
    show Q (Option.map (fun e => (e.2, slot)) (pickOrder (w.params.setOrder a ep) es)[es.size]?) s
    rw [e1]
    exact h
  · rw [if_neg hb]
    have hbl : SetTable.below t.place slot = es.size := by
      rcases hs.2 with q | q
      · exact absurd q hb
      · exact q
    have hdr : (!t.plain && decide (es.size > 1)) = false := by rw [S.tab.plain]; simp
    show wpAny _ _ (if (!t.plain && decide (es.size > 1)) = true then _ else _) _ _ _
    rw [hdr]
    simp only [Bool.false_eq_true, if_false]
    refine wpAny_bind ?_
    have hled : (!t.led && !es.isEmpty) = false := by rw [S.tab.led]; simp [hb]
    show wpAny _ _ (if (!t.led && !es.isEmpty) = true then _ else _) _ _ _
    rw [hled]
    simp only [Bool.false_eq_true, if_false]
    refine wpAny_pure ?_
    rw [hbl, Array.getElem?_eq_none (Nat.le_refl _)]
    exact wpAny_pure h
end
end Lw

namespace Lw
open PySem PySem.Calls PyProof.Rows PySem.Spec
set_option maxRecDepth 100000

section
variable {prog : Program} {w : World} {A : Around} {E : Value → Shared → Prop} {s : Shared} {a I : Addr} {D : List Int} {es : Array (Int × Value)} {ep : Nat} {t : SetTable}

noncomputable def IsIt (h : Heap) (I slot i a n ep : Nat) : Prop := ∃ o, h.get? I = some o ∧ o.cls = .type "set_iterator" ∧ o.data = .fields #[.int slot 0, .int i 0, .ref a, .int n 0, .int ep 0]
theorem IsIt.typeIs {slot i n : Nat} (x : IsIt s.heap I slot i a n ep) : s.TypeIs (.ref I) "set_iterator" := let ⟨o, ho, hc, _⟩ := x; ⟨o, ho, hc⟩

theorem next_item {slot i : Nat} {e : Int × Value} {Q : Option Value → Shared → Prop} (hit : IsIt s.heap I slot i a es.size ep) (S : SetR w a D es ep t s.heap) (hs : Stand w t es.size slot i) (he : (ordOf w a ep es)[i]? = some e)
    (h : ∀ slot' h', Stand w t es.size slot' (i + 1) → IsIt h' I slot' (i + 1) a es.size ep → (∀ b o, b ≠ I → s.heap.get? b = some o → h'.get? b = some o) → Q (some e.2) { s with heap := h' }) :
    wpAny (model prog w) A (pyNext (.ref I)) Q E s := by
  obtain ⟨o, ho, hc, hd⟩ := id hit
  unfold pyNext
  refine wpAny_bind (wpAny_attempt (wpAny_callSpecial?_slot (name := Str.ofString "__next__") hit.typeIs slot_setit_next
    (wpAny_call_entry slot_setit_next hit.typeIs entry_setit_next ?_ (args_setit_next _))))
  refine wpAny_bind (m := slotArgs "__next__" 0 ⟨[.ref I], []⟩) (wpAny_pure ?_)
  refine wpAny_bind (wpAny_fieldsOf ho hd ?_)
  show wpAny _ _ (setEntries a >>= _) _ _ _
  refine wpAny_bind (wpAny_setEntries_of S.obj rfl S.tab.fits ?_)
  show wpAny _ _ (if (((es.size : Nat) : Int) != ((es.size : Nat) : Int)) = true then _ else _) _ _ _
  simp only [bne_self_eq_false, Bool.false_eq_true, if_false]
  simp only [Int.toNat_natCast]
  refine wpAny_bind (setNext_item S hs he fun slot' hs' => ?_)
  refine wpAny_bind (wpAny_setField ho hd (by simp) ?_)
  have h1 := Heap.get?_update_self (Obj.mapFields (·.setIfInBounds 0 (rawInt (slot' : Int)))) ho (Obj.isFreed_of_fields (Obj.data_mapFields hd _))
  refine wpAny_bind (wpAny_setField h1 (Obj.data_mapFields hd _) (by simp) ?_)
  have h2 := Heap.get?_update_self (Obj.mapFields (·.setIfInBounds 1 (rawInt ((i : Int) + 1)))) h1 (Obj.isFreed_of_fields (Obj.data_mapFields (Obj.data_mapFields hd _) _))
  refine wpAny_pure ⟨_, rfl, wpAny_pure (h slot' _ hs' ⟨_, h2, ?_, ?_⟩ fun b o hb e => ?_)⟩
  · exact (Obj.cls_mapFields ..).trans ((Obj.cls_mapFields ..).trans hc)
  · rw [Obj.data_mapFields (Obj.data_mapFields hd _)]; simp [rawInt]
  · exact (Heap.get?_update_other _ _ (Ne.symm hb)).trans ((Heap.get?_update_other _ _ (Ne.symm hb)).trans e)

theorem next_end {slot : Nat} {Q : Option Value → Shared → Prop} (hh : A.handled = none) (hit : IsIt s.heap I slot es.size a es.size ep) (S : SetR w a D es ep t s.heap) (hs : Stand w t es.size slot es.size)
    (h : ∀ h', (∀ b o, b ≠ I → s.heap.get? b = some o → h'.get? b = some o) → Q none { s with heap := h' }) :
    wpAny (model prog w) A (pyNext (.ref I)) Q E s := by
  obtain ⟨o, ho, hc, hd⟩ := id hit
  unfold pyNext
  refine wpAny_bind (wpAny_attempt (wpAny_callSpecial?_slot (name := Str.ofString "__next__") hit.typeIs slot_setit_next
    (wpAny_call_entry slot_setit_next hit.typeIs entry_setit_next ?_ (args_setit_next _))))
  refine wpAny_bind (m := slotArgs "__next__" 0 ⟨[.ref I], []⟩) (wpAny_pure ?_)
  refine wpAny_bind (wpAny_fieldsOf ho hd ?_)
  show wpAny _ _ (setEntries a >>= _) _ _ _
  refine wpAny_bind (wpAny_setEntries_of S.obj rfl S.tab.fits ?_)
  show wpAny _ _ (if (((es.size : Nat) : Int) != ((es.size : Nat) : Int)) = true then _ else _) _ _ _
  simp only [bne_self_eq_false, Bool.false_eq_true, if_false]
  simp only [Int.toNat_natCast]
  refine wpAny_bind (setNext_end S hs ?_)
  refine wpAny_bind (wpAny_setField ho hd (by simp) ?_)
  refine wpAny_bind ?_
  simp only [newExc, newTuple]
  refine wpAny_bind (wpAny_newObj_type ?_ (by size_fits))
  refine wpAny_bind (m := firstArgMember _ _) (wpAny_of_eq (a := Value.none) (by first | rfl | (simp only [firstArgMember]; rfl)) ?_)
  refine wpAny_newObj_type ?_ (by size_fits)
  simp only [raiseNew]
  refine wpAny_bind (wpAny_handled ?_)
  rw [show A.in1.handled = none from hh]
  refine wpAny_bind (wpAny_pure (wpAny_throw ?_))
  refine wpAny_bind (wpAny_isInstance (T := "StopIteration") (b := true) ⟨_, Heap.get?_push_size _ rfl, rfl⟩ isSubtype_stop ?_)
  refine wpAny_pure (h _ fun b o hb e => ?_)
  exact (((Heap.SameBut.update ..).extBut.push _).push _) b o hb e

theorem iter_it {slot i n : Nat} {Q : Value → Shared → Prop} (hit : IsIt s.heap I slot i a n ep) (h : Q (.ref I) s) : wpAny (model prog w) A (pyIter (.ref I)) Q E s := by
  refine wpAny_pyIter_slot hit.typeIs slot_setit_iter (wpAny_call_entry slot_setit_iter hit.typeIs entry_setit_iter ?_ (args_setit_iter _))
  show wpAny _ _ (ret (.ref I)) _ _ s
  exact wpAny_pure ⟨_, rfl, "set_iterator", _, hit.typeIs, slot_setit_next.lookup, h⟩

theorem set_walks (hh : A.handled = none) (hne : a ≠ I) : Walks prog w A I [I, a] [I] es.size (fun i v => ∃ e, (ordOf w a ep es)[i]? = some e ∧ v = e.2)
    (fun i h => ∃ slot, IsIt h I slot i a es.size ep ∧ SetR w a D es ep t h ∧ Stand w t es.size slot i) where
  sub := fun b hb => by simp at hb; simp [hb]
  frame := fun _ _ _ ⟨slot, ⟨o, q1, q2⟩, q3, q4⟩ hk => ⟨slot, ⟨o, hk I (by simp) o q1, q2⟩, q3.push fun o e => hk a (by simp) o e, q4⟩
  item := fun i s Q E hi ⟨slot, q1, q2, q3⟩ hQ => by
    have hi' : i < (ordOf w a ep es).size := by rw [ord_size]; exact hi
    refine next_item q1 q2 q3 (Array.getElem?_eq_getElem hi') fun slot' h' hs' hit' hk => ?_
    exact hQ _ h' s.toks ⟨_, Array.getElem?_eq_getElem hi', rfl⟩ ⟨slot', hit', q2.push fun o e => hk a o hne e, hs'⟩ fun b o hb e => hk b o (by simpa using hb) e
  done := fun s Q E ⟨slot, q1, q2, q3⟩ hQ => next_end hh q1 q2 q3 fun h' hk => hQ h' s.toks fun b o hb e => hk b o (by simpa using hb) e
  self := fun _ _ _ _ ⟨slot, q1, _, _⟩ hQ => iter_it q1 hQ

theorem set_hint {Q : Bool → Shared → Prop} (hT : s.TypeIs (.ref a) "set") (h : Q false s) : wpAny (model prog w) A (Builtin.List.listLengthHint (.ref a)) Q E s := by
  unfold Builtin.List.listLengthHint
  refine wpAny_bind (wpAny_specialOf hT PySem.F.slot_set_len.lookup ?_)
  generalize hid : ("set.__len__" : String) = id0
  wp_delta
  rw [show splitId id0 = some ("set", "__len__") from by subst hid; decide +kernel]
  subst hid
  refine wpAny_bind (wpAny_isInstance (T := "set") (b := true) hT (by rw [isSubtype_type]; kernel_rfl) ?_)
  refine wpAny_ite_split (fun hab => absurd hab (by decide)) (fun zz => ?_)
  refine wpAny_ite_split (fun zz => ?_) (fun hab => absurd (by decide +kernel) hab)
  refine wpAny_bind (wpAny_typeOf hT ?_)
  exact wpAny_pure h

theorem set_src : PySem.W.KdlSrc prog w "set" a a es.size (fun i v => ∃ e, (ordOf w a ep es)[i]? = some e ∧ v = e.2) (fun h => SetR w a D es ep t h) where
  type := fun zz S => ⟨_, S.obj, rfl⟩
  there := fun zz S => ⟨Heap.lt_size S.obj, Heap.lt_size S.obj⟩
  keep := fun zz zz S hk => S.push fun o e => hk a (.inl rfl) o e
  notList := by decide
  notTuple := by decide
  hint := fun zz zz zz zz S hq => set_hint ⟨_, S.obj, rfl⟩ hq
  iter := fun zz s hh S => ⟨_, _, (fun zz zz hq => iter_set S hq), set_walks (D := D) (t := t) hh (Nat.ne_of_lt (Heap.lt_size S.obj)),
    ⟨0, ⟨_, Heap.get?_push_size _ rfl, rfl, rfl⟩, S.push fun o e => Heap.get?_push_of_some _ e, Nat.zero_le _, by
      by_cases hb : byText w = true
      · exact .inl hb
      · right
        obtain ⟨h1, h2, h3⟩ := below_spec S.tab.rise 0
        rcases Nat.eq_zero_or_pos (SetTable.below t.place 0) with q | q
        · exact q
        · have := h2 0 q; (first | lia | omega)⟩⟩
end
end Lw

namespace Lw
open PySem PySem.Calls PyProof.Rows PySem.Spec
set_option maxRecDepth 100000

noncomputable def dedup (ns : List Int) : List Int := ns.foldl step_dedup []
noncomputable def sortedSetV : V → Option V
  | .list xs => (ints? xs).bind fun ns => if ns.length ≤ 5 ∧ (ns.all fun n => decide (0 ≤ n ∧ n < 32)) = true then some (.list ((isort (dedup ns)).map .int)) else none
  | _ => none

section
variable {C : Cx} {sc : Scope} {nm : List Str} {lv : Nat}

theorem toNats {ns : List Int} (h : (ns.all fun n => decide (0 ≤ n ∧ n < 32)) = true) : ∃ ms : List Nat, ns = ms.map Int.ofNat ∧ ∀ m ∈ ms, m < 32 := by
  refine ⟨ns.map Int.toNat, ?_, fun m hm => ?_⟩
  · rw [List.map_map]
    refine (List.map_id ns).symm.trans (List.map_congr_left fun n hn => ?_)
    have := List.all_eq_true.mp h n hn
    simp only [decide_eq_true_eq] at this
    simp only [Function.comp, id]
    exact (Int.toNat_of_nonneg this.1).symm
  · obtain ⟨n, hn, rfl⟩ := List.mem_map.mp hm
    have := List.all_eq_true.mp h n hn
    simp only [decide_eq_true_eq] at this
    (first | lia | omega)

theorem DE_sortedSet {np sp pos spos : Pos} {e : PySem.Expr} {f : St → Option V} (hl : C.glob (Str.ofString "sorted") (.builtin "sorted")) (hr : C.glob (Str.ofString "set") (.type "set")) (hkl : sc.names.lookup (Str.ofString "sorted") = some .globalImplicit) (hkr : sc.names.lookup (Str.ofString "set") = some .globalImplicit)
    (he : DE C sc nm lv e f) (hst : PySem.W.isStarred e = false) : DE C sc nm lv (.Call (.Name (Str.ofString "sorted") np) [.Call (.Name (Str.ofString "set") sp) [e] [] spos] [] pos) (fun σ => (f σ).bind sortedSetV) := by
  intro A E env P σ s v Q hA hs R hf k
  obtain ⟨u, hu, hf⟩ := bind_some hf
  unfold sortedSetV at hf
  split at hf
  · rename_i xs0
    obtain ⟨ns, hn, hf⟩ := bind_some hf
    split at hf
    · rename_i hc
      cases hf
      obtain ⟨ms, rfl, h32⟩ := toNats hc.2
      refine wpAny_Call_NameR (wp_glob hl hs R hkl (by decide +kernel) ?_)
      show wpAny C.M A (callWith pos (.builtin "sorted") [] [(false, eval (.Call (.Name (Str.ofString "set") sp) [e] [] spos) env)] []) Q E s
      refine callWith_builtin rfl (evalArgs_plain (spliced_cons (wp_callG hr hkr (by decide +kernel) trivial (by simp) (DEs_cons he DEs_nil hst) hA hs R (vs := [.list xs0]) (by simp [hu]) fun P1 h1 tk1 xs g1 hx => ?_)))
      obtain ⟨x, rfl, hx1⟩ := hx.one
      obtain ⟨a, ys, m, rfl, h3, h4⟩ := hx1.list_inv
      have hi := h4.ints hn
      refine set_call (s := { s with heap := h1, toks := tk1 }) hA.handled ⟨_, g1.sub _ _ h3, rfl, _, rfl⟩ (by simpa using hi) h32 (by simpa using hc.1) fun h2 tk2 es ep t S hk2 => ?_
      refine spliced_nil ?_
      have hp := S.perm
      have hsz : (ordOf C.w h1.objs.size ep es).size < 64 := by
        rw [ord_size, S.size]
        have h2 := fold_le (ms.map Int.ofNat) []
        have h3 := hc.1
        simp only [List.length_nil] at h2
        (first | lia | omega)
      refine sorted_src (s := { s with heap := h2, toks := tk2 }) (set_src (prog := C.prog) (D := dedup (ms.map Int.ofNat)) (t := t)) hA.handled S (by rw [← ord_size (w := C.w) (a := h1.objs.size) (ep := ep) (es := es)]; exact hsz) (fun i => (((ordOf C.w h1.objs.size ep es)[i]?).map (·.1)).getD 0) (fun i v hv => ?_) fun h' tk DD zs mm hk hD0 hoD hI => ?_
      · obtain ⟨e1, q1, rfl⟩ := hv
        have hm1 : e1 ∈ es.toList := (ord_perm.mem_iff).mp (Array.mem_toList_iff.mpr (Array.mem_of_getElem? q1))
        obtain ⟨kk, _, uu, rfl⟩ := S.vals e1 hm1
        exact ⟨uu, by rw [q1]; rfl⟩
      · have e2 : ((List.range es.size).map fun i => (((ordOf C.w h1.objs.size ep es)[i]?).map (·.1)).getD 0) = (ordOf C.w h1.objs.size ep es).toList.map (·.1) := by
          refine List.ext_getElem? fun i => ?_
          have ho := ord_size (w := C.w) (a := h1.objs.size) (ep := ep) (es := es)
          by_cases hi : i < es.size
          · simp [hi, ho]
          · simp [hi, ho]
        rw [e2] at hI
        have e3 : isort ((ordOf C.w h1.objs.size ep es).toList.map (·.1)) = isort (dedup (ms.map Int.ofNat)) :=
          isort_eq ((isort_perm _).trans ((ord_perm.map _).trans hp)) (isort_sorted _)
        rw [e3] at hI
        have hk1 : ∀ b o, h1.get? b = some o → h'.get? b = some o := fun b o e => hk b o (hk2 b o e)
        have hD1 : h1.get? DD = none := by
          cases hq : h1.get? DD with
          | none => rfl
          | some o => rw [hk2 _ _ hq] at hD0; cases hD0
        obtain ⟨hPD, hsD⟩ := g1.fresh hD1
        exact KF.of k P1 h' tk DD zs mm (g1.trans (Grow.of_keep g1.sub hk1)) hPD hsD hoD (VRs.of_ints hI)
    · cases hf
  · cases hf
end
end Lw

namespace Lw
open PySem PySem.Calls PyProof.Rows
set_option maxRecDepth 10000

section
variable {C : Cx} {sc : Scope} {nm : List Str} {lv : Nat}

noncomputable def countV : List V → Option V
  | [.list xs, .int k] => (ints? xs).map fun ns => .int (ns.countP (· == k) : Nat)
  | _ => none
theorem ints_eq {xs : List Value} {ns : List Int} (h : IntsAre xs ns) : ∀ y ∈ xs, ∃ a t, y = .int a t := by
  induction h with
  | nil => intro y h; cases h
  | cons a t r ih =>
    intro y h
    rcases List.mem_cons.mp h with rfl | h
    · exact ⟨a, t, rfl⟩
    · exact ih y h
noncomputable def eqI (k : Int) : Value → Bool
  | .int a _ => a == k
  | _ => false
theorem ints_count {k : Int} {xs : List Value} {ns : List Int} (h : IntsAre xs ns) : xs.countP (eqI k) = ns.countP (· == k) := by
  induction h with
  | nil => rfl
  | cons a t r ih =>
    rw [List.countP_cons, List.countP_cons, ih]
    rfl
theorem count_ok : CallOk C lv (.builtin "list.count") countV := by
  intro A E P s vs v xs Q hA hb hs hx hf k
  unfold countV at hf
  split at hf
  · rename_i kk
    obtain ⟨ns, hns, e⟩ := Option.map_eq_some_iff.mp hf
    cases e
    obtain ⟨x, y, rfl, h1, h2⟩ := hx.two
    obtain ⟨_, rfl⟩ := h2.inv
    rename_i t
    obtain ⟨a, ys, m, rfl, h3, h4⟩ := h1.list_inv
    have hi := h4.ints hns
    refine call_meets F.slot_list_count ⟨_, hs _ _ h3, rfl⟩ F.entry_list_count (F.args_list_count_2 _ _) (PySem.MeetsSeq.list_count a ys.toArray m (.int kk t) (eqI kk) fun y hy => ?_) ⟨hs _ _ h3, ?_⟩
    · obtain ⟨b, u, rfl⟩ := ints_eq hi y (by simpa using hy)
      exact PySem.MeetsSeq.EqGives.int b kk u t
    · have e : (ys.toArray.toList.countP (eqI kk)) = ns.countP (· == kk) := by simpa using ints_count hi
      rw [e]
      exact k.tok hs (.int _ _)
  · cases hf

theorem VRs.erase {prog : Program} {w : World} {P : Fz} {vs : List V} {xs : List Value} (h : VRs prog w P vs xs) (i : Nat) : VRs prog w P (vs.eraseIdx i) (xs.eraseIdx i) := by
  induction vs generalizing xs i with
  | nil => cases h; exact .nil
  | cons v vs ih =>
    cases h with
    | cons h1 h2 =>
      cases i with
      | zero => exact h2
      | succ i => exact .cons h1 (ih h2 i)

theorem pop_at {A : Around} {E : Value → Shared → Prop} {s : Shared} {l : Addr} {xs : List Value} {m : Nat} {kk : Int} {u : Tok} {Q : Value → Shared → Prop} (hl : s.heap.get? l = some (lobj xs m)) (hc : 0 ≤ kk ∧ kk.toNat < xs.length ∧ xs.length ≤ 1000000)
    (k : ∀ x h' m', (∀ b o, b ≠ l → s.heap.get? b = some o → h'.get? b = some o) → h'.get? l = some (lobj (xs.eraseIdx kk.toNat) m') → Q x { s with heap := h' }) : wpAny C.M A (call (.builtin "list.pop") [.ref l, .int kk u]) Q E s := by
  have hkx : kk.toNat < xs.toArray.size := by simp only [List.size_toArray]; (first | lia | omega)
  refine call_meets F.slot_list_pop ⟨_, hl, rfl⟩ F.entry_list_pop (F.args_list_pop_2 _ _) (PySem.MeetsSeq.list_pop_at l xs.toArray m kk u kk.toNat (xs.toArray[kk.toNat]'hkx) (by unfold Builtin.List.listFitsIndex; simp; (first | lia | omega)) ?_ (Array.getElem?_eq_getElem hkx) (by rw [sizeLine_eq]; simp only [List.size_toArray]; (first | lia | omega))) ⟨hl, ?_⟩
  · unfold seqIndex?
    simp only [List.size_toArray]
    have : ¬ kk < 0 := by (first | lia | omega)
    simp [this]
    (first | lia | omega)
  · have hg := Heap.get?_update_self (Obj.mapSeq fun xs => xs.eraseIdxIfInBounds kk.toNat) hl rfl
    have e : xs.toArray.eraseIdxIfInBounds kk.toNat = (xs.eraseIdx kk.toNat).toArray := by
      apply Array.ext'
      simp
    have aux : ∀ c, (some { cls := .type "list", dict := none, data := .seq (xs.toArray.eraseIdxIfInBounds kk.toNat) c, slots := #[] } : Option Obj) = some (lobj (xs.eraseIdx kk.toNat) c) := fun c => by rw [e]
    exact k _ _ _ (fun b o hb e => (Heap.get?_update_other _ _ (Ne.symm hb)).trans e) (hg.trans (aux _))

/-- x.pop(i), of a list of one's own -/
theorem DX_pop {n : Str} {np apos cpos pos : Pos} {e : PySem.Expr} {f : St → Option V} (i : Nat) (hn : nm[i]? = some n) (hd : (n == ("__debug__" : Str)) = false) (he : DE C sc nm lv e f) (hst : PySem.W.isStarred e = false) (hline : (apos.endLine == cpos.line) = true) :
    DX C sc nm lv (.Expr (.Call (.Attribute (.Name n np) (Str.ofString "pop") apos) [e] [] cpos) pos) (fun σ => (getO σ i).bind fun xs => (f σ).bind fun v => match v with
      | .int k => if 0 ≤ k ∧ k.toNat < xs.length ∧ xs.length ≤ lim then some (σ.set i (some (.ownL (xs.eraseIdx k.toNat))), .next) else none
      | _ => none) := by
  intro A E env B P σ s ow σ' fl Q hA hs R hf k
  obtain ⟨us, hus, hf⟩ := bind_some hf
  obtain ⟨v, hv, hf⟩ := bind_some hf
  obtain ⟨kk, rfl, hf⟩ := intOf_inv hf
  obtain ⟨hc, e⟩ := ite_some hf
  cases e
  obtain ⟨a1, xs0, m0, a2, a3⟩ := R.ownL hn hus
  refine wpAny_Expr_any (wp_method (O := fun P1 h1 ov => P1 = P ∧ h1 = s.heap ∧ ov = .ref (ow i)) rfl (by rw [star_plain hst]; rfl) hline F.plainAttrs_list F.slot_list_pop F.type_list_pop (by simp) (DEs_cons he DEs_nil hst) hA hs R.toE (vs := [.int kk]) (by simp [hv])
    (fun Q' kq => wpAny_Name (wp_at R.st.fn a1 (kq P s.heap s.toks _ (Grow.refl R.sub) ⟨_, a2, rfl⟩ (fun a e => by cases e; exact ⟨_, a2, rfl⟩) ⟨rfl, rfl, rfl⟩)) hd) ?_) (not_interactive R.st.fn)
  rintro P1 h1 ov P2 h2 tk2 ys ⟨rfl, rfl, rfl⟩ _ g2 hx
  obtain ⟨x, rfl, hx1⟩ := hx.one
  obtain ⟨u, rfl⟩ := hx1.inv
  have R2 := R.grow g2
  obtain ⟨_, xs, m, a4, a5⟩ := R2.ownL hn hus
  refine pop_at a4 (by have := a5.length; unfold lim at hc; (first | lia | omega)) fun x h' m' hb ho => ?_
  have g12 := GrowB.ofGrow R.bsub g2
  have R3 := R2.change hn (getO_some hus) rfl rfl hb (sl' := .ownL (us.eraseIdx kk.toNat)) ⟨_, _, ho, a5.erase _⟩
  exact k P2 h' tk2 ow _ ⟨g12.le, R3.sub, R3.bsub, g12.new⟩ R3 rfl
end
end Lw

namespace Lw
open PySem PySem.Calls PyProof.Rows
set_option maxRecDepth 10000

/-! # statements that let one name be -/
section
variable {C : Cx} {sc : Scope} {nm : List Str} {lv : Nat} {n0 : Str}

noncomputable def Same (n0 : Str) : Keep := fun env h h' => ∀ x, At env h n0 x → At env h' n0 x
theorem same_ok (n0 : Str) : JOk (Same n0) := ⟨fun zz zz zz H => H, fun q1 q2 x H => q2 x (q1 x H), fun g zz H => H.keeps g.keep⟩
theorem same_n {n0 n : Str} (h : n0 ≠ n) : JN (Same n0) n := fun zz zz zz k x H => k n0 x h H
abbrev DXi (C : Cx) (sc : Scope) (nm : List Str) (lv : Nat) (n0 : Str) (st : Stmt) (f : St → Option (St × Fl)) : Prop := DXJ (Same n0) C sc nm lv st f
abbrev DSi (C : Cx) (sc : Scope) (nm : List Str) (lv : Nat) (n0 : Str) (ss : List Stmt) (f : St → Option (St × Fl)) : Prop := DSJ (Same n0) C sc nm lv ss f

theorem DSi_nil : DSi C sc nm lv n0 [] (fun σ => some (σ, .next)) := by
  intro A E env B P σ s ow σ' fl Q hA hs R hf k
  cases hf
  exact wpAny_execs_nil (k P s.heap s.toks ow _ ⟨fun zz zz e => e, R.sub, R.bsub, fun zz zz e => .inl e⟩ R rfl fun zz H => H)
theorem DSi_cons {st : Stmt} {ss : List Stmt} {f g : St → Option (St × Fl)} (h : DXi C sc nm lv n0 st f) (h' : DSi C sc nm lv n0 ss g) : DSi C sc nm lv n0 (st :: ss) (seqF f g) := DSJ_cons (same_ok n0) h h'
theorem DXi_assign {n : Str} {px pos : Pos} {value : PySem.Expr} {f : St → Option V} (i : Nat) (hn : nm[i]? = some n) (hne : n0 ≠ n) (he : DE C sc nm lv value f) (hsw : ∀ env, env.scope = sc → swapsWith value (some (.Name n px)) pos.line env = pure false) :
    DXi C sc nm lv n0 (.Assign [.Name n px] value pos) (fun σ => (f σ).map fun v => (setF i v σ, .next)) := by
  intro A E env B P σ s ow σ' fl Q hA hs R hf k
  obtain ⟨v, hv, e⟩ := Option.map_eq_some_iff.mp hf
  cases e
  refine wpAny_Assign_Name (he A E env P σ s v _ hA hs R.toE hv fun P1 h1 tk1 x g1 hx => ?_) (hsw env hs)
  refine wp_store (s := { s with heap := h1, toks := tk1 }) (R.grow g1) hn (.frz hx) fun h2 tk2 ow2 g2 R2 q2 => ?_
  exact k P1 h2 tk2 ow2 _ ((GrowB.ofGrow R.bsub g1).trans g2) R2 rfl fun y H => q2.2 _ y hne (H.keeps g1.keep)
theorem DXi_aug {n : Str} {px pos : Pos} {op : Operator} {value : PySem.Expr} {f : St → Option V} (i : Nat) (hn : nm[i]? = some n) (hne : n0 ≠ n) (he : DE C sc nm lv value f)
    (hop : ∀ (A : Around) (E : Value → Shared → Prop) (s : Shared) (a b : Int) (t u : Tok) (v : V) (Q : Value → Shared → Prop), augV op (.int a) (.int b) = some v → (∀ tk x, (∀ P, C.VR P v x) → Q x { s with toks := tk }) → wpAny C.M A (inplaceOp op (.int a t) (.int b u)) Q E s) :
    DXi C sc nm lv n0 (.AugAssign (.Name n px) op value pos) (fun σ => (getF σ i).bind fun a => (f σ).bind fun b => (augV op a b).map fun v => (setF i v σ, .next)) := DXJ_aug (same_ok n0) (same_n hne) i hn he hop
theorem DXi_while {t : PySem.Expr} {b : List Stmt} {pos : Pos} {f : St → Option Bool} {g : St → Option (St × Fl)} (fuel : Nat) (ht : DT C sc nm lv t f) (hb : DSi C sc nm lv n0 b g) :
    DXi C sc nm lv n0 (.While t b [] pos) (whileF f g fuel) := DXJ_while (same_ok n0) fuel ht hb
end
end Lw

namespace Lw
open PySem PySem.Calls PyProof.Rows
set_option maxRecDepth 10000

noncomputable def st0 : List Stmt → Stmt | s :: _ => s | [] => .Pass default
noncomputable def st1 : List Stmt → Stmt | _ :: s :: _ => s | _ => .Pass default
noncomputable def ifT : List Stmt → PySem.Expr | [_, _, .If t _ _ _] => t | _ => default

/-- the text of a function that lays a number into a caller's list -/
noncomputable def LayBody (l p q : Str) (body : List Stmt) : Prop := ∃ p1 p2 p3 p4 p5 p6 p7, body = [st0 body, st1 body, .If (ifT body) [.Expr (.Call (.Attribute (.Name l p1) (Str.ofString "insert") p2) [.Name p p3, .Name q p4] [] p5) p6] [] p7] ∧ (p2.endLine == p5.line) = true

/-- what it makes of the list -/
noncomputable def layG (f1 f2 : St → Option (St × Fl)) (t : St → Option Bool) (ns : List Int) (q : Int) : Option (List Int) :=
  (seqF f1 f2 [some (.frz (.list (ns.map .int))), some (.frz (.int q)), none]).bind fun r => match r.2 with
    | .next => (t r.1).bind fun c => if c = true then (match getF r.1 2, getF r.1 1 with
        | some (.int p), some (.int y) => if 0 ≤ p ∧ p.toNat ≤ ns.length ∧ ns.length ≤ 1000 then some (ns.take p.toNat ++ y :: ns.drop p.toNat) else none
        | _, _ => none) else some ns
    | _ => none

noncomputable def FunLay (C : Cx) (lv : Nat) (n : Str) (g : List Int → Int → Option (List Int)) : Prop := ∃ fa, C.glob n (.ref fa) ∧ Callee C (.ref fa) ∧
  ∀ (A : Around) (E : Value → Shared → Prop) (P : Fz) (s : Shared) (a : Addr) (xs : List Value) (m : Nat) (ns : List Int) (q : Int) (t : Tok) (ns' : List Int) (Q : Value → Shared → Prop),
    AOk A lv → (∀ b o, C.h₀.get? b = some o → s.heap.get? b = some o) → (∀ b o, P b = some o → s.heap.get? b = some o) → P a = none → s.heap.get? a = some (lobj xs m) → IntsAre xs ns → g ns q = some ns' →
    (∀ h' tk ys m', (∀ b o, b ≠ a → s.heap.get? b = some o → h'.get? b = some o) → h'.get? a = some (lobj ys m') → IntsAre ys ns' → Q .none { s with heap := h', toks := tk }) → wpAny C.M A (call (.ref fa) [.ref a, .int q t]) Q E s
theorem FunLay.up {C : Cx} {lv lv' : Nat} {n : Str} {g : List Int → Int → Option (List Int)} (h : lv ≤ lv') (H : FunLay C lv n g) : FunLay C lv' n g := by
  obtain ⟨a, h1, h2, h3⟩ := H
  refine ⟨a, h1, h2, fun A E P s a xs m ns q t ns' Q hA => h3 A E P s a xs m ns q t ns' Q ⟨hA.handled, ?_, ?_⟩⟩
  · have := hA.depth; (first | lia | omega)
  · have := hA.units; (first | lia | omega)

section
variable {C : Cx} {sc : Scope} {nm : List Str} {lv : Nat}

theorem insert_ints {p : Nat} {y : Int} {u : Tok} {xs : List Value} {ns : List Int} (h : IntsAre xs ns) : IntsAre (xs.take p ++ .int y u :: xs.drop p) (ns.take p ++ y :: ns.drop p) := by
  induction p generalizing xs ns with
  | zero => exact .cons _ _ h
  | succ p ih =>
    cases h with
    | nil => exact .cons _ _ .nil
    | cons a t r => exact .cons _ _ (ih r)

theorem seqF_inv {f g : St → Option (St × Fl)} {σ σ2 : St} (h : seqF f g σ = some (σ2, .next)) : ∃ σ1, f σ = some (σ1, .next) ∧ g σ1 = some (σ2, .next) := by
  obtain ⟨⟨σ1, fl⟩, e, h⟩ := bind_some h
  cases fl with
  | next => exact ⟨σ1, e, h⟩
  | _ => cases h
/-- how the list is left -/
inductive Laid (t : St → Option Bool) (σ : St) (ns ns' : List Int) : Prop
  | no : t σ = some false → ns' = ns → Laid t σ ns ns'
  | at (p y : Int) : t σ = some true → getF σ 2 = some (.int p) → getF σ 1 = some (.int y) → (0 ≤ p ∧ p.toNat ≤ ns.length ∧ ns.length ≤ 1000) → ns' = ns.take p.toNat ++ y :: ns.drop p.toNat → Laid t σ ns ns'
theorem laid_of {t : St → Option Bool} {σ : St} {ns ns' : List Int} (h : ((t σ).bind fun c => if c = true then (match getF σ 2, getF σ 1 with
        | some (.int p), some (.int y) => if 0 ≤ p ∧ p.toNat ≤ ns.length ∧ ns.length ≤ 1000 then some (ns.take p.toNat ++ y :: ns.drop p.toNat) else none
        | _, _ => none) else some ns) = some ns') : Laid t σ ns ns' := by
  obtain ⟨c, hc, h⟩ := bind_some h
  cases c with
  | false => cases h; exact .no hc rfl
  | true =>
    rw [if_pos rfl] at h
    split at h
    · split at h
      · cases h; exact .at _ _ hc ‹_› ‹_› ‹_› rfl
      · cases h
    · cases h

theorem layG_inv {f1 f2 : St → Option (St × Fl)} {t : St → Option Bool} {ns ns' : List Int} {q : Int} (h : layG f1 f2 t ns q = some ns') :
    ∃ σ2, seqF f1 f2 [some (.frz (.list (ns.map .int))), some (.frz (.int q)), none] = some (σ2, .next) ∧ Laid t σ2 ns ns' := by
  obtain ⟨⟨σ, fl⟩, e, h⟩ := bind_some h
  cases fl with
  | next => exact ⟨σ, e, laid_of h⟩
  | _ => cases h

theorem insert_at {A : Around} {E : Value → Shared → Prop} {s : Shared} {l : Addr} {xs : List Value} {m : Nat} {ns : List Int} {pp yy : Int} {u1 u2 : Tok} {Q : Value → Shared → Prop} (hl : s.heap.get? l = some (lobj xs m)) (hi : IntsAre xs ns) (hp : 0 ≤ pp ∧ pp.toNat ≤ ns.length ∧ ns.length ≤ 1000)
    (k : ∀ h' ys m', (∀ b o, b ≠ l → s.heap.get? b = some o → h'.get? b = some o) → h'.get? l = some (lobj ys m') → IntsAre ys (ns.take pp.toNat ++ yy :: ns.drop pp.toNat) → Q .none { s with heap := h' }) :
    wpAny C.M A (call (.builtin "list.insert") [.ref l, .int pp u1, .int yy u2]) Q E s := by
  have hxl := IntsAre.length hi
  refine call_meets F.slot_list_insert ⟨_, hl, rfl⟩ F.entry_list_insert (F.args_list_insert_3 _ _ _) (PySem.AutoListH.list_insert_list_int_int_1 l xs.toArray m pp u1 yy u2 (by unfold Builtin.List.listFitsIndex; simp; (first | lia | omega)) (by rw [sizeLine_eq]; simp only [List.size_toArray]; (first | lia | omega))) ⟨hl, ?_⟩
  have hneg : ¬ pp < 0 := by (first | lia | omega)
  have hmin : min pp.toNat xs.toArray.size = pp.toNat := by simp only [List.size_toArray]; (first | lia | omega)
  have hg' := Heap.get?_update_self (Obj.mapSeq fun xs => have k := if pp < 0 then (pp + ((xs.size : Nat) : Int)).toNat else min pp.toNat xs.size; (xs.extract 0 k).push (Value.int yy u2) ++ xs.extract k) hl rfl
  have e : (have k := if pp < 0 then (pp + ((xs.toArray.size : Nat) : Int)).toNat else min pp.toNat xs.toArray.size; (xs.toArray.extract 0 k).push (Value.int yy u2) ++ xs.toArray.extract k) = (xs.take pp.toNat ++ Value.int yy u2 :: xs.drop pp.toNat).toArray := by
    simp only [hneg, if_false, hmin]
    apply Array.ext'
    simp
    exact List.take_of_length_le (by simp)
  have aux : ∀ A c, A = (xs.take pp.toNat ++ Value.int yy u2 :: xs.drop pp.toNat).toArray → (some { cls := .type "list", dict := none, data := .seq A c, slots := #[] } : Option Obj) = some (lobj (xs.take pp.toNat ++ Value.int yy u2 :: xs.drop pp.toNat) c) := fun A c e => by rw [e]
  exact k _ _ _ (fun b o hb e => (Heap.get?_update_other _ _ (Ne.symm hb)).trans e) (hg'.trans (aux _ _ e)) (insert_ints hi)

theorem insert_stmt {lN pN qN : Str} {env : Env} {A : Around} {E : Value → Shared → Prop} {P : Fz} {σ : St} {s : Shared} {l : Addr} {xs : List Value} {m : Nat} {ns : List Int} {pp yy : Int} {p1 p2 p3 p4 p5 p6 : Pos} {Q : Flow → Shared → Prop}
    (hdl : (lN == ("__debug__" : Str)) = false) (hdp : (pN == ("__debug__" : Str)) = false) (hdq : (qN == ("__debug__" : Str)) = false) (hline : (p2.endLine == p5.line) = true) (fn : env.scope.kind = .function) (hA : AOk A lv) (R : RepE C env [lN, qN, pN] P σ s.heap)
    (at5 : At env s.heap lN (.ref l)) (hl : s.heap.get? l = some (lobj xs m)) (hi : IntsAre xs ns) (hp : getF σ 2 = some (.int pp)) (hy : getF σ 1 = some (.int yy)) (hlen : 0 ≤ pp ∧ pp.toNat ≤ ns.length ∧ ns.length ≤ 1000)
    (k : ∀ h' tk ys m', (∀ b o, b ≠ l → s.heap.get? b = some o → h'.get? b = some o) → h'.get? l = some (lobj ys m') → IntsAre ys (ns.take pp.toNat ++ yy :: ns.drop pp.toNat) → Q .next { s with heap := h', toks := tk }) :
    wpAny C.M A (exec (.Expr (.Call (.Attribute (.Name lN p1) (Str.ofString "insert") p2) [.Name pN p3, .Name qN p4] [] p5) p6) env) Q E s := by
  refine wpAny_Expr (wp_method (O := fun P1 h1 ov => P1 = P ∧ h1 = s.heap ∧ ov = .ref l) rfl (by rw [star_plain rfl, star_plain rfl]; rfl) hline F.plainAttrs_list F.slot_list_insert F.type_list_insert (by simp)
    (DEs_cons (DE_var 2 rfl hdp) (DEs_cons (DE_var 1 rfl hdq) DEs_nil rfl) rfl) hA rfl R (vs := [.int pp, .int yy]) (by simp [hp, hy])
    (fun Q' kq => wpAny_Name (wp_at fn at5 (kq P s.heap s.toks _ (Grow.refl R.sub) ⟨_, hl, rfl⟩ (fun a e => by cases e; exact ⟨_, hl, rfl⟩) ⟨rfl, rfl, rfl⟩)) hdl) ?_) (not_interactive fn)
  rintro P6 h6 ov P7 h7 tk7 zs ⟨rfl, rfl, rfl⟩ _ g7 hz
  obtain ⟨x, y, rfl, hx1, hy1⟩ := hz.two
  obtain ⟨_, rfl⟩ := hx1.inv; obtain ⟨_, rfl⟩ := hy1.inv
  exact insert_at (g7.keep _ _ hl) hi hlen fun h' ys m' a b c => k h' tk7 ys m' (fun b' o hb e => a b' o hb (g7.keep _ _ e)) b c

theorem lay_call {name lN pN qN : Str} {params : Arguments} {body : List Stmt} {scope : Scope} {pn nm : List Str} {a : Addr} {o : Obj} {pm cd doc : Value} {f1 f2 : St → Option (St × Fl)} {tf : St → Option Bool} (Fn : FnOK name params scope pn nm) (hnm : nm = [lN, qN, pN]) (hpn : pn = [lN, qN])
    (hdl : (lN == ("__debug__" : Str)) = false) (hdp : (pN == ("__debug__" : Str)) = false) (hdq : (qN == ("__debug__" : Str)) = false)
    (LB : LayBody lN pN qN body) (ho : C.h₀.get? a = some o) (hd : o.data = .func (Calls.docDef name params body scope pm cd doc)) (hcd : C.h₀.CodeRec cd name)
    (D1 : DXi C scope nm lv lN (st0 body) f1) (D2 : DXi C scope nm lv lN (st1 body) f2) (DTt : DT C scope nm lv (ifT body) tf) (hg : C.glob name (.ref a)) : FunLay C (lv + 1) name (layG f1 f2 tf) := by
  subst hnm; subst hpn
  refine ⟨a, hg, ⟨o, _, ho, hd⟩, ?_⟩
  intro A E P s l xs m ns q t ns' Q hA hb hs hPl hl hi hf k
  obtain ⟨σ2, e12, hf⟩ := layG_inv hf
  obtain ⟨σ1, e1, e2⟩ := seqF_inv e12
  obtain ⟨p1, p2, p3, p4, p5, p6, p7, eb, hline⟩ := LB
  refine wpAny_call ?_
  have hpre : [lN, qN, pN] = [lN, qN] ++ [pN] := rfl
  have hs2 : ∀ b o, hold P l (some (lobj xs m)) b = some o → s.heap.get? b = some o := fun b o e => by
    by_cases hbl : b = l
    · subst hbl; rw [hold_self] at e; cases e; exact hl
    · rw [hold_other hbl] at e; exact hs _ _ e
  have hnd : [lN, qN].Nodup := (List.nodup_append.mp (hpre ▸ Fn.nd)).1
  have hx : C.VRs (hold P l (some (lobj xs m))) [.list (ns.map .int), .int q] [.ref l, .int q t] := .cons (.list (n := m) (xs := xs) hold_self (VRs.of_ints hi)) (.cons (.int _ _) .nil)
  refine call_cells_ret (by have := hA.depth; (first | lia | omega)) (hb _ _ ho) hd (C.nolimit.keeps hb) (hcd.keeps hb) (Fn.bind _ _ _ _ _ (by rfl)) (fun p hp => ?_) (fun h₁ tk Fr1 Cl1 => ?_) Fn.co Fn.gen Fn.kind
  · have : p.1 ∈ [lN, qN, pN] := by
      rcases (by simpa using hp : p = (lN, Value.ref l) ∨ p = (qN, Value.int q t)) with rfl | rfl
      · exact .head _
      · exact .tail _ (.head _)
    rcases Fn.kinds p.1 this with hk | hk
    · exact .inl hk
    · exact .inr ⟨hk, PySem.W.cellsFrom_some _ _ _ (.inl hk)⟩
  · have R := start_rep Fn hb hs2 hx (by rfl) Fr1 Cl1
    have hA' : AOk (A.deeper (envOfC name scope s.heap.objs.size a cd)) lv := ⟨hA.handled, by have := hA.depth; show A.depth + 1 + lv < _; (first | lia | omega), by have := hA.units; show A.units + 3 + 8 * lv + 120 < _; (first | lia | omega)⟩
    have at0 : At (envOfC name scope s.heap.objs.size a cd) h₁ lN (.ref l) := by
      rcases Fn.kinds lN (.head _) with hk | hk
      · exact .inl ⟨hk, _, Fr1.ns, bindL_get (i := 0) hnd rfl rfl hk⟩
      · obtain ⟨c, hc⟩ := R.st.cells lN hk
        refine .inr ⟨.inl hk, c, hc, ?_⟩
        have := Cl1.cell lN c hc
        rw [bindC_get (i := 0) hnd rfl rfl hk] at this
        exact this
    rw [eb]
    refine wpAny_execs_cons (D1 _ _ _ _ _ _ { s with heap := h₁, toks := tk } _ σ1 .next _ hA' rfl R e1 fun P3 h3 tk3 ow3 w3 g3 R3 hw3 z3 => ?_)
    cases hw3
    refine wpAny_execs_cons (D2 _ _ _ _ P3 _ { s with heap := h3, toks := tk3 } _ σ2 .next _ hA' rfl R3 e2 fun P4 h4 tk4 ow4 w4 g4 R4 hw4 z4 => ?_)
    cases hw4
    have keep5 : ∀ {P5 h5}, Grow P4 h4 P5 h5 → ∀ b o, s.heap.get? b = some o → h5.get? b = some o := fun g5 b o e => g5.keep _ _ (R4.bsub _ _ e)
    refine wpAny_execs_cons (wpAny_If ?_)
    rcases hf with ⟨hc, rfl⟩ | ⟨pp, yy, hc, hp, hy, hlen, rfl⟩
    · exact DTt _ _ _ P4 σ2 { s with heap := h4, toks := tk4 } _ _ hA' rfl R4.toE hc fun P5 h5 tk5 g5 => wpAny_execs_nil (wpAny_execs_nil (k h5 tk5 xs m (fun b o zz e => keep5 g5 b o e) (keep5 g5 _ _ hl) hi))
    · exact DTt _ _ _ P4 σ2 { s with heap := h4, toks := tk4 } _ _ hA' rfl R4.toE hc fun P5 h5 tk5 g5 => wpAny_execs_cons (insert_stmt hdl hdp hdq hline R4.st.fn hA' (R4.grow g5).toE ((z4 _ (z3 _ at0)).keeps g5.keep) (keep5 g5 _ _ hl) hi hp hy hlen fun h' tk' ys m' b c d => wpAny_execs_nil (wpAny_execs_nil (k h' tk' ys m' (fun b' o hb e => b b' o hb (keep5 g5 b' o e)) c d)))
end
end Lw

namespace Lw
open PySem PySem.Calls PyProof.Rows
set_option maxRecDepth 10000

section
variable {C : Cx} {sc : Scope} {nm : List Str} {lv : Nat}

noncomputable def negV : V → Option V
  | .int a => some (.int (-a))
  | _ => none
theorem DE_neg {e : PySem.Expr} {pos : Pos} {f : St → Option V} (he : DE C sc nm lv e f) : DE C sc nm lv (.UnaryOp .USub e pos) (fun σ => (f σ).bind negV) := by
  intro A E env P σ s v Q hA hs R hf k
  obtain ⟨a, ha, hf⟩ := bind_some hf
  unfold negV at hf
  split at hf
  · cases hf
    refine wpAny_UnaryOp (he A E env P σ s _ _ hA hs R ha fun P1 h1 tk1 x g1 hx => ?_)
    obtain ⟨_, rfl⟩ := hx.inv
    exact PyProof.Rows.neg_int (k P1 h1 _ _ g1 (.int _ _))
  · cases hf

/-- a function called that lays a number into a list of one's own -/
theorem DX_lay {n nl : Str} {np p1 cpos pos : Pos} {e : PySem.Expr} {f : St → Option V} {g : List Int → Int → Option (List Int)} (H : FunLay C lv n g) (hk : sc.names.lookup n = some .globalImplicit) (hd : (n == ("__debug__" : Str)) = false)
    (i : Nat) (hn : nm[i]? = some nl) (hdl : (nl == ("__debug__" : Str)) = false) (he : DE C sc nm lv e f) (hst : PySem.W.isStarred e = false) :
    DX C sc nm lv (.Expr (.Call (.Name n np) [.Name nl p1, e] [] cpos) pos) (fun σ => (getO σ i).bind fun vs => (ints? vs).bind fun ns => (f σ).bind fun v => match v with
      | .int q => (g ns q).map fun ns' => (σ.set i (some (.ownL (ns'.map .int))), .next)
      | _ => none) := by
  intro A E env B P σ s ow σ' fl Q hA hs R hf k
  obtain ⟨vs, hvs, hf⟩ := bind_some hf
  obtain ⟨ns, hns, hf⟩ := bind_some hf
  obtain ⟨v, hv, hf⟩ := bind_some hf
  · obtain ⟨q, rfl, hf⟩ := intOf_inv hf
    obtain ⟨ns', hg, e'⟩ := Option.map_eq_some_iff.mp hf
    cases e'
    obtain ⟨fa, h1, ⟨o, fd, ho, hfd⟩, h3⟩ := H
    obtain ⟨a1, xs0, m0, a2, a3⟩ := R.ownL hn hvs
    refine wpAny_Expr_any (wpAny_Call_NameR (wp_glob h1 hs R.toE hk hd ?_)) (not_interactive R.st.fn)
    have hse : backTo cpos (starEach [.Name nl p1, e] env) = [(false, eval (.Name nl p1) env), (false, eval e env)] := by rw [star_plain rfl, star_plain hst]; rfl
    show wpAny C.M A (callWith cpos (.ref fa) [] (backTo cpos (starEach [.Name nl p1, e] env)) []) _ E s
    rw [hse]
    refine callWith_function (o := o) (fd := fd) (evalArgs_plain (spliced_cons (wpAny_Name (wp_at R.st.fn a1 (spliced_cons (he A E env P σ s _ _ hA hs R.toE hv fun P2 h2 tk2 x g2 hx => spliced_nil ?_))) hdl)))
    obtain ⟨_, rfl⟩ := hx.inv
    rename_i t
    have R2 := R.grow g2
    obtain ⟨_, xs, m, a4, a5⟩ := R2.ownL hn hvs
    obtain ⟨b1, b2, b3, b4, b5⟩ := R2.apart i nl (.ownL vs) hn (getO_some hvs) rfl
    refine ⟨⟨R2.toE.base _ _ ho, hfd⟩, ?_⟩
    refine h3 A E P2 { s with heap := h2, toks := tk2 } (ow i) xs m ns q t ns' _ hA R2.toE.base g2.sub b2 a4 (a5.ints hns) hg fun h' tk ys m' k1 k2 k3 => ?_
    have R3 : RepW C env nm B P2 (σ.set i (some (.ownL (ns'.map .int)))) h' ow := R2.change hn (getO_some hvs) rfl rfl k1 ⟨ys, m', k2, VRs.of_ints k3⟩
    have g12 := GrowB.ofGrow R.bsub g2
    exact k P2 h' tk ow _ ⟨g12.le, R3.sub, R3.bsub, g12.new⟩ R3 rfl
end
end Lw

namespace Lw
open PySem PySem.Calls PyProof.Rows
set_option maxRecDepth 100000
set_option maxHeartbeats 4000000

/-! _substitution_cost -/
noncomputable def nm_substitution_cost : List Str := [Str.ofString "ch_a", Str.ofString "ch_b"]
noncomputable def pn_substitution_cost : List Str := [Str.ofString "ch_a", Str.ofString "ch_b"]
noncomputable def e_substitution_cost : { f : St → Option (St × Fl) // ∀ (C : Cx) (lv : Nat) (G : Globs C) (h_CASE_COST : ∃ t, C.glob (Str.ofString "_CASE_COST") (.int 1 t)) (h_MOVE_COST : ∃ t, C.glob (Str.ofString "_MOVE_COST") (.int 2 t)), DS C (scopeN PySem.Challenge.pw_sw0007_01 0) nm_substitution_cost lv (bodyN PySem.Challenge.pw_sw0007_01 0) f } := ⟨_, fun C lv G h_CASE_COST h_MOVE_COST =>
  (DS_cons (DX_if (DT_cmp (DE_var 0 rfl (by decide +kernel)) (DE_var 1 rfl (by decide +kernel)) rfl)
    (DS_cons (DX_ret DE_int)
     DS_nil)
    DS_nil)
   (DS_cons (DX_if (DT_cmp (DE_method0 ofStr (fun zz => rfl) rfl F.plainAttrs_str F.slot_str_lower F.type_str_lower (DE_var 0 rfl (by decide +kernel)) lower_ok) (DE_method0 ofStr (fun zz => rfl) rfl F.plainAttrs_str F.slot_str_lower F.type_str_lower (DE_var 1 rfl (by decide +kernel)) lower_ok) rfl)
     (DS_cons (DX_ret (DE_globE h_CASE_COST (by decide +kernel) (by decide +kernel)))
      DS_nil)
     DS_nil)
    (DS_cons (DX_ret (DE_globE h_MOVE_COST (by decide +kernel) (by decide +kernel)))
     DS_nil)))⟩
noncomputable def g_substitution_cost : List V → Option V := specOf pn_substitution_cost nm_substitution_cost e_substitution_cost.1

/-! _levenshtein_distance -/
noncomputable def nm_levenshtein_distance : List Str := [Str.ofString "a", Str.ofString "b", Str.ofString "max_cost", Str.ofString "pre", Str.ofString "post", Str.ofString "row", Str.ofString "result", Str.ofString "bindex", Str.ofString "bchar", Str.ofString "distance", Str.ofString "minimum", Str.ofString "index", Str.ofString "substitute", Str.ofString "insert_delete"]
noncomputable def pn_levenshtein_distance : List Str := [Str.ofString "a", Str.ofString "b", Str.ofString "max_cost"]
noncomputable def e_levenshtein_distance : { f : St → Option (St × Fl) // ∀ (C : Cx) (lv : Nat) (G : Globs C) (h_MOVE_COST : ∃ t, C.glob (Str.ofString "_MOVE_COST") (.int 2 t)) (h_MAX_STRING_SIZE : ∃ t, C.glob (Str.ofString "_MAX_STRING_SIZE") (.int 40 t)) (h_substitution_cost : Fun C lv (Str.ofString "_substitution_cost") g_substitution_cost), DS C (scopeN PySem.Challenge.pw_sw0007_01 1) nm_levenshtein_distance lv (bodyN PySem.Challenge.pw_sw0007_01 1) f } := ⟨_, fun C lv G h_MOVE_COST h_MAX_STRING_SIZE h_substitution_cost =>
  (DS_cons (DX_if (DT_cmp (DE_var 0 rfl (by decide +kernel)) (DE_var 1 rfl (by decide +kernel)) rfl)
    (DS_cons (DX_ret DE_int)
     DS_nil)
    DS_nil)
   (DS_cons (DX_assign 3 rfl DE_int (fun zz zz => rfl))
    (DS_cons (DX_while 60 (DT_bool (DTs_and (DT_val (DE_sliceS (DE_var 0 rfl (by decide +kernel)) (DP_some (DE_var 3 rfl (by decide +kernel))) DP_none) (fun zz zz => rfl)) (DTs_and (DT_val (DE_sliceS (DE_var 1 rfl (by decide +kernel)) (DP_some (DE_var 3 rfl (by decide +kernel))) DP_none) (fun zz zz => rfl)) (DTs_and (DT_cmp (DE_idxS (DE_var 0 rfl (by decide +kernel)) (DE_var 3 rfl (by decide +kernel))) (DE_idxS (DE_var 1 rfl (by decide +kernel)) (DE_var 3 rfl (by decide +kernel))) rfl) DTs_nil))))
      (DS_cons (DX_aug 3 rfl DE_int aug_add)
       DS_nil))
     (DS_cons (DX_assign 0 rfl (DE_sliceS (DE_var 0 rfl (by decide +kernel)) (DP_some (DE_var 3 rfl (by decide +kernel))) DP_none) (fun zz zz => rfl))
      (DS_cons (DX_assign 1 rfl (DE_sliceS (DE_var 1 rfl (by decide +kernel)) (DP_some (DE_var 3 rfl (by decide +kernel))) DP_none) (fun zz zz => rfl))
       (DS_cons (DX_assign 4 rfl DE_int (fun zz zz => rfl))
        (DS_cons (DX_while 60 (DT_bool (DTs_and (DT_val (DE_sliceS (DE_var 0 rfl (by decide +kernel)) DP_none (DP_some (DE_or2 (DE_var 4 rfl (by decide +kernel)) DE_none))) (fun zz zz => rfl)) (DTs_and (DT_val (DE_sliceS (DE_var 1 rfl (by decide +kernel)) DP_none (DP_some (DE_or2 (DE_var 4 rfl (by decide +kernel)) DE_none))) (fun zz zz => rfl)) (DTs_and (DT_cmp (DE_idxS (DE_var 0 rfl (by decide +kernel)) (DE_bin (sub_ok C) (DE_var 4 rfl (by decide +kernel)) DE_int)) (DE_idxS (DE_var 1 rfl (by decide +kernel)) (DE_bin (sub_ok C) (DE_var 4 rfl (by decide +kernel)) DE_int)) rfl) DTs_nil))))
          (DS_cons (DX_aug 4 rfl DE_int aug_sub)
           DS_nil))
         (DS_cons (DX_assign 0 rfl (DE_sliceS (DE_var 0 rfl (by decide +kernel)) DP_none (DP_some (DE_or2 (DE_var 4 rfl (by decide +kernel)) DE_none))) (fun zz zz => rfl))
          (DS_cons (DX_assign 1 rfl (DE_sliceS (DE_var 1 rfl (by decide +kernel)) DP_none (DP_some (DE_or2 (DE_var 4 rfl (by decide +kernel)) DE_none))) (fun zz zz => rfl))
           (DS_cons (DX_if (DT_bool (DTs_or (DT_not (DT_val (DE_var 0 rfl (by decide +kernel)) (fun zz zz => rfl))) (DTs_or (DT_not (DT_val (DE_var 1 rfl (by decide +kernel)) (fun zz zz => rfl))) DTs_nil)))
             (DS_cons (DX_ret (DE_bin (mul_ok C) (DE_globE h_MOVE_COST (by decide +kernel) (by decide +kernel)) (DE_bin (add_ok C) (DE_call G.len (by decide +kernel) (by decide +kernel) trivial (by simp) (DEs_cons (DE_var 0 rfl (by decide +kernel)) DEs_nil rfl) len_ok) (DE_call G.len (by decide +kernel) (by decide +kernel) trivial (by simp) (DEs_cons (DE_var 1 rfl (by decide +kernel)) DEs_nil rfl) len_ok))))
              DS_nil)
             DS_nil)
            (DS_cons (DX_if (DT_bool (DTs_or (DT_cmp (DE_call G.len (by decide +kernel) (by decide +kernel) trivial (by simp) (DEs_cons (DE_var 0 rfl (by decide +kernel)) DEs_nil rfl) len_ok) (DE_globE h_MAX_STRING_SIZE (by decide +kernel) (by decide +kernel)) rfl) (DTs_or (DT_cmp (DE_call G.len (by decide +kernel) (by decide +kernel) trivial (by simp) (DEs_cons (DE_var 1 rfl (by decide +kernel)) DEs_nil rfl) len_ok) (DE_globE h_MAX_STRING_SIZE (by decide +kernel) (by decide +kernel)) rfl) DTs_nil)))
              (DS_cons (DX_ret (DE_bin (add_ok C) (DE_var 2 rfl (by decide +kernel)) DE_int))
               DS_nil)
              DS_nil)
             (DS_cons (DX_if (DT_cmp (DE_call G.len (by decide +kernel) (by decide +kernel) trivial (by simp) (DEs_cons (DE_var 1 rfl (by decide +kernel)) DEs_nil rfl) len_ok) (DE_call G.len (by decide +kernel) (by decide +kernel) trivial (by simp) (DEs_cons (DE_var 0 rfl (by decide +kernel)) DEs_nil rfl) len_ok) rfl)
               (DS_cons (DX_swap 0 1 rfl rfl (by decide +kernel) (by decide +kernel) (stores_eq rfl (by decide +kernel) (by decide +kernel) rfl (by decide +kernel) (by decide +kernel)))
                DS_nil)
               DS_nil)
              (DS_cons (DX_if (DT_cmp (DE_bin (mul_ok C) (DE_bin (sub_ok C) (DE_call G.len (by decide +kernel) (by decide +kernel) trivial (by simp) (DEs_cons (DE_var 1 rfl (by decide +kernel)) DEs_nil rfl) len_ok) (DE_call G.len (by decide +kernel) (by decide +kernel) trivial (by simp) (DEs_cons (DE_var 0 rfl (by decide +kernel)) DEs_nil rfl) len_ok)) (DE_globE h_MOVE_COST (by decide +kernel) (by decide +kernel))) (DE_var 2 rfl (by decide +kernel)) rfl)
                (DS_cons (DX_ret (DE_bin (add_ok C) (DE_var 2 rfl (by decide +kernel)) DE_int))
                 DS_nil)
                DS_nil)
               (DS_cons (DX_assignL 5 rfl (DF_listRange G.list G.range (by decide +kernel) (by decide +kernel) (by simp) (DEs_cons (DE_globE h_MOVE_COST (by decide +kernel) (by decide +kernel)) (DEs_cons (DE_bin (mul_ok C) (DE_globE h_MOVE_COST (by decide +kernel) (by decide +kernel)) (DE_bin (add_ok C) (DE_call G.len (by decide +kernel) (by decide +kernel) trivial (by simp) (DEs_cons (DE_var 0 rfl (by decide +kernel)) DEs_nil rfl) len_ok) DE_int)) (DEs_cons (DE_globE h_MOVE_COST (by decide +kernel) (by decide +kernel)) DEs_nil rfl) rfl) rfl)) (fun zz zz => rfl))
                (DS_cons (DX_assign 6 rfl DE_int (fun zz zz => rfl))
                 (DS_cons (DX_for (fun zz zz => rfl) (DI_range G.range (by decide +kernel) (by simp) (DEs_cons (DE_call G.len (by decide +kernel) (by decide +kernel) trivial (by simp) (DEs_cons (DE_var 1 rfl (by decide +kernel)) DEs_nil rfl) len_ok) DEs_nil rfl)) (DTg_name 7 rfl)
                   (DS_cons (DX_assign 8 rfl (DE_idxS (DE_var 1 rfl (by decide +kernel)) (DE_var 7 rfl (by decide +kernel))) (fun zz zz => rfl))
                    (DS_cons (DX_assign2 9 6 rfl rfl (DE_bin (mul_ok C) (DE_var 7 rfl (by decide +kernel)) (DE_globE h_MOVE_COST (by decide +kernel) (by decide +kernel))) (fun zz => rfl))
                     (DS_cons (DX_assign 10 rfl DE_int (fun zz zz => rfl))
                      (DS_cons (DX_for (fun zz zz => rfl) (DI_range G.range (by decide +kernel) (by simp) (DEs_cons (DE_call G.len (by decide +kernel) (by decide +kernel) trivial (by simp) (DEs_cons (DE_var 0 rfl (by decide +kernel)) DEs_nil rfl) len_ok) DEs_nil rfl)) (DTg_name 11 rfl)
                        (DS_cons (DX_assign 12 rfl (DE_bin (add_ok C) (DE_var 9 rfl (by decide +kernel)) (DE_user h_substitution_cost (by decide +kernel) (by decide +kernel) (by simp) (DEs_cons (DE_var 8 rfl (by decide +kernel)) (DEs_cons (DE_idxS (DE_var 0 rfl (by decide +kernel)) (DE_var 11 rfl (by decide +kernel))) DEs_nil rfl) rfl))) (fun zz zz => rfl))
                         (DS_cons (DX_assign 9 rfl (DE_idxB (DB_own 5 rfl (by decide +kernel)) (DE_var 11 rfl (by decide +kernel))) (fun zz zz => rfl))
                          (DS_cons (DX_assign 13 rfl (DE_bin (add_ok C) (DE_call G.min (by decide +kernel) (by decide +kernel) trivial (by simp) (DEs_cons (DE_var 6 rfl (by decide +kernel)) (DEs_cons (DE_var 9 rfl (by decide +kernel)) DEs_nil rfl) rfl) min_ok) (DE_globE h_MOVE_COST (by decide +kernel) (by decide +kernel))) (fun zz zz => rfl))
                           (DS_cons (DX_assign 6 rfl (DE_call G.min (by decide +kernel) (by decide +kernel) trivial (by simp) (DEs_cons (DE_var 13 rfl (by decide +kernel)) (DEs_cons (DE_var 12 rfl (by decide +kernel)) DEs_nil rfl) rfl) min_ok) (fun zz zz => rfl))
                            (DS_cons (DX_setL 5 rfl (by decide +kernel) (DE_var 6 rfl (by decide +kernel)) (DE_var 11 rfl (by decide +kernel)) (fun zz => rfl))
                             (DS_cons (DX_if (DT_cmp (DE_var 6 rfl (by decide +kernel)) (DE_var 10 rfl (by decide +kernel)) rfl)
                               (DS_cons (DX_assign 10 rfl (DE_var 6 rfl (by decide +kernel)) (fun zz zz => rfl))
                                DS_nil)
                               DS_nil)
                              DS_nil)))))))
                       (DS_cons (DX_if (DT_cmp (DE_var 10 rfl (by decide +kernel)) (DE_var 2 rfl (by decide +kernel)) rfl)
                         (DS_cons (DX_ret (DE_bin (add_ok C) (DE_var 2 rfl (by decide +kernel)) DE_int))
                          DS_nil)
                         DS_nil)
                        DS_nil))))))
                  (DS_cons (DX_ret (DE_var 6 rfl (by decide +kernel)))
                   DS_nil)))))))))))))))))⟩
noncomputable def g_levenshtein_distance : List V → Option V := specOf pn_levenshtein_distance nm_levenshtein_distance e_levenshtein_distance.1

/-! Int2AP -/
noncomputable def nm_Int2AP : List Str := [Str.ofString "num", Str.ofString "val", Str.ofString "AP", Str.ofString "mod"]
noncomputable def pn_Int2AP : List Str := [Str.ofString "num"]
noncomputable def e_Int2AP : { f : St → Option (St × Fl) // ∀ (C : Cx) (lv : Nat) (G : Globs C) , DS C (scopeN PySem.Challenge.pw_sw0007_01 2) nm_Int2AP lv (bodyN PySem.Challenge.pw_sw0007_01 2) f } := ⟨_, fun C lv G =>
  (DS_cons (DX_assign 1 rfl DE_bytes (fun zz zz => rfl))
   (DS_cons (DX_assign 2 rfl DE_bytes (fun zz zz => rfl))
    (DS_cons (DX_assign 0 rfl (DE_call G.int (by decide +kernel) (by decide +kernel) trivial (by simp) (DEs_cons (DE_call G.abs (by decide +kernel) (by decide +kernel) trivial (by simp) (DEs_cons (DE_var 0 rfl (by decide +kernel)) DEs_nil rfl) abs_ok) DEs_nil rfl) int_ok) (fun zz zz => rfl))
     (DS_cons (DX_while 60 (DT_val (DE_var 0 rfl (by decide +kernel)) (fun zz zz => rfl))
       (DS_cons (DX_divmod 0 3 rfl rfl G.divmod (by decide +kernel) (DE_var 0 rfl (by decide +kernel)) DE_int rfl rfl)
        (DS_cons (DX_assign 1 rfl (DE_bin (add_ok C) (DE_sliceB (DE_var 2 rfl (by decide +kernel)) (DP_some (DE_var 3 rfl (by decide +kernel))) (DP_some (DE_bin (add_ok C) (DE_var 3 rfl (by decide +kernel)) DE_int))) (DE_var 1 rfl (by decide +kernel))) (fun zz zz => rfl))
         DS_nil)))
      (DS_cons (DX_ret (DE_var 1 rfl (by decide +kernel)))
       DS_nil)))))⟩
noncomputable def g_Int2AP : List V → Option V := specOf pn_Int2AP nm_Int2AP e_Int2AP.1

/-! ISTERMINAL -/
noncomputable def nm_ISTERMINAL : List Str := [Str.ofString "x"]
noncomputable def pn_ISTERMINAL : List Str := [Str.ofString "x"]
noncomputable def e_ISTERMINAL : { f : St → Option (St × Fl) // ∀ (C : Cx) (lv : Nat) (G : Globs C) (h_NT_OFFSET : ∃ t, C.glob (Str.ofString "NT_OFFSET") (.int 256 t)), DS C (scopeN PySem.Challenge.pw_sw0007_01 3) nm_ISTERMINAL lv (bodyN PySem.Challenge.pw_sw0007_01 3) f } := ⟨_, fun C lv G h_NT_OFFSET =>
  (DS_cons (DX_ret (DE_cmp (DE_var 0 rfl (by decide +kernel)) (DE_globE h_NT_OFFSET (by decide +kernel) (by decide +kernel)) rfl))
   DS_nil)⟩
noncomputable def g_ISTERMINAL : List V → Option V := specOf pn_ISTERMINAL nm_ISTERMINAL e_ISTERMINAL.1

/-! ISNONTERMINAL -/
noncomputable def nm_ISNONTERMINAL : List Str := [Str.ofString "x"]
noncomputable def pn_ISNONTERMINAL : List Str := [Str.ofString "x"]
noncomputable def e_ISNONTERMINAL : { f : St → Option (St × Fl) // ∀ (C : Cx) (lv : Nat) (G : Globs C) (h_NT_OFFSET : ∃ t, C.glob (Str.ofString "NT_OFFSET") (.int 256 t)), DS C (scopeN PySem.Challenge.pw_sw0007_01 4) nm_ISNONTERMINAL lv (bodyN PySem.Challenge.pw_sw0007_01 4) f } := ⟨_, fun C lv G h_NT_OFFSET =>
  (DS_cons (DX_ret (DE_cmp (DE_var 0 rfl (by decide +kernel)) (DE_globE h_NT_OFFSET (by decide +kernel) (by decide +kernel)) rfl))
   DS_nil)⟩
noncomputable def g_ISNONTERMINAL : List V → Option V := specOf pn_ISNONTERMINAL nm_ISNONTERMINAL e_ISNONTERMINAL.1

/-! ISEOF -/
noncomputable def nm_ISEOF : List Str := [Str.ofString "x"]
noncomputable def pn_ISEOF : List Str := [Str.ofString "x"]
noncomputable def e_ISEOF : { f : St → Option (St × Fl) // ∀ (C : Cx) (lv : Nat) (G : Globs C) (h_ENDMARKER : ∃ t, C.glob (Str.ofString "ENDMARKER") (.int 0 t)), DS C (scopeN PySem.Challenge.pw_sw0007_01 5) nm_ISEOF lv (bodyN PySem.Challenge.pw_sw0007_01 5) f } := ⟨_, fun C lv G h_ENDMARKER =>
  (DS_cons (DX_ret (DE_cmp (DE_var 0 rfl (by decide +kernel)) (DE_globE h_ENDMARKER (by decide +kernel) (by decide +kernel)) rfl))
   DS_nil)⟩
noncomputable def g_ISEOF : List V → Option V := specOf pn_ISEOF nm_ISEOF e_ISEOF.1

/-! _law_number -/
noncomputable def nm_law_number : List Str := [Str.ofString "row", Str.ofString "number", Str.ofString "figure"]
noncomputable def pn_law_number : List Str := [Str.ofString "row"]
noncomputable def e_law_number : { f : St → Option (St × Fl) // ∀ (C : Cx) (lv : Nat) (G : Globs C) , DS C (scopeN PySem.Challenge.pw_sw0007_01 6) nm_law_number lv (bodyN PySem.Challenge.pw_sw0007_01 6) f } := ⟨_, fun C lv G =>
  (DS_cons (DX_assign 1 rfl DE_int (fun zz zz => rfl))
   (DS_cons (DX_for (fun zz zz => rfl) (DI_of (DF.toE (DF_slice (DB_of (DE_var 0 rfl (by decide +kernel))) DP_none DP_none (DP_some (DE_neg DE_int))))) (DTg_name 2 rfl)
     (DS_cons (DX_assign 1 rfl (DE_bin (add_ok C) (DE_bin (mul_ok C) DE_int (DE_var 1 rfl (by decide +kernel))) (DE_var 2 rfl (by decide +kernel))) (fun zz zz => rfl))
      DS_nil))
    (DS_cons (DX_ret (DE_var 1 rfl (by decide +kernel)))
     DS_nil)))⟩
noncomputable def g_law_number : List V → Option V := specOf pn_law_number nm_law_number e_law_number.1

/-! _law_lay -/
noncomputable def nm_law_lay : List Str := [Str.ofString "line", Str.ofString "number", Str.ofString "place"]
noncomputable def pn_law_lay : List Str := [Str.ofString "line", Str.ofString "number"]
noncomputable def e_law_lay1 : { f : St → Option (St × Fl) // ∀ (C : Cx) (lv : Nat) (G : Globs C) (h_ISTERMINAL : Fun C lv (Str.ofString "ISTERMINAL") g_ISTERMINAL) (h_ISNONTERMINAL : Fun C lv (Str.ofString "ISNONTERMINAL") g_ISNONTERMINAL) (h_ISEOF : Fun C lv (Str.ofString "ISEOF") g_ISEOF), DXi C (scopeN PySem.Challenge.pw_sw0007_01 7) nm_law_lay lv (Str.ofString "line") (st0 (bodyN PySem.Challenge.pw_sw0007_01 7)) f } := ⟨_, fun C lv G h_ISTERMINAL h_ISNONTERMINAL h_ISEOF =>
  (DXi_assign 2 rfl (by decide) DE_int (fun zz zz => rfl))⟩
noncomputable def e_law_lay2 : { f : St → Option (St × Fl) // ∀ (C : Cx) (lv : Nat) (G : Globs C) (h_ISTERMINAL : Fun C lv (Str.ofString "ISTERMINAL") g_ISTERMINAL) (h_ISNONTERMINAL : Fun C lv (Str.ofString "ISNONTERMINAL") g_ISNONTERMINAL) (h_ISEOF : Fun C lv (Str.ofString "ISEOF") g_ISEOF), DXi C (scopeN PySem.Challenge.pw_sw0007_01 7) nm_law_lay lv (Str.ofString "line") (st1 (bodyN PySem.Challenge.pw_sw0007_01 7)) f } := ⟨_, fun C lv G h_ISTERMINAL h_ISNONTERMINAL h_ISEOF =>
  (DXi_while 60 (DT_bool (DTs_and (DT_cmp (DE_var 2 rfl (by decide +kernel)) (DE_call G.len (by decide +kernel) (by decide +kernel) trivial (by simp) (DEs_cons (DE_var 0 rfl (by decide +kernel)) DEs_nil rfl) len_ok) rfl) (DTs_and (DT_bool (DTs_or (DT_val (DE_user h_ISTERMINAL (by decide +kernel) (by decide +kernel) (by simp) (DEs_cons (DE_bin (sub_ok C) (DE_bin (add_ok C) DE_int (DE_idxB (DB_of (DE_var 0 rfl (by decide +kernel))) (DE_var 2 rfl (by decide +kernel)))) (DE_var 1 rfl (by decide +kernel))) DEs_nil rfl)) (fun zz zz => rfl)) (DTs_or (DT_not (DT_val (DE_user h_ISNONTERMINAL (by decide +kernel) (by decide +kernel) (by simp) (DEs_cons (DE_bin (sub_ok C) (DE_bin (add_ok C) DE_int (DE_idxB (DB_of (DE_var 0 rfl (by decide +kernel))) (DE_var 2 rfl (by decide +kernel)))) (DE_var 1 rfl (by decide +kernel))) DEs_nil rfl)) (fun zz zz => rfl))) DTs_nil))) DTs_nil)))
   (DSi_cons (DXi_aug 2 rfl (by decide) DE_int aug_add)
    DSi_nil))⟩
noncomputable def e_law_layT : { f : St → Option Bool // ∀ (C : Cx) (lv : Nat) (G : Globs C) (h_ISTERMINAL : Fun C lv (Str.ofString "ISTERMINAL") g_ISTERMINAL) (h_ISNONTERMINAL : Fun C lv (Str.ofString "ISNONTERMINAL") g_ISNONTERMINAL) (h_ISEOF : Fun C lv (Str.ofString "ISEOF") g_ISEOF), DT C (scopeN PySem.Challenge.pw_sw0007_01 7) nm_law_lay lv (ifT (bodyN PySem.Challenge.pw_sw0007_01 7)) f } := ⟨_, fun C lv G h_ISTERMINAL h_ISNONTERMINAL h_ISEOF =>
  (DT_bool (DTs_or (DT_cmp (DE_var 2 rfl (by decide +kernel)) (DE_call G.len (by decide +kernel) (by decide +kernel) trivial (by simp) (DEs_cons (DE_var 0 rfl (by decide +kernel)) DEs_nil rfl) len_ok) rfl) (DTs_or (DT_not (DT_bool (DTs_or (DT_val (DE_user h_ISEOF (by decide +kernel) (by decide +kernel) (by simp) (DEs_cons (DE_bin (sub_ok C) (DE_idxB (DB_of (DE_var 0 rfl (by decide +kernel))) (DE_var 2 rfl (by decide +kernel))) (DE_var 1 rfl (by decide +kernel))) DEs_nil rfl)) (fun zz zz => rfl)) (DTs_or (DT_val (DE_user h_ISEOF (by decide +kernel) (by decide +kernel) (by simp) (DEs_cons (DE_bin (sub_ok C) (DE_var 1 rfl (by decide +kernel)) (DE_idxB (DB_of (DE_var 0 rfl (by decide +kernel))) (DE_var 2 rfl (by decide +kernel)))) DEs_nil rfl)) (fun zz zz => rfl)) DTs_nil)))) DTs_nil)))⟩
noncomputable def g_law_lay : List Int → Int → Option (List Int) := layG e_law_lay1.1 e_law_lay2.1 e_law_layT.1

/-! _law_letters -/
noncomputable def nm_law_letters : List Str := [Str.ofString "number", Str.ofString "text"]
noncomputable def pn_law_letters : List Str := [Str.ofString "number"]
noncomputable def e_law_letters : { f : St → Option (St × Fl) // ∀ (C : Cx) (lv : Nat) (G : Globs C) , DS C (scopeN PySem.Challenge.pw_sw0007_01 8) nm_law_letters lv (bodyN PySem.Challenge.pw_sw0007_01 8) f } := ⟨_, fun C lv G =>
  (DS_cons (DX_assign 1 rfl (DE_str [] (by decide +kernel)) (fun zz zz => rfl))
   (DS_cons (DX_while 60 (DT_cmp (DE_var 0 rfl (by decide +kernel)) DE_int rfl)
     (DS_cons (DX_assign 1 rfl (DE_bin (add_ok C) (DE_call G.chr (by decide +kernel) (by decide +kernel) trivial (by simp) (DEs_cons (DE_bin (add_ok C) DE_int (DE_bin (mod_ok C) (DE_var 0 rfl (by decide +kernel)) DE_int)) DEs_nil rfl) chr_ok) (DE_var 1 rfl (by decide +kernel))) (fun zz zz => rfl))
      (DS_cons (DX_assign 0 rfl (DE_bin (fdiv_ok C) (DE_var 0 rfl (by decide +kernel)) DE_int) (fun zz zz => rfl))
       DS_nil)))
    (DS_cons (DX_ret (DE_var 1 rfl (by decide +kernel)))
     DS_nil)))⟩
noncomputable def g_law_letters : List V → Option V := specOf pn_law_letters nm_law_letters e_law_letters.1

/-! _law_dressed -/
noncomputable def nm_law_dressed : List Str := [Str.ofString "text"]
noncomputable def pn_law_dressed : List Str := [Str.ofString "text"]
noncomputable def e_law_dressed : { f : St → Option (St × Fl) // ∀ (C : Cx) (lv : Nat) (G : Globs C) , DS C (scopeN PySem.Challenge.pw_sw0007_01 9) nm_law_dressed lv (bodyN PySem.Challenge.pw_sw0007_01 9) f } := ⟨_, fun C lv G =>
  (DS_cons (DX_ret (DE_method ofStr (fun zz => rfl) (fun zz => rfl) rfl F.plainAttrs_str F.slot_str_join F.type_str_join (by simp) (DE_str [] (by decide +kernel)) (DEs_cons (DF.toE (DF_comp (cap := [false]) ⟨(by decide +kernel), (by decide +kernel), (by decide +kernel), (by decide +kernel), rfl, (by decide +kernel), (by decide +kernel)⟩ (fun zz zz => rfl) rule_one (DI_of (DE_var 0 rfl (by decide +kernel))) DIfs_nil (DY_last (by decide +kernel) (DE_ite (DT_cmp (DE_bin (mod_ok C) (DE_call G.ord (by decide +kernel) (by decide +kernel) trivial (by simp) (DEs_cons (DE_var 0 rfl (by decide +kernel)) DEs_nil rfl) ord_ok) DE_int) DE_int rfl) (DE_method0 ofStr (fun zz => rfl) rfl F.plainAttrs_str F.slot_str_lower F.type_str_lower (DE_var 0 rfl (by decide +kernel)) lower_ok) (DE_var 0 rfl (by decide +kernel)))))) DEs_nil rfl) join_ok))
   DS_nil)⟩
noncomputable def g_law_dressed : List V → Option V := specOf pn_law_dressed nm_law_dressed e_law_dressed.1

/-! _law_slides -/
noncomputable def nm_law_slides : List Str := [Str.ofString "figures", Str.ofString "due", Str.ofString "foot", Str.ofString "top"]
noncomputable def pn_law_slides : List Str := [Str.ofString "figures"]
noncomputable def e_law_slides : { f : St → Option (St × Fl) // ∀ (C : Cx) (lv : Nat) (G : Globs C) (h_law_letters : Fun C lv (Str.ofString "_law_letters") g_law_letters) (h_law_number : Fun C lv (Str.ofString "_law_number") g_law_number) (h_Int2AP : Fun C lv (Str.ofString "Int2AP") g_Int2AP) (h_levenshtein_distance : Fun C lv (Str.ofString "_levenshtein_distance") g_levenshtein_distance), DS C (scopeN PySem.Challenge.pw_sw0007_01 10) nm_law_slides lv (bodyN PySem.Challenge.pw_sw0007_01 10) f } := ⟨_, fun C lv G h_law_letters h_law_number h_Int2AP h_levenshtein_distance =>
  (DS_cons (DX_assign 1 rfl (DE_bin (mul_ok C) DE_int (DE_call G.min (by decide +kernel) (by decide +kernel) trivial (by simp) (DEs_cons DE_int (DEs_cons (DE_call G.len (by decide +kernel) (by decide +kernel) trivial (by simp) (DEs_cons (DF.toE (DF_comp (cap := [true, false, false, false]) ⟨(by decide +kernel), (by decide +kernel), (by decide +kernel), (by decide +kernel), rfl, (by decide +kernel), (by decide +kernel)⟩ (fun zz zz => rfl) rule_one (DI_range G.range (by decide +kernel) (by simp) (DEs_cons DE_int (DEs_cons DE_int DEs_nil rfl) rfl)) (DIfs_one (DT_cmp (DE_idxB (DB_of (DE_var 1 rfl (by decide +kernel))) (DE_bin (sub_ok C) (DE_var 0 rfl (by decide +kernel)) DE_int)) (DE_idxB (DB_of (DE_var 1 rfl (by decide +kernel))) (DE_var 0 rfl (by decide +kernel))) rfl)) (DY_last (by decide +kernel) (DE_var 0 rfl (by decide +kernel))))) DEs_nil rfl) len_ok) DEs_nil rfl) rfl) min_ok)) (fun zz zz => rfl))
   (DS_cons (DX_assign 2 rfl (DE_user h_law_letters (by decide +kernel) (by decide +kernel) (by simp) (DEs_cons (DE_user h_law_number (by decide +kernel) (by decide +kernel) (by simp) (DEs_cons (DF.toE (DF_slice (DB_of (DE_var 0 rfl (by decide +kernel))) (DP_some DE_int) (DP_some DE_int) DP_none)) DEs_nil rfl)) DEs_nil rfl)) (fun zz zz => rfl))
    (DS_cons (DX_assign 3 rfl (DE_method ofBytes (fun zz => rfl) (fun zz => rfl) rfl PySem.W.FB.plainAttrs_bytes PySem.W.FB.slot_bytes_decode PySem.W.FB.type_bytes_decode (by simp) (DE_user h_Int2AP (by decide +kernel) (by decide +kernel) (by simp) (DEs_cons (DE_user h_law_number (by decide +kernel) (by decide +kernel) (by simp) (DEs_cons (DF.toE (DF_slice (DB_of (DE_var 0 rfl (by decide +kernel))) (DP_some DE_int) DP_none DP_none)) DEs_nil rfl)) DEs_nil rfl)) (DEs_cons (DE_str [97, 115, 99, 105, 105] (by decide +kernel)) DEs_nil rfl) decode_ok) (fun zz zz => rfl))
     (DS_cons (DX_ret (DE_cmp (DE_user h_levenshtein_distance (by decide +kernel) (by decide +kernel) (by simp) (DEs_cons (DE_var 2 rfl (by decide +kernel)) (DEs_cons (DE_var 3 rfl (by decide +kernel)) (DEs_cons (DE_var 1 rfl (by decide +kernel)) DEs_nil rfl) rfl) rfl)) (DE_var 1 rfl (by decide +kernel)) rfl))
      DS_nil))))⟩
noncomputable def g_law_slides : List V → Option V := specOf pn_law_slides nm_law_slides e_law_slides.1

/-! _law_take -/
noncomputable def nm_law_take : List Str := [Str.ofString "line", Str.ofString "left", Str.ofString "taken", Str.ofString "number", Str.ofString "name", Str.ofString "turn", Str.ofString "due", Str.ofString "place", Str.ofString "pair"]
noncomputable def pn_law_take : List Str := [Str.ofString "line"]
noncomputable def e_law_take : { f : St → Option (St × Fl) // ∀ (C : Cx) (lv : Nat) (G : Globs C) (h_ISNONTERMINAL : Fun C lv (Str.ofString "ISNONTERMINAL") g_ISNONTERMINAL) (h_Int2AP : Fun C lv (Str.ofString "Int2AP") g_Int2AP) (h_ISTERMINAL : Fun C lv (Str.ofString "ISTERMINAL") g_ISTERMINAL) (h_law_letters : Fun C lv (Str.ofString "_law_letters") g_law_letters) (h_law_dressed : Fun C lv (Str.ofString "_law_dressed") g_law_dressed) (h_levenshtein_distance : Fun C lv (Str.ofString "_levenshtein_distance") g_levenshtein_distance), DS C (scopeN PySem.Challenge.pw_sw0007_01 11) nm_law_take lv (bodyN PySem.Challenge.pw_sw0007_01 11) f } := ⟨_, fun C lv G h_ISNONTERMINAL h_Int2AP h_ISTERMINAL h_law_letters h_law_dressed h_levenshtein_distance =>
  (DS_cons (DX_assignC (cap := [false, false, false, false, false, false, false, false, false]) 1 rfl ⟨(by decide +kernel), (by decide +kernel), (by decide +kernel), (by decide +kernel), rfl, (by decide +kernel), (by decide +kernel)⟩ (fun zz zz => rfl) rule_one (swaps_eq true rfl (by decide +kernel)) (DI_of (DE_var 0 rfl (by decide +kernel))) (DIfs_one (DT_val (DE_user h_ISNONTERMINAL (by decide +kernel) (by decide +kernel) (by simp) (DEs_cons (DE_var 0 rfl (by decide +kernel)) DEs_nil rfl)) (fun zz zz => rfl))) (DY_last (by decide +kernel) (DF.toE (DF_list (DEs_cons (DE_var 0 rfl (by decide +kernel)) (DEs_cons (DE_method ofBytes (fun zz => rfl) (fun zz => rfl) rfl PySem.W.FB.plainAttrs_bytes PySem.W.FB.slot_bytes_decode PySem.W.FB.type_bytes_decode (by simp) (DE_user h_Int2AP (by decide +kernel) (by decide +kernel) (by simp) (DEs_cons (DE_bin (mul_ok C) (DE_var 0 rfl (by decide +kernel)) (DE_bin (sub_ok C) DE_int (DE_bin (mul_ok C) DE_int (DE_bin (mod_ok C) (DE_var 0 rfl (by decide +kernel)) DE_int)))) DEs_nil rfl)) (DEs_cons (DE_str [97, 115, 99, 105, 105] (by decide +kernel)) DEs_nil rfl) decode_ok) DEs_nil rfl) rfl)))))
   (DS_cons (DX_assignL 2 rfl (DF_list DEs_nil) (fun zz zz => rfl))
    (DS_cons (DX_for (fun zz zz => rfl) (DI_of (DE_var 0 rfl (by decide +kernel))) (DTg_name 3 rfl)
      (DS_cons (DX_if (DT_val (DE_user h_ISTERMINAL (by decide +kernel) (by decide +kernel) (by simp) (DEs_cons (DE_var 3 rfl (by decide +kernel)) DEs_nil rfl)) (fun zz zz => rfl))
        (DS_cons (DX_assign 4 rfl (DE_user h_law_letters (by decide +kernel) (by decide +kernel) (by simp) (DEs_cons (DE_var 3 rfl (by decide +kernel)) DEs_nil rfl)) (fun zz zz => rfl))
         (DS_cons (DX_assign 5 rfl (DE_bin (mod_ok C) (DE_bin (fdiv_ok C) (DE_var 3 rfl (by decide +kernel)) DE_int) DE_int) (fun zz zz => rfl))
          (DS_cons (DX_assign 6 rfl (DE_bin (add_ok C) (DE_bin (add_ok C) DE_int (DE_var 5 rfl (by decide +kernel))) (DE_bin (mod_ok C) (DE_var 3 rfl (by decide +kernel)) DE_int)) (fun zz zz => rfl))
           (DS_cons (DX_for (fun zz zz => rfl) (DI_range G.range (by decide +kernel) (by simp) (DEs_cons (DE_lenB G.len (by decide +kernel) (DB_own 1 rfl (by decide +kernel)) rfl) DEs_nil rfl)) (DTg_name 7 rfl)
             (DS_cons (DX_assign 8 rfl (DF.toE (DF_list (DEs_cons (DE_user h_law_dressed (by decide +kernel) (by decide +kernel) (by simp) (DEs_cons (DE_var 4 rfl (by decide +kernel)) DEs_nil rfl)) (DEs_cons (DE_idxB (DB_of (DE_idxB (DB_own 1 rfl (by decide +kernel)) (DE_var 7 rfl (by decide +kernel)))) DE_int) DEs_nil rfl) rfl))) (fun zz zz => rfl))
              (DS_cons (DX_if (DT_cmp (DE_bin (mod_ok C) (DE_var 3 rfl (by decide +kernel)) DE_int) DE_int rfl)
                (DS_cons (DX_assign 8 rfl (DF.toE (DF_list (DEs_cons (DE_var 4 rfl (by decide +kernel)) (DEs_cons (DE_user h_law_dressed (by decide +kernel) (by decide +kernel) (by simp) (DEs_cons (DE_idxB (DB_of (DE_idxB (DB_own 1 rfl (by decide +kernel)) (DE_var 7 rfl (by decide +kernel)))) DE_int) DEs_nil rfl)) DEs_nil rfl) rfl))) (fun zz zz => rfl))
                 DS_nil)
                DS_nil)
               (DS_cons (DX_if (DT_cmp (DE_user h_levenshtein_distance (by decide +kernel) (by decide +kernel) (by simp) (DEs_cons (DE_idxB (DB_of (DE_var 8 rfl (by decide +kernel))) (DE_var 5 rfl (by decide +kernel))) (DEs_cons (DE_idxB (DB_of (DE_var 8 rfl (by decide +kernel))) (DE_bin (sub_ok C) DE_int (DE_var 5 rfl (by decide +kernel)))) (DEs_cons (DE_var 6 rfl (by decide +kernel)) DEs_nil rfl) rfl) rfl)) (DE_var 6 rfl (by decide +kernel)) rfl)
                 (DS_cons (DX_append 2 rfl (by decide +kernel) (DF.toE (DF_list (DEs_cons (DE_var 3 rfl (by decide +kernel)) (DEs_cons (DE_idxB (DB_of (DE_idxB (DB_own 1 rfl (by decide +kernel)) (DE_var 7 rfl (by decide +kernel)))) DE_int) DEs_nil rfl) rfl))) rfl rfl)
                  (DS_cons (DX_pop 1 rfl (by decide +kernel) (DE_var 7 rfl (by decide +kernel)) rfl rfl)
                   (DS_cons DX_break
                    DS_nil)))
                 DS_nil)
                DS_nil))))
            DS_nil))))
        DS_nil)
       DS_nil))
     (DS_freeze 1 (Str.ofString "left") rfl
     (DS_freeze 2 (Str.ofString "taken") rfl
     (DS_cons (DX_ret (DF.toE (DF_list (DEs_cons (DE_var 2 rfl (by decide +kernel)) (DEs_cons (DE_var 1 rfl (by decide +kernel)) DEs_nil rfl) rfl))))
      DS_nil))))))⟩
noncomputable def g_law_take : List V → Option V := specOf pn_law_take nm_law_take e_law_take.1

/-! _law_told -/
noncomputable def nm_law_told : List Str := [Str.ofString "figures", Str.ofString "told", Str.ofString "j", Str.ofString "i", Str.ofString "two", Str.ofString "opened", Str.ofString "figure", Str.ofString "closing"]
noncomputable def pn_law_told : List Str := [Str.ofString "figures"]
noncomputable def e_law_told : { f : St → Option (St × Fl) // ∀ (C : Cx) (lv : Nat) (G : Globs C) (h_law_number : Fun C lv (Str.ofString "_law_number") g_law_number), DS C (scopeN PySem.Challenge.pw_sw0007_01 12) nm_law_told lv (bodyN PySem.Challenge.pw_sw0007_01 12) f } := ⟨_, fun C lv G h_law_number =>
  (DS_cons (DX_newD 1 rfl)
   (DS_cons (DX_for (fun zz zz => rfl) (DI_range G.range (by decide +kernel) (by simp) (DEs_cons DE_int (DEs_cons DE_int DEs_nil rfl) rfl)) (DTg_name 2 rfl)
     (DS_cons (DX_for (fun zz zz => rfl) (DI_range G.range (by decide +kernel) (by simp) (DEs_cons (DE_var 2 rfl (by decide +kernel)) DEs_nil rfl)) (DTg_name 3 rfl)
       (DS_cons (DX_assign 4 rfl (DF.toE (DF_list (DEs_cons (DE_idxB (DB_of (DE_var 0 rfl (by decide +kernel))) (DE_var 3 rfl (by decide +kernel))) (DEs_cons (DE_idxB (DB_of (DE_var 0 rfl (by decide +kernel))) (DE_var 2 rfl (by decide +kernel))) DEs_nil rfl) rfl))) (fun zz zz => rfl))
        (DS_cons (DX_assign 5 rfl (DF.toE (DF_list DEs_nil)) (fun zz zz => rfl))
         (DS_cons (DX_for (fun zz zz => rfl) (DI_of (DE_sortedSet G.sorted G.set (by decide +kernel) (by decide +kernel) (DE_var 0 rfl (by decide +kernel)) rfl)) (DTg_name 6 rfl)
           (DS_cons (DX_assign 7 rfl (DE_method ofList (fun zz => rfl) (fun zz => rfl) rfl F.plainAttrs_list F.slot_list_count F.type_list_count (by simp) (DE_var 4 rfl (by decide +kernel)) (DEs_cons (DE_var 6 rfl (by decide +kernel)) DEs_nil rfl) count_ok) (fun zz zz => rfl))
            (DS_cons (DX_assign 5 rfl (DE_bin (add_ok C) (DF.toE (DF_slice (DB_of (DE_var 5 rfl (by decide +kernel))) DP_none (DP_some (DE_call G.max (by decide +kernel) (by decide +kernel) trivial (by simp) (DEs_cons DE_int (DEs_cons (DE_bin (sub_ok C) (DE_call G.len (by decide +kernel) (by decide +kernel) trivial (by simp) (DEs_cons (DE_var 5 rfl (by decide +kernel)) DEs_nil rfl) len_ok) (DE_var 7 rfl (by decide +kernel))) DEs_nil rfl) rfl) max_ok)) DP_none)) (DE_bin (mul_ok C) (DF.toE (DF_list (DEs_cons (DE_var 6 rfl (by decide +kernel)) DEs_nil rfl))) (DE_bin (sub_ok C) (DE_method ofList (fun zz => rfl) (fun zz => rfl) rfl F.plainAttrs_list F.slot_list_count F.type_list_count (by simp) (DE_var 0 rfl (by decide +kernel)) (DEs_cons (DE_var 6 rfl (by decide +kernel)) DEs_nil rfl) count_ok) (DE_var 7 rfl (by decide +kernel))))) (fun zz zz => rfl))
             DS_nil)))
          (DS_cons (DX_setD 1 rfl (by decide +kernel) (DE_user h_law_number (by decide +kernel) (by decide +kernel) (by simp) (DEs_cons (DE_call G.sorted (by decide +kernel) (by decide +kernel) trivial (by simp) (DEs_cons (DE_bin (add_ok C) (DE_var 4 rfl (by decide +kernel)) (DF.toE (DF_slice (DB_of (DE_var 5 rfl (by decide +kernel))) DP_none (DP_some DE_int) DP_none))) DEs_nil rfl) sorted_ok2) DEs_nil rfl)) (DE_user h_law_number (by decide +kernel) (by decide +kernel) (by simp) (DEs_cons (DE_var 4 rfl (by decide +kernel)) DEs_nil rfl)) (fun zz => rfl))
           DS_nil)))))
      DS_nil))
    (DS_freeze 1 (Str.ofString "told") rfl
    (DS_cons (DX_ret (DF.toE (DF_comp (cap := [false, true, false, false, false, false, false, false]) ⟨(by decide +kernel), (by decide +kernel), (by decide +kernel), (by decide +kernel), rfl, (by decide +kernel), (by decide +kernel)⟩ (fun zz zz => rfl) rule_one (DI_of (DE_call G.sorted (by decide +kernel) (by decide +kernel) trivial (by simp) (DEs_cons (DE_var 1 rfl (by decide +kernel)) DEs_nil rfl) sorted_ok2)) DIfs_nil (DY_last (by decide +kernel) (DF.toE (DF_list (DEs_cons (DE_var 0 rfl (by decide +kernel)) (DEs_cons (DE_idxD (DBD_of (DE_var 2 rfl (by decide +kernel))) (DE_var 0 rfl (by decide +kernel))) DEs_nil rfl) rfl)))))))
     DS_nil))))⟩
noncomputable def g_law_told : List V → Option V := specOf pn_law_told nm_law_told e_law_told.1

/-! law -/
noncomputable def nm_law : List Str := [Str.ofString "script", Str.ofString "cells", Str.ofString "figures", Str.ofString "line", Str.ofString "j", Str.ofString "i"]
noncomputable def pn_law : List Str := [Str.ofString "script"]
noncomputable def e_law : { f : St → Option (St × Fl) // ∀ (C : Cx) (lv : Nat) (G : Globs C) (h_law_lay : FunLay C lv (Str.ofString "_law_lay") g_law_lay) (h_law_number : Fun C lv (Str.ofString "_law_number") g_law_number) (h_law_take : Fun C lv (Str.ofString "_law_take") g_law_take) (h_law_told : Fun C lv (Str.ofString "_law_told") g_law_told) (h_law_slides : Fun C lv (Str.ofString "_law_slides") g_law_slides), DS C (scopeN PySem.Challenge.pw_sw0007_01 13) nm_law lv (bodyN PySem.Challenge.pw_sw0007_01 13) f } := ⟨_, fun C lv G h_law_lay h_law_number h_law_take h_law_told h_law_slides =>
  (DS_cons (DX_assign 1 rfl (DF.toE (DF_list (DEs_cons DE_int (DEs_cons DE_int (DEs_cons DE_int (DEs_cons DE_int (DEs_cons DE_int DEs_nil rfl) rfl) rfl) rfl) rfl))) (fun zz zz => rfl))
   (DS_cons (DX_assign 2 rfl (DE_call G.sorted (by decide +kernel) (by decide +kernel) trivial (by simp) (DEs_cons (DF.toE (DF_comp (cap := [true, true, false, false, false, false]) ⟨(by decide +kernel), (by decide +kernel), (by decide +kernel), (by decide +kernel), rfl, (by decide +kernel), (by decide +kernel)⟩ (fun zz zz => rfl) rule_one (DI_range G.range (by decide +kernel) (by simp) (DEs_cons DE_int DEs_nil rfl)) DIfs_nil (DY_last (by decide +kernel) (DE_bin (add_ok C) DE_int (DE_bin (mod_ok C) (DE_bin (add_ok C) (DE_idxB (DB_of (DE_var 2 rfl (by decide +kernel))) (DE_var 0 rfl (by decide +kernel))) (DE_call G.sum (by decide +kernel) (by decide +kernel) trivial (by simp) (DEs_cons (DF.toE (DF_slice (DB_of (DF.toE (DF_slice (DB_of (DE_var 1 rfl (by decide +kernel))) DP_none (DP_some DE_int) DP_none))) (DP_some (DE_var 0 rfl (by decide +kernel))) DP_none (DP_some DE_int))) DEs_nil rfl) sum_ok)) DE_int))))) DEs_nil rfl) sorted_ok2) (fun zz zz => rfl))
    (DS_cons (DX_assignL 3 rfl (DF_list DEs_nil) (fun zz zz => rfl))
     (DS_cons (DX_for (fun zz zz => rfl) (DI_range G.range (by decide +kernel) (by simp) (DEs_cons DE_int (DEs_cons DE_int DEs_nil rfl) rfl)) (DTg_name 4 rfl)
       (DS_cons (DX_for (fun zz zz => rfl) (DI_range G.range (by decide +kernel) (by simp) (DEs_cons (DE_var 4 rfl (by decide +kernel)) DEs_nil rfl)) (DTg_name 5 rfl)
         (DS_cons (DX_lay h_law_lay (by decide +kernel) (by decide +kernel) 3 rfl (by decide +kernel) (DE_user h_law_number (by decide +kernel) (by decide +kernel) (by simp) (DEs_cons (DF.toE (DF_list (DEs_cons (DE_idxB (DB_of (DE_var 2 rfl (by decide +kernel))) (DE_var 5 rfl (by decide +kernel))) (DEs_cons (DE_idxB (DB_of (DE_var 2 rfl (by decide +kernel))) (DE_var 4 rfl (by decide +kernel))) DEs_nil rfl) rfl))) DEs_nil rfl)) rfl)
          (DS_cons (DX_lay h_law_lay (by decide +kernel) (by decide +kernel) 3 rfl (by decide +kernel) (DE_user h_law_number (by decide +kernel) (by decide +kernel) (by simp) (DEs_cons (DE_bin (add_ok C) (DE_bin (add_ok C) (DF.toE (DF_slice (DB_of (DE_var 2 rfl (by decide +kernel))) DP_none (DP_some (DE_var 5 rfl (by decide +kernel))) DP_none)) (DF.toE (DF_slice (DB_of (DE_var 2 rfl (by decide +kernel))) (DP_some (DE_bin (add_ok C) (DE_var 5 rfl (by decide +kernel)) DE_int)) (DP_some (DE_var 4 rfl (by decide +kernel))) DP_none))) (DF.toE (DF_slice (DB_of (DE_var 2 rfl (by decide +kernel))) (DP_some (DE_bin (add_ok C) (DE_var 4 rfl (by decide +kernel)) DE_int)) DP_none DP_none))) DEs_nil rfl)) rfl)
           DS_nil)))
        DS_nil))
      (DS_freeze 3 (Str.ofString "line") rfl
      (DS_cons (DX_ret (DE_and2 (DE_cmp (DE_user h_law_take (by decide +kernel) (by decide +kernel) (by simp) (DEs_cons (DE_var 3 rfl (by decide +kernel)) DEs_nil rfl)) (DF.toE (DF_list (DEs_cons (DE_user h_law_told (by decide +kernel) (by decide +kernel) (by simp) (DEs_cons (DE_var 2 rfl (by decide +kernel)) DEs_nil rfl)) (DEs_cons (DF.toE (DF_list DEs_nil)) DEs_nil rfl) rfl))) rfl) (DE_user h_law_slides (by decide +kernel) (by decide +kernel) (by simp) (DEs_cons (DE_var 2 rfl (by decide +kernel)) DEs_nil rfl))))
       DS_nil))))))⟩
noncomputable def g_law : List V → Option V := specOf pn_law nm_law e_law.1

end Lw

namespace Lw
open PySem
set_option maxRecDepth 100000
noncomputable def lv_preT : St → Option Bool := (fun σ =>
          (((getF σ 0).bind fun x =>
                    ((getF σ 3).bind partV).bind fun lo => (some none).bind fun hi => cutSV x lo hi).bind
                truthyV).bind
            fun b =>
            if b = true then
              (((getF σ 1).bind fun x =>
                        ((getF σ 3).bind partV).bind fun lo => (some none).bind fun hi => cutSV x lo hi).bind
                    truthyV).bind
                fun b =>
                if b = true then
                  (((getF σ 0).bind fun x => (getF σ 3).bind fun v => idxSV x v).bind fun a =>
                        ((getF σ 1).bind fun x => (getF σ 3).bind fun v => idxSV x v).bind fun b =>
                          cmpV CmpOp.Eq a b).bind
                    fun b => if b = true then some (BoolOp.And == BoolOp.And) else some false
                else some false
            else some false)
noncomputable def lv_preB : St → Option (St × Fl) := (seqF
          (fun σ =>
            (getF σ 3).bind fun a =>
              (some (V.int 1)).bind fun b => Option.map (fun v => (setF 3 v σ, Fl.next)) (augV Operator.Add a b))
          fun σ => some (σ, Fl.next))
noncomputable def lv_postT : St → Option Bool := (fun σ =>
                  (((getF σ 0).bind fun x =>
                            (some none).bind fun lo =>
                              (((getF σ 4).bind fun a =>
                                        (truthyV a).bind fun c => if c = true then some a else some V.none).bind
                                    partV).bind
                                fun hi => cutSV x lo hi).bind
                        truthyV).bind
                    fun b =>
                    if b = true then
                      (((getF σ 1).bind fun x =>
                                (some none).bind fun lo =>
                                  (((getF σ 4).bind fun a =>
                                            (truthyV a).bind fun c => if c = true then some a else some V.none).bind
                                        partV).bind
                                    fun hi => cutSV x lo hi).bind
                            truthyV).bind
                        fun b =>
                        if b = true then
                          (((getF σ 0).bind fun x =>
                                    ((getF σ 4).bind fun a => (some (V.int 1)).bind fun b => subV a b).bind fun v =>
                                      idxSV x v).bind
                                fun a =>
                                ((getF σ 1).bind fun x =>
                                      ((getF σ 4).bind fun a => (some (V.int 1)).bind fun b => subV a b).bind fun v =>
                                        idxSV x v).bind
                                  fun b => cmpV CmpOp.Eq a b).bind
                            fun b => if b = true then some (BoolOp.And == BoolOp.And) else some false
                        else some false
                    else some false)
noncomputable def lv_postB : St → Option (St × Fl) := (seqF
                  (fun σ =>
                    (getF σ 4).bind fun a =>
                      (some (V.int 1)).bind fun b =>
                        Option.map (fun v => (setF 4 v σ, Fl.next)) (augV Operator.Sub a b))
                  fun σ => some (σ, Fl.next))
noncomputable def lv_i0 (G : List V → Option V) : St → Option (St × Fl) := fun σ =>
                                                        Option.map (fun v => (setF 12 v σ, Fl.next))
                                                          ((getF σ 9).bind fun a =>
                                                            (((getF σ 8).bind fun v =>
                                                                      Option.map (fun x => v :: x)
                                                                        (((getF σ 0).bind fun x =>
                                                                              (getF σ 11).bind fun v => idxSV x v).bind
                                                                          fun v =>
                                                                          Option.map (fun x => v :: x) (some []))).bind
                                                                  G).bind
                                                              fun b => addV a b)
noncomputable def lv_i1 : St → Option (St × Fl) := fun σ =>
                                                          Option.map (fun v => (setF 9 v σ, Fl.next))
                                                            ((getO σ 5).bind fun xs =>
                                                              (getF σ 11).bind fun v => idxLV xs v)
noncomputable def lv_i2 : St → Option (St × Fl) := fun σ =>
                                                            Option.map (fun v => (setF 13 v σ, Fl.next))
                                                              ((((getF σ 6).bind fun v =>
                                                                        Option.map (fun x => v :: x)
                                                                          ((getF σ 9).bind fun v =>
                                                                            Option.map (fun x => v :: x)
                                                                              (some []))).bind
                                                                    minV).bind
                                                                fun a => (some (V.int 2)).bind fun b => addV a b)
noncomputable def lv_i3 : St → Option (St × Fl) := fun σ =>
                                                              Option.map (fun v => (setF 6 v σ, Fl.next))
                                                                (((getF σ 13).bind fun v =>
                                                                      Option.map (fun x => v :: x)
                                                                        ((getF σ 12).bind fun v =>
                                                                          Option.map (fun x => v :: x) (some []))).bind
                                                                  minV)
noncomputable def lv_i4 : St → Option (St × Fl) := fun σ =>
                                                                (getF σ 6).bind fun v =>
                                                                  (getF σ 11).bind fun iv =>
                                                                    (getO σ 5).bind fun xs =>
                                                                      Option.map
                                                                        (fun ys =>
                                                                          (List.set σ 5 (some (Slot.ownL ys)), Fl.next))
                                                                        (setLV xs iv v)
noncomputable def lv_i5 : St → Option (St × Fl) := fun σ =>
                                                                  ((getF σ 6).bind fun a =>
                                                                        (getF σ 10).bind fun b =>
                                                                          cmpV CmpOp.Lt a b).bind
                                                                    fun c =>
                                                                    if c = true then
                                                                      seqF
                                                                        (fun σ =>
                                                                          Option.map (fun v => (setF 10 v σ, Fl.next))
                                                                            (getF σ 6))
                                                                        (fun σ => some (σ, Fl.next)) σ
                                                                    else some (σ, Fl.next)
noncomputable def lv_inner (G : List V → Option V) : St → Option (St × Fl) := (seqF (lv_i0 G) (seqF lv_i1 (seqF lv_i2 (seqF lv_i3 (seqF lv_i4 (seqF lv_i5 (fun σ => some (σ, Fl.next))))))))
noncomputable def lv_o0 : St → Option (St × Fl) := fun σ =>
                                          Option.map (fun v => (setF 8 v σ, Fl.next))
                                            ((getF σ 1).bind fun x => (getF σ 7).bind fun v => idxSV x v)
noncomputable def lv_o1 : St → Option (St × Fl) := fun σ =>
                                            Option.map (fun v => (setF 6 v (setF 9 v σ), Fl.next))
                                              ((getF σ 7).bind fun a => (some (V.int 2)).bind fun b => mulV a b)
noncomputable def lv_o2 : St → Option (St × Fl) := fun σ =>
                                              Option.map (fun v => (setF 10 v σ, Fl.next))
                                                (some (V.int 9223372036854775807))
noncomputable def lv_o3 (G : List V → Option V) : St → Option (St × Fl) := fun σ =>
                                                (((((getF σ 0).bind fun v =>
                                                                  Option.map (fun x => v :: x) (some [])).bind
                                                              lenV).bind
                                                          fun v => Option.map (fun x => v :: x) (some [])).bind
                                                      rangeV).bind
                                                  fun items =>
                                                  forF (fun v σ => some (setF 11 v σ))
                                                    (lv_inner G)
                                                    items σ
noncomputable def lv_o4 : St → Option (St × Fl) := fun σ =>
                                                  ((getF σ 10).bind fun a =>
                                                        (getF σ 2).bind fun b => cmpV CmpOp.Gt a b).bind
                                                    fun c =>
                                                    if c = true then
                                                      seqF
                                                        (fun σ =>
                                                          Option.map (fun v => (σ, Fl.ret v))
                                                            ((getF σ 2).bind fun a =>
                                                              (some (V.int 1)).bind fun b => addV a b))
                                                        (fun σ => some (σ, Fl.next)) σ
                                                    else some (σ, Fl.next)
noncomputable def lv_outer (G : List V → Option V) : St → Option (St × Fl) := (seqF lv_o0 (seqF lv_o1 (seqF lv_o2 (seqF (lv_o3 G) (seqF lv_o4 (fun σ => some (σ, Fl.next)))))))
noncomputable def lv0 : St → Option (St × Fl) := fun σ =>
    ((getF σ 0).bind fun a => (getF σ 1).bind fun b => cmpV CmpOp.Eq a b).bind fun c =>
      if c = true then
        seqF (fun σ => Option.map (fun v => (σ, Fl.ret v)) (some (V.int 0))) (fun σ => some (σ, Fl.next)) σ
      else some (σ, Fl.next)
noncomputable def lv1 : St → Option (St × Fl) := fun σ => Option.map (fun v => (setF 3 v σ, Fl.next)) (some (V.int 0))
noncomputable def lv3 : St → Option (St × Fl) := fun σ =>
          Option.map (fun v => (setF 0 v σ, Fl.next))
            ((getF σ 0).bind fun x => ((getF σ 3).bind partV).bind fun lo => (some none).bind fun hi => cutSV x lo hi)
noncomputable def lv4 : St → Option (St × Fl) := fun σ =>
            Option.map (fun v => (setF 1 v σ, Fl.next))
              ((getF σ 1).bind fun x =>
                ((getF σ 3).bind partV).bind fun lo => (some none).bind fun hi => cutSV x lo hi)
noncomputable def lv5 : St → Option (St × Fl) := fun σ => Option.map (fun v => (setF 4 v σ, Fl.next)) (some (V.int 0))
noncomputable def lv7 : St → Option (St × Fl) := fun σ =>
                  Option.map (fun v => (setF 0 v σ, Fl.next))
                    ((getF σ 0).bind fun x =>
                      (some none).bind fun lo =>
                        (((getF σ 4).bind fun a =>
                                  (truthyV a).bind fun c => if c = true then some a else some V.none).bind
                              partV).bind
                          fun hi => cutSV x lo hi)
noncomputable def lv8 : St → Option (St × Fl) := fun σ =>
                    Option.map (fun v => (setF 1 v σ, Fl.next))
                      ((getF σ 1).bind fun x =>
                        (some none).bind fun lo =>
                          (((getF σ 4).bind fun a =>
                                    (truthyV a).bind fun c => if c = true then some a else some V.none).bind
                                partV).bind
                            fun hi => cutSV x lo hi)
noncomputable def lv9 : St → Option (St × Fl) := fun σ =>
                      ((Option.map (fun x => !x) ((getF σ 0).bind truthyV)).bind fun b =>
                            if b = true then some true
                            else
                              (Option.map (fun x => !x) ((getF σ 1).bind truthyV)).bind fun b =>
                                if b = true then some true else some (BoolOp.Or == BoolOp.And)).bind
                        fun c =>
                        if c = true then
                          seqF
                            (fun σ =>
                              Option.map (fun v => (σ, Fl.ret v))
                                ((some (V.int 2)).bind fun a =>
                                  ((((getF σ 0).bind fun v => Option.map (fun x => v :: x) (some [])).bind lenV).bind
                                        fun a =>
                                        (((getF σ 1).bind fun v => Option.map (fun x => v :: x) (some [])).bind
                                              lenV).bind
                                          fun b => addV a b).bind
                                    fun b => mulV a b))
                            (fun σ => some (σ, Fl.next)) σ
                        else some (σ, Fl.next)
noncomputable def lv10 : St → Option (St × Fl) := fun σ =>
                        (((((getF σ 0).bind fun v => Option.map (fun x => v :: x) (some [])).bind lenV).bind fun a =>
                                  (some (V.int 40)).bind fun b => cmpV CmpOp.Gt a b).bind
                              fun b =>
                              if b = true then some true
                              else
                                ((((getF σ 1).bind fun v => Option.map (fun x => v :: x) (some [])).bind lenV).bind
                                      fun a => (some (V.int 40)).bind fun b => cmpV CmpOp.Gt a b).bind
                                  fun b => if b = true then some true else some (BoolOp.Or == BoolOp.And)).bind
                          fun c =>
                          if c = true then
                            seqF
                              (fun σ =>
                                Option.map (fun v => (σ, Fl.ret v))
                                  ((getF σ 2).bind fun a => (some (V.int 1)).bind fun b => addV a b))
                              (fun σ => some (σ, Fl.next)) σ
                          else some (σ, Fl.next)
noncomputable def lv11 : St → Option (St × Fl) := fun σ =>
                          ((((getF σ 1).bind fun v => Option.map (fun x => v :: x) (some [])).bind lenV).bind fun a =>
                                (((getF σ 0).bind fun v => Option.map (fun x => v :: x) (some [])).bind lenV).bind
                                  fun b => cmpV CmpOp.Lt a b).bind
                            fun c =>
                            if c = true then
                              seqF
                                (fun σ =>
                                  (getF σ 1).bind fun a =>
                                    Option.map (fun b => (setF 0 a (setF 1 b σ), Fl.next)) (getF σ 0))
                                (fun σ => some (σ, Fl.next)) σ
                            else some (σ, Fl.next)
noncomputable def lv12 : St → Option (St × Fl) := fun σ =>
                            ((((((getF σ 1).bind fun v => Option.map (fun x => v :: x) (some [])).bind lenV).bind
                                          fun a =>
                                          (((getF σ 0).bind fun v => Option.map (fun x => v :: x) (some [])).bind
                                                lenV).bind
                                            fun b => subV a b).bind
                                      fun a => (some (V.int 2)).bind fun b => mulV a b).bind
                                  fun a => (getF σ 2).bind fun b => cmpV CmpOp.Gt a b).bind
                              fun c =>
                              if c = true then
                                seqF
                                  (fun σ =>
                                    Option.map (fun v => (σ, Fl.ret v))
                                      ((getF σ 2).bind fun a => (some (V.int 1)).bind fun b => addV a b))
                                  (fun σ => some (σ, Fl.next)) σ
                              else some (σ, Fl.next)
noncomputable def lv13 : St → Option (St × Fl) := fun σ =>
                              Option.map (fun v => (List.set σ 5 (some (Slot.ownL v)), Fl.next))
                                (((some (V.int 2)).bind fun v =>
                                      Option.map (fun x => v :: x)
                                        (((some (V.int 2)).bind fun a =>
                                              ((((getF σ 0).bind fun v => Option.map (fun x => v :: x) (some [])).bind
                                                        lenV).bind
                                                    fun a => (some (V.int 1)).bind fun b => addV a b).bind
                                                fun b => mulV a b).bind
                                          fun v =>
                                          Option.map (fun x => v :: x)
                                            ((some (V.int 2)).bind fun v =>
                                              Option.map (fun x => v :: x) (some [])))).bind
                                  fun vs => (rangeV vs).bind fun us => if us.length ≤ lim then some us else none)
noncomputable def lv14 : St → Option (St × Fl) := fun σ => Option.map (fun v => (setF 6 v σ, Fl.next)) (some (V.int 0))
noncomputable def lv15 (G : List V → Option V) : St → Option (St × Fl) := fun σ =>
                                  (((((getF σ 1).bind fun v => Option.map (fun x => v :: x) (some [])).bind lenV).bind
                                            fun v => Option.map (fun x => v :: x) (some [])).bind
                                        rangeV).bind
                                    fun items =>
                                    forF (fun v σ => some (setF 7 v σ))
                                      (lv_outer G)
                                      items σ
noncomputable def lv16 : St → Option (St × Fl) := fun σ => Option.map (fun v => (σ, Fl.ret v)) (getF σ 6)
noncomputable def lev_f (G : List V → Option V) : St → Option (St × Fl) := (seqF lv0 (seqF lv1 (seqF (whileF lv_preT lv_preB 60) (seqF lv3 (seqF lv4 (seqF lv5 (seqF (whileF lv_postT lv_postB 60) (seqF lv7 (seqF lv8 (seqF lv9 (seqF lv10 (seqF lv11 (seqF lv12 (seqF lv13 (seqF lv14 (seqF (lv15 G) (seqF lv16 (fun σ => some (σ, Fl.next)))))))))))))))))))
end Lw

namespace Lw
open PySem
set_option maxRecDepth 10000

@[simp] theorem getF_succ (x : Option Slot) (σ : St) (i : Nat) : getF (x :: σ) (i + 1) = getF σ i := rfl
@[simp] theorem getF_zero (v : V) (σ : St) : getF (some (.frz v) :: σ) 0 = some v := rfl
@[simp] theorem getO_succ (x : Option Slot) (σ : St) (i : Nat) : getO (x :: σ) (i + 1) = getO σ i := rfl
@[simp] theorem getO_zero (v : List V) (σ : St) : getO (some (.ownL v) :: σ) 0 = some v := rfl
@[simp] theorem setF_succ (x : Option Slot) (σ : St) (i : Nat) (v : V) : setF (i + 1) v (x :: σ) = x :: setF i v σ := rfl
@[simp] theorem setF_zero (x : Option Slot) (σ : St) (v : V) : setF 0 v (x :: σ) = some (.frz v) :: σ := rfl
theorem seqF_next {f g : St → Option (St × Fl)} {σ σ1 : St} (h : f σ = some (σ1, .next)) : seqF f g σ = g σ1 := by unfold seqF; rw [h]; rfl
theorem seqF_ret {f g : St → Option (St × Fl)} {σ σ1 : St} {v : V} (h : f σ = some (σ1, .ret v)) : seqF f g σ = some (σ1, .ret v) := by unfold seqF; rw [h]; rfl

abbrev F (v : V) : Option Slot := some (.frz v)
abbrev FI (n : Int) : Option Slot := some (.frz (.int n))

noncomputable def subC (c d : Nat) : Nat := if c = d then 0 else if lowC c = lowC d then 1 else 2

/-- what is asked of the substitution cost -/
noncomputable def GOk (G : List V → Option V) : Prop := ∀ c d : Nat, c < 128 → d < 128 → G [.str [c], .str [d]] = some (.int (subC c d))

theorem signAt_nat {s : List Nat} {j c : Nat} (h : s[j]? = some c) (hj : j < 1000000) : signAt s (j : Int) = some (.str [c]) := by
  unfold signAt
  rw [if_pos ⟨by (first | lia | omega), by (first | lia | omega)⟩]
  simp [h]
theorem idxL_nat {xs : List V} {j : Nat} {v : V} (h : xs[j]? = some v) (hj : j < 1000000) : idxLV xs (.int (j : Int)) = some v := by
  simp only [idxLV]
  rw [if_pos ⟨by (first | lia | omega), by (first | lia | omega)⟩]
  simp [h]
theorem setL_nat {xs : List V} {j : Nat} {v : V} (h : j < xs.length) (hj : j < 1000000) : setLV xs (.int (j : Int)) v = some (xs.set j v) := by
  simp only [setLV]
  rw [if_pos ⟨by (first | lia | omega), by (first | lia | omega), by (first | lia | omega)⟩]
  simp
@[simp] theorem add_int (a b : Int) : addV (.int a) (.int b) = some (.int (a + b)) := rfl
@[simp] theorem sub_int (a b : Int) : subV (.int a) (.int b) = some (.int (a - b)) := rfl
theorem mul_int {a b : Int} (h : a.natAbs < 2 ^ 40) : mulV (.int a) (.int b) = some (.int (a * b)) := if_pos h
@[simp] theorem min_int (a b : Int) : minV [.int a, .int b] = some (.int (if b < a then b else a)) := rfl
@[simp] theorem max_int (a b : Int) : maxV [.int a, .int b] = some (.int (if b > a then b else a)) := rfl
section
variable {G : List V → Option V} {a b mc pre post bi s9 s10 s11 s12 s13 : Option Slot} {x : List Nat} {R : List V} {j c d r : Nat} {result dist mn : Nat}

theorem i0_eq (hG : GOk G) (hx : x[j]? = some c) (hj : j < 1000000) (hc : c < 128) (hd : d < 128) :
    lv_i0 G [F (.str x), b, mc, pre, post, s9, s10, bi, F (.str [d]), FI dist, s11, FI j, s12, s13] = some ([F (.str x), b, mc, pre, post, s9, s10, bi, F (.str [d]), FI dist, s11, FI j, FI ((dist + subC d c : Nat) : Int), s13], .next) := by
  simp [lv_i0, idxSV, signAt_nat hx hj, hG d c hd hc]
theorem i1_eq (hr : R[j]? = some (.int (r : Int))) (hj : j < 1000000) :
    lv_i1 [a, b, mc, pre, post, some (.ownL R), s10, bi, s9, s13, s11, FI j, s12, id0] = some ([a, b, mc, pre, post, some (.ownL R), s10, bi, s9, FI r, s11, FI j, s12, id0], .next) := by
  simp [lv_i1, idxL_nat hr hj]
theorem i2_eq : lv_i2 [a, b, mc, pre, post, s9, FI result, bi, s10, FI r, s11, s12, s13, id0] = some ([a, b, mc, pre, post, s9, FI result, bi, s10, FI r, s11, s12, s13, FI ((min result r + 2 : Nat) : Int)], .next) := by
  simp [lv_i2]
  split <;> omega
theorem i3_eq {u v : Nat} : lv_i3 [a, b, mc, pre, post, s9, s10, bi, s11, s12, s13, ix, FI u, FI v] = some ([a, b, mc, pre, post, s9, FI ((min v u : Nat) : Int), bi, s11, s12, s13, ix, FI u, FI v], .next) := by
  simp [lv_i3]
  split <;> (first | lia | omega)
theorem i4_eq {v : V} (hj : j < 1000000) (hR : j < R.length) : lv_i4 [a, b, mc, pre, post, some (.ownL R), F v, bi, s9, s10, s11, FI j, s12, s13] = some ([a, b, mc, pre, post, some (.ownL (R.set j v)), F v, bi, s9, s10, s11, FI j, s12, s13], .next) := by
  simp [lv_i4, setL_nat hR hj]
theorem i5_eq : lv_i5 [a, b, mc, pre, post, s9, FI result, bi, s10, s11, FI mn, ix, s12, s13] = some ([a, b, mc, pre, post, s9, FI result, bi, s10, s11, FI ((min mn result : Nat) : Int), ix, s12, s13], .next) := by
  simp only [lv_i5, getF_succ, getF_zero, Option.bind_some, cmpV]
  by_cases h : (result : Int) < mn
  · simp [h, seqF]
    (first | lia | omega)
  · simp [h]
    (first | lia | omega)

/-- the inner loop's one turn -/
theorem inner_step (hG : GOk G) (hx : x[j]? = some c) (hj : j < 1000000) (hc : c < 128) (hd : d < 128) (hr : R[j]? = some (.int (r : Int))) :
    lv_inner G [F (.str x), b, mc, pre, post, some (.ownL R), FI result, bi, F (.str [d]), FI dist, FI mn, FI j, s12, s13] =
      some ([F (.str x), b, mc, pre, post, some (.ownL (R.set j (.int ((min (min result r + 2) (dist + subC d c) : Nat) : Int)))), FI ((min (min result r + 2) (dist + subC d c) : Nat) : Int), bi, F (.str [d]), FI r,
        FI ((min mn (min (min result r + 2) (dist + subC d c)) : Nat) : Int), FI j, FI ((dist + subC d c : Nat) : Int), FI ((min result r + 2 : Nat) : Int)], .next) := by
  have hjR : j < R.length := (List.getElem?_eq_some_iff.mp hr).1
  unfold lv_inner
  rw [seqF_next (i0_eq hG hx hj hc hd), seqF_next (i1_eq hr hj), seqF_next i2_eq, seqF_next i3_eq, seqF_next (i4_eq hj hjR), seqF_next i5_eq]

noncomputable def innerP (d : Nat) : List Nat → List Nat → Nat → Nat → Nat → List Nat × Nat × Nat
  | c :: x, r :: row, result, dist, mn =>
    let res := min (min result r + 2) (dist + subC d c)
    let q := innerP d x row res r (min mn res)
    (res :: q.1, q.2.1, q.2.2)
  | _, _, result, _, mn => ([], result, mn)

theorem innerP_len (d : Nat) : ∀ (x row : List Nat) (result dist mn : Nat), x.length = row.length → (innerP d x row result dist mn).1.length = row.length
  | [], [], _, _, _, _ => rfl
  | c :: x, r :: row, result, dist, mn, h => by
    simp only [innerP, List.length_cons]
    rw [innerP_len d x row _ _ _ (by simpa using h)]

theorem inner_loop (hG : GOk G) (hd : d < 128) : ∀ (xs row : List Nat) (x : List Nat) (done : List V) (result dist mn : Nat) (s11 s12 s13 : Option Slot), xs.length = row.length → x.drop done.length = xs → (∀ c ∈ xs, c < 128) → x.length < 1000000 →
    ∃ t9 t11 t12 t13, forF (fun v σ => some (setF 11 v σ)) (lv_inner G) ((List.range' done.length xs.length).map fun k : Nat => V.int (k : Int)) [F (.str x), b, mc, pre, post, some (.ownL (done ++ row.map fun r : Nat => V.int (r : Int))), FI result, bi, F (.str [d]), FI dist, FI mn, s11, s12, s13] =
      some ([F (.str x), b, mc, pre, post, some (.ownL (done ++ (innerP d xs row result dist mn).1.map fun r : Nat => V.int (r : Int))), FI (innerP d xs row result dist mn).2.1, bi, F (.str [d]), t9, FI (innerP d xs row result dist mn).2.2, t11, t12, t13], .next) := by
  intro xs
  induction xs with
  | nil =>
    intro row x done result dist mn s11 s12 s13 hl _ _ _
    obtain rfl := List.eq_nil_of_length_eq_zero hl.symm
    exact ⟨FI dist, s11, s12, s13, rfl⟩
  | cons c xs ih =>
    intro row x done result dist mn s11 s12 s13 hl hx hc hxl
    obtain ⟨r, row, rfl⟩ := List.exists_cons_of_length_eq_add_one hl.symm
    have hxj : x[done.length]? = some c := by
      have : (x.drop done.length)[0]? = some c := by rw [hx]; rfl
      simpa using this
    have hjl : done.length < x.length := (List.getElem?_eq_some_iff.mp hxj).1
    have hrow : (done ++ (r :: row).map fun r : Nat => V.int (r : Int))[done.length]? = some (.int (r : Int)) := by simp
    have step := inner_step (b := b) (mc := mc) (pre := pre) (post := post) (bi := bi) (s12 := s12) (s13 := s13) (result := result) (dist := dist) (mn := mn) hG hxj (by (first | lia | omega)) (hc c List.mem_cons_self) hd hrow
    have hset : ∀ v : V, (done ++ (r :: row).map fun r : Nat => V.int (r : Int)).set done.length v = (done ++ [v]) ++ row.map fun r : Nat => V.int (r : Int) := fun v => by simp
    rw [hset] at step
    have hdrop : x.drop (done ++ [V.int ((min (min result r + 2) (dist + subC d c) : Nat) : Int)]).length = xs := by
      rw [List.length_append, List.length_singleton, ← List.drop_drop, hx]; rfl
    obtain ⟨t9, t11, t12, t13, ih'⟩ := ih row x (done ++ [.int ((min (min result r + 2) (dist + subC d c) : Nat) : Int)]) (min (min result r + 2) (dist + subC d c)) r (min mn (min (min result r + 2) (dist + subC d c))) (FI done.length) (FI ((dist + subC d c : Nat) : Int)) (FI ((min result r + 2 : Nat) : Int))
      (by simpa using hl) hdrop (fun c hc' => hc c (List.mem_cons_of_mem _ hc')) hxl
    refine ⟨t9, t11, t12, t13, ?_⟩
    simp only [List.length_cons, List.range'_succ, List.map_cons, forF]
    simp only [setF_succ, setF_zero, Option.bind_some]
    have step' : lv_inner G [F (.str x), b, mc, pre, post, some (.ownL (done ++ (V.int (r : Int) :: row.map fun r : Nat => V.int (r : Int)))), FI result, bi, F (.str [d]), FI dist, FI mn, some (.frz (.int (done.length : Int))), s12, s13] = _ := step
    rw [step']
    simp only [Option.bind_some]
    simp only [List.length_append, List.length_singleton] at ih'
    rw [ih']
    simp only [innerP, List.append_assoc, List.map_cons, List.singleton_append]
end
end Lw

namespace Lw
open PySem
set_option maxRecDepth 10000

noncomputable def BIG : Nat := 9223372036854775807
noncomputable def outerP (x : List Nat) (mc : Nat) : List Nat → Nat → List Nat → Nat → Bool × Nat
  | [], _, _, res => (false, res)
  | d :: ys, k, row, _ =>
    let q := innerP d x row (k * 2) (k * 2) BIG
    if mc < q.2.2 then (true, mc + 1) else outerP x mc ys (k + 1) q.1 q.2.1

theorem rangeI_nat (n : Nat) : (rangeI 0 (n : Int) 1).map V.int = (List.range' 0 n).map fun k : Nat => V.int (k : Int) := by
  unfold rangeI
  have e : rangeN 0 (n : Int) 1 = n := by
    unfold rangeN Builtin.Range.rangeSize
    rw [if_pos (by decide)]
    split <;> (first | lia | omega)
  rw [e, List.map_map, List.range_eq_range']
  refine List.map_congr_left fun k zz => ?_
  simp
theorem range_nat {n : Nat} (h : n ≤ lim) : rangeV [.int (n : Int)] = some ((List.range' 0 n).map fun k : Nat => V.int (k : Int)) := by
  simp only [rangeV]
  rw [if_pos (by (first | lia | omega)), rangeI_nat]
theorem len_str {l : List Nat} (h : l.length ≤ lim) : lenV [.str l] = some (.int (l.length : Int)) := by
  simp only [lenV]
  rw [if_pos h]
theorem len_list {l : List V} (h : l.length ≤ lim) : lenV [.list l] = some (.int (l.length : Int)) := by
  simp only [lenV]
  rw [if_pos h]

section
variable {G : List V → Option V} {a b mc pre post bi s9 s10 s11 s12 s13 s5 s6 s8 : Option Slot} {x y : List Nat} {R : List V} {j c d r k : Nat} {result dist mn : Nat}

theorem o0_eq (hy : y[k]? = some d) (hk : k < 1000000) : lv_o0 [a, F (.str y), mc, pre, post, s5, s6, FI k, s8, s9, s10, s11, s12, s13] = some ([a, F (.str y), mc, pre, post, s5, s6, FI k, F (.str [d]), s9, s10, s11, s12, s13], .next) := by
  simp [lv_o0, idxSV, signAt_nat hy hk]
theorem o1_eq (hk : k < 1000000) : lv_o1 [a, b, mc, pre, post, s5, s6, FI k, s8, s9, s10, s11, s12, s13] = some ([a, b, mc, pre, post, s5, FI ((k * 2 : Nat) : Int), FI k, s8, FI ((k * 2 : Nat) : Int), s10, s11, s12, s13], .next) := by
  simp [lv_o1, mul_int (show ((k : Int)).natAbs < 2 ^ 40 by omega)]
theorem o2_eq : lv_o2 [a, b, mc, pre, post, s5, s6, bi, s8, s9, s10, s11, s12, s13] = some ([a, b, mc, pre, post, s5, s6, bi, s8, s9, FI (BIG : Nat), s11, s12, s13], .next) := by
  simp [lv_o2, BIG]
theorem o3_eq (hG : GOk G) (hd : d < 128) {row : List Nat} (hl : x.length = row.length) (hc : ∀ c ∈ x, c < 128) (hx : x.length ≤ lim) : ∃ t9 t11 t12 t13,
    lv_o3 G [F (.str x), b, mc, pre, post, some (.ownL (row.map fun r : Nat => V.int (r : Int))), FI result, bi, F (.str [d]), FI dist, FI mn, s11, s12, s13] =
      some ([F (.str x), b, mc, pre, post, some (.ownL ((innerP d x row result dist mn).1.map fun r : Nat => V.int (r : Int))), FI (innerP d x row result dist mn).2.1, bi, F (.str [d]), t9, FI (innerP d x row result dist mn).2.2, t11, t12, t13], .next) := by
  have hx' : x.length < 1000000 := by unfold lim at hx; (first | lia | omega)
  obtain ⟨t9, t11, t12, t13, h⟩ := inner_loop (b := b) (mc := mc) (pre := pre) (post := post) (bi := bi) hG hd x row x [] result dist mn s11 s12 s13 hl rfl hc hx'
  refine ⟨t9, t11, t12, t13, ?_⟩
  simp only [List.nil_append, List.length_nil] at h
  simp only [lv_o3, getF_succ, getF_zero, Option.bind_some, Option.map_some, len_str hx, range_nat hx]
  exact h
theorem o4_eq {m : Nat} : lv_o4 [a, b, FI m, pre, post, s5, s6, bi, s8, s9, FI mn, s11, s12, s13] = some ([a, b, FI m, pre, post, s5, s6, bi, s8, s9, FI mn, s11, s12, s13], if m < mn then .ret (.int ((m + 1 : Nat) : Int)) else .next) := by
  simp only [lv_o4, getF_succ, getF_zero, Option.bind_some, cmpV]
  by_cases h : m < mn
  · have h' : (m : Int) < mn := by (first | lia | omega)
    simp [h, h', seqF]
  · have h' : ¬ (m : Int) < mn := by (first | lia | omega)
    simp [h, h']

noncomputable def outFl (q : Bool × Nat) : Fl := if q.1 = true then .ret (.int (q.2 : Int)) else .next
theorem outer_loop (hG : GOk G) {m : Nat} (hc : ∀ c ∈ x, c < 128) (hx : x.length ≤ lim) : ∀ (ys : List Nat) (k : Nat) (row : List Nat) (res : Nat) (s7 s8 s9 s10 s11 s12 s13 : Option Slot), y.drop k = ys → (∀ c ∈ ys, c < 128) → y.length ≤ lim → x.length = row.length →
    ∃ σ', forF (fun v σ => some (setF 7 v σ)) (lv_outer G) ((List.range' k ys.length).map fun k : Nat => V.int (k : Int)) [F (.str x), F (.str y), FI m, pre, post, some (.ownL (row.map fun r : Nat => V.int (r : Int))), FI res, s7, s8, s9, s10, s11, s12, s13] =
      some (σ', outFl (outerP x m ys k row res)) ∧ ((outerP x m ys k row res).1 = false → getF σ' 6 = some (.int ((outerP x m ys k row res).2 : Int))) := by
  intro ys
  induction ys with
  | nil =>
    intro k row res s7 s8 s9 s10 s11 s12 s13 _ _ _ _
    exact ⟨_, rfl, fun zz => rfl⟩
  | cons d ys ih =>
    intro k row res s7 s8 s9 s10 s11 s12 s13 hy hcs hyl hl
    have hyk : y[k]? = some d := by
      have : (y.drop k)[0]? = some d := by rw [hy]; rfl
      simpa using this
    have hkl : k < y.length := (List.getElem?_eq_some_iff.mp hyk).1
    have hk : k < 1000000 := by unfold lim at hyl; (first | lia | omega)
    have hd := hcs d List.mem_cons_self
    obtain ⟨t9, t11, t12, t13, h3⟩ := o3_eq (b := F (.str y)) (mc := FI m) (pre := pre) (post := post) (bi := FI k) (s11 := s11) (s12 := s12) (s13 := s13) (result := k * 2) (dist := k * 2) (mn := BIG) hG hd hl hc hx
    have hrow : x.length = (innerP d x row (k * 2) (k * 2) BIG).1.length := by rw [innerP_len d x row _ _ _ hl]; exact hl
    have hdrop : y.drop (k + 1) = ys := by rw [← List.drop_drop, hy]; rfl
    have step : lv_outer G [F (.str x), F (.str y), FI m, pre, post, some (.ownL (row.map fun r : Nat => V.int (r : Int))), FI res, FI k, s8, s9, s10, s11, s12, s13] =
        some ([F (.str x), F (.str y), FI m, pre, post, some (.ownL ((innerP d x row (k * 2) (k * 2) BIG).1.map fun r : Nat => V.int (r : Int))), FI (innerP d x row (k * 2) (k * 2) BIG).2.1, FI k, F (.str [d]), t9, FI (innerP d x row (k * 2) (k * 2) BIG).2.2, t11, t12, t13],
          if m < (innerP d x row (k * 2) (k * 2) BIG).2.2 then .ret (.int ((m + 1 : Nat) : Int)) else .next) := by
      unfold lv_outer
      rw [seqF_next (o0_eq hyk hk), seqF_next (o1_eq hk), seqF_next o2_eq, seqF_next h3]
      by_cases h : m < (innerP d x row (k * 2) (k * 2) BIG).2.2
      · rw [seqF_ret (v := .int ((m + 1 : Nat) : Int)) (by rw [o4_eq, if_pos h]), if_pos h]
      · rw [seqF_next (by rw [o4_eq, if_neg h]), if_neg h]
    simp only [List.length_cons, List.range'_succ, List.map_cons, forF, setF_succ, setF_zero, Option.bind_some]
    have step' : lv_outer G [F (.str x), F (.str y), FI m, pre, post, some (.ownL (row.map fun r : Nat => V.int (r : Int))), FI res, some (.frz (.int (k : Int))), s8, s9, s10, s11, s12, s13] = _ := step
    rw [step']
    simp only [Option.bind_some]
    by_cases h : m < (innerP d x row (k * 2) (k * 2) BIG).2.2
    · have hq : outerP x m (d :: ys) k row res = (true, m + 1) := by simp only [outerP]; rw [if_pos h]
      rw [if_pos h, hq]
      exact ⟨_, rfl, fun e => by cases e⟩
    · have hq : outerP x m (d :: ys) k row res = outerP x m ys (k + 1) (innerP d x row (k * 2) (k * 2) BIG).1 (innerP d x row (k * 2) (k * 2) BIG).2.1 := by simp only [outerP]; rw [if_neg h]
      rw [if_neg h, hq]
      exact ih (k + 1) _ _ (FI k) (F (.str [d])) t9 (FI (innerP d x row (k * 2) (k * 2) BIG).2.2) t11 t12 t13 hdrop (fun c hc' => hcs c (List.mem_cons_of_mem _ hc')) hyl hrow
end
end Lw

namespace Lw
open PySem
set_option maxRecDepth 10000

noncomputable def lcp : List Nat → List Nat → Nat
  | a :: x, b :: y => if a = b then lcp x y + 1 else 0
  | _, _ => 0
theorem lcp_le : ∀ x y : List Nat, lcp x y ≤ x.length
  | [], _ => Nat.zero_le _
  | a :: x, [] => Nat.zero_le _
  | a :: x, b :: y => by
    simp only [lcp]
    split
    · have := lcp_le x y; simp; (first | lia | omega)
    · (first | lia | omega)
noncomputable def hdEq : List Nat → List Nat → Bool
  | a :: _, b :: _ => decide (a = b)
  | _, _ => false

theorem clipAt_nat (n i : Nat) : clipAt n (i : Int) = min i n := by
  unfold clipAt
  rw [if_neg (by omega)]
  omega
theorem clipAt_neg (n i : Nat) (h : 0 < i) : clipAt n (-(i : Int)) = n - i := by
  unfold clipAt
  rw [if_pos (by (first | lia | omega))]
  (first | lia | omega)
theorem cut_drop {α : Type} (xs : List α) (i : Nat) : cutL xs (some (i : Int)) none = xs.drop i := by
  unfold cutL
  simp only [Option.elim_some, Option.elim_none, clipAt_nat]
  by_cases h : i ≤ xs.length
  · rw [Nat.min_eq_left h, List.take_of_length_le (by simp)]
  · rw [Nat.min_eq_right (by (first | lia | omega)), List.drop_of_length_le (i := i) (by (first | lia | omega))]
    simp
noncomputable def hiOf (j : Nat) : Option Int := if j = 0 then none else some (-(j : Int))
theorem cut_take {α : Type} (xs : List α) (j : Nat) : cutL xs none (hiOf j) = xs.take (xs.length - j) := by
  unfold cutL hiOf
  split
  · rename_i h; subst h; simp
  · rename_i h
    simp only [Option.elim_some, Option.elim_none, clipAt_neg _ _ (Nat.pos_of_ne_zero h), List.drop_zero, Nat.sub_zero]

theorem part_nat {i : Nat} (h : i ≤ 1000000) : partV (.int (i : Int)) = some (some (i : Int)) := by
  simp only [partV]
  rw [if_pos (by (first | lia | omega))]
theorem part_hi {j : Nat} (h : j ≤ 1000000) : ((truthyV (.int (-(j : Int)))).bind fun c => if c = true then some (V.int (-(j : Int))) else some V.none).bind partV = some (hiOf j) := by
  by_cases h0 : j = 0
  · subst h0; rfl
  · have e : truthyV (.int (-(j : Int))) = some true := by
      simp only [truthyV, Option.some.injEq, decide_eq_true_eq]; (first | lia | omega)
    rw [e]
    simp only [Option.bind_some, if_true, partV]
    rw [if_pos (by (first | lia | omega))]
    simp [hiOf, h0]
theorem cutS_some {l : List Nat} {lo hi : Option Int} (h : l.length ≤ lim) : cutSV (.str l) lo hi = some (.str (cutL l lo hi)) := by
  simp only [cutSV]
  rw [if_pos h]
theorem truthy_str {l : List Nat} (h : l.length ≤ lim) : truthyV (.str l) = some (decide (l ≠ [])) := by
  simp only [truthyV]
  rw [if_pos h]
theorem signAt_rev {s : List Nat} {j c : Nat} (h : s.reverse[j]? = some c) (hs : s.length < 1000000) : signAt s (-(j : Int) - 1) = some (.str [c]) := by
  have hj : j < s.length := by have := (List.getElem?_eq_some_iff.mp h).1; simpa using this
  unfold signAt
  rw [if_neg (by (first | lia | omega)), if_pos ⟨by (first | lia | omega), by (first | lia | omega), hs⟩]
  have e : (-(j : Int) - 1 + s.length).toNat = s.length - 1 - j := by (first | lia | omega)
  rw [e]
  rw [List.getElem?_reverse hj] at h
  rw [h]; rfl

section
variable {G : List V → Option V} {a b mc s3 s4 s5 s6 s7 s8 s9 s10 s11 s12 s13 : Option Slot} {x y : List Nat}

theorem preT_eq {i : Nat} (hx : x.length ≤ lim) (hy : y.length ≤ lim) (hi : i ≤ 1000) :
    lv_preT [F (.str x), F (.str y), mc, FI i, s4, s5, s6, s7, s8, s9, s10, s11, s12, s13] = some (hdEq (x.drop i) (y.drop i)) := by
  have lx : (x.drop i).length ≤ lim := by simp; (first | lia | omega)
  have ly : (y.drop i).length ≤ lim := by simp; (first | lia | omega)
  simp only [lv_preT, getF_succ, getF_zero, Option.bind_some, part_nat (show i ≤ 1000000 by (first | lia | omega)), cutS_some hx, cutS_some hy, cut_drop, truthy_str lx, truthy_str ly]
  cases hdx : x.drop i with
  | nil => simp [hdEq]
  | cons c xs =>
    cases hdy : y.drop i with
    | nil => simp [hdEq]
    | cons d ys =>
      have e1 : x[i]? = some c := by
        have : (x.drop i)[0]? = some c := by rw [hdx]; rfl
        simpa using this
      have e2 : y[i]? = some d := by
        have : (y.drop i)[0]? = some d := by rw [hdy]; rfl
        simpa using this
      simp only [idxSV, signAt_nat e1 (show i < 1000000 by (first | lia | omega)), signAt_nat e2 (show i < 1000000 by (first | lia | omega)), Option.bind_some, cmpV, hdEq]
      by_cases h : c = d
      · simp [h]
      · simp [h]
theorem preB_eq {i : Nat} : lv_preB [a, b, mc, FI i, s4, s5, s6, s7, s8, s9, s10, s11, s12, s13] = some ([a, b, mc, FI ((i + 1 : Nat) : Int), s4, s5, s6, s7, s8, s9, s10, s11, s12, s13], .next) := by
  simp [lv_preB, seqF, augV, augI]
theorem pre_loop (hx : x.length ≤ lim) (hy : y.length ≤ lim) : ∀ (fuel i : Nat) (xs ys : List Nat), x.drop i = xs → y.drop i = ys → lcp xs ys < fuel → i + fuel ≤ 1000 →
    whileF lv_preT lv_preB fuel [F (.str x), F (.str y), mc, FI i, s4, s5, s6, s7, s8, s9, s10, s11, s12, s13] = some ([F (.str x), F (.str y), mc, FI ((i + lcp xs ys : Nat) : Int), s4, s5, s6, s7, s8, s9, s10, s11, s12, s13], .next) := by
  intro fuel
  induction fuel with
  | zero =>
    intro i xs ys _ _ h _
    exact absurd h (Nat.not_lt_zero _)
  | succ fuel ih =>
    intro i xs ys e1 e2 h hb
    simp only [whileF]
    rw [preT_eq hx hy (by (first | lia | omega)), e1, e2]
    simp only [Option.bind_some]
    cases xs with
    | nil => simp [hdEq, lcp]
    | cons c xs =>
      cases ys with
      | nil => simp [hdEq, lcp]
      | cons d ys =>
        by_cases hcd : c = d
        · have e3 : x.drop (i + 1) = xs := by rw [← List.drop_drop, e1]; rfl
          have e4 : y.drop (i + 1) = ys := by rw [← List.drop_drop, e2]; rfl
          have hl : lcp (c :: xs) (d :: ys) = lcp xs ys + 1 := by simp [lcp, hcd]
          rw [hl] at h ⊢
          have ih := ih (i + 1) xs ys e3 e4 (by (first | lia | omega)) (by (first | lia | omega))
          simp only [hdEq, hcd, decide_true, if_true]
          rw [preB_eq]
          simp only [Option.bind_some]
          rw [ih, show i + 1 + lcp xs ys = i + (lcp xs ys + 1) by (first | lia | omega)]
        · simp [hdEq, lcp, hcd]

theorem take_ne {xs : List Nat} {j : Nat} : (xs.take (xs.length - j) ≠ []) ↔ xs.reverse.drop j ≠ [] := by
  rw [← List.reverse_ne_nil_iff, List.reverse_take]
  have e : xs.length - (xs.length - j) = min j xs.length := by (first | lia | omega)
  rw [e]
  by_cases h : j ≤ xs.length
  · rw [Nat.min_eq_left h]
  · rw [Nat.min_eq_right (by (first | lia | omega)), List.drop_of_length_le (i := j) (by simp; (first | lia | omega)), List.drop_of_length_le (by simp)]

theorem postT_eq {j : Nat} (hx : x.length ≤ lim) (hy : y.length ≤ lim) (hj : j ≤ 1000) :
    lv_postT [F (.str x), F (.str y), mc, s3, FI (-(j : Int)), s5, s6, s7, s8, s9, s10, s11, s12, s13] = some (hdEq (x.reverse.drop j) (y.reverse.drop j)) := by
  have lx : (x.take (x.length - j)).length ≤ lim := by simp; (first | lia | omega)
  have ly : (y.take (y.length - j)).length ≤ lim := by simp; (first | lia | omega)
  have hx' : x.length < 1000000 := by unfold lim at hx; (first | lia | omega)
  have hy' : y.length < 1000000 := by unfold lim at hy; (first | lia | omega)
  simp only [lv_postT, getF_succ, getF_zero, Option.bind_some, part_hi (show j ≤ 1000000 by (first | lia | omega)), cutS_some hx, cutS_some hy, cut_take, truthy_str lx, truthy_str ly, sub_int]
  have hnx := take_ne (xs := x) (j := j)
  have hny := take_ne (xs := y) (j := j)
  cases hdx : x.reverse.drop j with
  | nil =>
    rw [hdx] at hnx
    have : x.take (x.length - j) = [] := by
      cases hq : x.take (x.length - j) with
      | nil => rfl
      | cons _ _ => rw [hq] at hnx; simp at hnx
    simp [this, hdEq]
  | cons c xs =>
    rw [hdx] at hnx
    have h1 : decide (x.take (x.length - j) ≠ []) = true := by rw [decide_eq_true_eq, hnx]; simp
    rw [h1]
    cases hdy : y.reverse.drop j with
    | nil =>
      rw [hdy] at hny
      have : y.take (y.length - j) = [] := by
        cases hq : y.take (y.length - j) with
        | nil => rfl
        | cons _ _ => rw [hq] at hny; simp at hny
      simp [this, hdEq]
    | cons d ys =>
      rw [hdy] at hny
      have h2 : decide (y.take (y.length - j) ≠ []) = true := by rw [decide_eq_true_eq, hny]; simp
      rw [h2]
      have e1 : x.reverse[j]? = some c := by
        have : (x.reverse.drop j)[0]? = some c := by rw [hdx]; rfl
        rw [List.getElem?_drop] at this
        simpa using this
      have e2 : y.reverse[j]? = some d := by
        have : (y.reverse.drop j)[0]? = some d := by rw [hdy]; rfl
        rw [List.getElem?_drop] at this
        simpa using this
      simp only [if_true, idxSV, signAt_rev e1 hx', signAt_rev e2 hy', Option.bind_some, cmpV, hdEq]
      by_cases h : c = d
      · simp [h]
      · simp [h]
theorem postB_eq {j : Nat} : lv_postB [a, b, mc, s3, FI (-(j : Int)), s5, s6, s7, s8, s9, s10, s11, s12, s13] = some ([a, b, mc, s3, FI (-((j + 1 : Nat) : Int)), s5, s6, s7, s8, s9, s10, s11, s12, s13], .next) := by
  simp only [lv_postB, seqF, getF_succ, getF_zero, Option.bind_some, augV, augI, Option.map_some, setF_succ, setF_zero]
  rw [show -(j : Int) - 1 = -((j + 1 : Nat) : Int) by (first | lia | omega)]
theorem post_loop (hx : x.length ≤ lim) (hy : y.length ≤ lim) : ∀ (fuel j : Nat) (xs ys : List Nat), x.reverse.drop j = xs → y.reverse.drop j = ys → lcp xs ys < fuel → j + fuel ≤ 1000 →
    whileF lv_postT lv_postB fuel [F (.str x), F (.str y), mc, s3, FI (-(j : Int)), s5, s6, s7, s8, s9, s10, s11, s12, s13] = some ([F (.str x), F (.str y), mc, s3, FI (-((j + lcp xs ys : Nat) : Int)), s5, s6, s7, s8, s9, s10, s11, s12, s13], .next) := by
  intro fuel
  induction fuel with
  | zero =>
    intro i xs ys _ _ h _
    exact absurd h (Nat.not_lt_zero _)
  | succ fuel ih =>
    intro i xs ys e1 e2 h hb
    simp only [whileF]
    rw [postT_eq hx hy (by (first | lia | omega)), e1, e2]
    simp only [Option.bind_some]
    cases xs with
    | nil => simp [hdEq, lcp]
    | cons c xs =>
      cases ys with
      | nil => simp [hdEq, lcp]
      | cons d ys =>
        by_cases hcd : c = d
        · have e3 : x.reverse.drop (i + 1) = xs := by rw [← List.drop_drop, e1]; rfl
          have e4 : y.reverse.drop (i + 1) = ys := by rw [← List.drop_drop, e2]; rfl
          have hl : lcp (c :: xs) (d :: ys) = lcp xs ys + 1 := by simp [lcp, hcd]
          rw [hl] at h ⊢
          have ih := ih (i + 1) xs ys e3 e4 (by (first | lia | omega)) (by (first | lia | omega))
          simp only [hdEq, hcd, decide_true, if_true]
          rw [postB_eq]
          simp only [Option.bind_some]
          rw [ih, show i + 1 + lcp xs ys = i + (lcp xs ys + 1) by (first | lia | omega)]
        · simp [hdEq, lcp, hcd]
end
end Lw

namespace Lw
open PySem
set_option maxRecDepth 10000

noncomputable def row0 (n : Nat) : List Nat := (List.range n).map fun k => 2 + k * 2

noncomputable def levQ (u v : List Nat) (mc : Nat) : Nat := if mc < (v.length - u.length) * 2 then mc + 1 else (outerP u mc v 0 (row0 u.length) 0).2
noncomputable def levT (u v : List Nat) (mc : Nat) : Nat := if u = [] ∨ v = [] then 2 * (u.length + v.length) else if v.length < u.length then levQ v u mc else levQ u v mc
/-- the words' common tail struck -/
noncomputable def levS (a b : List Nat) (mc : Nat) : Nat := levT (a.take (a.length - lcp a.reverse b.reverse)) (b.take (b.length - lcp a.reverse b.reverse)) mc
noncomputable def levP (x y : List Nat) (mc : Nat) : Nat := if x = y then 0 else levS (x.drop (lcp x y)) (y.drop (lcp x y)) mc

section
variable {G : List V → Option V} {a b mc s2 s3 s4 s5 s6 s7 s8 s9 s10 s11 s12 s13 : Option Slot} {x y : List Nat} {m : Nat}

theorem lv0_eq : lv0 [F (.str x), F (.str y), s2, s3, s4, s5, s6, s7, s8, s9, s10, s11, s12, s13] = some ([F (.str x), F (.str y), s2, s3, s4, s5, s6, s7, s8, s9, s10, s11, s12, s13], if x = y then .ret (.int 0) else .next) := by
  simp only [lv0, getF_succ, getF_zero, Option.bind_some, cmpV]
  by_cases h : x = y
  · simp [h, seqF]
  · simp [h]
theorem lv1_eq : lv1 [a, b, s2, s3, s4, s5, s6, s7, s8, s9, s10, s11, s12, s13] = some ([a, b, s2, FI (0 : Nat), s4, s5, s6, s7, s8, s9, s10, s11, s12, s13], .next) := by
  simp [lv1]
theorem lv3_eq {i : Nat} (hx : x.length ≤ lim) (hi : i ≤ 1000) : lv3 [F (.str x), b, s2, FI i, s4, s5, s6, s7, s8, s9, s10, s11, s12, s13] = some ([F (.str (x.drop i)), b, s2, FI i, s4, s5, s6, s7, s8, s9, s10, s11, s12, s13], .next) := by
  simp only [lv3, getF_succ, getF_zero, Option.bind_some, part_nat (show i ≤ 1000000 by (first | lia | omega)), cutS_some hx, cut_drop, Option.map_some, setF_zero]
theorem lv4_eq {i : Nat} (hy : y.length ≤ lim) (hi : i ≤ 1000) : lv4 [a, F (.str y), s2, FI i, s4, s5, s6, s7, s8, s9, s10, s11, s12, s13] = some ([a, F (.str (y.drop i)), s2, FI i, s4, s5, s6, s7, s8, s9, s10, s11, s12, s13], .next) := by
  simp only [lv4, getF_succ, getF_zero, Option.bind_some, part_nat (show i ≤ 1000000 by (first | lia | omega)), cutS_some hy, cut_drop, Option.map_some, setF_zero, setF_succ]
theorem lv5_eq : lv5 [a, b, s2, s3, s4, s5, s6, s7, s8, s9, s10, s11, s12, s13] = some ([a, b, s2, s3, FI (-((0 : Nat) : Int)), s5, s6, s7, s8, s9, s10, s11, s12, s13], .next) := by
  simp [lv5]
theorem lv7_eq {j : Nat} (hx : x.length ≤ lim) (hj : j ≤ 1000) : lv7 [F (.str x), b, s2, s3, FI (-(j : Int)), s5, s6, s7, s8, s9, s10, s11, s12, s13] = some ([F (.str (x.take (x.length - j))), b, s2, s3, FI (-(j : Int)), s5, s6, s7, s8, s9, s10, s11, s12, s13], .next) := by
  simp only [lv7, getF_succ, getF_zero, Option.bind_some, part_hi (show j ≤ 1000000 by (first | lia | omega)), cutS_some hx, cut_take, Option.map_some, setF_zero]
theorem lv8_eq {j : Nat} (hy : y.length ≤ lim) (hj : j ≤ 1000) : lv8 [a, F (.str y), s2, s3, FI (-(j : Int)), s5, s6, s7, s8, s9, s10, s11, s12, s13] = some ([a, F (.str (y.take (y.length - j))), s2, s3, FI (-(j : Int)), s5, s6, s7, s8, s9, s10, s11, s12, s13], .next) := by
  simp only [lv8, getF_succ, getF_zero, Option.bind_some, part_hi (show j ≤ 1000000 by (first | lia | omega)), cutS_some hy, cut_take, Option.map_some, setF_zero, setF_succ]
theorem lv9_eq (hx : x.length ≤ lim) (hy : y.length ≤ lim) : lv9 [F (.str x), F (.str y), s2, s3, s4, s5, s6, s7, s8, s9, s10, s11, s12, s13] = some ([F (.str x), F (.str y), s2, s3, s4, s5, s6, s7, s8, s9, s10, s11, s12, s13], if x = [] ∨ y = [] then .ret (.int ((2 * (x.length + y.length) : Nat) : Int)) else .next) := by
  have m2 : mulV (.int 2) (.int ((x.length : Int) + (y.length : Int))) = some (.int (2 * ((x.length : Int) + (y.length : Int)))) := mul_int (by decide)
  have ret : seqF (fun σ => Option.map (fun v => (σ, Fl.ret v)) (((((getF σ 0).bind fun v => some [v]).bind lenV).bind fun a =>
      (((getF σ 1).bind fun v => some [v]).bind lenV).bind fun b => addV a b).bind fun b => mulV (V.int 2) b)) (fun σ => some (σ, Fl.next)) [F (.str x), F (.str y), s2, s3, s4, s5, s6, s7, s8, s9, s10, s11, s12, s13] =
      some ([F (.str x), F (.str y), s2, s3, s4, s5, s6, s7, s8, s9, s10, s11, s12, s13], .ret (.int ((2 * (x.length + y.length) : Nat) : Int))) := by
    simp only [seqF, getF_succ, getF_zero, Option.bind_some, len_str hx, len_str hy, Option.map_some, add_int, m2]
    simp
  simp only [lv9, getF_succ, getF_zero, Option.bind_some, truthy_str hx, truthy_str hy, Option.map_some]
  rw [ret]
  by_cases h1 : x = []
  · simp [h1]
  · by_cases h2 : y = []
    · simp [h1, h2]
    · simp [h1, h2]
theorem lv10_eq (hx : x.length ≤ 40) (hy : y.length ≤ 40) : lv10 [F (.str x), F (.str y), s2, s3, s4, s5, s6, s7, s8, s9, s10, s11, s12, s13] = some ([F (.str x), F (.str y), s2, s3, s4, s5, s6, s7, s8, s9, s10, s11, s12, s13], .next) := by
  have lx : x.length ≤ lim := by unfold lim; (first | lia | omega)
  have ly : y.length ≤ lim := by unfold lim; (first | lia | omega)
  have h1 : decide ((40 : Int) < (x.length : Int)) = false := by rw [decide_eq_false_iff_not]; (first | lia | omega)
  have h2 : decide ((40 : Int) < (y.length : Int)) = false := by rw [decide_eq_false_iff_not]; (first | lia | omega)
  simp only [lv10, getF_succ, getF_zero, Option.bind_some, len_str lx, len_str ly, Option.map_some, cmpV, h1, h2]
  simp
theorem lv11_eq (hx : x.length ≤ lim) (hy : y.length ≤ lim) : lv11 [F (.str x), F (.str y), s2, s3, s4, s5, s6, s7, s8, s9, s10, s11, s12, s13] =
    some ([F (.str (if y.length < x.length then y else x)), F (.str (if y.length < x.length then x else y)), s2, s3, s4, s5, s6, s7, s8, s9, s10, s11, s12, s13], .next) := by
  simp only [lv11, getF_succ, getF_zero, Option.bind_some, len_str hx, len_str hy, Option.map_some, cmpV]
  by_cases h : y.length < x.length
  · have h' : (y.length : Int) < x.length := by (first | lia | omega)
    simp [h, h', seqF]
  · have h' : ¬ (y.length : Int) < x.length := by (first | lia | omega)
    simp [h, h']
theorem lv12_eq (hx : x.length ≤ 40) (hy : y.length ≤ 40) (hxy : x.length ≤ y.length) : lv12 [F (.str x), F (.str y), FI m, s3, s4, s5, s6, s7, s8, s9, s10, s11, s12, s13] =
    some ([F (.str x), F (.str y), FI m, s3, s4, s5, s6, s7, s8, s9, s10, s11, s12, s13], if m < (y.length - x.length) * 2 then .ret (.int ((m + 1 : Nat) : Int)) else .next) := by
  have lx : x.length ≤ lim := by unfold lim; (first | lia | omega)
  have ly : y.length ≤ lim := by unfold lim; (first | lia | omega)
  have m2 : mulV (.int ((y.length : Int) - (x.length : Int))) (.int 2) = some (.int (((y.length : Int) - (x.length : Int)) * 2)) := mul_int (by (first | lia | omega))
  simp only [lv12, getF_succ, getF_zero, Option.bind_some, len_str lx, len_str ly, Option.map_some, cmpV, sub_int, m2]
  by_cases h : m < (y.length - x.length) * 2
  · have h' : (m : Int) < ((y.length : Int) - (x.length : Int)) * 2 := by (first | lia | omega)
    simp [h, h', seqF]
  · have h' : ¬ (m : Int) < ((y.length : Int) - (x.length : Int)) * 2 := by (first | lia | omega)
    simp [h, h']
theorem lv13_eq (hx : x.length ≤ 40) (h0 : x ≠ []) : lv13 [F (.str x), b, s2, s3, s4, s5, s6, s7, s8, s9, s10, s11, s12, s13] =
    some ([F (.str x), b, s2, s3, s4, some (.ownL ((row0 x.length).map fun r : Nat => V.int (r : Int))), s6, s7, s8, s9, s10, s11, s12, s13], .next) := by
  have lx : x.length ≤ lim := by unfold lim; (first | lia | omega)
  have hpos : 0 < x.length := List.length_pos_iff.mpr h0
  have m2 : mulV (.int 2) (.int ((x.length : Int) + 1)) = some (.int (2 * ((x.length : Int) + 1))) := mul_int (by decide)
  have hr : rangeV [.int 2, .int (2 * ((x.length : Int) + 1)), .int 2] = some ((row0 x.length).map fun r : Nat => V.int (r : Int)) := by
    simp only [rangeV]
    rw [if_pos (by unfold lim; (first | lia | omega))]
    have e : rangeN 2 (2 * ((x.length : Int) + 1)) 2 = x.length := by
      unfold rangeN Builtin.Range.rangeSize
      rw [if_pos (by decide), if_pos (by (first | lia | omega))]
      (first | lia | omega)
    unfold rangeI
    rw [e]
    unfold row0
    rw [List.map_map, List.map_map]
    refine congrArg some (List.map_congr_left fun k zz => ?_)
    simp
  have hl : ((row0 x.length).map fun r : Nat => V.int (r : Int)).length ≤ lim := by unfold row0; simp; (first | lia | omega)
  simp only [lv13, getF_succ, getF_zero, Option.bind_some, len_str lx, Option.map_some, add_int, m2, hr]
  rw [if_pos hl]
  rfl
theorem lv14_eq : lv14 [a, b, s2, s3, s4, s5, s6, s7, s8, s9, s10, s11, s12, s13] = some ([a, b, s2, s3, s4, s5, FI (0 : Nat), s7, s8, s9, s10, s11, s12, s13], .next) := by
  simp [lv14]
theorem row0_len (n : Nat) : (row0 n).length = n := by simp [row0]
theorem lv15_eq (hG : GOk G) (hx : x.length ≤ 40) (hy : y.length ≤ 40) (hc : ∀ c ∈ x, c < 128) (hd : ∀ c ∈ y, c < 128) : ∃ σ', lv15 G [F (.str x), F (.str y), FI m, s3, s4, some (.ownL ((row0 x.length).map fun r : Nat => V.int (r : Int))), FI (0 : Nat), s7, s8, s9, s10, s11, s12, s13] =
    some (σ', outFl (outerP x m y 0 (row0 x.length) 0)) ∧ ((outerP x m y 0 (row0 x.length) 0).1 = false → getF σ' 6 = some (.int ((outerP x m y 0 (row0 x.length) 0).2 : Int))) := by
  have lx : x.length ≤ lim := by unfold lim; (first | lia | omega)
  have ly : y.length ≤ lim := by unfold lim; (first | lia | omega)
  obtain ⟨σ', h1, h2⟩ := outer_loop (pre := s3) (post := s4) hG (m := m) hc lx y 0 (row0 x.length) 0 s7 s8 s9 s10 s11 s12 s13 rfl hd ly (row0_len _).symm
  refine ⟨σ', ?_, h2⟩
  simp only [lv15, getF_succ, getF_zero, Option.bind_some, Option.map_some, len_str ly, range_nat ly]
  exact h1

theorem giveF_ret {f : St → Option (St × Fl)} {σ σ' : St} {v : V} (h : f σ = some (σ', .ret v)) : giveF (f σ) = some v := by rw [h]; rfl

theorem lev_eq (hG : GOk G) (hx : x.length ≤ 40) (hy : y.length ≤ 40) (hc : ∀ c ∈ x, c < 128) (hd : ∀ c ∈ y, c < 128) :
    giveF (lev_f G [F (.str x), F (.str y), FI m, none, none, none, none, none, none, none, none, none, none, none]) = some (.int (levP x y m : Int)) := by
  have lx : x.length ≤ lim := by unfold lim; (first | lia | omega)
  have ly : y.length ≤ lim := by unfold lim; (first | lia | omega)
  unfold lev_f
  by_cases hxy : x = y
  · rw [seqF_ret (v := .int 0) (by rw [lv0_eq, if_pos hxy])]
    simp [giveF, levP, hxy]
  · have hp := lcp_le x y
    rw [seqF_next (by rw [lv0_eq, if_neg hxy]), seqF_next lv1_eq, seqF_next (pre_loop lx ly 60 0 x y rfl rfl (by (first | lia | omega)) (by (first | lia | omega)))]
    rw [Nat.zero_add, seqF_next (lv3_eq lx (by (first | lia | omega))), seqF_next (lv4_eq ly (by (first | lia | omega))), seqF_next lv5_eq]
    have hla : (x.drop (lcp x y)).length ≤ 40 := by simp; (first | lia | omega)
    have hlb : (y.drop (lcp x y)).length ≤ 40 := by simp; (first | lia | omega)
    have hca : ∀ c ∈ x.drop (lcp x y), c < 128 := fun c h => hc c (List.mem_of_mem_drop h)
    have hcb : ∀ c ∈ y.drop (lcp x y), c < 128 := fun c h => hd c (List.mem_of_mem_drop h)
    have hlev : levP x y m = levS (x.drop (lcp x y)) (y.drop (lcp x y)) m := by unfold levP; rw [if_neg hxy]
    rw [hlev]
    generalize x.drop (lcp x y) = a at hla hca ⊢
    generalize y.drop (lcp x y) = b at hlb hcb ⊢
    have la : a.length ≤ lim := by unfold lim; (first | lia | omega)
    have lb : b.length ≤ lim := by unfold lim; (first | lia | omega)
    have hq := lcp_le a.reverse b.reverse
    rw [List.length_reverse] at hq
    rw [seqF_next (post_loop la lb 60 0 a.reverse b.reverse rfl rfl (by (first | lia | omega)) (by (first | lia | omega))), Nat.zero_add, seqF_next (lv7_eq la (by (first | lia | omega))), seqF_next (lv8_eq lb (by (first | lia | omega)))]
    have hlu : (a.take (a.length - lcp a.reverse b.reverse)).length ≤ 40 := by simp; (first | lia | omega)
    have hlv : (b.take (b.length - lcp a.reverse b.reverse)).length ≤ 40 := by simp; (first | lia | omega)
    have hcu : ∀ c ∈ a.take (a.length - lcp a.reverse b.reverse), c < 128 := fun c h => hca c (List.mem_of_mem_take h)
    have hcv : ∀ c ∈ b.take (b.length - lcp a.reverse b.reverse), c < 128 := fun c h => hcb c (List.mem_of_mem_take h)
    unfold levS
    generalize lcp a.reverse b.reverse = q at hlu hlv hcu hcv ⊢
    generalize a.take (a.length - q) = u at hlu hcu ⊢
    generalize b.take (b.length - q) = v at hlv hcv ⊢
    have lu : u.length ≤ lim := by unfold lim; (first | lia | omega)
    have lv : v.length ≤ lim := by unfold lim; (first | lia | omega)
    unfold levT
    by_cases he : u = [] ∨ v = []
    · rw [seqF_ret (v := .int ((2 * (u.length + v.length) : Nat) : Int)) (by rw [lv9_eq lu lv, if_pos he]), if_pos he]
      rfl
    · rw [if_neg he]
      rw [seqF_next (by rw [lv9_eq lu lv, if_neg he]), seqF_next (lv10_eq hlu hlv), seqF_next (lv11_eq lu lv)]
      have fin : ∀ (x y : List Nat), x.length ≤ 40 → y.length ≤ 40 → x ≠ [] → x.length ≤ y.length → (∀ c ∈ x, c < 128) → (∀ c ∈ y, c < 128) → ∀ s3 s4 : Option Slot,
          giveF (seqF lv12 (seqF lv13 (seqF lv14 (seqF (lv15 G) (seqF lv16 fun σ => some (σ, Fl.next))))) [F (.str x), F (.str y), FI m, s3, s4, none, none, none, none, none, none, none, none, none]) = some (.int (levQ x y m : Int)) := by
        intro x y hx hy h0 hxy hc hd s3 s4
        unfold levQ
        by_cases hm : m < (y.length - x.length) * 2
        · rw [seqF_ret (v := .int ((m + 1 : Nat) : Int)) (by rw [lv12_eq hx hy hxy, if_pos hm]), if_pos hm]
          rfl
        · rw [if_neg hm, seqF_next (by rw [lv12_eq hx hy hxy, if_neg hm]), seqF_next (lv13_eq hx h0), seqF_next lv14_eq]
          obtain ⟨σ', h1, h2⟩ := lv15_eq (s3 := s3) (s4 := s4) (s7 := none) (s8 := none) (s9 := none) (s10 := none) (s11 := none) (s12 := none) (s13 := none) (m := m) hG hx hy hc hd
          cases hq : (outerP x m y 0 (row0 x.length) 0).1 with
          | true =>
            rw [seqF_ret (σ1 := σ') (v := .int ((outerP x m y 0 (row0 x.length) 0).2 : Int)) (by rw [h1]; simp [outFl, hq])]
            rfl
          | false =>
            rw [seqF_next (σ1 := σ') (by rw [h1]; simp [outFl, hq])]
            rw [seqF_ret (σ1 := σ') (v := .int ((outerP x m y 0 (row0 x.length) 0).2 : Int)) (by simp [lv16, h2 hq])]
            rfl
      simp only [not_or] at he
      by_cases hlt : v.length < u.length
      · simp only [if_pos hlt]
        exact fin v u hlv hlu he.2 (by (first | lia | omega)) hcv hcu _ _
      · simp only [if_neg hlt]
        exact fin u v hlu hlv he.1 (by (first | lia | omega)) hcu hcv _ _
end
end Lw

namespace Lw
open PySem
set_option maxRecDepth 10000
noncomputable def substitution_cost_s0 : St → Option (St × Fl) := fun σ =>
    ((getF σ 0).bind fun a => (getF σ 1).bind fun b => cmpV CmpOp.Eq a b).bind fun c =>
      if c = true then
        seqF (fun σ => Option.map (fun v => (σ, Fl.ret v)) (some (V.int 0))) (fun σ => some (σ, Fl.next)) σ
      else some (σ, Fl.next)
noncomputable def substitution_cost_s1 : St → Option (St × Fl) := fun σ =>
      (((getF σ 0).bind fun ov => if isStrV ov = true then lowerV [ov] else none).bind fun a =>
            ((getF σ 1).bind fun ov => if isStrV ov = true then lowerV [ov] else none).bind fun b =>
              cmpV CmpOp.Eq a b).bind
        fun c =>
        if c = true then
          seqF (fun σ => Option.map (fun v => (σ, Fl.ret v)) (some (V.int 1))) (fun σ => some (σ, Fl.next)) σ
        else some (σ, Fl.next)
noncomputable def substitution_cost_s2 : St → Option (St × Fl) := fun σ => Option.map (fun v => (σ, Fl.ret v)) (some (V.int 2))
noncomputable def f_substitution_cost : St → Option (St × Fl) := (seqF substitution_cost_s0 (seqF substitution_cost_s1 (seqF substitution_cost_s2 (fun σ => some (σ, Fl.next)))))
noncomputable def Int2AP_s0 : St → Option (St × Fl) := fun σ => Option.map (fun v => (setF 1 v σ, Fl.next)) (some (V.bytes []))
noncomputable def Int2AP_s1 : St → Option (St × Fl) := fun σ =>
      Option.map (fun v => (setF 2 v σ, Fl.next))
        (some (V.bytes [65, 66, 67, 68, 69, 70, 71, 72, 73, 74, 75, 76, 77, 78, 79, 80]))
noncomputable def Int2AP_s2 : St → Option (St × Fl) := fun σ =>
        Option.map (fun v => (setF 0 v σ, Fl.next))
          (((((getF σ 0).bind fun v => Option.map (fun x => v :: x) (some [])).bind absV).bind fun v =>
                Option.map (fun x => v :: x) (some [])).bind
            intV)
noncomputable def Int2AP_s3_t : St → Option Bool := (fun σ => (getF σ 0).bind truthyV)
noncomputable def Int2AP_s3_b_s0 : St → Option (St × Fl) := fun σ =>
              (getF σ 0).bind fun a =>
                (some (V.int 16)).bind fun b =>
                  Option.map (fun q => (setF 3 (V.int q.snd) (setF 0 (V.int q.fst) σ), Fl.next)) (divmodV a b)
noncomputable def Int2AP_s3_b_s1 : St → Option (St × Fl) := fun σ =>
                Option.map (fun v => (setF 1 v σ, Fl.next))
                  (((getF σ 2).bind fun x =>
                        ((getF σ 3).bind partV).bind fun lo =>
                          (((getF σ 3).bind fun a => (some (V.int 1)).bind fun b => addV a b).bind partV).bind fun hi =>
                            cutBV x lo hi).bind
                    fun a => (getF σ 1).bind fun b => addV a b)
noncomputable def Int2AP_s3_b : St → Option (St × Fl) := (seqF Int2AP_s3_b_s0 (seqF Int2AP_s3_b_s1 (fun σ => some (σ, Fl.next))))
noncomputable def Int2AP_s3 : St → Option (St × Fl) := whileF Int2AP_s3_t Int2AP_s3_b 60
noncomputable def Int2AP_s4 : St → Option (St × Fl) := fun σ => Option.map (fun v => (σ, Fl.ret v)) (getF σ 1)
noncomputable def f_Int2AP : St → Option (St × Fl) := (seqF Int2AP_s0 (seqF Int2AP_s1 (seqF Int2AP_s2 (seqF Int2AP_s3 (seqF Int2AP_s4 (fun σ => some (σ, Fl.next)))))))

theorem startS_1 {nm : List Str} {v : V} {n : Nat} (h : nm.length = n + 1) : startS nm [v] = F v :: List.replicate n none := by
  unfold startS
  rw [h]; rfl

section
variable {a b s2 s3 : Option Slot}
theorem sub0_eq {c d : Nat} : substitution_cost_s0 [F (.str [c]), F (.str [d])] = some ([F (.str [c]), F (.str [d])], if c = d then .ret (.int 0) else .next) := by
  simp only [substitution_cost_s0, getF_succ, getF_zero, Option.bind_some, cmpV]
  by_cases h : c = d
  · simp [h, seqF]
  · simp [h]
theorem sub1_eq {c d : Nat} (hc : c < 128) (hd : d < 128) : substitution_cost_s1 [F (.str [c]), F (.str [d])] = some ([F (.str [c]), F (.str [d])], if lowC c = lowC d then .ret (.int 1) else .next) := by
  have e1 : lowerV [.str [c]] = some (.str [lowC c]) := by simp only [lowerV]; rw [if_pos hc]
  have e2 : lowerV [.str [d]] = some (.str [lowC d]) := by simp only [lowerV]; rw [if_pos hd]
  simp only [substitution_cost_s1, getF_succ, getF_zero, Option.bind_some, isStrV, if_true, e1, e2, cmpV]
  by_cases h : lowC c = lowC d
  · simp [h, seqF]
  · simp [h]
theorem sub_give {c d : Nat} (hc : c < 128) (hd : d < 128) : giveF (f_substitution_cost [F (.str [c]), F (.str [d])]) = some (.int (subC c d : Int)) := by
  unfold f_substitution_cost subC
  by_cases h : c = d
  · rw [seqF_ret (v := .int 0) (by rw [sub0_eq, if_pos h]), if_pos h]; rfl
  · rw [seqF_next (by rw [sub0_eq, if_neg h]), if_neg h]
    by_cases h2 : lowC c = lowC d
    · rw [seqF_ret (v := .int 1) (by rw [sub1_eq hc hd, if_pos h2]), if_pos h2]; rfl
    · rw [seqF_next (by rw [sub1_eq hc hd, if_neg h2]), if_neg h2]; rfl

noncomputable def ltr (d : Nat) : UInt8 := UInt8.ofNat (65 + d)
/-- the letters of a number, ahead of those at hand -/
noncomputable def apF : Nat → Nat → List UInt8 → List UInt8
  | 0, _, val => val
  | fuel + 1, n, val => if n = 0 then val else apF fuel (n / 16) (ltr (n % 16) :: val)
noncomputable def AP : List UInt8 := [65, 66, 67, 68, 69, 70, 71, 72, 73, 74, 75, 76, 77, 78, 79, 80]
theorem ap_cut : ∀ m : Fin 16, cutL AP (some ((m.val : Nat) : Int)) (some (((m.val : Nat) : Int) + 1)) = [ltr m.val] := by decide +kernel

theorem apb0_eq {n : Nat} {v : List UInt8} (hn : n < 1000000) : Int2AP_s3_b_s0 [FI n, a, b, s3] = some ([FI ((n / 16 : Nat) : Int), a, b, FI ((n % 16 : Nat) : Int)], .next) := by
  have e : divmodV (.int (n : Int)) (.int 16) = some (((n / 16 : Nat) : Int), ((n % 16 : Nat) : Int)) := by
    simp only [divmodV]
    rw [if_pos ⟨by (first | lia | omega), by (first | lia | omega), by decide, by decide⟩]
    rfl
  simp only [Int2AP_s3_b_s0, getF_succ, getF_zero, Option.bind_some, e, Option.map_some, setF_succ, setF_zero]
theorem apb1_eq {m : Nat} {v : List UInt8} (hm : m < 16) (hv : v.length ≤ 1000) : Int2AP_s3_b_s1 [a, F (.bytes v), F (.bytes AP), FI m] = some ([a, F (.bytes (ltr m :: v)), F (.bytes AP), FI m], .next) := by
  have e1 : partV (.int ((m : Int) + 1)) = some (some ((m : Int) + 1)) := by
    simp only [partV]
    rw [if_pos (by (first | lia | omega))]
  have e2 : cutBV (.bytes AP) (some (m : Int)) (some ((m : Int) + 1)) = some (.bytes [ltr m]) := by
    simp only [cutBV]
    rw [if_pos (by decide), ap_cut ⟨m, hm⟩]
  have e3 : addV (.bytes [ltr m]) (.bytes v) = some (.bytes (ltr m :: v)) := by
    simp only [addV]
    rw [if_pos (by unfold lim; simp; (first | lia | omega))]
    rfl
  simp only [Int2AP_s3_b_s1, getF_succ, getF_zero, Option.bind_some, part_nat (show m ≤ 1000000 by (first | lia | omega)), add_int, e1, e2, e3, Option.map_some, setF_succ, setF_zero]
theorem ap_loop : ∀ (fuel n : Nat) (v : List UInt8) (s3 : Option Slot), n < 16 ^ fuel → n < 1000000 → v.length + fuel ≤ 1000 → ∃ t3,
    whileF Int2AP_s3_t Int2AP_s3_b (fuel + 1) [FI n, F (.bytes v), F (.bytes AP), s3] = some ([FI (0 : Nat), F (.bytes (apF fuel n v)), F (.bytes AP), t3], .next) := by
  intro fuel
  induction fuel with
  | zero =>
    intro n v s3 h _ _
    have : n = 0 := by simpa using h
    subst this
    exact ⟨s3, rfl⟩
  | succ fuel ih =>
    intro n v s3 h h2 h3
    by_cases h0 : n = 0
    · subst h0
      refine ⟨s3, ?_⟩
      simp [whileF, Int2AP_s3_t, truthyV, apF]
    · have ht : Int2AP_s3_t [FI n, F (.bytes v), F (.bytes AP), s3] = some true := by
        simp only [Int2AP_s3_t, getF_zero, Option.bind_some, truthyV, Option.some.injEq, decide_eq_true_eq]
        (first | lia | omega)
      have hb : Int2AP_s3_b [FI n, F (.bytes v), F (.bytes AP), s3] = some ([FI ((n / 16 : Nat) : Int), F (.bytes (ltr (n % 16) :: v)), F (.bytes AP), FI ((n % 16 : Nat) : Int)], .next) := by
        unfold Int2AP_s3_b
        rw [seqF_next (apb0_eq (v := v) h2), seqF_next (apb1_eq (Nat.mod_lt _ (by decide)) (by (first | lia | omega)))]
      obtain ⟨t3, ih⟩ := ih (n / 16) (ltr (n % 16) :: v) (FI ((n % 16 : Nat) : Int)) (by rw [Nat.pow_succ] at h; (first | lia | omega)) (by (first | lia | omega)) (by simp only [List.length_cons]; (first | lia | omega))
      refine ⟨t3, ?_⟩
      rw [whileF, ht]
      simp only [Option.bind_some, if_true, hb]
      rw [ih]
      simp [apF, h0]
end

theorem ap_give {i : Int} (h : i.natAbs < 1000000) : giveF (f_Int2AP [FI i, none, none, none]) = some (.bytes (apF 59 i.natAbs [])) := by
  have e0 : Int2AP_s0 [FI i, none, none, none] = some ([FI i, F (.bytes []), none, none], .next) := rfl
  have e1 : Int2AP_s1 [FI i, F (.bytes []), none, none] = some ([FI i, F (.bytes []), F (.bytes AP), none], .next) := rfl
  have e2 : Int2AP_s2 [FI i, F (.bytes []), F (.bytes AP), none] = some ([FI (i.natAbs : Int), F (.bytes []), F (.bytes AP), none], .next) := by
    have : (if i < 0 then -i else i) = (i.natAbs : Int) := by split <;> (first | lia | omega)
    simp only [Int2AP_s2, getF_zero, Option.bind_some, Option.map_some, absV, intV, setF_zero, this]
  unfold f_Int2AP
  rw [seqF_next e0, seqF_next e1, seqF_next e2]
  obtain ⟨t3, h3⟩ := ap_loop 59 i.natAbs [] none (Nat.lt_of_lt_of_le h (by decide)) h (by simp)
  unfold Int2AP_s3
  rw [seqF_next h3]
  rfl

theorem snocInd {α : Type} {p : List α → Prop} (h0 : p []) (h1 : ∀ r x, p r → p (r ++ [x])) : ∀ l, p l := by
  intro l
  rw [← List.reverse_reverse l]
  induction l.reverse with
  | nil => exact h0
  | cons x r ih => rw [List.reverse_cons]; exact h1 _ _ ih
/-- a number by its figures -/
noncomputable def num (ds : List Nat) : Nat := ds.foldl (fun n d => 16 * n + d) 0
theorem num_snoc (ds : List Nat) (d : Nat) : num (ds ++ [d]) = 16 * num ds + d := by simp [num]
theorem num_pos (r : List Nat) : ∀ d, 0 < d → 0 < num (d :: r) :=
  snocInd (p := fun r => ∀ d, 0 < d → 0 < num (d :: r)) (fun d h => by simpa [num] using h) (fun r x ih d h => by rw [← List.cons_append, num_snoc]; have := ih d h; (first | lia | omega)) r
theorem apF_zero (fuel : Nat) (v : List UInt8) : apF fuel 0 v = v := by cases fuel <;> simp [apF]
theorem apF_num (r : List Nat) : ∀ (d fuel : Nat) (v : List UInt8), 0 < d → (∀ x ∈ d :: r, x < 16) → r.length < fuel → apF fuel (num (d :: r)) v = (d :: r).map ltr ++ v := by
  refine snocInd (p := fun r => ∀ (d fuel : Nat) (v : List UInt8), 0 < d → (∀ x ∈ d :: r, x < 16) → r.length < fuel → apF fuel (num (d :: r)) v = (d :: r).map ltr ++ v) ?_ ?_ r
  · intro d fuel v h hx hf
    cases fuel with
    | zero => (first | lia | omega)
    | succ fuel =>
      have hd : d < 16 := hx d (by simp)
      simp only [num, List.foldl_cons, List.foldl_nil, Nat.mul_zero, Nat.zero_add, apF]
      rw [if_neg (by (first | lia | omega)), Nat.div_eq_of_lt hd, Nat.mod_eq_of_lt hd, apF_zero]; rfl
  · intro r x ih d fuel v h hx hf
    cases fuel with
    | zero => (first | lia | omega)
    | succ fuel =>
      have hx16 : x < 16 := hx x (by simp)
      have hp := num_pos r d h
      rw [← List.cons_append, num_snoc]
      simp only [apF]
      rw [if_neg (by (first | lia | omega))]
      have e1 : (16 * num (d :: r) + x) / 16 = num (d :: r) := by (first | lia | omega)
      have e2 : (16 * num (d :: r) + x) % 16 = x := by (first | lia | omega)
      rw [e1, e2, ih d fuel _ h (fun y hy => hx y (by rw [← List.cons_append]; exact List.mem_append_left _ hy)) (by simp at hf; (first | lia | omega))]
      simp
end Lw

namespace Lw
open PySem
set_option maxRecDepth 100000
noncomputable def law_letters_s0 : St → Option (St × Fl) := fun σ => Option.map (fun v => (setF 1 v σ, Fl.next)) (some (V.str []))
noncomputable def law_letters_s1_t : St → Option Bool := (fun σ => (getF σ 0).bind fun a => (some (V.int 0)).bind fun b => cmpV CmpOp.Gt a b)
noncomputable def law_letters_s1_b_s0 : St → Option (St × Fl) := fun σ =>
          Option.map (fun v => (setF 1 v σ, Fl.next))
            (((((some (V.int 65)).bind fun a =>
                          ((getF σ 0).bind fun a => (some (V.int 16)).bind fun b => modV a b).bind fun b =>
                            addV a b).bind
                      fun v => Option.map (fun x => v :: x) (some [])).bind
                  chrV).bind
              fun a => (getF σ 1).bind fun b => addV a b)
noncomputable def law_letters_s1_b_s1 : St → Option (St × Fl) := fun σ =>
            Option.map (fun v => (setF 0 v σ, Fl.next))
              ((getF σ 0).bind fun a => (some (V.int 16)).bind fun b => fdivV a b)
noncomputable def law_letters_s1_b : St → Option (St × Fl) := (seqF law_letters_s1_b_s0 (seqF law_letters_s1_b_s1 (fun σ => some (σ, Fl.next))))
noncomputable def law_letters_s1 : St → Option (St × Fl) := whileF law_letters_s1_t law_letters_s1_b 60
noncomputable def law_letters_s2 : St → Option (St × Fl) := fun σ => Option.map (fun v => (σ, Fl.ret v)) (getF σ 1)
noncomputable def f_law_letters : St → Option (St × Fl) := (seqF law_letters_s0 (seqF law_letters_s1 (seqF law_letters_s2 (fun σ => some (σ, Fl.next)))))

theorem mod_int {a b : Int} (h : 0 < b ∧ b < 1073741824) : modV (.int a) (.int b) = some (.int (a % b)) := if_pos h
theorem fdiv_int {a b : Int} (h : 0 < b ∧ b < 1073741824) : fdivV (.int a) (.int b) = some (.int (a / b)) := if_pos h
theorem chr_nat {n : Nat} (h : n < 128) : chrV [.int (n : Int)] = some (.str [n]) := by
  simp only [chrV]
  first | (rw [if_pos (by (first | lia | omega))]; simp) | simp [h]
theorem add_str {x y : List Nat} (h : x.length + y.length ≤ lim) : addV (.str x) (.str y) = some (.str (x ++ y)) := if_pos h

/-- the letters of a number, ahead of those at hand -/
noncomputable def ltF : Nat → Nat → List Nat → List Nat
  | 0, _, val => val
  | fuel + 1, n, val => if n = 0 then val else ltF fuel (n / 16) ((65 + n % 16) :: val)
theorem lt_loop : ∀ (fuel n : Nat) (v : List Nat), n < 16 ^ fuel → n < 1000000 → v.length + fuel ≤ 1000 →
    whileF law_letters_s1_t law_letters_s1_b (fuel + 1) [FI n, F (.str v)] = some ([FI (0 : Nat), F (.str (ltF fuel n v))], .next) := by
  intro fuel
  induction fuel with
  | zero =>
    intro n v h _ _
    have : n = 0 := by simpa using h
    subst this
    rfl
  | succ fuel ih =>
    intro n v h h2 h3
    by_cases h0 : n = 0
    · subst h0
      simp [whileF, law_letters_s1_t, cmpV, ltF]
    · have ht : law_letters_s1_t [FI n, F (.str v)] = some true := by
        simp [law_letters_s1_t, cmpV]
        (first | lia | omega)
      have m1 : modV (.int (n : Int)) (.int 16) = some (.int ((n % 16 : Nat) : Int)) := by
        have h : modV (.int (n : Int)) (.int 16) = some (.int ((n : Int) % 16)) := mod_int ⟨by decide, by decide⟩
        rw [h]; rfl
      have m2 : fdivV (.int (n : Int)) (.int 16) = some (.int ((n / 16 : Nat) : Int)) := by
        have h : fdivV (.int (n : Int)) (.int 16) = some (.int ((n : Int) / 16)) := fdiv_int ⟨by decide, by decide⟩
        rw [h]; rfl
      have m3 : chrV [.int (65 + ((n % 16 : Nat) : Int))] = some (.str [65 + n % 16]) := by
        have := chr_nat (n := 65 + n % 16) (by (first | lia | omega))
        rw [← this]; congr 2
      have m4 : addV (.str [65 + n % 16]) (.str v) = some (.str ((65 + n % 16) :: v)) := add_str (by unfold lim; simp; (first | lia | omega))
      have hb : law_letters_s1_b [FI n, F (.str v)] = some ([FI ((n / 16 : Nat) : Int), F (.str ((65 + n % 16) :: v))], .next) := by
        unfold law_letters_s1_b
        have b0 : law_letters_s1_b_s0 [FI n, F (.str v)] = some ([FI n, F (.str ((65 + n % 16) :: v))], .next) := by
          simp only [law_letters_s1_b_s0, getF_succ, getF_zero, Option.bind_some, Option.map_some, m1, add_int, m3, m4, setF_succ, setF_zero]
        have b1 : law_letters_s1_b_s1 [FI n, F (.str ((65 + n % 16) :: v))] = some ([FI ((n / 16 : Nat) : Int), F (.str ((65 + n % 16) :: v))], .next) := by
          simp only [law_letters_s1_b_s1, getF_succ, getF_zero, Option.bind_some, Option.map_some, m2, setF_succ, setF_zero]
        rw [seqF_next b0, seqF_next b1]
      rw [whileF, ht]
      simp only [Option.bind_some, if_true, hb]
      rw [ih (n / 16) _ (by rw [Nat.pow_succ] at h; (first | lia | omega)) (by (first | lia | omega)) (by simp only [List.length_cons]; (first | lia | omega))]
      simp [ltF, h0]
theorem ltF_zero (fuel : Nat) (v : List Nat) : ltF fuel 0 v = v := by cases fuel <;> simp [ltF]
theorem ltF_num (r : List Nat) : ∀ (d fuel : Nat) (v : List Nat), 0 < d → (∀ x ∈ d :: r, x < 16) → r.length < fuel → ltF fuel (num (d :: r)) v = (d :: r).map (65 + ·) ++ v := by
  refine snocInd (p := fun r => ∀ (d fuel : Nat) (v : List Nat), 0 < d → (∀ x ∈ d :: r, x < 16) → r.length < fuel → ltF fuel (num (d :: r)) v = (d :: r).map (65 + ·) ++ v) ?_ ?_ r
  · intro d fuel v h hx hf
    cases fuel with
    | zero => omega
    | succ fuel =>
      have hd : d < 16 := hx d (by simp)
      simp only [num, List.foldl_cons, List.foldl_nil, Nat.mul_zero, Nat.zero_add, ltF]
      rw [if_neg (by omega), Nat.div_eq_of_lt hd, Nat.mod_eq_of_lt hd, ltF_zero]; rfl
  · intro r x ih d fuel v h hx hf
    cases fuel with
    | zero => omega
    | succ fuel =>
      have hx16 : x < 16 := hx x (by simp)
      have hp := num_pos r d h
      rw [← List.cons_append, num_snoc]
      simp only [ltF]
      rw [if_neg (by omega)]
      have e1 : (16 * num (d :: r) + x) / 16 = num (d :: r) := by omega
      have e2 : (16 * num (d :: r) + x) % 16 = x := by omega
      rw [e1, e2, ih d fuel _ h (fun y hy => hx y (by rw [← List.cons_append]; exact List.mem_append_left _ hy)) (by simp at hf; omega)]
      simp
theorem lt_give {n : Nat} (h : n < 1000000) : giveF (f_law_letters [FI n, none]) = some (.str (ltF 59 n [])) := by
  have e0 : law_letters_s0 [FI n, none] = some ([FI n, F (.str [])], .next) := rfl
  unfold f_law_letters
  rw [seqF_next e0]
  have h3 := lt_loop 59 n [] (Nat.lt_of_lt_of_le h (by decide)) h (by simp)
  unfold law_letters_s1
  rw [seqF_next h3]
  rfl
end Lw

namespace Lw
open PySem PyProof.Rows
set_option maxRecDepth 10000

abbrev nI (l : List Nat) : List V := l.map fun d : Nat => V.int (d : Int)
abbrev iI (l : List Int) : List V := l.map V.int
abbrev OL (l : List V) : Option Slot := some (.ownL l)
abbrev OD (l : List (Int × V)) : Option Slot := some (.ownD l)

@[simp] theorem getD_succ (x : Option Slot) (σ : St) (i : Nat) : getD (x :: σ) (i + 1) = getD σ i := rfl
@[simp] theorem getD_zero (v : List (Int × V)) (σ : St) : getD (some (.ownD v) :: σ) 0 = some v := rfl

/-- a for loop, by what stays true -/
theorem forF_inv {α β : Type} {st : V → St → Option St} {b : St → Option (St × Fl)} (emb : α → V) (step : β → α → β) (P : List α → β → St → Prop)
    (h : ∀ x r s σ, P (x :: r) s σ → ∃ σ1 σ2, st (emb x) σ = some σ1 ∧ b σ1 = some (σ2, .next) ∧ P r (step s x) σ2) :
    ∀ xs s σ, P xs s σ → ∃ σ', forF st b (xs.map emb) σ = some (σ', .next) ∧ P [] (xs.foldl step s) σ' := by
  intro xs
  induction xs with
  | nil =>
    intro s σ hp
    exact ⟨σ, rfl, hp⟩
  | cons x r ih =>
    intro s σ hp
    obtain ⟨σ1, σ2, e1, e2, hp2⟩ := h x r s σ hp
    obtain ⟨σ', e3, hp3⟩ := ih (step s x) σ2 hp2
    refine ⟨σ', ?_, hp3⟩
    simp only [List.map_cons, forF, e1, Option.bind_some, e2, e3]

theorem loopL_map {α : Type} {t : V → Option Bool} {g : V → Option (List V)} : ∀ (xs : List α) (emb w : α → V), (∀ x ∈ xs, t (emb x) = some true) → (∀ x ∈ xs, g (emb x) = some [w x]) → loopL t g (xs.map emb) = some (xs.map w) := by
  intro xs
  induction xs with
  | nil =>
    intro _ _ _ _
    exact rfl
  | cons x xs ih =>
    intro emb w ht hg
    have ih := ih emb w (fun y h => ht y (List.mem_cons_of_mem _ h)) (fun y h => hg y (List.mem_cons_of_mem _ h))
    simp only [List.map_cons, loopL, ht x List.mem_cons_self, hg x List.mem_cons_self, Option.bind_some, if_true, ih, Option.map_some, List.singleton_append]

/-- the same, with a test -/
theorem loopL_pick {α : Type} {t : V → Option Bool} {g : V → Option (List V)} (p : α → Bool) (emb w : α → V) : ∀ (xs : List α), (∀ x ∈ xs, t (emb x) = some (p x)) → (∀ x ∈ xs, p x = true → g (emb x) = some [w x]) → loopL t g (xs.map emb) = some ((xs.filter p).map w) := by
  intro xs
  induction xs with
  | nil =>
    intro _ _
    exact rfl
  | cons x xs ih =>
    intro ht hg
    have ih := ih (fun y h => ht y (List.mem_cons_of_mem _ h)) (fun y h => hg y (List.mem_cons_of_mem _ h))
    simp only [List.map_cons, loopL, ht x List.mem_cons_self, Option.bind_some]
    cases hp : p x with
    | true => simp [hg x List.mem_cons_self hp, ih, hp]
    | false => simp [ih, hp]

theorem giveF_ret' {f : St → Option (St × Fl)} {σ σ' : St} {v : V} (h : f σ = some (σ', .ret v)) : giveF (f σ) = some v := by rw [h]; rfl

-- dicts
end Lw

namespace Lw
open PySem PyProof.Rows
set_option maxRecDepth 10000

/-- a word of figures: the first one not nought -/
noncomputable def Wd (o : List Nat) : Prop := (∀ d ∈ o, d < 16) ∧ (∃ d r, o = d :: r ∧ 0 < d) ∧ o.length ≤ 4
theorem num_small {o : List Nat} (h : Wd o) : num o < 65536 := by
  obtain ⟨h1, _, h3⟩ := h
  match o, h3 with
  | [], _ => decide
  | [d], _ => have := h1 d (by simp); simp only [num, List.foldl]; (first | lia | omega)
  | [d, x], _ => have := h1 d (by simp); have := h1 x (by simp); simp only [num, List.foldl]; (first | lia | omega)
  | [d, x, y], _ => have := h1 d (by simp); have := h1 x (by simp); have := h1 y (by simp); simp only [num, List.foldl]; (first | lia | omega)
  | [d, x, y, z], _ => have := h1 d (by simp); have := h1 x (by simp); have := h1 y (by simp); have := h1 z (by simp); simp only [num, List.foldl]; (first | lia | omega)
  | _ :: _ :: _ :: _ :: _ :: _, h => simp at h
theorem ap_word {o : List Nat} (h : Wd o) : apF 59 (num o) [] = o.map ltr := by
  obtain ⟨h1, ⟨d, r, rfl, hd⟩, h3⟩ := h
  have := apF_num r d 59 [] hd h1 (by simp at h3; (first | lia | omega))
  simpa using this
theorem lt_word {o : List Nat} (h : Wd o) : ltF 59 (num o) [] = o.map (65 + ·) := by
  obtain ⟨h1, ⟨d, r, rfl, hd⟩, h3⟩ := h
  have := ltF_num r d 59 [] hd h1 (by simp at h3; (first | lia | omega))
  simpa using this
theorem ltr_nat {d : Nat} (h : d < 16) : (ltr d).toNat = 65 + d := by
  unfold ltr
  rw [UInt8.toNat_ofNat']
  (first | lia | omega)
theorem decode_word {o : List Nat} (h : Wd o) : decodeV [.bytes (o.map ltr), .str [97, 115, 99, 105, 105]] = some (.str (o.map (65 + ·))) := by
  obtain ⟨h1, ⟨d, r, rfl, hd⟩, h3⟩ := h
  simp only [List.map_cons, decodeV]
  have e : ∀ l : List Nat, (∀ d ∈ l, d < 16) → (l.map ltr).map (·.toNat) = l.map (65 + ·) := by
    intro l hl
    rw [List.map_map]
    exact List.map_congr_left fun x hx => ltr_nat (hl x hx)
  rw [if_pos ?_]
  · have := e (d :: r) h1
    simp only [List.map_cons] at this
    rw [this]
  · refine ⟨trivial, List.all_eq_true.mpr fun x hx => ?_, by simp at h3 ⊢; (first | lia | omega)⟩
    rw [← List.map_cons] at hx
    obtain ⟨y, hy, rfl⟩ := List.mem_map.mp hx
    have := h1 y hy
    rw [ltr_nat this]
    exact decide_eq_true (by (first | lia | omega))

theorem subC_cap {b m : Nat} (hb : b < 16) (hm : m < 16) : subC (65 + b) (65 + m) = if b = m then 0 else 2 := by
  unfold subC
  have e1 : lowC (65 + b) = 97 + b := by unfold lowC; rw [if_pos (by (first | lia | omega))]; (first | lia | omega)
  have e2 : lowC (65 + m) = 97 + m := by unfold lowC; rw [if_pos (by (first | lia | omega))]; (first | lia | omega)
  rw [e1, e2]
  by_cases h : b = m
  · simp [h]
  · rw [if_neg (by (first | lia | omega)), if_neg (by (first | lia | omega)), if_neg h]

end Lw

namespace Lw
open PySem PyProof.Rows
set_option maxRecDepth 10000

theorem eqB_refl {a : List V} (h : plainVs a = true) : eqB (.list a) (.list a) = true := PySem.SeqAt.eqv_refl _ (plain_canLay (v := .list a) h)
theorem plainVs_map {α : Type} (f : α → V) (hf : ∀ x, plainV (f x) = true) : ∀ l : List α, plainVs (l.map f) = true
  | [] => rfl
  | x :: l => by simp only [List.map_cons, plainVs, hf, plainVs_map f hf l, Bool.and_self]
theorem deepVs_map {α : Type} (f : α → V) (n : Nat) (hf : ∀ x, deepV (f x) ≤ n) : ∀ l : List α, deepVs (l.map f) ≤ n
  | [] => Nat.zero_le _
  | x :: l => by
    have h1 := hf x
    have h2 := deepVs_map f n hf l
    simp only [List.map_cons, deepVs]
    (first | lia | omega)
theorem cmp_same {a : List V} (h1 : plainVs a = true) (h2 : deepVs a ≤ 10) : cmpV .Eq (.list a) (.list a) = some true ∧ cmpV .NotEq (.list a) (.list a) = some false := by
  refine ⟨?_, ?_⟩
  · simp only [cmpV]; rw [if_pos ⟨h1, h1, h2, h2⟩, eqB_refl h1]
  · simp only [cmpV]; rw [if_pos ⟨h1, h1, h2, h2⟩, eqB_refl h1]; rfl
theorem pickL_map {α β : Type} (f : α → β) (xs : List α) (lo hi st : Option Int) : pickL (xs.map f) lo hi st = (pickL xs lo hi st).map f := by
  unfold pickL
  rw [List.length_map, List.map_filterMap]
  congr 1
  funext i
  simp
theorem slice_some {xs : List V} {lo hi st : Option Int} (h1 : st ≠ some 0) (h2 : xs.length ≤ lim) : sliceV xs lo hi st = some (pickL xs lo hi st) := by
  unfold sliceV
  rw [if_neg (by rintro (h | h); exact h1 h; (first | lia | omega))]
noncomputable def SSk (q : Int) (ns : List Int) (k : Int) : Int := (pickL (pickL ns none (some 63) none) (some k) none (some q)).sum
theorem ss_eq {q : Int} (hq : q ≠ 0) {ns : List Int} (hn : ns.length ≤ 63) (k : Int) : ∃ l1 l2 : List V, sliceV (ns.map .int) none (some 63) none = some l1 ∧ sliceV l1 (some k) none (some q) = some l2 ∧ sumV [.list l2] = some (.int (SSk q ns k)) := by
  have hle : (pickL ns none (some 63) none).length ≤ ns.length := pickL_le _ _ _ _
  refine ⟨(pickL ns none (some 63) none).map .int, (pickL (pickL ns none (some 63) none) (some k) none (some q)).map .int, ?_, ?_, ?_⟩
  · rw [slice_some (by simp) (by unfold lim; simp; (first | lia | omega)), pickL_map]
  · rw [slice_some (by simpa using hq) (by unfold lim; simp; (first | lia | omega)), pickL_map]
  · simp only [sumV, ints?_map, Option.map_some, SSk]
end Lw

namespace Lw
open PySem
set_option maxRecDepth 10000

/-- two words, and two others that stand to each other as they do -/
noncomputable def Two (f g f' g' : Nat → Nat) (l k : List Nat) : Prop := ∀ a ∈ l, ∀ b ∈ k, (f a = g b ↔ f' a = g' b) ∧ subC (f a) (g b) = subC (f' a) (g' b) ∧ subC (g b) (f a) = subC (g' b) (f' a)

section
variable {f g f' g' : Nat → Nat}
theorem Two.symm {l k : List Nat} (H : Two f g f' g' l k) : Two g f g' f' k l := fun b hb a ha => ⟨⟨fun e => ((H a ha b hb).1.mp e.symm).symm, fun e => ((H a ha b hb).1.mpr e.symm).symm⟩, (H a ha b hb).2.2, (H a ha b hb).2.1⟩
theorem Two.sub {l k l' k' : List Nat} (H : Two f g f' g' l k) (hl : ∀ a ∈ l', a ∈ l) (hk : ∀ b ∈ k', b ∈ k) : Two f g f' g' l' k' := fun a ha b hb => H a (hl a ha) b (hk b hb)
theorem Two.tail {a b : Nat} {l k : List Nat} (H : Two f g f' g' (a :: l) (b :: k)) : Two f g f' g' l k := H.sub (fun zz h => List.mem_cons_of_mem _ h) (fun zz h => List.mem_cons_of_mem _ h)

theorem lcp_two : ∀ l k : List Nat, Two f g f' g' l k → lcp (l.map f) (k.map g) = lcp (l.map f') (k.map g')
  | [], _, _ => by simp [lcp]
  | _ :: _, [], _ => by simp [lcp]
  | a :: l, b :: k, H => by
    have e := (H a List.mem_cons_self b List.mem_cons_self).1
    have ih := lcp_two l k H.tail
    simp only [List.map_cons, lcp]
    by_cases h : f a = g b
    · rw [if_pos h, if_pos (e.mp h), ih]
    · rw [if_neg h, if_neg (fun h' => h (e.mpr h'))]
theorem eq_two : ∀ l k : List Nat, Two f g f' g' l k → (l.map f = k.map g ↔ l.map f' = k.map g')
  | [], [], _ => by simp
  | [], _ :: _, _ => by simp
  | _ :: _, [], _ => by simp
  | a :: l, b :: k, H => by
    have e := (H a List.mem_cons_self b List.mem_cons_self).1
    have ih := eq_two l k H.tail
    simp only [List.map_cons, List.cons.injEq, e, ih]
theorem innerP_two {b : Nat} : ∀ (l row : List Nat) (r t m : Nat), Two f g f' g' l [b] → innerP (g b) (l.map f) row r t m = innerP (g' b) (l.map f') row r t m
  | [], _, _, _, _, _ => by simp [innerP]
  | _ :: _, [], _, _, _, _ => by simp [innerP]
  | c :: l, q :: row, r, t, m, H => by
    have e := (H c List.mem_cons_self b List.mem_cons_self).2.2
    have ih := fun r t m => innerP_two l row r t m (H.sub (fun zz h => List.mem_cons_of_mem _ h) fun zz h => h)
    simp only [List.map_cons, innerP, e, ih]
theorem outerP_two {l : List Nat} (m : Nat) : ∀ (k : List Nat) (i : Nat) (row : List Nat) (r : Nat), Two f g f' g' l k → outerP (l.map f) m (k.map g) i row r = outerP (l.map f') m (k.map g') i row r := by
  intro k
  induction k with
  | nil =>
    intro _ _ _ _
    simp [outerP]
  | cons d k ih =>
    intro i row r H
    have e := fun r t m => innerP_two (b := d) l row r t m (H.sub (fun zz h => h) fun x h => by simp at h; simp [h])
    have ih := fun i row r => ih i row r (H.sub (fun zz h => h) fun zz h => List.mem_cons_of_mem _ h)
    simp only [List.map_cons, outerP, e, ih]
theorem levT_two {l k : List Nat} (H : Two f g f' g' l k) (m : Nat) : levT (l.map f) (k.map g) m = levT (l.map f') (k.map g') m := by
  simp only [levT, levQ, List.map_eq_nil_iff, List.length_map, outerP_two m k _ _ _ H, outerP_two m l _ _ _ H.symm]
theorem levP_two {l k : List Nat} (H : Two f g f' g' l k) (m : Nat) : levP (l.map f) (k.map g) m = levP (l.map f') (k.map g') m := by
  simp only [levP, eq_two l k H, lcp_two l k H, ← List.map_drop]
  have H1 := H.sub (l' := l.drop (lcp (l.map f') (k.map g'))) (k' := k.drop (lcp (l.map f') (k.map g'))) (fun zz h => List.mem_of_mem_drop h) (fun zz h => List.mem_of_mem_drop h)
  generalize l.drop (lcp (l.map f') (k.map g')) = l1 at H1 ⊢
  generalize k.drop (lcp (l.map f') (k.map g')) = k1 at H1 ⊢
  have e : lcp (l1.map f).reverse (k1.map g).reverse = lcp (l1.map f').reverse (k1.map g').reverse := by
    simp only [← List.map_reverse]
    exact lcp_two _ _ (H1.sub (fun zz h => by simpa using h) (fun zz h => by simpa using h))
  simp only [levS, e, List.length_map, ← List.map_take]
  rw [levT_two (H1.sub (fun zz h => List.mem_of_mem_take h) (fun zz h => List.mem_of_mem_take h)) m]
end

/-- a two-letter word, and one of three letters with one letter more -/
noncomputable def subW (u v : List Nat) : Bool := match u, v with
  | [a, b], [x, y, z] => (a == x && (b == y || b == z)) || (a == y && b == z)
  | _, _ => false

theorem subW_ok (a b x y z : Nat) : subW [a, b] [x, y, z] = ((a == x && (b == y || b == z)) || (a == y && b == z)) := rfl

/-- small words that stand for all: classes 0, 1 of the two letters, 2 of others; p: which are odd -/
noncomputable def smU (p : Nat → Nat) (c : Nat) : Nat := if p c = 1 then 97 + c else 65 + c
noncomputable def smV (c : Nat) : Nat := 65 + c
noncomputable def par2 (p0 p1 c : Nat) : Nat := if c = 0 then p0 else p1
noncomputable def smOK (c0 c1 d0 d1 d2 p0 p1 : Nat) : Bool :=
  (decide (levP [smU (par2 p0 p1) c0, smU (par2 p0 p1) c1] [smV d0, smV d1, smV d2] (2 + par2 p0 p1 c0 + par2 p0 p1 c1) = 2 + par2 p0 p1 c0 + par2 p0 p1 c1) == subW [c0, c1] [d0, d1, d2]) &&
  (decide (levP [smV d0, smV d1, smV d2] [smU (par2 p0 p1) c0, smU (par2 p0 p1) c1] (2 + par2 p0 p1 c0 + par2 p0 p1 c1) = 2 + par2 p0 p1 c0 + par2 p0 p1 c1) == subW [c0, c1] [d0, d1, d2])
theorem sm_all : ∀ c1 < 2, ∀ d0 < 3, ∀ d1 < 3, ∀ d2 < 3, ∀ p0 < 2, ∀ p1 < 2, smOK 0 c1 d0 d1 d2 p0 p1 = true := by decide +kernel
theorem sm_sub : ∀ c < 3, ∀ d < 3, subC (65 + c) (65 + d) = (if c = d then 0 else 2) ∧ subC (97 + c) (65 + d) = (if c = d then 1 else 2) ∧ subC (65 + d) (97 + c) = (if c = d then 1 else 2) ∧ subC (65 + d) (65 + c) = (if c = d then 0 else 2) := by decide +kernel

/-- how letters of two words stand to each other: alike if the figures are, at the cost 1 if they are odd -/
noncomputable def Stand2 (f g : Nat → Nat) (a b : Nat) : Prop := subC (f a) (g b) = (if a = b then a % 2 else 2) ∧ subC (g b) (f a) = (if a = b then a % 2 else 2) ∧ (f a = g b ↔ a = b ∧ a % 2 = 0)

noncomputable def clsF (a b s : Nat) : Nat := if s = a then 0 else if s = b then 1 else 2
section
variable {a b : Nat}
theorem cls_lt (t : Nat) : clsF a b t < 3 := by unfold clsF; split <;> (try split) <;> (first | lia | omega)
theorem cls_par {s : Nat} (hs : s ∈ [a, b]) : par2 (a % 2) (b % 2) (clsF a b s) = s % 2 ∧ clsF a b s < 2 := by
  simp only [List.mem_cons, List.not_mem_nil, or_false] at hs
  by_cases h : s = a
  · subst h; simp [clsF, par2]
  · rcases hs with hs | hs
    · exact absurd hs h
    · subst hs; simp [clsF, par2, h]
theorem cls_inj {s : Nat} (hs : s ∈ [a, b]) (t : Nat) : clsF a b s = clsF a b t ↔ s = t := by
  simp only [List.mem_cons, List.not_mem_nil, or_false] at hs
  refine ⟨fun e => ?_, fun e => by rw [e]⟩
  by_cases h : s = a
  · subst h
    by_cases ht : t = s
    · exact ht.symm
    · simp only [clsF, if_true, ht, if_false] at e
      split at e <;> (first | lia | omega)
  · rcases hs with hs | hs
    · exact absurd hs h
    · subst hs
      by_cases ht : t = a
      · simp only [clsF, h, ht, if_true, if_false] at e; (first | lia | omega)
      · by_cases ht2 : t = s
        · exact ht2.symm
        · simp only [clsF, h, ht, ht2, if_true, if_false] at e; (first | lia | omega)
end

theorem lev_sub {f g : Nat → Nat} {a b x y z : Nat} (H : ∀ s ∈ [a, b], ∀ t ∈ [x, y, z], Stand2 f g s t) :
    (levP [f a, f b] [g x, g y, g z] (2 + a % 2 + b % 2) = 2 + a % 2 + b % 2 ↔ subW [a, b] [x, y, z] = true) ∧
    (levP [g x, g y, g z] [f a, f b] (2 + a % 2 + b % 2) = 2 + a % 2 + b % 2 ↔ subW [a, b] [x, y, z] = true) := by
  have T : Two f g (fun s => smU (par2 (a % 2) (b % 2)) (clsF a b s)) (fun t => smV (clsF a b t)) [a, b] [x, y, z] := fun s hs t ht => by
    obtain ⟨h1, h2, h3⟩ := H s hs t ht
    obtain ⟨k1, k2⟩ := cls_par (a := a) (b := b) hs
    have k3 := cls_inj (a := a) (b := b) hs t
    obtain ⟨q1, q2, q3, r1⟩ := sm_sub (clsF a b s) (by (first | lia | omega)) (clsF a b t) (cls_lt t)
    have k2' := cls_lt (a := a) (b := b) t
    rw [h1, h2, h3]
    simp only [smU, smV, k1]
    simp only [k3] at q1 q2 q3 r1
    rcases Nat.mod_two_eq_zero_or_one s with q | q
    · simp only [q, if_neg (show ¬ (0 : Nat) = 1 by decide), q1, r1]
      refine ⟨⟨fun e => by rw [e.1], fun e => ⟨k3.mp (by (first | lia | omega)), trivial⟩⟩, trivial, trivial⟩
    · simp only [q, if_true, q2, q3]
      refine ⟨⟨fun e => by have := e.2; (first | lia | omega), fun e => by (first | lia | omega)⟩, trivial, trivial⟩
  have e1 := levP_two T (2 + a % 2 + b % 2)
  have e2 := levP_two T.symm (2 + a % 2 + b % 2)
  simp only [List.map_cons, List.map_nil] at e1 e2
  rw [e1, e2]
  have hca : clsF a b a = 0 := by simp [clsF]
  have key := sm_all (clsF a b b) (cls_par (a := a) (b := b) (by simp)).2 (clsF a b x) (cls_lt x) (clsF a b y) (cls_lt y) (clsF a b z) (cls_lt z) (a % 2) (Nat.mod_lt _ (by decide)) (b % 2) (Nat.mod_lt _ (by decide))
  unfold smOK at key
  have kb := (cls_par (a := a) (b := b) (s := b) (by simp)).1
  have ka := (cls_par (a := a) (b := b) (s := a) (by simp)).1
  rw [← hca, ka, kb] at key
  have hsub : subW [clsF a b a, clsF a b b] [clsF a b x, clsF a b y, clsF a b z] = subW [a, b] [x, y, z] := by
    have q : ∀ s ∈ [a, b], ∀ t, (clsF a b s == clsF a b t) = (s == t) := fun s hs t => by
      rw [Bool.eq_iff_iff]; simp only [beq_iff_eq]; exact cls_inj hs t
    simp only [subW_ok, q a (by simp), q b (by simp)]
  rw [hsub] at key
  simp only [Bool.and_eq_true, beq_iff_eq] at key
  have fin : ∀ {P : Prop} [Decidable P] {w : Bool}, decide P = w → (P ↔ w = true) := fun h => by subst h; simp
  exact ⟨fin key.1, fin key.2⟩
end Lw

namespace Lw
open PySem PyProof.Rows
set_option maxRecDepth 10000

/-! # ranks in place of figures -/
structure Mono (φ : Nat → Nat) (n : Nat) : Prop where
  inc : ∀ i j, 1 ≤ i → i < j → j ≤ n → φ i < φ j
  lo : ∀ i, 1 ≤ i → i ≤ n → 1 ≤ φ i
  hi : ∀ i, 1 ≤ i → i ≤ n → φ i ≤ 15
  n15 : n ≤ 15

noncomputable def In (n : Nat) (w : List Nat) : Prop := ∀ d ∈ w, 1 ≤ d ∧ d ≤ n
noncomputable def Dom (n : Nat) (w : List Nat) : Prop := In n w ∧ (w.length = 2 ∨ w.length = 3)
noncomputable def NW (φ : Nat → Nat) (w : List Nat) : Nat := num (w.map φ)

theorem num_from : ∀ (u : List Nat) (k : Nat), u.foldl (fun n d => 16 * n + d) k = k * 16 ^ u.length + num u
  | [], k => by simp [num]
  | d :: u, k => by
    have h1 := num_from u (16 * k + d)
    have h2 := num_from u (16 * 0 + d)
    have e : num (d :: u) = u.foldl (fun n d => 16 * n + d) (16 * 0 + d) := rfl
    rw [List.foldl_cons, h1, e, h2, List.length_cons, Nat.pow_succ]
    simp only [Nat.mul_zero, Nat.zero_add, Nat.add_mul]
    have : 16 * k * 16 ^ u.length = k * (16 ^ u.length * 16) := by rw [Nat.mul_comm 16 k, Nat.mul_assoc, Nat.mul_comm 16]
    (first | lia | omega)
theorem num_cons (a : Nat) (u : List Nat) : num (a :: u) = a * 16 ^ u.length + num u := by
  have := num_from u (16 * 0 + a)
  simpa [num] using this
theorem num_lt_pow : ∀ u : List Nat, (∀ d ∈ u, d < 16) → num u < 16 ^ u.length
  | [], _ => by simp [num]
  | a :: u, h => by
    have ih := num_lt_pow u fun d hd => h d (by simp [hd])
    have ha := h a (by simp)
    rw [num_cons, List.length_cons, Nat.pow_succ]
    have : a * 16 ^ u.length ≤ 15 * 16 ^ u.length := Nat.mul_le_mul_right _ (by (first | lia | omega))
    (first | lia | omega)
theorem lex {a b x y K : Nat} (hx : x < K) (hy : y < K) : a * K + x < b * K + y ↔ a < b ∨ (a = b ∧ x < y) := by
  rcases Nat.lt_trichotomy a b with h | h | h
  · have : (a + 1) * K ≤ b * K := Nat.mul_le_mul_right _ h
    rw [Nat.add_mul] at this
    (first | lia | omega)
  · subst h; (first | lia | omega)
  · have : (b + 1) * K ≤ a * K := Nat.mul_le_mul_right _ h
    rw [Nat.add_mul] at this
    (first | lia | omega)

theorem lex_eq {a b x y K : Nat} (hx : x < K) (hy : y < K) : a * K + x = b * K + y ↔ a = b ∧ x = y := by
  refine ⟨fun e => ?_, fun e => by rw [e.1, e.2]⟩
  rcases Nat.lt_trichotomy a b with h | h | h
  · exact absurd e (Nat.ne_of_lt ((lex hx hy).mpr (.inl h)))
  · subst h; exact ⟨rfl, Nat.add_left_cancel e⟩
  · exact absurd e.symm (Nat.ne_of_lt ((lex hy hx).mpr (.inl h)))

section
variable {φ : Nat → Nat} {n : Nat}
theorem Mono.lt_iff (H : Mono φ n) {i j : Nat} (hi : 1 ≤ i ∧ i ≤ n) (hj : 1 ≤ j ∧ j ≤ n) : φ i < φ j ↔ i < j := by
  rcases Nat.lt_trichotomy i j with h | h | h
  · exact ⟨fun zz => h, fun zz => H.inc i j hi.1 h hj.2⟩
  · subst h; exact ⟨fun h => absurd h (Nat.lt_irrefl _), fun h => absurd h (Nat.lt_irrefl _)⟩
  · exact ⟨fun h' => absurd h' (Nat.lt_asymm (H.inc j i hj.1 h hi.2)), fun h' => absurd h' (Nat.lt_asymm h)⟩
theorem Mono.eq_iff (H : Mono φ n) {i j : Nat} (hi : 1 ≤ i ∧ i ≤ n) (hj : 1 ≤ j ∧ j ≤ n) : φ i = φ j ↔ i = j := by
  refine ⟨fun e => ?_, fun e => by rw [e]⟩
  rcases Nat.lt_trichotomy i j with h | h | h
  · exact absurd e (Nat.ne_of_lt (H.inc i j hi.1 h hj.2))
  · exact h
  · exact absurd e.symm (Nat.ne_of_lt (H.inc j i hj.1 h hi.2))
theorem Mono.fig (H : Mono φ n) {w : List Nat} (hw : In n w) : ∀ d ∈ w.map φ, 1 ≤ d ∧ d < 16 := fun d hd => by
  obtain ⟨i, hi, rfl⟩ := List.mem_map.mp hd
  have h := hw i hi
  have h1 := H.lo i h.1 h.2
  have h2 := H.hi i h.1 h.2
  (first | lia | omega)
theorem nw_same (H : Mono φ n) : ∀ u v : List Nat, In n u → In n v → u.length = v.length → ((num (u.map φ) < num (v.map φ) ↔ num u < num v) ∧ (num (u.map φ) = num (v.map φ) ↔ u = v) ∧ (num u = num v ↔ u = v))
  | [], [], _, _, _ => by simp
  | a :: u, b :: v, hu, hv, hl => by
    have ha := hu a (by simp)
    have hb := hv b (by simp)
    have hu' : In n u := fun d hd => hu d (by simp [hd])
    have hv' : In n v := fun d hd => hv d (by simp [hd])
    have hl' : u.length = v.length := by simpa using hl
    obtain ⟨i1, i2, i3⟩ := nw_same H u v hu' hv' hl'
    have b1 := num_lt_pow (u.map φ) fun d hd => (H.fig hu' d hd).2
    have b2 := num_lt_pow (v.map φ) fun d hd => (H.fig hv' d hd).2
    have b3 := num_lt_pow u fun d hd => by have := hu' d hd; have := H.n15; (first | lia | omega)
    have b4 := num_lt_pow v fun d hd => by have := hv' d hd; have := H.n15; (first | lia | omega)
    simp only [List.length_map] at b1 b2
    rw [hl'] at b1 b3
    simp only [List.map_cons, num_cons, List.length_map, hl', List.cons.injEq]
    rw [lex b1 b2, lex b3 b4, lex_eq b1 b2, lex_eq b3 b4, i1, i2, i3, H.lt_iff ha hb, H.eq_iff ha hb]
    exact ⟨Iff.rfl, Iff.rfl, Iff.rfl⟩
  | [], _ :: _, _, _, h => by simp at h
  | _ :: _, [], _, _, h => by simp at h
theorem num_two {w : List Nat} (h : ∀ d ∈ w, d < 16) (hl : w.length = 2) : num w < 256 := by
  have := num_lt_pow w h
  rw [hl] at this; exact this
theorem num_three {w : List Nat} (h : ∀ d ∈ w, 1 ≤ d) (hl : w.length = 3) : 256 ≤ num w := by
  match w, hl with
  | [a, b, c], _ =>
    have := h a (by simp)
    simp only [num, List.foldl]; (first | lia | omega)
theorem nw_cmp (H : Mono φ n) {u v : List Nat} (hu : Dom n u) (hv : Dom n v) : (NW φ u < NW φ v ↔ num u < num v) ∧ (NW φ u = NW φ v ↔ u = v) ∧ (num u = num v ↔ u = v) := by
  by_cases hl : u.length = v.length
  · exact nw_same H u v hu.1 hv.1 hl
  · have hne : u ≠ v := fun e => hl (by rw [e])
    have s16 : ∀ w : List Nat, In n w → ∀ d ∈ w, 1 ≤ d ∧ d < 16 := fun w hw d hd => by have := hw d hd; have := H.n15; (first | lia | omega)
    have key : ∀ u v : List Nat, In n u → In n v → u.length = 2 → v.length = 3 → NW φ u < NW φ v ∧ num u < num v := fun u v hu hv h2 h3 => by
      have a1 := num_two (w := u.map φ) (fun d hd => (H.fig hu d hd).2) (by simpa using h2)
      have a2 := num_three (w := v.map φ) (fun d hd => (H.fig hv d hd).1) (by simpa using h3)
      have a3 := num_two (w := u) (fun d hd => (s16 u hu d hd).2) h2
      have a4 := num_three (w := v) (fun d hd => (s16 v hv d hd).1) h3
      exact ⟨Nat.lt_of_lt_of_le a1 a2, Nat.lt_of_lt_of_le a3 a4⟩
    rcases hu.2 with h2 | h2 <;> rcases hv.2 with h3 | h3
    · exact absurd (h2.trans h3.symm) hl
    · have q := key u v hu.1 hv.1 h2 h3
      simp only [hne, iff_false]
      exact ⟨⟨fun zz => q.2, fun zz => q.1⟩, Nat.ne_of_lt q.1, Nat.ne_of_lt q.2⟩
    · have q := key v u hv.1 hu.1 h3 h2
      simp only [hne, iff_false]
      exact ⟨⟨fun h => absurd h (Nat.lt_asymm q.1), fun h => absurd h (Nat.lt_asymm q.2)⟩, (Nat.ne_of_lt q.1).symm, (Nat.ne_of_lt q.2).symm⟩
    · exact absurd (h2.trans h3.symm) hl

/-- a number laid into a line -/
noncomputable def insI : List Int → Int → List Int
  | [], q => [q]
  | x :: r, q => if x < q then x :: insI r q else if x = q then x :: r else q :: x :: r
noncomputable def insW : List (List Nat) → List Nat → List (List Nat)
  | [], w => [w]
  | x :: r, w => if num x < num w then x :: insW r w else if x = w then x :: r else w :: x :: r
noncomputable def NI (φ : Nat → Nat) (w : List Nat) : Int := (NW φ w : Int)
theorem ni_cmp (H : Mono φ n) {u v : List Nat} (hu : Dom n u) (hv : Dom n v) : (NI φ u < NI φ v ↔ num u < num v) ∧ (NI φ u = NI φ v ↔ u = v) ∧ (NI φ u ≤ NI φ v ↔ num u ≤ num v) := by
  obtain ⟨c1, c2, _⟩ := nw_cmp H hu hv
  obtain ⟨c3, _, _⟩ := nw_cmp H hv hu
  refine ⟨Int.ofNat_lt.trans c1, Int.ofNat_inj.trans c2, Int.ofNat_le.trans ?_⟩
  rw [← Nat.not_lt, ← Nat.not_lt, c3]
theorem insI_map (H : Mono φ n) : ∀ (W : List (List Nat)) (w : List Nat), (∀ x ∈ W, Dom n x) → Dom n w → insI (W.map (NI φ)) (NI φ w) = (insW W w).map (NI φ) := by
  intro W
  induction W with
  | nil =>
    intro w _ _
    exact rfl
  | cons x r ih =>
    intro w hW hw
    obtain ⟨d1, d2, _⟩ := ni_cmp H (hW x (by simp)) hw
    have ih := ih w (fun y hy => hW y (by simp [hy])) hw
    simp only [List.map_cons, insI, insW]
    by_cases h1 : num x < num w
    · rw [if_pos (d1.mpr h1), if_pos h1, ih]; rfl
    · rw [if_neg (fun h => h1 (d1.mp h)), if_neg h1]
      by_cases h2 : x = w
      · rw [if_pos (d2.mpr h2), if_pos h2]; rfl
      · rw [if_neg (fun h => h2 (d2.mp h)), if_neg h2]; rfl
theorem insW_mem : ∀ (W : List (List Nat)) (w x : List Nat), x ∈ insW W w → x = w ∨ x ∈ W
  | [], w, x, h => by simp [insW] at h; exact .inl h
  | y :: r, w, x, h => by
    unfold insW at h
    split at h
    · rcases List.mem_cons.mp h with rfl | h
      · exact .inr (by simp)
      · rcases insW_mem r w x h with h | h
        · exact .inl h
        · exact .inr (by simp [h])
    · split at h
      · exact .inr h
      · rcases List.mem_cons.mp h with h | h
        · exact .inl h
        · exact .inr h
/-- sorting -/
noncomputable def ins1 (x : Nat) : List Nat → List Nat
  | [] => [x]
  | y :: r => if x ≤ y then x :: y :: r else y :: ins1 x r
noncomputable def nsort : List Nat → List Nat
  | [] => []
  | x :: r => ins1 x (nsort r)
noncomputable def fI (φ : Nat → Nat) (d : Nat) : Int := (φ d : Int)
theorem ins1_mem : ∀ (l : List Nat) (x d : Nat), d ∈ ins1 x l ↔ d = x ∨ d ∈ l
  | [], x, d => by simp [ins1]
  | y :: r, x, d => by
    unfold ins1
    split
    · simp
    · simp only [List.mem_cons, ins1_mem r x d]
      constructor
      · rintro (h | h | h)
        · exact .inr (.inl h)
        · exact .inl h
        · exact .inr (.inr h)
      · rintro (h | h | h)
        · exact .inr (.inl h)
        · exact .inl h
        · exact .inr (.inr h)
theorem nsort_mem : ∀ (l : List Nat) (d : Nat), d ∈ nsort l ↔ d ∈ l
  | [], d => by simp [nsort]
  | x :: r, d => by rw [nsort, ins1_mem, nsort_mem r d, List.mem_cons]
theorem ins1_len (x : Nat) : ∀ l : List Nat, (ins1 x l).length = l.length + 1
  | [] => rfl
  | y :: r => by unfold ins1; split <;> simp [ins1_len x r]
theorem nsort_len : ∀ l : List Nat, (nsort l).length = l.length
  | [] => rfl
  | x :: r => by rw [nsort, ins1_len, nsort_len r]; rfl
theorem ins1_map (H : Mono φ n) {x : Nat} (hx : 1 ≤ x ∧ x ≤ n) : ∀ l : List Nat, In n l → isort1 (fI φ x) (l.map (fI φ)) = (ins1 x l).map (fI φ)
  | [], _ => rfl
  | y :: r, h => by
    have hy := h y (by simp)
    have ih := ins1_map H hx r fun d hd => h d (by simp [hd])
    have d1 : fI φ x ≤ fI φ y ↔ x ≤ y := Int.ofNat_le.trans (by rw [← Nat.not_lt, ← Nat.not_lt, H.lt_iff hy hx])
    simp only [List.map_cons, isort1, ins1]
    by_cases h1 : x ≤ y
    · rw [if_pos (d1.mpr h1), if_pos h1]; rfl
    · rw [if_neg (fun h => h1 (d1.mp h)), if_neg h1, ih]; rfl
theorem nsort_map (H : Mono φ n) : ∀ l : List Nat, In n l → isort (l.map (fI φ)) = (nsort l).map (fI φ)
  | [], _ => rfl
  | x :: r, h => by
    have hr : In n r := fun d hd => h d (by simp [hd])
    have ih := nsort_map H r hr
    simp only [List.map_cons, isort, nsort]
    rw [ih, ins1_map H (h x (by simp)) (nsort r) fun d hd => hr d ((nsort_mem r d).mp hd)]
noncomputable def ndd1 (s : List Nat) (d : Nat) : List Nat := if s.any (· == d) then s else s ++ [d]
theorem ndd_map (H : Mono φ n) : ∀ (l s : List Nat), In n l → In n s → (l.map (fI φ)).foldl step_dedup (s.map (fI φ)) = (l.foldl ndd1 s).map (fI φ) := by
  intro l
  induction l with
  | nil =>
    intro _ _ _
    exact rfl
  | cons d l ih =>
    intro s hl hs
    have hd := hl d (by simp)
    have e : step_dedup (s.map (fI φ)) (fI φ d) = (ndd1 s d).map (fI φ) := by
      unfold step_dedup ndd1
      have : (s.map (fI φ)).any (· == fI φ d) = s.any (· == d) := by
        rw [List.any_map, Bool.eq_iff_iff, List.any_eq_true, List.any_eq_true]
        constructor
        · rintro ⟨x, hx, h⟩
          have h' : fI φ x = fI φ d := by simpa using h
          have := (H.eq_iff (hs x hx) hd).mp (Int.ofNat_inj.mp h')
          exact ⟨x, hx, by simp [this]⟩
        · rintro ⟨x, hx, h⟩
          have h' : x = d := by simpa using h
          exact ⟨x, hx, by simp [h']⟩
      rw [this]
      split <;> simp
    rw [List.map_cons, List.foldl_cons, e, List.foldl_cons]
    refine ih (ndd1 s d) (fun x hx => hl x (by simp [hx])) fun x hx => ?_
    unfold ndd1 at hx
    split at hx
    · exact hs x hx
    · rcases List.mem_append.mp hx with hx | hx
      · exact hs x hx
      · simp at hx; subst hx; exact hd
theorem ndd_mem : ∀ (l s : List Nat) (x : Nat), x ∈ l.foldl ndd1 s → x ∈ s ∨ x ∈ l
  | [], _, _, h => .inl h
  | d :: l, s, x, h => by
    rcases ndd_mem l (ndd1 s d) x h with h | h
    · unfold ndd1 at h
      split at h
      · exact .inl h
      · rcases List.mem_append.mp h with h | h
        · exact .inl h
        · simp at h; exact .inr (by simp [h])
    · exact .inr (by simp [h])

/-- sorting by number -/
noncomputable def ins1W (x : List Nat) : List (List Nat) → List (List Nat)
  | [] => [x]
  | y :: r => if num x ≤ num y then x :: y :: r else y :: ins1W x r
noncomputable def sortW : List (List Nat) → List (List Nat)
  | [] => []
  | x :: r => ins1W x (sortW r)
theorem ins1W_mem : ∀ (l : List (List Nat)) (x d : List Nat), d ∈ ins1W x l → d = x ∨ d ∈ l
  | [], x, d, h => by simp [ins1W] at h; exact .inl h
  | y :: r, x, d, h => by
    unfold ins1W at h
    split at h
    · rcases List.mem_cons.mp h with h | h
      · exact .inl h
      · exact .inr h
    · rcases List.mem_cons.mp h with h | h
      · exact .inr (by simp [h])
      · rcases ins1W_mem r x d h with h | h
        · exact .inl h
        · exact .inr (by simp [h])
theorem sortW_mem : ∀ (l : List (List Nat)) (d : List Nat), d ∈ sortW l → d ∈ l
  | [], d, h => h
  | x :: r, d, h => by
    rcases ins1W_mem (sortW r) x d h with h | h
    · simp [h]
    · have := sortW_mem r d h; simp [this]
theorem sortW_map (H : Mono φ n) : ∀ l : List (List Nat), (∀ x ∈ l, Dom n x) → isort (l.map (NI φ)) = (sortW l).map (NI φ) := by
  intro l
  induction l with
  | nil =>
    intro _
    exact rfl
  | cons x r ih =>
    intro h
    have hr : ∀ y ∈ r, Dom n y := fun y hy => h y (by simp [hy])
    have ih := ih hr
    have go : ∀ l : List (List Nat), (∀ y ∈ l, Dom n y) → isort1 (NI φ x) (l.map (NI φ)) = (ins1W x l).map (NI φ) := by
      intro l
      induction l with
      | nil => intro _; rfl
      | cons y l ihl =>
        intro hl
        obtain ⟨_, _, d1⟩ := ni_cmp H (h x (by simp)) (hl y (by simp))
        simp only [List.map_cons, isort1, ins1W]
        by_cases h1 : num x ≤ num y
        · rw [if_pos (d1.mpr h1), if_pos h1]; rfl
        · rw [if_neg (fun h => h1 (d1.mp h)), if_neg h1, ihl fun y hy => hl y (by simp [hy])]; rfl
    simp only [List.map_cons, isort, sortW]
    rw [ih, go (sortW r) fun y hy => hr y (sortW_mem r y hy)]

/-- dicts of words -/
noncomputable def storeR : List (List Nat × List Nat) → List Nat → List Nat → List (List Nat × List Nat)
  | [], k, v => [(k, v)]
  | (k', u) :: r, k, v => if k' = k then (k', v) :: r else (k', u) :: storeR r k v
noncomputable def lookR : List (List Nat × List Nat) → List Nat → Option (List Nat)
  | [], _ => none
  | (k', u) :: r, k => if k' = k then some u else lookR r k
noncomputable def DIr (φ : Nat → Nat) (p : List Nat × List Nat) : Int × V := (NI φ p.1, .int (NI φ p.2))
theorem storeR_map (H : Mono φ n) {k v : List Nat} (hk : Dom n k) : ∀ D : List (List Nat × List Nat), (∀ p ∈ D, Dom n p.1) → storeD (D.map (DIr φ)) (NI φ k) (.int (NI φ v)) = (storeR D k v).map (DIr φ)
  | [], _ => rfl
  | (k', u) :: r, h => by
    obtain ⟨_, d2, _⟩ := ni_cmp H (u := k') (h (k', u) (by simp)) hk
    have ih := storeR_map H (v := v) hk r fun p hp => h p (by simp [hp])
    simp only [List.map_cons, DIr, storeD, storeR]
    by_cases h1 : k' = k
    · rw [if_pos (d2.mpr h1), if_pos h1]; rfl
    · rw [if_neg (fun h => h1 (d2.mp h)), if_neg h1]
      exact congrArg ((NI φ k', V.int (NI φ u)) :: ·) ih
theorem lookR_map (H : Mono φ n) {k : List Nat} (hk : Dom n k) : ∀ D : List (List Nat × List Nat), (∀ p ∈ D, Dom n p.1) → lookD (D.map (DIr φ)) (NI φ k) = (lookR D k).map fun v => V.int (NI φ v)
  | [], _ => rfl
  | (k', u) :: r, h => by
    obtain ⟨_, d2, _⟩ := ni_cmp H (u := k') (h (k', u) (by simp)) hk
    have ih := lookR_map H hk r fun p hp => h p (by simp [hp])
    simp only [List.map_cons, DIr, lookD, lookR]
    by_cases h1 : k' = k
    · rw [if_pos (d2.mpr h1), if_pos h1]; rfl
    · rw [if_neg (fun h => h1 (d2.mp h)), if_neg h1]
      exact ih
theorem storeR_keys : ∀ (D : List (List Nat × List Nat)) (k v : List Nat) (p : List Nat × List Nat), p ∈ storeR D k v → p.1 = k ∨ p.1 ∈ D.map (·.1)
  | [], k, v, p, h => by simp [storeR] at h; simp [h]
  | (k', u) :: r, k, v, p, h => by
    unfold storeR at h
    split at h
    · rcases List.mem_cons.mp h with rfl | h
      · exact .inr (by simp)
      · exact .inr (by simp; exact .inr ⟨p.2, h⟩)
    · rcases List.mem_cons.mp h with rfl | h
      · exact .inr (by simp)
      · rcases storeR_keys r k v p h with h | h
        · exact .inl h
        · exact .inr (by simp only [List.map_cons, List.mem_cons]; exact .inr h)
end
end Lw

namespace Lw
open PySem
set_option maxRecDepth 100000
set_option maxHeartbeats 4000000
theorem f_substitution_cost_eq : e_substitution_cost.1 = f_substitution_cost := rfl
theorem f_Int2AP_eq : e_Int2AP.1 = f_Int2AP := rfl
theorem f_lev_eq : e_levenshtein_distance.1 = lev_f g_substitution_cost := rfl
theorem f_law_letters_eq : e_law_letters.1 = f_law_letters := rfl
noncomputable def law_number_s0 : St → Option (St × Fl) := fun σ => Option.map (fun v => (setF 1 v σ, Fl.next)) (some (V.int 0))
noncomputable def law_number_s1_b_s0 : St → Option (St × Fl) := fun σ =>
              Option.map (fun v => (setF 1 v σ, Fl.next))
                (((some (V.int 16)).bind fun a => (getF σ 1).bind fun b => mulV a b).bind fun a =>
                  (getF σ 2).bind fun b => addV a b)
noncomputable def law_number_s1_b : St → Option (St × Fl) := (seqF law_number_s1_b_s0 (fun σ => some (σ, Fl.next)))
noncomputable def law_number_s1 : St → Option (St × Fl) := fun σ =>
      ((Option.map V.list
                (((getF σ 0).bind asList).bind fun xs =>
                  (some none).bind fun lo =>
                    (some none).bind fun hi =>
                      (((some (V.int 1)).bind negV).bind partV).bind fun st => sliceV xs lo hi st)).bind
            iterV).bind
        fun items =>
        forF (fun v σ => some (setF 2 v σ))
          law_number_s1_b
          items σ
noncomputable def law_number_s2 : St → Option (St × Fl) := fun σ => Option.map (fun v => (σ, Fl.ret v)) (getF σ 1)
noncomputable def f_law_number : St → Option (St × Fl) := (seqF law_number_s0 (seqF law_number_s1 (seqF law_number_s2 (fun σ => some (σ, Fl.next)))))
theorem f_law_number_eq : e_law_number.1 = f_law_number := rfl
noncomputable def f_law_lay1 : St → Option (St × Fl) := fun σ => Option.map (fun v => (setF 2 v σ, Fl.next)) (some (V.int 0))
theorem f_law_lay1_eq : e_law_lay1.1 = f_law_lay1 := rfl
noncomputable def lay_t : St → Option Bool := (fun σ =>
    ((getF σ 2).bind fun a =>
          (((getF σ 0).bind fun v => Option.map (fun x => v :: x) (some [])).bind lenV).bind fun b =>
            cmpV CmpOp.Lt a b).bind
      fun b =>
      if b = true then
        (((((((some (V.int 256)).bind fun a =>
                                  (((getF σ 0).bind asList).bind fun xs => (getF σ 2).bind fun v => idxLV xs v).bind
                                    fun b => addV a b).bind
                              fun a => (getF σ 1).bind fun b => subV a b).bind
                          fun v => Option.map (fun x => v :: x) (some [])).bind
                      g_ISTERMINAL).bind
                  truthyV).bind
              fun b =>
              if b = true then some true
              else
                (Option.map (fun x => !x)
                      ((((((some (V.int 256)).bind fun a =>
                                        (((getF σ 0).bind asList).bind fun xs =>
                                              (getF σ 2).bind fun v => idxLV xs v).bind
                                          fun b => addV a b).bind
                                    fun a => (getF σ 1).bind fun b => subV a b).bind
                                fun v => Option.map (fun x => v :: x) (some [])).bind
                            g_ISNONTERMINAL).bind
                        truthyV)).bind
                  fun b => if b = true then some true else some (BoolOp.Or == BoolOp.And)).bind
          fun b => if b = true then some (BoolOp.And == BoolOp.And) else some false
      else some false)
noncomputable def lay_b : St → Option (St × Fl) := (seqF
    (fun σ =>
      (getF σ 2).bind fun a =>
        (some (V.int 1)).bind fun b => Option.map (fun v => (setF 2 v σ, Fl.next)) (augV Operator.Add a b))
    fun σ => some (σ, Fl.next))
noncomputable def f_law_lay2 : St → Option (St × Fl) := whileF lay_t lay_b 60
theorem f_law_lay2_eq : e_law_lay2.1 = f_law_lay2 := rfl
noncomputable def f_law_layT : St → Option Bool := fun σ =>
  ((getF σ 2).bind fun a =>
        (((getF σ 0).bind fun v => Option.map (fun x => v :: x) (some [])).bind lenV).bind fun b =>
          cmpV CmpOp.Eq a b).bind
    fun b =>
    if b = true then some true
    else
      (Option.map (fun x => !x)
            ((((((((getF σ 0).bind asList).bind fun xs => (getF σ 2).bind fun v => idxLV xs v).bind fun a =>
                              (getF σ 1).bind fun b => subV a b).bind
                          fun v => Option.map (fun x => v :: x) (some [])).bind
                      g_ISEOF).bind
                  truthyV).bind
              fun b =>
              if b = true then some true
              else
                (((((getF σ 1).bind fun a =>
                                  (((getF σ 0).bind asList).bind fun xs => (getF σ 2).bind fun v => idxLV xs v).bind
                                    fun b => subV a b).bind
                              fun v => Option.map (fun x => v :: x) (some [])).bind
                          g_ISEOF).bind
                      truthyV).bind
                  fun b => if b = true then some true else some (BoolOp.Or == BoolOp.And))).bind
        fun b => if b = true then some true else some (BoolOp.Or == BoolOp.And)
theorem f_law_layT_eq : e_law_layT.1 = f_law_layT := rfl
noncomputable def law_dressed_s0 : St → Option (St × Fl) := fun σ =>
    Option.map (fun v => (σ, Fl.ret v))
      ((some (V.str [])).bind fun ov =>
        ((Option.map V.list
                  (((getF σ 0).bind iterV).bind fun items =>
                    (loopL (fun v => some true)
                          (fun v =>
                            Option.map (fun v => [v])
                              ((((((getF (some (Slot.frz v) :: maskS [false] σ) 0).bind fun v =>
                                                Option.map (fun x => v :: x) (some [])).bind
                                            ordV).bind
                                        fun a => (some (V.int 2)).bind fun b => modV a b).bind
                                    fun a => (some (V.int 0)).bind fun b => cmpV CmpOp.Eq a b).bind
                                fun c =>
                                if c = true then
                                  (getF (some (Slot.frz v) :: maskS [false] σ) 0).bind fun ov =>
                                    if isStrV ov = true then lowerV [ov] else none
                                else getF (some (Slot.frz v) :: maskS [false] σ) 0))
                          items).bind
                      fun vs => if vs.length ≤ lim then some vs else none)).bind
              fun v => Option.map (fun x => v :: x) (some [])).bind
          fun vs => if isStrV ov = true then joinV (ov :: vs) else none)
noncomputable def f_law_dressed : St → Option (St × Fl) := (seqF law_dressed_s0 (fun σ => some (σ, Fl.next)))
theorem f_law_dressed_eq : e_law_dressed.1 = f_law_dressed := rfl
noncomputable def law_slides_s0 : St → Option (St × Fl) := fun σ =>
    Option.map (fun v => (setF 1 v σ, Fl.next))
      ((some (V.int 2)).bind fun a =>
        (((some (V.int 2)).bind fun v =>
                  Option.map (fun x => v :: x)
                    ((((Option.map V.list
                                  ((((some (V.int 2)).bind fun v =>
                                            Option.map (fun x => v :: x)
                                              ((some (V.int 5)).bind fun v =>
                                                Option.map (fun x => v :: x) (some []))).bind
                                        rangeV).bind
                                    fun items =>
                                    (loopL
                                          (fun v =>
                                            (((getF (some (Slot.frz v) :: maskS [true, false, false, false] σ) 1).bind
                                                      asList).bind
                                                  fun xs =>
                                                  ((getF (some (Slot.frz v) :: maskS [true, false, false, false] σ)
                                                            0).bind
                                                        fun a => (some (V.int 1)).bind fun b => subV a b).bind
                                                    fun v => idxLV xs v).bind
                                              fun a =>
                                              (((getF (some (Slot.frz v) :: maskS [true, false, false, false] σ) 1).bind
                                                        asList).bind
                                                    fun xs =>
                                                    (getF (some (Slot.frz v) :: maskS [true, false, false, false] σ)
                                                          0).bind
                                                      fun v => idxLV xs v).bind
                                                fun b => cmpV CmpOp.NotEq a b)
                                          (fun v =>
                                            Option.map (fun v => [v])
                                              (getF (some (Slot.frz v) :: maskS [true, false, false, false] σ) 0))
                                          items).bind
                                      fun vs => if vs.length ≤ lim then some vs else none)).bind
                              fun v => Option.map (fun x => v :: x) (some [])).bind
                          lenV).bind
                      fun v => Option.map (fun x => v :: x) (some []))).bind
              minV).bind
          fun b => mulV a b)
noncomputable def law_slides_s1 : St → Option (St × Fl) := fun σ =>
      Option.map (fun v => (setF 2 v σ, Fl.next))
        (((((Option.map V.list
                          (((getF σ 0).bind asList).bind fun xs =>
                            ((some (V.int 1)).bind partV).bind fun lo =>
                              ((some (V.int 4)).bind partV).bind fun hi =>
                                (some none).bind fun st => sliceV xs lo hi st)).bind
                      fun v => Option.map (fun x => v :: x) (some [])).bind
                  g_law_number).bind
              fun v => Option.map (fun x => v :: x) (some [])).bind
          g_law_letters)
noncomputable def law_slides_s2 : St → Option (St × Fl) := fun σ =>
        Option.map (fun v => (setF 3 v σ, Fl.next))
          ((((((Option.map V.list
                                (((getF σ 0).bind asList).bind fun xs =>
                                  ((some (V.int 2)).bind partV).bind fun lo =>
                                    (some none).bind fun hi => (some none).bind fun st => sliceV xs lo hi st)).bind
                            fun v => Option.map (fun x => v :: x) (some [])).bind
                        g_law_number).bind
                    fun v => Option.map (fun x => v :: x) (some [])).bind
                g_Int2AP).bind
            fun ov =>
            ((some (V.str [97, 115, 99, 105, 105])).bind fun v => Option.map (fun x => v :: x) (some [])).bind fun vs =>
              if isBytesV ov = true then decodeV (ov :: vs) else none)
noncomputable def law_slides_s3 : St → Option (St × Fl) := fun σ =>
          Option.map (fun v => (σ, Fl.ret v))
            ((((getF σ 2).bind fun v =>
                      Option.map (fun x => v :: x)
                        ((getF σ 3).bind fun v =>
                          Option.map (fun x => v :: x)
                            ((getF σ 1).bind fun v => Option.map (fun x => v :: x) (some [])))).bind
                  g_levenshtein_distance).bind
              fun a => (getF σ 1).bind fun b => Option.map V.bool (cmpV CmpOp.Eq a b))
noncomputable def f_law_slides : St → Option (St × Fl) := (seqF law_slides_s0 (seqF law_slides_s1 (seqF law_slides_s2 (seqF law_slides_s3 (fun σ => some (σ, Fl.next))))))
theorem f_law_slides_eq : e_law_slides.1 = f_law_slides := by kernel_rfl
noncomputable def law_take_s0 : St → Option (St × Fl) := fun σ =>
    ((getF σ 0).bind iterV).bind fun items =>
      (loopL
            (fun v =>
              (((getF (some (Slot.frz v) :: maskS [false, false, false, false, false, false, false, false, false] σ)
                            0).bind
                        fun v => Option.map (fun x => v :: x) (some [])).bind
                    g_ISNONTERMINAL).bind
                truthyV)
            (fun v =>
              Option.map (fun v => [v])
                (Option.map V.list
                  (((getF (some (Slot.frz v) :: maskS [false, false, false, false, false, false, false, false, false] σ)
                            0).bind
                        fun v_1 =>
                        Option.map (fun x => v_1 :: x)
                          ((((((getF
                                                (some (Slot.frz v) ::
                                                  maskS [false, false, false, false, false, false, false, false, false]
                                                    σ)
                                                0).bind
                                            fun a =>
                                            ((some (V.int 1)).bind fun a =>
                                                  ((some (V.int 2)).bind fun a =>
                                                        ((getF
                                                                  (some (Slot.frz v) ::
                                                                    maskS
                                                                      [false, false, false, false, false, false, false,
                                                                        false, false]
                                                                      σ)
                                                                  0).bind
                                                              fun a => (some (V.int 2)).bind fun b => modV a b).bind
                                                          fun b => mulV a b).bind
                                                    fun b => subV a b).bind
                                              fun b => mulV a b).bind
                                        fun v => Option.map (fun x => v :: x) (some [])).bind
                                    g_Int2AP).bind
                                fun ov =>
                                ((some (V.str [97, 115, 99, 105, 105])).bind fun v =>
                                      Option.map (fun x => v :: x) (some [])).bind
                                  fun vs => if isBytesV ov = true then decodeV (ov :: vs) else none).bind
                            fun v => Option.map (fun x => v :: x) (some []))).bind
                    fun vs => if vs.length ≤ lim then some vs else none)))
            items).bind
        fun vs => if vs.length ≤ lim then some (List.set σ 1 (some (Slot.ownL vs)), Fl.next) else none
noncomputable def law_take_s1 : St → Option (St × Fl) := fun σ =>
      Option.map (fun v => (List.set σ 2 (some (Slot.ownL v)), Fl.next))
        ((some []).bind fun vs => if vs.length ≤ lim then some vs else none)
noncomputable def law_take_s2_b_s0_b_s0 : St → Option (St × Fl) := fun σ =>
                                      Option.map (fun v => (setF 8 v σ, Fl.next))
                                        (Option.map V.list
                                          (((((getF σ 4).bind fun v => Option.map (fun x => v :: x) (some [])).bind
                                                    g_law_dressed).bind
                                                fun v =>
                                                Option.map (fun x => v :: x)
                                                  (((((getO σ 1).bind fun xs =>
                                                                (getF σ 7).bind fun v => idxLV xs v).bind
                                                            asList).bind
                                                        fun xs => (some (V.int 1)).bind fun v => idxLV xs v).bind
                                                    fun v => Option.map (fun x => v :: x) (some []))).bind
                                            fun vs => if vs.length ≤ lim then some vs else none))
noncomputable def take_E : St → Option (St × Fl) := (fun σ =>
                                                Option.map (fun v => (setF 8 v σ, Fl.next))
                                                  (Option.map V.list
                                                    (((getF σ 4).bind fun v =>
                                                          Option.map (fun x => v :: x)
                                                            (((((((getO σ 1).bind fun xs =>
                                                                                  (getF σ 7).bind fun v =>
                                                                                    idxLV xs v).bind
                                                                              asList).bind
                                                                          fun xs =>
                                                                          (some (V.int 1)).bind fun v =>
                                                                            idxLV xs v).bind
                                                                      fun v =>
                                                                      Option.map (fun x => v :: x) (some [])).bind
                                                                  g_law_dressed).bind
                                                              fun v => Option.map (fun x => v :: x) (some []))).bind
                                                      fun vs => if vs.length ≤ lim then some vs else none)))
noncomputable def law_take_s2_b_s0_b_s1 : St → Option (St × Fl) := fun σ =>
                                        (((getF σ 3).bind fun a => (some (V.int 2)).bind fun b => modV a b).bind
                                              fun a => (some (V.int 1)).bind fun b => cmpV CmpOp.Eq a b).bind
                                          fun c =>
                                          if c = true then
                                            seqF
                                              take_E
                                              (fun σ => some (σ, Fl.next)) σ
                                          else some (σ, Fl.next)
noncomputable def take_F : St → Option (St × Fl) := (fun σ =>
                                                  (getO σ 2).bind fun xs =>
                                                    (Option.map V.list
                                                          (((getF σ 3).bind fun v =>
                                                                Option.map (fun x => v :: x)
                                                                  (((((getO σ 1).bind fun xs =>
                                                                                (getF σ 7).bind fun v =>
                                                                                  idxLV xs v).bind
                                                                            asList).bind
                                                                        fun xs =>
                                                                        (some (V.int 0)).bind fun v => idxLV xs v).bind
                                                                    fun v =>
                                                                    Option.map (fun x => v :: x) (some []))).bind
                                                            fun vs => if vs.length ≤ lim then some vs else none)).bind
                                                      fun v =>
                                                      if xs.length < lim then
                                                        some (List.set σ 2 (some (Slot.ownL (xs ++ [v]))), Fl.next)
                                                      else none)
noncomputable def take_G : St → Option (St × Fl) := (fun σ =>
                                                    (getO σ 1).bind fun xs =>
                                                      (getF σ 7).bind fun v =>
                                                        match v with
                                                        | V.int k =>
                                                          if 0 ≤ k ∧ k.toNat < xs.length ∧ xs.length ≤ lim then
                                                            some
                                                              (List.set σ 1 (some (Slot.ownL (xs.eraseIdx k.toNat))),
                                                                Fl.next)
                                                          else none
                                                        | x => none)
noncomputable def law_take_s2_b_s0_b_s2 : St → Option (St × Fl) := fun σ =>
                                          ((((((getF σ 8).bind asList).bind fun xs =>
                                                            (getF σ 5).bind fun v => idxLV xs v).bind
                                                        fun v =>
                                                        Option.map (fun x => v :: x)
                                                          ((((getF σ 8).bind asList).bind fun xs =>
                                                                ((some (V.int 1)).bind fun a =>
                                                                      (getF σ 5).bind fun b => subV a b).bind
                                                                  fun v => idxLV xs v).bind
                                                            fun v =>
                                                            Option.map (fun x => v :: x)
                                                              ((getF σ 6).bind fun v =>
                                                                Option.map (fun x => v :: x) (some [])))).bind
                                                    g_levenshtein_distance).bind
                                                fun a => (getF σ 6).bind fun b => cmpV CmpOp.Eq a b).bind
                                            fun c =>
                                            if c = true then
                                              seqF
                                                take_F
                                                (seqF
                                                  take_G
                                                  (seqF (fun σ => some (σ, Fl.brk)) fun σ => some (σ, Fl.next)))
                                                σ
                                            else some (σ, Fl.next)
noncomputable def law_take_s2_b_s0_b : St → Option (St × Fl) := (seqF law_take_s2_b_s0_b_s0 (seqF law_take_s2_b_s0_b_s1 (seqF law_take_s2_b_s0_b_s2 (fun σ => some (σ, Fl.next)))))
noncomputable def take_A : St → Option (St × Fl) := (fun σ =>
                        Option.map (fun v => (setF 4 v σ, Fl.next))
                          (((getF σ 3).bind fun v => Option.map (fun x => v :: x) (some [])).bind g_law_letters))
noncomputable def take_B : St → Option (St × Fl) := (fun σ =>
                          Option.map (fun v => (setF 5 v σ, Fl.next))
                            (((getF σ 3).bind fun a => (some (V.int 16)).bind fun b => fdivV a b).bind fun a =>
                              (some (V.int 2)).bind fun b => modV a b))
noncomputable def take_C : St → Option (St × Fl) := (fun σ =>
                            Option.map (fun v => (setF 6 v σ, Fl.next))
                              (((some (V.int 2)).bind fun a => (getF σ 5).bind fun b => addV a b).bind fun a =>
                                ((getF σ 3).bind fun a => (some (V.int 2)).bind fun b => modV a b).bind fun b =>
                                  addV a b))
noncomputable def take_D : St → Option (St × Fl) := (fun σ =>
                              ((((getO σ 1).bind fun xs =>
                                            if xs.length ≤ lim then some (V.int ↑xs.length) else none).bind
                                        fun v => Option.map (fun x => v :: x) (some [])).bind
                                    rangeV).bind
                                fun items =>
                                forF (fun v σ => some (setF 7 v σ))
                                  law_take_s2_b_s0_b
                                  items σ)
noncomputable def law_take_s2_b_s0 : St → Option (St × Fl) := fun σ =>
                ((((getF σ 3).bind fun v => Option.map (fun x => v :: x) (some [])).bind g_ISTERMINAL).bind
                      truthyV).bind
                  fun c =>
                  if c = true then
                    seqF
                      take_A
                      (seqF
                        take_B
                        (seqF
                          take_C
                          (seqF
                            take_D
                            fun σ => some (σ, Fl.next))))
                      σ
                  else some (σ, Fl.next)
noncomputable def law_take_s2_b : St → Option (St × Fl) := (seqF law_take_s2_b_s0 (fun σ => some (σ, Fl.next)))
noncomputable def law_take_s2 : St → Option (St × Fl) := fun σ =>
        ((getF σ 0).bind iterV).bind fun items =>
          forF (fun v σ => some (setF 3 v σ))
            law_take_s2_b
            items σ
noncomputable def law_take_s3_s0 : St → Option (St × Fl) := fun σ =>
          Option.map (fun v => (σ, Fl.ret v))
            (Option.map V.list
              (((getF σ 2).bind fun v =>
                    Option.map (fun x => v :: x) ((getF σ 1).bind fun v => Option.map (fun x => v :: x) (some []))).bind
                fun vs => if vs.length ≤ lim then some vs else none))
noncomputable def law_take_s3 : St → Option (St × Fl) := fun σ => (seqF law_take_s3_s0 (fun σ => some (σ, Fl.next))) (freezeS 2 (freezeS 1 σ))
noncomputable def f_law_take : St → Option (St × Fl) := (seqF law_take_s0 (seqF law_take_s1 (seqF law_take_s2 law_take_s3)))
theorem f_law_take_eq : e_law_take.1 = f_law_take := rfl
noncomputable def law_told_s0 : St → Option (St × Fl) := fun σ => some (List.set σ 1 (some (Slot.ownD [])), Fl.next)
noncomputable def law_told_s1_b_s0_b_s0 : St → Option (St × Fl) := fun σ =>
                      Option.map (fun v => (setF 4 v σ, Fl.next))
                        (Option.map V.list
                          (((((getF σ 0).bind asList).bind fun xs => (getF σ 3).bind fun v => idxLV xs v).bind fun v =>
                                Option.map (fun x => v :: x)
                                  ((((getF σ 0).bind asList).bind fun xs => (getF σ 2).bind fun v => idxLV xs v).bind
                                    fun v => Option.map (fun x => v :: x) (some []))).bind
                            fun vs => if vs.length ≤ lim then some vs else none))
noncomputable def law_told_s1_b_s0_b_s1 : St → Option (St × Fl) := fun σ =>
                        Option.map (fun v => (setF 5 v σ, Fl.next))
                          (Option.map V.list ((some []).bind fun vs => if vs.length ≤ lim then some vs else none))
noncomputable def law_told_s1_b_s0_b_s2_b_s0 : St → Option (St × Fl) := fun σ =>
                                  Option.map (fun v => (setF 7 v σ, Fl.next))
                                    ((getF σ 4).bind fun ov =>
                                      ((getF σ 6).bind fun v => Option.map (fun x => v :: x) (some [])).bind fun vs =>
                                        if isListV ov = true then countV (ov :: vs) else none)
noncomputable def law_told_s1_b_s0_b_s2_b_s1 : St → Option (St × Fl) := fun σ =>
                                    Option.map (fun v => (setF 5 v σ, Fl.next))
                                      ((Option.map V.list
                                            (((getF σ 5).bind asList).bind fun xs =>
                                              (some none).bind fun lo =>
                                                ((((some (V.int 0)).bind fun v =>
                                                              Option.map (fun x => v :: x)
                                                                (((((getF σ 5).bind fun v =>
                                                                              Option.map (fun x => v :: x)
                                                                                (some [])).bind
                                                                          lenV).bind
                                                                      fun a => (getF σ 7).bind fun b => subV a b).bind
                                                                  fun v => Option.map (fun x => v :: x) (some []))).bind
                                                          maxV).bind
                                                      partV).bind
                                                  fun hi => (some none).bind fun st => sliceV xs lo hi st)).bind
                                        fun a =>
                                        ((Option.map V.list
                                                  (((getF σ 6).bind fun v =>
                                                        Option.map (fun x => v :: x) (some [])).bind
                                                    fun vs => if vs.length ≤ lim then some vs else none)).bind
                                              fun a =>
                                              (((getF σ 0).bind fun ov =>
                                                        ((getF σ 6).bind fun v =>
                                                              Option.map (fun x => v :: x) (some [])).bind
                                                          fun vs =>
                                                          if isListV ov = true then countV (ov :: vs) else none).bind
                                                    fun a => (getF σ 7).bind fun b => subV a b).bind
                                                fun b => mulV a b).bind
                                          fun b => addV a b)
noncomputable def law_told_s1_b_s0_b_s2_b : St → Option (St × Fl) := (seqF law_told_s1_b_s0_b_s2_b_s0 (seqF law_told_s1_b_s0_b_s2_b_s1 (fun σ => some (σ, Fl.next))))
noncomputable def law_told_s1_b_s0_b_s2 : St → Option (St × Fl) := fun σ =>
                          (((getF σ 0).bind sortedSetV).bind iterV).bind fun items =>
                            forF (fun v σ => some (setF 6 v σ))
                              law_told_s1_b_s0_b_s2_b
                              items σ
noncomputable def law_told_s1_b_s0_b_s3 : St → Option (St × Fl) := fun σ =>
                            ((((((getF σ 4).bind fun a =>
                                                  (Option.map V.list
                                                        (((getF σ 5).bind asList).bind fun xs =>
                                                          (some none).bind fun lo =>
                                                            ((some (V.int 1)).bind partV).bind fun hi =>
                                                              (some none).bind fun st => sliceV xs lo hi st)).bind
                                                    fun b => addV a b).bind
                                              fun v => Option.map (fun x => v :: x) (some [])).bind
                                          sortedV2).bind
                                      fun v => Option.map (fun x => v :: x) (some [])).bind
                                  g_law_number).bind
                              fun v =>
                              (((getF σ 4).bind fun v => Option.map (fun x => v :: x) (some [])).bind g_law_number).bind
                                fun iv =>
                                (getD σ 1).bind fun xs =>
                                  Option.map (fun ys => (List.set σ 1 (some (Slot.ownD ys)), Fl.next))
                                    (storeDV xs iv v)
noncomputable def law_told_s1_b_s0_b : St → Option (St × Fl) := (seqF law_told_s1_b_s0_b_s0 (seqF law_told_s1_b_s0_b_s1 (seqF law_told_s1_b_s0_b_s2 (seqF law_told_s1_b_s0_b_s3 (fun σ => some (σ, Fl.next))))))
noncomputable def law_told_s1_b_s0 : St → Option (St × Fl) := fun σ =>
              (((getF σ 2).bind fun v => Option.map (fun x => v :: x) (some [])).bind rangeV).bind fun items =>
                forF (fun v σ => some (setF 3 v σ))
                  law_told_s1_b_s0_b
                  items σ
noncomputable def law_told_s1_b : St → Option (St × Fl) := (seqF law_told_s1_b_s0 (fun σ => some (σ, Fl.next)))
noncomputable def law_told_s1 : St → Option (St × Fl) := fun σ =>
      (((some (V.int 1)).bind fun v =>
                Option.map (fun x => v :: x)
                  ((some (V.int 5)).bind fun v => Option.map (fun x => v :: x) (some []))).bind
            rangeV).bind
        fun items =>
        forF (fun v σ => some (setF 2 v σ))
          law_told_s1_b
          items σ
noncomputable def law_told_s2_s0 : St → Option (St × Fl) := fun σ =>
        Option.map (fun v => (σ, Fl.ret v))
          (Option.map V.list
            (((((getF σ 1).bind fun v => Option.map (fun x => v :: x) (some [])).bind sortedV2).bind iterV).bind
              fun items =>
              (loopL (fun v => some true)
                    (fun v =>
                      Option.map (fun v => [v])
                        (Option.map V.list
                          (((getF (some (Slot.frz v) :: maskS [false, true, false, false, false, false, false, false] σ)
                                    0).bind
                                fun v_1 =>
                                Option.map (fun x => v_1 :: x)
                                  ((((getF
                                                (some (Slot.frz v) ::
                                                  maskS [false, true, false, false, false, false, false, false] σ)
                                                2).bind
                                            asDict).bind
                                        fun xs =>
                                        (getF
                                              (some (Slot.frz v) ::
                                                maskS [false, true, false, false, false, false, false, false] σ)
                                              0).bind
                                          fun v => lookDV xs v).bind
                                    fun v => Option.map (fun x => v :: x) (some []))).bind
                            fun vs => if vs.length ≤ lim then some vs else none)))
                    items).bind
                fun vs => if vs.length ≤ lim then some vs else none))
noncomputable def law_told_s2 : St → Option (St × Fl) := fun σ => (seqF law_told_s2_s0 (fun σ => some (σ, Fl.next))) (freezeS 1 σ)
noncomputable def f_law_told : St → Option (St × Fl) := (seqF law_told_s0 (seqF law_told_s1 law_told_s2))
theorem f_law_told_eq : e_law_told.1 = f_law_told := rfl
noncomputable def law_s0 : St → Option (St × Fl) := fun σ =>
    Option.map (fun v => (setF 1 v σ, Fl.next))
      (Option.map V.list
        (((some (V.int 1)).bind fun v =>
              Option.map (fun x => v :: x)
                ((some (V.int 4)).bind fun v =>
                  Option.map (fun x => v :: x)
                    ((some (V.int 7)).bind fun v =>
                      Option.map (fun x => v :: x)
                        ((some (V.int 8)).bind fun v =>
                          Option.map (fun x => v :: x)
                            ((some (V.int 14)).bind fun v => Option.map (fun x => v :: x) (some [])))))).bind
          fun vs => if vs.length ≤ lim then some vs else none))
noncomputable def law_s1 : St → Option (St × Fl) := fun σ =>
      Option.map (fun v => (setF 2 v σ, Fl.next))
        (((Option.map V.list
                  ((((some (V.int 5)).bind fun v => Option.map (fun x => v :: x) (some [])).bind rangeV).bind
                    fun items =>
                    (loopL (fun v => some true)
                          (fun v =>
                            Option.map (fun v => [v])
                              ((some (V.int 1)).bind fun a =>
                                (((((getF (some (Slot.frz v) :: maskS [true, true, false, false, false, false] σ)
                                                      2).bind
                                                  asList).bind
                                              fun xs =>
                                              (getF
                                                    (some (Slot.frz v) ::
                                                      maskS [true, true, false, false, false, false] σ)
                                                    0).bind
                                                fun v => idxLV xs v).bind
                                          fun a =>
                                          (((Option.map V.list
                                                        (((Option.map V.list
                                                                  (((getF
                                                                            (some (Slot.frz v) ::
                                                                              maskS
                                                                                [true, true, false, false, false, false]
                                                                                σ)
                                                                            1).bind
                                                                        asList).bind
                                                                    fun xs =>
                                                                    (some none).bind fun lo =>
                                                                      ((some (V.int 63)).bind partV).bind fun hi =>
                                                                        (some none).bind fun st =>
                                                                          sliceV xs lo hi st)).bind
                                                              asList).bind
                                                          fun xs =>
                                                          ((getF
                                                                    (some (Slot.frz v) ::
                                                                      maskS [true, true, false, false, false, false] σ)
                                                                    0).bind
                                                                partV).bind
                                                            fun lo =>
                                                            (some none).bind fun hi =>
                                                              ((some (V.int 5)).bind partV).bind fun st =>
                                                                sliceV xs lo hi st)).bind
                                                    fun v => Option.map (fun x => v :: x) (some [])).bind
                                                sumV).bind
                                            fun b => addV a b).bind
                                      fun a => (some (V.int 15)).bind fun b => modV a b).bind
                                  fun b => addV a b))
                          items).bind
                      fun vs => if vs.length ≤ lim then some vs else none)).bind
              fun v => Option.map (fun x => v :: x) (some [])).bind
          sortedV2)
noncomputable def law_s2 : St → Option (St × Fl) := fun σ =>
        Option.map (fun v => (List.set σ 3 (some (Slot.ownL v)), Fl.next))
          ((some []).bind fun vs => if vs.length ≤ lim then some vs else none)
noncomputable def law_argA : St → Option (List V) := fun σ => ((Option.map V.list
                                            (((((getF σ 2).bind asList).bind fun xs =>
                                                      (getF σ 5).bind fun v => idxLV xs v).bind
                                                  fun v =>
                                                  Option.map (fun x => v :: x)
                                                    ((((getF σ 2).bind asList).bind fun xs =>
                                                          (getF σ 4).bind fun v => idxLV xs v).bind
                                                      fun v => Option.map (fun x => v :: x) (some []))).bind
                                              fun vs => if vs.length ≤ lim then some vs else none)).bind
                                        fun v => Option.map (fun x => v :: x) (some []))
noncomputable def law_s3_b_s0_b_s0 : St → Option (St × Fl) := fun σ =>
                          (getO σ 3).bind fun vs =>
                            (ints? vs).bind fun ns =>
                              ((law_argA σ).bind g_law_number).bind
                                fun v =>
                                match v with
                                | V.int q =>
                                  Option.map
                                    (fun ns' => (List.set σ 3 (some (Slot.ownL (List.map V.int ns'))), Fl.next))
                                    (g_law_lay ns q)
                                | x => none
noncomputable def law_argB : St → Option (List V) := fun σ => ((((Option.map V.list
                                                      (((getF σ 2).bind asList).bind fun xs =>
                                                        (some none).bind fun lo =>
                                                          ((getF σ 5).bind partV).bind fun hi =>
                                                            (some none).bind fun st => sliceV xs lo hi st)).bind
                                                  fun a =>
                                                  (Option.map V.list
                                                        (((getF σ 2).bind asList).bind fun xs =>
                                                          (((getF σ 5).bind fun a =>
                                                                    (some (V.int 1)).bind fun b => addV a b).bind
                                                                partV).bind
                                                            fun lo =>
                                                            ((getF σ 4).bind partV).bind fun hi =>
                                                              (some none).bind fun st => sliceV xs lo hi st)).bind
                                                    fun b => addV a b).bind
                                              fun a =>
                                              (Option.map V.list
                                                    (((getF σ 2).bind asList).bind fun xs =>
                                                      (((getF σ 4).bind fun a =>
                                                                (some (V.int 1)).bind fun b => addV a b).bind
                                                            partV).bind
                                                        fun lo =>
                                                        (some none).bind fun hi =>
                                                          (some none).bind fun st => sliceV xs lo hi st)).bind
                                                fun b => addV a b).bind
                                          fun v => Option.map (fun x => v :: x) (some []))
noncomputable def law_s3_b_s0_b_s1 : St → Option (St × Fl) := fun σ =>
                            (getO σ 3).bind fun vs =>
                              (ints? vs).bind fun ns =>
                                ((law_argB σ).bind g_law_number).bind
                                  fun v =>
                                  match v with
                                  | V.int q =>
                                    Option.map
                                      (fun ns' => (List.set σ 3 (some (Slot.ownL (List.map V.int ns'))), Fl.next))
                                      (g_law_lay ns q)
                                  | x => none
noncomputable def law_s3_b_s0_b : St → Option (St × Fl) := (seqF law_s3_b_s0_b_s0 (seqF law_s3_b_s0_b_s1 (fun σ => some (σ, Fl.next))))
noncomputable def law_s3_b_s0 : St → Option (St × Fl) := fun σ =>
                  (((getF σ 4).bind fun v => Option.map (fun x => v :: x) (some [])).bind rangeV).bind fun items =>
                    forF (fun v σ => some (setF 5 v σ))
                      law_s3_b_s0_b
                      items σ
noncomputable def law_s3_b : St → Option (St × Fl) := (seqF law_s3_b_s0 (fun σ => some (σ, Fl.next)))
noncomputable def law_s3 : St → Option (St × Fl) := fun σ =>
          (((some (V.int 1)).bind fun v =>
                    Option.map (fun x => v :: x)
                      ((some (V.int 5)).bind fun v => Option.map (fun x => v :: x) (some []))).bind
                rangeV).bind
            fun items =>
            forF (fun v σ => some (setF 4 v σ))
              law_s3_b
              items σ
noncomputable def law_s4_s0 : St → Option (St × Fl) := fun σ =>
            Option.map (fun v => (σ, Fl.ret v))
              (((((getF σ 3).bind fun v => Option.map (fun x => v :: x) (some [])).bind g_law_take).bind fun a =>
                    (Option.map V.list
                          (((((getF σ 2).bind fun v => Option.map (fun x => v :: x) (some [])).bind g_law_told).bind
                                fun v =>
                                Option.map (fun x => v :: x)
                                  ((Option.map V.list
                                        ((some []).bind fun vs => if vs.length ≤ lim then some vs else none)).bind
                                    fun v => Option.map (fun x => v :: x) (some []))).bind
                            fun vs => if vs.length ≤ lim then some vs else none)).bind
                      fun b => Option.map V.bool (cmpV CmpOp.Eq a b)).bind
                fun a =>
                (truthyV a).bind fun c =>
                  if c = true then ((getF σ 2).bind fun v => Option.map (fun x => v :: x) (some [])).bind g_law_slides
                  else some a)
noncomputable def law_s4 : St → Option (St × Fl) := fun σ => (seqF law_s4_s0 (fun σ => some (σ, Fl.next))) (freezeS 3 σ)
noncomputable def f_law : St → Option (St × Fl) := (seqF law_s0 (seqF law_s1 (seqF law_s2 (seqF law_s3 law_s4))))
theorem f_law_eq : e_law.1 = f_law := by kernel_rfl
end Lw

namespace Lw
open PySem PyProof.Rows
set_option maxRecDepth 10000

theorem sub01 : GOk g_substitution_cost := by
  intro c d hc hd
  show (if [V.str [c], V.str [d]].length = pn_substitution_cost.length then giveF (e_substitution_cost.1 (startS nm_substitution_cost [.str [c], .str [d]])) else none) = _
  rw [if_pos (show [V.str [c], V.str [d]].length = pn_substitution_cost.length from rfl), f_substitution_cost_eq]
  exact sub_give hc hd
theorem lev01 {x y : List Nat} {m : Nat} (hx : x.length ≤ 40) (hy : y.length ≤ 40) (hc : ∀ c ∈ x, c < 128) (hd : ∀ c ∈ y, c < 128) : g_levenshtein_distance [.str x, .str y, .int m] = some (.int (levP x y m : Int)) := by
  show (if [V.str x, V.str y, V.int m].length = pn_levenshtein_distance.length then giveF (e_levenshtein_distance.1 (startS nm_levenshtein_distance [.str x, .str y, .int m])) else none) = _
  rw [if_pos (show [V.str x, V.str y, V.int m].length = pn_levenshtein_distance.length from rfl), f_lev_eq]
  exact lev_eq sub01 hx hy hc hd
theorem ap01 {i : Int} (h : i.natAbs < 1000000) : g_Int2AP [.int i] = some (.bytes (apF 59 i.natAbs [])) := by
  show (if [V.int i].length = pn_Int2AP.length then giveF (e_Int2AP.1 (startS nm_Int2AP [.int i])) else none) = _
  rw [if_pos (show [V.int i].length = pn_Int2AP.length from rfl), f_Int2AP_eq]
  exact ap_give h
theorem lt01 {w : List Nat} (h : Wd w) : g_law_letters [.int (num w : Nat)] = some (.str (w.map (65 + ·))) := by
  show (if [V.int (num w : Nat)].length = pn_law_letters.length then giveF (e_law_letters.1 (startS nm_law_letters [.int (num w : Nat)])) else none) = _
  rw [if_pos (show [V.int (num w : Nat)].length = pn_law_letters.length from rfl), f_law_letters_eq]
  have := num_small h
  have e := lt_give (n := num w) (by (first | lia | omega))
  rw [lt_word h] at e
  exact e
theorem isT (x : Int) : g_ISTERMINAL [.int x] = some (.bool (decide (x < 256))) := rfl
theorem isN (x : Int) : g_ISNONTERMINAL [.int x] = some (.bool (decide (256 ≤ x))) := rfl
theorem isE (x : Int) : g_ISEOF [.int x] = some (.bool (decide (x = 0))) := rfl

section
variable {s0 s2 : Option Slot}
theorem number_loop : ∀ (ds : List Nat) (k : Nat) (s2 : Option Slot), ∃ t2, forF (fun v σ => some (setF 2 v σ)) law_number_s1_b (nI ds) [s0, FI k, s2] = some ([s0, FI ((ds.foldl (fun n d => 16 * n + d) k : Nat) : Int), t2], .next)
  | [], k, s2 => ⟨s2, rfl⟩
  | d :: ds, k, s2 => by
    obtain ⟨t2, ih⟩ := number_loop ds (16 * k + d) (FI d)
    refine ⟨t2, ?_⟩
    have e : law_number_s1_b [s0, FI k, FI d] = some ([s0, FI ((16 * k + d : Nat) : Int), FI d], .next) := by
      have m : mulV (.int 16) (.int (k : Int)) = some (.int (16 * (k : Int))) := mul_int (by decide)
      simp [law_number_s1_b, law_number_s1_b_s0, seqF, m]
    simp only [nI, List.map_cons, forF, setF_succ, setF_zero, Option.bind_some]
    have e' : law_number_s1_b [s0, FI k, some (.frz (.int (d : Int)))] = _ := e
    rw [e']
    simp only [Option.bind_some, List.foldl_cons]
    exact ih
end
theorem rev_slice (l : List Nat) (hl : l.length = 2 ∨ l.length = 3) : sliceV (nI l) none none (some (-1)) = some (nI l.reverse) := by
  have h2 : ∀ x y : V, sliceV [x, y] none none (some (-1)) = some [y, x] := fun zz zz => by kernel_rfl
  have h3 : ∀ x y z : V, sliceV [x, y, z] none none (some (-1)) = some [z, y, x] := fun zz zz zz => by kernel_rfl
  match l, hl with
  | [a, b], _ => exact h2 _ _
  | [a, b, c], _ => exact h3 _ _ _
theorem number_give {l : List Nat} (hl : l.length = 2 ∨ l.length = 3) : g_law_number [.list (nI l)] = some (.int (num l.reverse : Nat)) := by
  show (if [V.list (nI l)].length = pn_law_number.length then giveF (e_law_number.1 (startS nm_law_number [.list (nI l)])) else none) = _
  rw [if_pos (show [V.list (nI l)].length = pn_law_number.length from rfl), f_law_number_eq]
  show giveF (f_law_number [F (.list (nI l)), none, none]) = _
  have e0 : law_number_s0 [F (.list (nI l)), none, none] = some ([F (.list (nI l)), FI (0 : Nat), none], .next) := rfl
  obtain ⟨t2, e1⟩ := number_loop (s0 := F (.list (nI l))) l.reverse 0 none
  have pm : partV (.int (-1)) = some (some (-1)) := rfl
  have e1' : law_number_s1 [F (.list (nI l)), FI (0 : Nat), none] = some ([F (.list (nI l)), FI ((l.reverse.foldl (fun n d => 16 * n + d) 0 : Nat) : Int), t2], .next) := by
    simp only [law_number_s1, getF_zero, Option.bind_some, Option.map_some, asList, negV, pm, rev_slice l hl, iterV]
    exact e1
  unfold f_law_number
  rw [seqF_next e0, seqF_next e1']
  rfl

-- the number laid into the line
section
variable {ns : List Int} {q : Int}
theorem lay_loop : ∀ (r pre : List Int) (fuel : Nat), ns = pre ++ r → r.length < fuel → ns.length ≤ 1000 →
    ∃ p : Nat, whileF lay_t lay_b fuel [F (.list (iI ns)), FI q, FI pre.length] = some ([F (.list (iI ns)), FI q, FI p], .next) ∧ p ≤ ns.length ∧ ns.take p = pre ++ r.takeWhile (fun x => decide (x < q)) ∧ ns.drop p = r.dropWhile (fun x => decide (x < q)) := by
  intro r
  induction r with
  | nil =>
    intro pre fuel hn hf hl
    obtain ⟨fuel, rfl⟩ := Nat.exists_eq_succ_of_ne_zero (Nat.ne_of_gt hf)
    have hll : lenV [.list (iI ns)] = some (.int (ns.length : Int)) := by
      have := len_list (l := iI ns) (by unfold lim; simp; (first | lia | omega))
      simpa using this
    have hpl : ns.length = pre.length := by rw [hn]; simp
    refine ⟨pre.length, ?_, by (first | lia | omega), by rw [hn]; simp, by rw [hn]; simp⟩
    have ht : lay_t [F (.list (iI ns)), FI q, FI pre.length] = some false := by
      simp only [lay_t, getF_succ, getF_zero, Option.bind_some, Option.map_some, hll, cmpV]
      have : ¬ ((pre.length : Int) < (ns.length : Int)) := by (first | lia | omega)
      simp [this]
    rw [whileF, ht]
    simp
  | cons x r ih =>
    intro pre fuel hn hf hl
    obtain ⟨fuel, rfl⟩ := Nat.exists_eq_succ_of_ne_zero (Nat.ne_of_gt (Nat.lt_of_le_of_lt (Nat.zero_le _) hf))
    have hll : lenV [.list (iI ns)] = some (.int (ns.length : Int)) := by
      have := len_list (l := iI ns) (by unfold lim; simp; (first | lia | omega))
      simpa using this
    have hlt : pre.length < ns.length := by rw [hn]; simp
    have hg : idxLV (iI ns) (.int (pre.length : Int)) = some (.int x) := idxL_nat (by rw [hn]; simp) (by (first | lia | omega))
    have hlt' : ((pre.length : Int) < (ns.length : Int)) := by (first | lia | omega)
    by_cases hx : x < q
    · have ht : lay_t [F (.list (iI ns)), FI q, FI pre.length] = some true := by
        have h1 : 256 + x - q < 256 := by (first | lia | omega)
        simp only [lay_t, getF_succ, getF_zero, Option.bind_some, Option.map_some, hll, cmpV, asList, hg, add_int, sub_int, isT, truthyV, hlt', h1, decide_true, if_true]
        rfl
      have hb : lay_b [F (.list (iI ns)), FI q, FI pre.length] = some ([F (.list (iI ns)), FI q, FI ((pre ++ [x]).length : Nat)], .next) := by
        simp [lay_b, seqF, augV, augI]
      obtain ⟨p, e, h1, h2, h3⟩ := ih (pre ++ [x]) fuel (by rw [hn]; simp) (by simp at hf; (first | lia | omega)) hl
      refine ⟨p, ?_, h1, ?_, ?_⟩
      · rw [whileF, ht]
        simp only [Option.bind_some, if_true, hb]
        exact e
      · rw [h2]; simp [hx]
      · rw [h3]; simp [hx]
    · refine ⟨pre.length, ?_, by (first | lia | omega), by rw [hn]; simp [hx], by rw [hn]; simp [hx]⟩
      have ht : lay_t [F (.list (iI ns)), FI q, FI pre.length] = some false := by
        have h1 : ¬ 256 + x - q < 256 := by (first | lia | omega)
        have h2 : 256 ≤ 256 + x - q := by (first | lia | omega)
        simp only [lay_t, getF_succ, getF_zero, Option.bind_some, Option.map_some, hll, cmpV, asList, hg, add_int, sub_int, isT, isN, truthyV, hlt', h1, h2, decide_true, decide_false, if_true]
        rfl
      rw [whileF, ht]
      simp

theorem insI_split : ∀ (r : List Int) (q : Int), insI r q = (match r.dropWhile (fun x => decide (x < q)) with
    | x :: _ => if x = q then r else r.takeWhile (fun x => decide (x < q)) ++ q :: r.dropWhile (fun x => decide (x < q))
    | [] => r.takeWhile (fun x => decide (x < q)) ++ [q]) := by
  intro r
  induction r with
  | nil =>
    intro q
    exact rfl
  | cons x r ih =>
    intro q
    unfold insI
    by_cases hx : x < q
    · rw [if_pos hx, ih q]
      simp only [List.dropWhile_cons, List.takeWhile_cons, hx, decide_true, if_true]
      cases r.dropWhile (fun x => decide (x < q)) with
      | nil => rfl
      | cons y s => simp only []; split <;> rfl
    · rw [if_neg hx]
      simp [hx]

theorem lay_give (hl : ns.length ≤ 50) : g_law_lay ns q = some (insI ns q) := by
  obtain ⟨p, e, h1, h2, h3⟩ := lay_loop (ns := ns) (q := q) ns [] 60 (by simp) (by (first | lia | omega)) (by (first | lia | omega))
  show layG e_law_lay1.1 e_law_lay2.1 e_law_layT.1 ns q = _
  rw [f_law_lay1_eq, f_law_lay2_eq, f_law_layT_eq]
  unfold layG
  have e1 : f_law_lay1 [F (.list (iI ns)), FI q, none] = some ([F (.list (iI ns)), FI q, FI (0 : Nat)], .next) := rfl
  have hll : lenV [.list (iI ns)] = some (.int (ns.length : Int)) := by
    have := len_list (l := iI ns) (by unfold lim; simp; (first | lia | omega))
    simpa using this
  have e12 : seqF f_law_lay1 f_law_lay2 [some (.frz (.list (ns.map .int))), some (.frz (.int q)), none] = some ([F (.list (iI ns)), FI q, FI p], .next) := (seqF_next e1).trans e
  rw [e12]
  simp only [Option.bind_some]
  rw [insI_split]
  simp only [List.nil_append] at h2
  cases hd : ns.dropWhile (fun x => decide (x < q)) with
  | nil =>
    have hp : p = ns.length := by
      have := congrArg List.length (h3.trans hd)
      simp at this; (first | lia | omega)
    have ht : f_law_layT [F (.list (iI ns)), FI q, FI p] = some true := by
      have : ((p : Int) = (ns.length : Int)) := by (first | lia | omega)
      simp only [f_law_layT, getF_succ, getF_zero, Option.bind_some, Option.map_some, hll, cmpV, this, decide_true, if_true]
    rw [ht]
    simp only [Option.bind_some, if_true, getF_succ, getF_zero]
    rw [if_pos ⟨by (first | lia | omega), by (first | lia | omega), by (first | lia | omega)⟩]
    simp only [Int.toNat_natCast, h2, h3, hd]
  | cons x s =>
    have hpn : p < ns.length := by
      have := congrArg List.length (h3.trans hd)
      simp at this; (first | lia | omega)
    have hg : idxLV (iI ns) (.int (p : Int)) = some (.int x) := idxL_nat (by
      have h4 : ns[p]? = some x := by
        have h5 : (ns.drop p)[0]? = some x := by rw [h3, hd]; rfl
        simpa using h5
      simp [h4]) (by (first | lia | omega))
    have hne : ¬ ((p : Int) = (ns.length : Int)) := by (first | lia | omega)
    by_cases hx : x = q
    · have ht : f_law_layT [F (.list (iI ns)), FI q, FI p] = some false := by
        have h6 : x - q = 0 := by (first | lia | omega)
        simp only [f_law_layT, getF_succ, getF_zero, Option.bind_some, Option.map_some, hll, cmpV, hne, decide_false, asList, hg, sub_int, isE, truthyV, h6, decide_true, if_true]
        rfl
      rw [ht]
      simp [hx]
    · have ht : f_law_layT [F (.list (iI ns)), FI q, FI p] = some true := by
        have h6 : ¬ x - q = 0 := by (first | lia | omega)
        have h7 : ¬ q - x = 0 := by (first | lia | omega)
        simp only [f_law_layT, getF_succ, getF_zero, Option.bind_some, Option.map_some, hll, cmpV, hne, decide_false, asList, hg, sub_int, isE, truthyV, h6, h7, if_true]
        rfl
      rw [ht]
      simp only [Option.bind_some, if_true, getF_succ, getF_zero, hx, if_false]
      rw [if_pos ⟨by (first | lia | omega), by (first | lia | omega), by (first | lia | omega)⟩]
      simp only [Int.toNat_natCast, h2, h3, hd]
end
end Lw

namespace Lw
open PySem PyProof.Rows
set_option maxRecDepth 10000

noncomputable def drs (c : Nat) : Nat := if c % 2 = 0 then lowC c else c
theorem dr_all : ∀ s < 16, ∀ t < 16, Stand2 (fun s => drs (65 + s)) (fun t => 65 + t) s t ∧ Stand2 (fun s => 65 + s) (fun t => drs (65 + t)) s t := by
  unfold Stand2; decide +kernel
theorem drs_lt : ∀ s < 16, drs (65 + s) < 128 := by decide +kernel

theorem dressed_give {s : List Nat} (hs : ∀ c ∈ s, c < 128) (hl : s.length ≤ 100) : g_law_dressed [.str s] = some (.str (s.map drs)) := by
  show (if [V.str s].length = pn_law_dressed.length then giveF (e_law_dressed.1 (startS nm_law_dressed [.str s])) else none) = _
  rw [if_pos (show [V.str s].length = pn_law_dressed.length from rfl), f_law_dressed_eq]
  show giveF (f_law_dressed [F (.str s)]) = _
  have hit : iterV (.str s) = some (s.map fun c => V.str [c]) := by
    simp only [iterV]
    rw [if_pos (List.all_eq_true.mpr fun c hc => decide_eq_true (hs c hc))]
  have key := loopL_map (t := fun zz => some true) (g := fun v => Option.map (fun v => [v]) ((((((getF (some (Slot.frz v) :: maskS [false] [F (.str s)]) 0).bind fun v => Option.map (fun x => v :: x) (some [])).bind ordV).bind fun a => (some (V.int 2)).bind fun b => modV a b).bind fun a => (some (V.int 0)).bind fun b => cmpV CmpOp.Eq a b).bind
      fun c => if c = true then (getF (some (Slot.frz v) :: maskS [false] [F (.str s)]) 0).bind fun ov => if isStrV ov = true then lowerV [ov] else none else getF (some (Slot.frz v) :: maskS [false] [F (.str s)]) 0))
    s (fun c => V.str [c]) (fun c => V.str [drs c]) (fun zz zz => rfl) (fun c hc => by
      have hc128 := hs c hc
      have m : modV (.int (c : Int)) (.int 2) = some (.int ((c : Int) % 2)) := mod_int (by decide)
      have lo : lowerV [.str [c]] = some (.str [lowC c]) := by simp only [lowerV]; rw [if_pos hc128]
      simp only [getF_zero, Option.bind_some, Option.map_some, ordV, m, cmpV]
      unfold drs
      by_cases h : c % 2 = 0
      · have h' : (c : Int) % 2 = 0 := by (first | lia | omega)
        simp [h, h', isStrV, lo]
      · have h' : ¬ (c : Int) % 2 = 0 := by (first | lia | omega)
        simp [h, h'])
  have st : ∀ l : List Nat, strs? (l.map fun c => V.str [drs c]) = some (l.map fun c => [drs c]) := fun l => by
    induction l with
    | nil => rfl
    | cons c l ih => simp [strs?, ih]
  have fl : ∀ l : List Nat, (l.map fun c => [drs c]).flatten = l.map drs := fun l => by
    induction l with
    | nil => rfl
    | cons c l ih => simp [ih]
  have sm : ∀ l : List Nat, ((l.map fun c => [drs c]).map List.length).sum = l.length := fun l => by
    induction l with
    | nil => rfl
    | cons c l ih =>
      simp only [List.map_cons, List.sum_cons, List.length_cons, List.length_nil] at ih ⊢
      (first | lia | omega)
  have jn : joinV [.str [], .list (s.map fun c => V.str [drs c])] = some (.str (s.map drs)) := by
    simp only [joinV, st, Option.bind_some, fl]
    rw [if_pos (by rw [sm]; unfold lim; (first | lia | omega))]
  have e0 : law_dressed_s0 [F (.str s)] = some ([F (.str s)], .ret (.str (s.map drs))) := by
    simp only [law_dressed_s0, getF_zero, Option.bind_some, hit]
    simp only [getF_zero, Option.bind_some] at key
    rw [key]
    simp only [Option.bind_some]
    rw [if_pos (by unfold lim; simp; (first | lia | omega))]
    simp only [Option.map_some, Option.bind_some, isStrV, if_true, jn]
  unfold f_law_dressed
  rw [seqF_ret e0]
  rfl

section
variable {φ : Nat → Nat} {n : Nat}
/-- the letters of a word of ranks -/
noncomputable def LW (φ : Nat → Nat) (w : List Nat) : List Nat := (w.map φ).map (65 + ·)
theorem dom_wd (H : Mono φ n) {w : List Nat} (h : Dom n w) : Wd (w.map φ) := by
  have hf := H.fig h.1
  refine ⟨fun d hd => (hf d hd).2, ?_, by rw [List.length_map]; rcases h.2 with h | h <;> (first | lia | omega)⟩
  cases w with
  | nil => rcases h.2 with h | h <;> simp at h
  | cons a r => exact ⟨φ a, r.map φ, rfl, (hf (φ a) (by simp)).1⟩
theorem lw_ok (H : Mono φ n) {w : List Nat} (h : Dom n w) : (LW φ w).length ≤ 3 ∧ (∀ c ∈ LW φ w, c < 128) ∧ (∀ c ∈ (LW φ w).map drs, c < 128) := by
  have hf := H.fig h.1
  refine ⟨by simp [LW]; rcases h.2 with h | h <;> (first | lia | omega), fun c hc => ?_, fun c hc => ?_⟩
  · obtain ⟨d, hd, rfl⟩ := List.mem_map.mp hc
    have := (hf d hd).2; (first | lia | omega)
  · obtain ⟨e, he, rfl⟩ := List.mem_map.mp hc
    obtain ⟨d, hd, rfl⟩ := List.mem_map.mp he
    exact drs_lt d (hf d hd).2
theorem word_give (H : Mono φ n) {w : List Nat} (h : Dom n w) : g_Int2AP [.int (NI φ w * (1 - 2 * (NI φ w % 2)))] = some (.bytes ((w.map φ).map ltr)) ∧ decodeV [.bytes ((w.map φ).map ltr), .str [97, 115, 99, 105, 105]] = some (.str (LW φ w)) := by
  have hw := dom_wd H h
  have hl := num_small hw
  have ha : (NI φ w * (1 - 2 * (NI φ w % 2))).natAbs = num (w.map φ) := by
    unfold NI NW
    rcases Nat.mod_two_eq_zero_or_one (num (w.map φ)) with q | q
    · have : ((num (w.map φ) : Nat) : Int) % 2 = 0 := by (first | lia | omega)
      rw [this]; simp
    · have : ((num (w.map φ) : Nat) : Int) % 2 = 1 := by (first | lia | omega)
      rw [this]; simp
  refine ⟨?_, decode_word hw⟩
  rw [ap01 (by rw [ha]; (first | lia | omega)), ha, ap_word hw]

theorem two_three {u v : List Nat} (h2 : u.length = 2) (h3 : v.length = 3) : ∃ a b x y z, u = [a, b] ∧ v = [x, y, z] := by
  match u, v, h2, h3 with
  | [a, b], [x, y, z], _, _ => exact ⟨a, b, x, y, z, rfl, rfl⟩

theorem sub_map (H : Mono φ n) {u v : List Nat} (hu : In n u) (hv : In n v) (h2 : u.length = 2) (h3 : v.length = 3) : subW (u.map φ) (v.map φ) = subW u v := by
  have q : ∀ s ∈ u, ∀ t ∈ v, (φ s == φ t) = (s == t) := fun s hs t ht => by
    rw [Bool.eq_iff_iff]; simp only [beq_iff_eq]; exact H.eq_iff (hu s hs) (hv t ht)
  obtain ⟨a, b, x, y, z, rfl, rfl⟩ := two_three h2 h3
  have qa := q a (by simp)
  have qb := q b (by simp)
  show ((φ a == φ x && (φ b == φ y || φ b == φ z)) || (φ a == φ y && φ b == φ z)) = ((a == x && (b == y || b == z)) || (a == y && b == z))
  rw [qa x (by simp), qa y (by simp), qb y (by simp), qb z (by simp)]

theorem lev_words (H : Mono φ n) {u v : List Nat} (hu : Dom n u) (hv : Dom n v) (h2 : u.length = 2) (h3 : v.length = 3) : ∃ a b : Nat, u.map φ = [a, b] ∧ 1 ≤ a ∧ a < 16 ∧ b < 16 ∧
    (∀ x y, (x = (LW φ u).map drs ∧ y = LW φ v ∨ x = LW φ u ∧ y = (LW φ v).map drs) →
      decide (levP x y (2 + a % 2 + b % 2) = 2 + a % 2 + b % 2) = subW u v ∧ decide (levP y x (2 + a % 2 + b % 2) = 2 + a % 2 + b % 2) = subW u v) := by
  have fu := H.fig hu.1
  have fv := H.fig hv.1
  rw [← sub_map H hu.1 hv.1 h2 h3]
  unfold LW
  have hl2 : (u.map φ).length = 2 := by simpa using h2
  have hl3 : (v.map φ).length = 3 := by simpa using h3
  generalize u.map φ = U at fu hl2 ⊢
  generalize v.map φ = W at fv hl3 ⊢
  obtain ⟨a, b, x, y, z, rfl, rfl⟩ := two_three hl2 hl3
  refine ⟨a, b, rfl, (fu a (by simp)).1, (fu a (by simp)).2, (fu b (by simp)).2, fun p q hpq => ?_⟩
  have L1 := lev_sub (f := fun s => drs (65 + s)) (g := fun t => 65 + t) (a := a) (b := b) (x := x) (y := y) (z := z) fun s hs t ht => (dr_all s (fu s hs).2 t (fv t ht).2).1
  have L2 := lev_sub (f := fun s => 65 + s) (g := fun t => drs (65 + t)) (a := a) (b := b) (x := x) (y := y) (z := z) fun s hs t ht => (dr_all s (fu s hs).2 t (fv t ht).2).2
  have fin : ∀ {P : Prop} [Decidable P] {w : Bool}, (P ↔ w = true) → decide P = w := fun h => by
    rw [Bool.eq_iff_iff, decide_eq_true_iff]; exact h
  rcases hpq with ⟨rfl, rfl⟩ | ⟨rfl, rfl⟩
  · exact ⟨fin L1.1, fin L1.2⟩
  · exact ⟨fin L2.1, fin L2.2⟩
end
end Lw

namespace Lw
open PySem PyProof.Rows
set_option maxRecDepth 10000

noncomputable def pickT (u : List Nat) : List (List Nat) → Option (List Nat × List (List Nat))
  | [] => none
  | x :: r => if subW u x = true then some (x, r) else (pickT u r).map fun p => (p.1, x :: p.2)
noncomputable def resT (u : List Nat) (tk : List (List Nat × List Nat)) (pre post : List (List Nat)) : List (List Nat × List Nat) × List (List Nat) := match pickT u post with
  | some p => (tk ++ [(u, p.1)], pre ++ p.2)
  | none => (tk, pre ++ post)
theorem resT_yes {u x : List Nat} {tk : List (List Nat × List Nat)} {pre post : List (List Nat)} (h : subW u x = true) : resT u tk pre (x :: post) = (tk ++ [(u, x)], pre ++ post) := by
  simp [resT, pickT, h]
theorem resT_no {u x : List Nat} {tk : List (List Nat × List Nat)} {pre post : List (List Nat)} (h : subW u x = false) : resT u tk pre (x :: post) = resT u tk (pre ++ [x]) post := by
  unfold resT
  simp only [pickT, h, Bool.false_eq_true, if_false]
  cases pickT u post <;> simp
theorem pickT_mem {u : List Nat} : ∀ (l : List (List Nat)) (p : List Nat × List (List Nat)), pickT u l = some p → p.1 ∈ l ∧ ∀ y ∈ p.2, y ∈ l
  | [], _, h => by cases h
  | x :: r, p, h => by
    unfold pickT at h
    split at h
    · cases h; exact ⟨by simp, fun y hy => by simp [hy]⟩
    · obtain ⟨q, hq, rfl⟩ := Option.map_eq_some_iff.mp h
      obtain ⟨h1, h2⟩ := pickT_mem r q hq
      exact ⟨by simp [h1], fun y hy => by
        rcases List.mem_cons.mp hy with rfl | hy
        · simp
        · simp [h2 y hy]⟩
theorem pickT_len {u : List Nat} : ∀ (l : List (List Nat)) (p : List Nat × List (List Nat)), pickT u l = some p → p.2.length ≤ l.length := by
  intro l
  induction l with
  | nil =>
    intro _ h
    cases h
  | cons x r ih =>
    intro p h
    unfold pickT at h
    split at h
    · cases h; simp
    · obtain ⟨q, hq, rfl⟩ := Option.map_eq_some_iff.mp h
      have := ih q hq
      simp; omega
noncomputable def stepT (s : List (List Nat × List Nat) × List (List Nat)) (w : List Nat) : List (List Nat × List Nat) × List (List Nat) := if w.length = 2 then resT w s.1 [] s.2 else s
noncomputable def takeR (W : List (List Nat)) : List (List Nat × List Nat) × List (List Nat) := W.foldl stepT ([], W.filter fun w => decide (w.length = 3))

section
variable {φ : Nat → Nat} {n : Nat} {s0 s4 s5 s6 s7 s8 : Option Slot}
noncomputable def leftV (φ : Nat → Nat) (v : List Nat) : V := .list [.int (NI φ v), .str (LW φ v)]
noncomputable def takV (φ : Nat → Nat) (p : List Nat × List Nat) : V := .list [.int (NI φ p.1), .int (NI φ p.2)]

theorem pair_idx {x y : V} {a : Nat} : idxLV [x, y] (.int ((a % 2 : Nat) : Int)) = some (if a % 2 = 0 then x else y) ∧ idxLV [x, y] (.int (1 - ((a % 2 : Nat) : Int))) = some (if a % 2 = 0 then y else x) := by
  rcases Nat.mod_two_eq_zero_or_one a with q | q <;> rw [q] <;> exact ⟨rfl, rfl⟩

theorem place_step (H : Mono φ n) {u v : List Nat} (hu : Dom n u) (hv : Dom n v) (h2 : u.length = 2) (h3 : v.length = 3) {a b : Nat} (hab : u.map φ = [a, b])
    (hlev : ∀ x y, (x = (LW φ u).map drs ∧ y = LW φ v ∨ x = LW φ u ∧ y = (LW φ v).map drs) → decide (levP x y (2 + a % 2 + b % 2) = 2 + a % 2 + b % 2) = subW u v ∧ decide (levP y x (2 + a % 2 + b % 2) = 2 + a % 2 + b % 2) = subW u v)
    {pre post : List (List Nat)} {tk : List (List Nat × List Nat)} (hk : pre.length + post.length < 1000) (ht : tk.length < 1000) :
    ∃ t8, law_take_s2_b_s0_b [s0, OL ((pre ++ v :: post).map (leftV φ)), OL (tk.map (takV φ)), F (.int (NI φ u)), F (.str (LW φ u)), FI ((a % 2 : Nat) : Int), FI ((2 + a % 2 + b % 2 : Nat) : Int), FI pre.length, s8] =
      some (if subW u v = true then ([s0, OL ((pre ++ post).map (leftV φ)), OL ((tk ++ [(u, v)]).map (takV φ)), F (.int (NI φ u)), F (.str (LW φ u)), FI ((a % 2 : Nat) : Int), FI ((2 + a % 2 + b % 2 : Nat) : Int), FI pre.length, t8], .brk)
        else ([s0, OL ((pre ++ v :: post).map (leftV φ)), OL (tk.map (takV φ)), F (.int (NI φ u)), F (.str (LW φ u)), FI ((a % 2 : Nat) : Int), FI ((2 + a % 2 + b % 2 : Nat) : Int), FI pre.length, t8], .next)) := by
  obtain ⟨u1, u2, u3⟩ := lw_ok H hu
  obtain ⟨v1, v2, v3⟩ := lw_ok H hv
  have hnum : NI φ u = ((16 * a + b : Nat) : Int) := by unfold NI NW; rw [hab]; simp [num]
  have gl : idxLV ((pre ++ v :: post).map (leftV φ)) (.int (pre.length : Int)) = some (leftV φ v) := idxL_nat (by simp) (by (first | lia | omega))
  have g0 : idxLV [V.int (NI φ v), V.str (LW φ v)] (.int 0) = some (.int (NI φ v)) := rfl
  have g1 : idxLV [V.int (NI φ v), V.str (LW φ v)] (.int 1) = some (.str (LW φ v)) := rfl
  have al : asList (leftV φ v) = some [V.int (NI φ v), V.str (LW φ v)] := rfl
  have du := dressed_give u2 (by (first | lia | omega))
  have dv := dressed_give v2 (by (first | lia | omega))
  have l2 : ∀ p q : V, [p, q].length ≤ lim := fun zz zz => by unfold lim; simp
  have md : modV (.int (NI φ u)) (.int 2) = some (.int (NI φ u % 2)) := mod_int (by decide)
  -- the pair
  obtain ⟨x, y, hxy, hx, hy, hxc, hyc, e01⟩ : ∃ x y, (x = (LW φ u).map drs ∧ y = LW φ v ∨ x = LW φ u ∧ y = (LW φ v).map drs) ∧ x.length ≤ 40 ∧ y.length ≤ 40 ∧ (∀ c ∈ x, c < 128) ∧ (∀ c ∈ y, c < 128) ∧
      seqF law_take_s2_b_s0_b_s0 law_take_s2_b_s0_b_s1 [s0, OL ((pre ++ v :: post).map (leftV φ)), OL (tk.map (takV φ)), F (.int (NI φ u)), F (.str (LW φ u)), FI ((a % 2 : Nat) : Int), FI ((2 + a % 2 + b % 2 : Nat) : Int), FI pre.length, s8] =
        some ([s0, OL ((pre ++ v :: post).map (leftV φ)), OL (tk.map (takV φ)), F (.int (NI φ u)), F (.str (LW φ u)), FI ((a % 2 : Nat) : Int), FI ((2 + a % 2 + b % 2 : Nat) : Int), FI pre.length, F (.list [.str x, .str y])], .next) := by
    have e0 : law_take_s2_b_s0_b_s0 [s0, OL ((pre ++ v :: post).map (leftV φ)), OL (tk.map (takV φ)), F (.int (NI φ u)), F (.str (LW φ u)), FI ((a % 2 : Nat) : Int), FI ((2 + a % 2 + b % 2 : Nat) : Int), FI pre.length, s8] =
        some ([s0, OL ((pre ++ v :: post).map (leftV φ)), OL (tk.map (takV φ)), F (.int (NI φ u)), F (.str (LW φ u)), FI ((a % 2 : Nat) : Int), FI ((2 + a % 2 + b % 2 : Nat) : Int), FI pre.length, F (.list [.str ((LW φ u).map drs), .str (LW φ v)])], .next) := by
      simp only [law_take_s2_b_s0_b_s0, getF_succ, getF_zero, getO_succ, getO_zero, Option.bind_some, Option.map_some, du, gl, al, g1]
      rw [if_pos (l2 _ _)]
      rfl
    by_cases hb : b % 2 = 1
    · refine ⟨LW φ u, (LW φ v).map drs, .inr ⟨rfl, rfl⟩, by (first | lia | omega), by simp; (first | lia | omega), u2, v3, ?_⟩
      rw [seqF_next e0]
      have hc : NI φ u % 2 = 1 := by rw [hnum]; (first | lia | omega)
      have eE : take_E [s0, OL ((pre ++ v :: post).map (leftV φ)), OL (tk.map (takV φ)), F (.int (NI φ u)), F (.str (LW φ u)), FI ((a % 2 : Nat) : Int), FI ((2 + a % 2 + b % 2 : Nat) : Int), FI pre.length, F (.list [.str ((LW φ u).map drs), .str (LW φ v)])] =
          some ([s0, OL ((pre ++ v :: post).map (leftV φ)), OL (tk.map (takV φ)), F (.int (NI φ u)), F (.str (LW φ u)), FI ((a % 2 : Nat) : Int), FI ((2 + a % 2 + b % 2 : Nat) : Int), FI pre.length, F (.list [.str (LW φ u), .str ((LW φ v).map drs)])], .next) := by
        simp only [take_E, getF_succ, getF_zero, getO_succ, getO_zero, Option.bind_some, Option.map_some, dv, gl, al, g1]
        rw [if_pos (l2 _ _)]
        rfl
      simp only [law_take_s2_b_s0_b_s1, getF_succ, getF_zero, Option.bind_some, md, hc, cmpV, decide_true, if_true]
      rw [seqF_next eE]
    · refine ⟨(LW φ u).map drs, LW φ v, .inl ⟨rfl, rfl⟩, by simp; (first | lia | omega), by (first | lia | omega), u3, v2, ?_⟩
      rw [seqF_next e0]
      have hc : NI φ u % 2 = 0 := by rw [hnum]; (first | lia | omega)
      have h01 : decide ((0 : Int) = 1) = false := rfl
      simp only [law_take_s2_b_s0_b_s1, getF_succ, getF_zero, Option.bind_some, md, hc, cmpV, h01, Bool.false_eq_true, if_false]
  obtain ⟨q1, q2⟩ := hlev x y hxy
  have hd : ∀ d : Nat, decide ((d : Int) = ((2 + a % 2 + b % 2 : Nat) : Int)) = decide (d = 2 + a % 2 + b % 2) := fun d => decide_eq_decide.mpr (by (first | lia | omega))
  obtain ⟨p1, p2⟩ := pair_idx (x := V.str x) (y := V.str y) (a := a)
  -- the test
  have test : ((((((asList (.list [.str x, .str y])).bind fun xs => idxLV xs (.int ((a % 2 : Nat) : Int))).bind fun v => Option.map (fun x => v :: x) ((((asList (.list [.str x, .str y])).bind fun xs => (some (V.int (1 - ((a % 2 : Nat) : Int)))).bind fun v => idxLV xs v)).bind fun v => Option.map (fun x => v :: x) (some [V.int ((2 + a % 2 + b % 2 : Nat) : Int)]))).bind g_levenshtein_distance).bind fun z => cmpV CmpOp.Eq z (.int ((2 + a % 2 + b % 2 : Nat) : Int)))) = some (subW u v) := by
    simp only [asList, Option.bind_some, p1, p2, Option.map_some]
    by_cases ha : a % 2 = 0
    · simp only [ha, if_true]
      have l1 := lev01 (m := 2 + a % 2 + b % 2) hx hy hxc hyc
      rw [ha] at l1
      rw [l1]
      simp only [Option.bind_some, cmpV]
      rw [← ha, hd, q1]
    · simp only [ha, if_false]
      have l1 := lev01 (m := 2 + a % 2 + b % 2) hy hx hyc hxc
      rw [l1]
      simp only [Option.bind_some, cmpV]
      rw [hd, q2]
  refine ⟨F (.list [.str x, .str y]), ?_⟩
  unfold law_take_s2_b_s0_b
  have e3 : seqF law_take_s2_b_s0_b_s0 (seqF law_take_s2_b_s0_b_s1 (seqF law_take_s2_b_s0_b_s2 fun σ => some (σ, Fl.next))) [s0, OL ((pre ++ v :: post).map (leftV φ)), OL (tk.map (takV φ)), F (.int (NI φ u)), F (.str (LW φ u)), FI ((a % 2 : Nat) : Int), FI ((2 + a % 2 + b % 2 : Nat) : Int), FI pre.length, s8] =
      (seqF law_take_s2_b_s0_b_s2 fun σ => some (σ, Fl.next)) [s0, OL ((pre ++ v :: post).map (leftV φ)), OL (tk.map (takV φ)), F (.int (NI φ u)), F (.str (LW φ u)), FI ((a % 2 : Nat) : Int), FI ((2 + a % 2 + b % 2 : Nat) : Int), FI pre.length, F (.list [.str x, .str y])] := by
    obtain ⟨⟨σ1, fl1⟩, a1, a2⟩ := bind_some e01
    unfold seqF at e01 ⊢
    rw [a1] at e01 ⊢
    cases fl1 with
    | next =>
      simp only [Option.bind_some] at e01 ⊢
      rw [e01]; rfl
    | brk => cases a2
    | cont => cases a2
    | ret v => cases a2
  rw [e3]
  cases hs : subW u v with
  | false =>
    rw [hs] at test
    have e2 : law_take_s2_b_s0_b_s2 [s0, OL ((pre ++ v :: post).map (leftV φ)), OL (tk.map (takV φ)), F (.int (NI φ u)), F (.str (LW φ u)), FI ((a % 2 : Nat) : Int), FI ((2 + a % 2 + b % 2 : Nat) : Int), FI pre.length, F (.list [.str x, .str y])] =
        some ([s0, OL ((pre ++ v :: post).map (leftV φ)), OL (tk.map (takV φ)), F (.int (NI φ u)), F (.str (LW φ u)), FI ((a % 2 : Nat) : Int), FI ((2 + a % 2 + b % 2 : Nat) : Int), FI pre.length, F (.list [.str x, .str y])], .next) := by
      simp only [law_take_s2_b_s0_b_s2, getF_succ, getF_zero, Option.bind_some, Option.map_some, sub_int]
      simp only [Option.bind_some, Option.map_some] at test
      rw [test]
      simp only [Option.bind_some, Bool.false_eq_true, if_false]
    rw [seqF_next e2]
    rfl
  | true =>
    rw [hs] at test
    have eF : take_F [s0, OL ((pre ++ v :: post).map (leftV φ)), OL (tk.map (takV φ)), F (.int (NI φ u)), F (.str (LW φ u)), FI ((a % 2 : Nat) : Int), FI ((2 + a % 2 + b % 2 : Nat) : Int), FI pre.length, F (.list [.str x, .str y])] =
        some ([s0, OL ((pre ++ v :: post).map (leftV φ)), OL ((tk ++ [(u, v)]).map (takV φ)), F (.int (NI φ u)), F (.str (LW φ u)), FI ((a % 2 : Nat) : Int), FI ((2 + a % 2 + b % 2 : Nat) : Int), FI pre.length, F (.list [.str x, .str y])], .next) := by
      simp only [take_F, getF_succ, getF_zero, getO_succ, getO_zero, Option.bind_some, Option.map_some, gl, al, g0]
      rw [if_pos (l2 _ _)]
      simp only [Option.map_some, Option.bind_some]
      rw [if_pos (by unfold lim; simp; (first | lia | omega)), show (tk ++ [(u, v)]).map (takV φ) = tk.map (takV φ) ++ [V.list [V.int (NI φ u), V.int (NI φ v)]] by simp [takV]]
      rfl
    have eG : take_G [s0, OL ((pre ++ v :: post).map (leftV φ)), OL ((tk ++ [(u, v)]).map (takV φ)), F (.int (NI φ u)), F (.str (LW φ u)), FI ((a % 2 : Nat) : Int), FI ((2 + a % 2 + b % 2 : Nat) : Int), FI pre.length, F (.list [.str x, .str y])] =
        some ([s0, OL ((pre ++ post).map (leftV φ)), OL ((tk ++ [(u, v)]).map (takV φ)), F (.int (NI φ u)), F (.str (LW φ u)), FI ((a % 2 : Nat) : Int), FI ((2 + a % 2 + b % 2 : Nat) : Int), FI pre.length, F (.list [.str x, .str y])], .next) := by
      simp only [take_G, getF_succ, getF_zero, getO_succ, getO_zero, Option.bind_some, Int.toNat_natCast]
      rw [if_pos ⟨by (first | lia | omega), by simp, by unfold lim; simp; (first | lia | omega)⟩]
      have er : ((pre ++ v :: post).map (leftV φ)).eraseIdx pre.length = (pre ++ post).map (leftV φ) := by
        simp [List.eraseIdx_append_of_length_le]
      rw [er]
      rfl
    have e2 : law_take_s2_b_s0_b_s2 [s0, OL ((pre ++ v :: post).map (leftV φ)), OL (tk.map (takV φ)), F (.int (NI φ u)), F (.str (LW φ u)), FI ((a % 2 : Nat) : Int), FI ((2 + a % 2 + b % 2 : Nat) : Int), FI pre.length, F (.list [.str x, .str y])] =
        some ([s0, OL ((pre ++ post).map (leftV φ)), OL ((tk ++ [(u, v)]).map (takV φ)), F (.int (NI φ u)), F (.str (LW φ u)), FI ((a % 2 : Nat) : Int), FI ((2 + a % 2 + b % 2 : Nat) : Int), FI pre.length, F (.list [.str x, .str y])], .brk) := by
      simp only [law_take_s2_b_s0_b_s2, getF_succ, getF_zero, Option.bind_some, Option.map_some, sub_int]
      simp only [Option.bind_some, Option.map_some] at test
      rw [test]
      simp only [Option.bind_some, if_true]
      rw [seqF_next eF, seqF_next eG]
      rfl
    unfold seqF
    rw [e2]
    rfl
end
end Lw

namespace Lw
open PySem PyProof.Rows
set_option maxRecDepth 10000

section
variable {φ : Nat → Nat} {n : Nat} {s0 s4 s5 s6 s7 s8 : Option Slot}

theorem place_loop (H : Mono φ n) {u : List Nat} (hu : Dom n u) (h2 : u.length = 2) {a b : Nat} (hab : u.map φ = [a, b]) {tk : List (List Nat × List Nat)} (ht : tk.length < 1000) :
    ∀ (post pre : List (List Nat)) (s7 s8 : Option Slot), (∀ v ∈ post, Dom n v ∧ v.length = 3) → pre.length + post.length < 1000 →
    ∃ t7 t8, forF (fun v σ => some (setF 7 v σ)) law_take_s2_b_s0_b (nI (List.range' pre.length post.length)) [s0, OL ((pre ++ post).map (leftV φ)), OL (tk.map (takV φ)), F (.int (NI φ u)), F (.str (LW φ u)), FI ((a % 2 : Nat) : Int), FI ((2 + a % 2 + b % 2 : Nat) : Int), s7, s8] =
      some ([s0, OL ((resT u tk pre post).2.map (leftV φ)), OL ((resT u tk pre post).1.map (takV φ)), F (.int (NI φ u)), F (.str (LW φ u)), FI ((a % 2 : Nat) : Int), FI ((2 + a % 2 + b % 2 : Nat) : Int), t7, t8], .next) := by
  intro post
  induction post with
  | nil =>
    intro pre s7 s8 _ _
    exact ⟨s7, s8, by simp [resT, pickT, forF]⟩
  | cons v post ih =>
    intro pre s7 s8 hp hl
    obtain ⟨hv, h3⟩ := hp v (by simp)
    obtain ⟨a', b', hab', _, _, _, hlev⟩ := lev_words H hu hv h2 h3
    rw [hab] at hab'
    cases hab'
    simp only [List.length_cons] at hl
    obtain ⟨t8, e1⟩ := place_step (s0 := s0) (s8 := s8) H hu hv h2 h3 hab hlev (pre := pre) (post := post) (tk := tk) (by (first | lia | omega)) ht
    rw [show (v :: post).length = post.length + 1 from rfl, List.range'_succ]
    simp only [nI, List.map_cons, forF, setF_succ, setF_zero, Option.bind_some]
    have e1' : law_take_s2_b_s0_b [s0, OL ((pre ++ v :: post).map (leftV φ)), OL (tk.map (takV φ)), F (.int (NI φ u)), F (.str (LW φ u)), FI ((a % 2 : Nat) : Int), FI ((2 + a % 2 + b % 2 : Nat) : Int), some (Slot.frz (V.int (pre.length : Int))), s8] = _ := e1
    rw [e1']
    cases hs : subW u v with
    | true =>
      rw [resT_yes hs]
      exact ⟨_, _, rfl⟩
    | false =>
      rw [resT_no hs]
      obtain ⟨u7, u8, e2⟩ := ih (pre ++ [v]) (FI pre.length) t8 (fun y hy => hp y (by simp [hy])) (by simp; (first | lia | omega))
      refine ⟨u7, u8, ?_⟩
      simp only [Option.bind_some, Bool.false_eq_true, if_false]
      rw [List.length_append] at e2
      have e3 : pre ++ [v] ++ post = pre ++ v :: post := by simp
      rw [e3] at e2
      exact e2

theorem dom_num (H : Mono φ n) {w : List Nat} (h : Dom n w) : (decide (NI φ w < 256) = decide (w.length = 2)) ∧ (decide (256 ≤ NI φ w) = decide (w.length = 3)) := by
  have hf := H.fig h.1
  rcases h.2 with hl | hl
  · have := num_two (w := w.map φ) (fun d hd => (hf d hd).2) (by simpa using hl)
    have h1 : NI φ w < 256 := by unfold NI NW; (first | lia | omega)
    have h2 : ¬ 256 ≤ NI φ w := by (first | lia | omega)
    simp [h1, h2, hl]
  · have := num_three (w := w.map φ) (fun d hd => (hf d hd).1) (by simpa using hl)
    have h1 : ¬ NI φ w < 256 := by unfold NI NW; (first | lia | omega)
    have h2 : 256 ≤ NI φ w := by (first | lia | omega)
    simp [h1, h2, hl]

theorem res_dom {u : List Nat} {tk : List (List Nat × List Nat)} {left : List (List Nat)} (h : ∀ v ∈ left, Dom n v ∧ v.length = 3) : (∀ v ∈ (resT u tk [] left).2, Dom n v ∧ v.length = 3) ∧ (resT u tk [] left).2.length ≤ left.length ∧ (resT u tk [] left).1.length ≤ tk.length + 1 := by
  unfold resT
  cases hp : pickT u left with
  | none => exact ⟨h, by simp, by simp⟩
  | some p =>
    obtain ⟨h1, h2⟩ := pickT_mem left p hp
    have h3 := pickT_len left p hp
    exact ⟨fun v hv => h v (h2 v hv), by simpa using h3, by simp⟩

theorem number_step (H : Mono φ n) {w : List Nat} (hw : Dom n w) {left : List (List Nat)} {tk : List (List Nat × List Nat)} (hl : ∀ v ∈ left, Dom n v ∧ v.length = 3) (hll : left.length < 100) (ht : tk.length < 1000) :
    ∃ t4 t5 t6 t7 t8, law_take_s2_b [s0, OL (left.map (leftV φ)), OL (tk.map (takV φ)), F (.int (NI φ w)), s4, s5, s6, s7, s8] =
      some ([s0, OL ((stepT (tk, left) w).2.map (leftV φ)), OL ((stepT (tk, left) w).1.map (takV φ)), F (.int (NI φ w)), t4, t5, t6, t7, t8], .next) := by
  obtain ⟨c1, c2⟩ := dom_num H hw
  have hT : g_ISTERMINAL [.int (NI φ w)] = some (.bool (decide (w.length = 2))) := by rw [isT, c1]
  by_cases h2 : w.length = 2
  · have hf := H.fig hw.1
    have hlm : (w.map φ).length = 2 := by simpa using h2
    obtain ⟨a, b, hab⟩ : ∃ a b, w.map φ = [a, b] := by
      generalize w.map φ = U at hlm
      match U, hlm with
      | [a, b], _ => exact ⟨a, b, rfl⟩
    have hb16 : b < 16 := (hf b (by rw [hab]; simp)).2
    have ha16 : a < 16 := (hf a (by rw [hab]; simp)).2
    have hnum : NI φ w = ((16 * a + b : Nat) : Int) := by unfold NI NW; rw [hab]; simp [num]
    have lt : g_law_letters [.int (NI φ w)] = some (.str (LW φ w)) := lt01 (dom_wd H hw)
    have f16 : fdivV (.int (NI φ w)) (.int 16) = some (.int (a : Int)) := by
      rw [fdiv_int (by decide), hnum]
      congr 2; (first | lia | omega)
    have m2 : modV (.int (a : Int)) (.int 2) = some (.int ((a % 2 : Nat) : Int)) := by
      rw [mod_int (by decide)]; rfl
    have m3 : modV (.int (NI φ w)) (.int 2) = some (.int ((b % 2 : Nat) : Int)) := by
      rw [mod_int (by decide), hnum]
      congr 2; (first | lia | omega)
    have eA : take_A [s0, OL (left.map (leftV φ)), OL (tk.map (takV φ)), F (.int (NI φ w)), s4, s5, s6, s7, s8] = some ([s0, OL (left.map (leftV φ)), OL (tk.map (takV φ)), F (.int (NI φ w)), F (.str (LW φ w)), s5, s6, s7, s8], .next) := by
      simp only [take_A, getF_succ, getF_zero, Option.bind_some, Option.map_some, lt, setF_succ, setF_zero]
    have eB : take_B [s0, OL (left.map (leftV φ)), OL (tk.map (takV φ)), F (.int (NI φ w)), F (.str (LW φ w)), s5, s6, s7, s8] = some ([s0, OL (left.map (leftV φ)), OL (tk.map (takV φ)), F (.int (NI φ w)), F (.str (LW φ w)), FI ((a % 2 : Nat) : Int), s6, s7, s8], .next) := by
      simp only [take_B, getF_succ, getF_zero, Option.bind_some, Option.map_some, f16, m2, setF_succ, setF_zero]
    have eC : take_C [s0, OL (left.map (leftV φ)), OL (tk.map (takV φ)), F (.int (NI φ w)), F (.str (LW φ w)), FI ((a % 2 : Nat) : Int), s6, s7, s8] = some ([s0, OL (left.map (leftV φ)), OL (tk.map (takV φ)), F (.int (NI φ w)), F (.str (LW φ w)), FI ((a % 2 : Nat) : Int), FI ((2 + a % 2 + b % 2 : Nat) : Int), s7, s8], .next) := by
      simp only [take_C, getF_succ, getF_zero, Option.bind_some, Option.map_some, m3, add_int, setF_succ, setF_zero]
      congr 3
    obtain ⟨t7, t8, e1⟩ := place_loop (s0 := s0) H hw h2 hab ht left [] s7 s8 hl (by simp; (first | lia | omega))
    have eD : take_D [s0, OL (left.map (leftV φ)), OL (tk.map (takV φ)), F (.int (NI φ w)), F (.str (LW φ w)), FI ((a % 2 : Nat) : Int), FI ((2 + a % 2 + b % 2 : Nat) : Int), s7, s8] = some ([s0, OL ((resT w tk [] left).2.map (leftV φ)), OL ((resT w tk [] left).1.map (takV φ)), F (.int (NI φ w)), F (.str (LW φ w)), FI ((a % 2 : Nat) : Int), FI ((2 + a % 2 + b % 2 : Nat) : Int), t7, t8], .next) := by
      have hlim : (left.map (leftV φ)).length ≤ lim := by unfold lim; simp; (first | lia | omega)
      have rN : rangeV [.int (left.length : Int)] = some (nI (List.range' 0 left.length)) := range_nat (by unfold lim; (first | lia | omega))
      simp only [take_D, getO_succ, getO_zero, Option.bind_some]
      rw [if_pos hlim]
      simp only [List.length_map, Option.map_some, Option.bind_some, rN]
      exact e1
    refine ⟨F (.str (LW φ w)), FI ((a % 2 : Nat) : Int), FI ((2 + a % 2 + b % 2 : Nat) : Int), t7, t8, ?_⟩
    have hst : stepT (tk, left) w = resT w tk [] left := by unfold stepT; rw [if_pos h2]
    rw [hst]
    have e0 : law_take_s2_b_s0 [s0, OL (left.map (leftV φ)), OL (tk.map (takV φ)), F (.int (NI φ w)), s4, s5, s6, s7, s8] = some ([s0, OL ((resT w tk [] left).2.map (leftV φ)), OL ((resT w tk [] left).1.map (takV φ)), F (.int (NI φ w)), F (.str (LW φ w)), FI ((a % 2 : Nat) : Int), FI ((2 + a % 2 + b % 2 : Nat) : Int), t7, t8], .next) := by
      simp only [law_take_s2_b_s0, getF_succ, getF_zero, Option.bind_some, Option.map_some, hT, h2, decide_true, truthyV, if_true]
      rw [seqF_next eA, seqF_next eB, seqF_next eC, seqF_next eD]
    unfold law_take_s2_b
    rw [seqF_next e0]
  · refine ⟨s4, s5, s6, s7, s8, ?_⟩
    have hst : stepT (tk, left) w = (tk, left) := by unfold stepT; rw [if_neg h2]
    rw [hst]
    have e0 : law_take_s2_b_s0 [s0, OL (left.map (leftV φ)), OL (tk.map (takV φ)), F (.int (NI φ w)), s4, s5, s6, s7, s8] = some ([s0, OL (left.map (leftV φ)), OL (tk.map (takV φ)), F (.int (NI φ w)), s4, s5, s6, s7, s8], .next) := by
      simp only [law_take_s2_b_s0, getF_succ, getF_zero, Option.bind_some, Option.map_some, hT, h2, decide_false, truthyV, Bool.false_eq_true, if_false]
    unfold law_take_s2_b
    rw [seqF_next e0]

theorem take_give (H : Mono φ n) {W : List (List Nat)} (hW : ∀ w ∈ W, Dom n w) (hl : W.length < 90) :
    g_law_take [.list (W.map fun w => V.int (NI φ w))] = some (.list [.list ((takeR W).1.map (takV φ)), .list ((takeR W).2.map (leftV φ))]) := by
  show (if [V.list (W.map fun w => V.int (NI φ w))].length = pn_law_take.length then giveF (e_law_take.1 (startS nm_law_take [.list (W.map fun w => V.int (NI φ w))])) else none) = _
  rw [if_pos (show [V.list (W.map fun w => V.int (NI φ w))].length = pn_law_take.length from rfl), f_law_take_eq]
  show giveF (f_law_take [F (.list (W.map fun w => V.int (NI φ w))), none, none, none, none, none, none, none, none]) = _
  have hm : maskS [false, false, false, false, false, false, false, false, false] [F (.list (W.map fun w => V.int (NI φ w))), none, none, none, none, none, none, none, none] = [none, none, none, none, none, none, none, none, none] := by simp [maskS]
  have e0 : law_take_s0 [F (.list (W.map fun w => V.int (NI φ w))), none, none, none, none, none, none, none, none] = some ([F (.list (W.map fun w => V.int (NI φ w))), OL ((W.filter fun w : List Nat => decide (w.length = 3)).map (leftV φ)), none, none, none, none, none, none, none], .next) := by
    simp only [law_take_s0, getF_zero, Option.bind_some, iterV, hm]
    rw [loopL_pick (fun w : List Nat => decide (w.length = 3)) (fun w => V.int (NI φ w)) (leftV φ) W (fun w hw => by
      obtain ⟨_, c2⟩ := dom_num H (hW w hw)
      have hN : g_ISNONTERMINAL [.int (NI φ w)] = some (.bool (decide (w.length = 3))) := by rw [isN, c2]
      simp only [getF_zero, Option.bind_some, Option.map_some, hN, truthyV]) (fun w hw zz => by
      obtain ⟨w1, w2⟩ := word_give H (hW w hw)
      have m1 : modV (.int (NI φ w)) (.int 2) = some (.int (NI φ w % 2)) := mod_int (by decide)
      have m2 : mulV (.int 2) (.int (NI φ w % 2)) = some (.int (2 * (NI φ w % 2))) := mul_int (by decide)
      have hsm : NI φ w < 65536 := by
        have := num_small (dom_wd H (hW w hw))
        unfold NI NW; (first | lia | omega)
      have hnn : 0 ≤ NI φ w := by unfold NI; (first | lia | omega)
      have m3 : mulV (.int (NI φ w)) (.int (1 - 2 * (NI φ w % 2))) = some (.int (NI φ w * (1 - 2 * (NI φ w % 2)))) := mul_int (by (first | lia | omega))
      simp only [getF_zero, Option.bind_some, Option.map_some, m1, m2, sub_int, m3, w1, isBytesV, if_true, w2]
      rw [if_pos (by unfold lim; simp)]
      rfl)]
    simp only [Option.bind_some]
    rw [if_pos (by
      rw [List.length_map]
      have := List.length_filter_le (fun w : List Nat => decide (w.length = 3)) W
      unfold lim; (first | lia | omega))]
    rfl
  have e1 : law_take_s1 [F (.list (W.map fun w => V.int (NI φ w))), OL ((W.filter fun w : List Nat => decide (w.length = 3)).map (leftV φ)), none, none, none, none, none, none, none] = some ([F (.list (W.map fun w => V.int (NI φ w))), OL ((W.filter fun w : List Nat => decide (w.length = 3)).map (leftV φ)), OL [], none, none, none, none, none, none], .next) := rfl
  obtain ⟨σ', e2, _, _, _, _, t3, t4, t5, t6, t7, t8, e3⟩ := forF_inv (st := fun v σ => some (setF 3 v σ)) (b := law_take_s2_b) (fun w : List Nat => V.int (NI φ w)) stepT
    (fun r s σ => (∀ w ∈ r, Dom n w) ∧ (∀ v ∈ s.2, Dom n v ∧ v.length = 3) ∧ s.2.length < 100 ∧ s.1.length + r.length < 1000 ∧ ∃ t3 t4 t5 t6 t7 t8, σ = [F (.list (W.map fun w => V.int (NI φ w))), OL (s.2.map (leftV φ)), OL (s.1.map (takV φ)), t3, t4, t5, t6, t7, t8])
    (fun w r s σ => by
      rintro ⟨q1, q2, q3, q4, t3, t4, t5, t6, t7, t8, rfl⟩
      simp only [List.length_cons] at q4
      obtain ⟨u4, u5, u6, u7, u8, e⟩ := number_step (s0 := F (.list (W.map fun w => V.int (NI φ w)))) (s4 := t4) (s5 := t5) (s6 := t6) (s7 := t7) (s8 := t8) H (q1 w (by simp)) q2 q3 (tk := s.1) (by (first | lia | omega))
      refine ⟨_, _, rfl, e, fun x hx => q1 x (by simp [hx]), ?_⟩
      have hd := res_dom (n := n) (u := w) (tk := s.1) (left := s.2) q2
      have hs : stepT (s.1, s.2) w = stepT s w := rfl
      by_cases h2 : w.length = 2
      · have hst : stepT s w = resT w s.1 [] s.2 := by unfold stepT; rw [if_pos h2]
        rw [hst]
        refine ⟨hd.1, by (first | lia | omega), by (first | lia | omega), F (.int (NI φ w)), u4, u5, u6, u7, u8, ?_⟩
        rfl
      · have hst : stepT s w = s := by unfold stepT; rw [if_neg h2]
        rw [hst]
        refine ⟨q2, q3, by (first | lia | omega), F (.int (NI φ w)), u4, u5, u6, u7, u8, ?_⟩
        rfl)
    W ([], W.filter fun w : List Nat => decide (w.length = 3)) [F (.list (W.map fun w => V.int (NI φ w))), OL ((W.filter fun w : List Nat => decide (w.length = 3)).map (leftV φ)), OL [], none, none, none, none, none, none]
    ⟨hW, fun v hv => by
      obtain ⟨h1, h2⟩ := List.mem_filter.mp hv
      exact ⟨hW v h1, of_decide_eq_true h2⟩, by
        have := List.length_filter_le (fun w : List Nat => decide (w.length = 3)) W
        show (W.filter fun w : List Nat => decide (w.length = 3)).length < 100
        (first | lia | omega), by simp; (first | lia | omega), none, none, none, none, none, none, rfl⟩
  subst e3
  have e2' : law_take_s2 [F (.list (W.map fun w => V.int (NI φ w))), OL ((W.filter fun w : List Nat => decide (w.length = 3)).map (leftV φ)), OL [], none, none, none, none, none, none] = some ([F (.list (W.map fun w => V.int (NI φ w))), OL ((takeR W).2.map (leftV φ)), OL ((takeR W).1.map (takV φ)), t3, t4, t5, t6, t7, t8], .next) := by
    simp only [law_take_s2, getF_zero, Option.bind_some, iterV]
    exact e2
  have e3' : law_take_s3 [F (.list (W.map fun w => V.int (NI φ w))), OL ((takeR W).2.map (leftV φ)), OL ((takeR W).1.map (takV φ)), t3, t4, t5, t6, t7, t8] = some ([F (.list (W.map fun w => V.int (NI φ w))), F (.list ((takeR W).2.map (leftV φ))), F (.list ((takeR W).1.map (takV φ))), t3, t4, t5, t6, t7, t8], .ret (.list [.list ((takeR W).1.map (takV φ)), .list ((takeR W).2.map (leftV φ))])) := rfl
  unfold f_law_take
  rw [seqF_next e0, seqF_next e1, seqF_next e2', e3']
  rfl
end
end Lw

namespace Lw
open PySem PyProof.Rows
set_option maxRecDepth 10000

theorem slice_nat {xs : List V} (h : xs.length ≤ lim) (i j : Nat) : sliceV xs none (some (j : Int)) none = some (xs.take j) ∧ sliceV xs (some (i : Int)) none none = some (xs.drop i) ∧ sliceV xs (some (i : Int)) (some (j : Int)) none = some ((xs.drop i).take (j - i)) := by
  refine ⟨?_, ?_, ?_⟩ <;> rw [slice_some (by simp) h, pick_cut] <;> unfold cutL <;> simp only [Option.elim, clipAt_nat]
  · rw [List.drop_zero, Nat.sub_zero]
    congr 1
    rcases Nat.le_total j xs.length with q | q
    · rw [Nat.min_eq_left q]
    · rw [Nat.min_eq_right q, List.take_of_length_le q, List.take_of_length_le (Nat.le_refl _)]
  · congr 1
    rcases Nat.le_total i xs.length with q | q
    · rw [Nat.min_eq_left q, List.take_of_length_le (by simp)]
    · rw [Nat.min_eq_right q, Nat.sub_self, List.take_zero, List.drop_of_length_le q]
  · congr 1
    rcases Nat.le_total i xs.length with q | q
    · rw [Nat.min_eq_left q]
      rcases Nat.le_total j xs.length with q' | q'
      · rw [Nat.min_eq_left q']
      · rw [Nat.min_eq_right q', List.take_of_length_le (by simp), List.take_of_length_le (by simp; (first | lia | omega))]
    · rw [Nat.min_eq_right q, List.drop_of_length_le (Nat.le_refl _), List.drop_of_length_le q]; simp

/-! the figures that are told -/
noncomputable def opStep (r two : List Nat) (op : List Nat) (f : Nat) : List Nat := op.take (op.length - two.count f) ++ List.replicate (r.count f - two.count f) f
noncomputable def drs5 (r : List Nat) : List Nat := nsort (r.foldl ndd1 [])
noncomputable def two (r : List Nat) (i j : Nat) : List Nat := [r.getD i 0, r.getD j 0]
noncomputable def row3 (r : List Nat) (i j : Nat) : List Nat := nsort (two r i j ++ ((drs5 r).foldl (opStep r (two r i j)) []).take 1)
noncomputable def toldR (r : List Nat) : List (List Nat × List Nat) := [1, 2, 3, 4].foldl (fun D j => (List.range j).foldl (fun D i => storeR D (two r i j).reverse (row3 r i j).reverse) D) []

section
variable {φ : Nat → Nat} {n : Nat} {s0 s1 s2 s3 s4 s5 s6 s7 : Option Slot}
theorem nI_fI (l : List Nat) : nI (l.map φ) = iI (l.map (fI φ)) := by simp [nI, iI, fI, List.map_map, Function.comp_def]
theorem count_map (H : Mono φ n) {l : List Nat} (hl : In n l) {f : Nat} (hf : 1 ≤ f ∧ f ≤ n) : countV [.list (nI (l.map φ)), .int (φ f : Nat)] = some (.int (l.count f : Nat)) := by
  rw [nI_fI]
  simp only [countV, ints?_map, Option.map_some]
  congr 3
  have : ∀ l : List Nat, In n l → (l.map (fI φ)).countP (· == ((φ f : Nat) : Int)) = l.count f := by
    intro l
    induction l with
    | nil => intro _; rfl
    | cons x l ih =>
      intro h
      have hx := h x (by simp)
      have e := H.eq_iff hx hf
      rw [List.map_cons, List.countP_cons, List.count_cons, ih fun d hd => h d (by simp [hd])]
      have : (fI φ x == ((φ f : Nat) : Int)) = (x == f) := by
        rw [Bool.eq_iff_iff]; simp only [beq_iff_eq, fI]; (first | lia | omega)
      rw [this]
  exact this l hl
theorem op_loop (H : Mono φ n) {r tw : List Nat} (hr : In n r) (htw : In n tw) (hr5 : r.length ≤ 5) (ht5 : tw.length ≤ 5) : ∀ (fs op : List Nat) (s6 s7 : Option Slot), (∀ f ∈ fs, 1 ≤ f ∧ f ≤ n) → op.length + 5 * fs.length ≤ 100 →
    ∃ t6 t7, forF (fun v σ => some (setF 6 v σ)) law_told_s1_b_s0_b_s2_b (nI (fs.map φ)) [F (.list (nI (r.map φ))), s1, s2, s3, F (.list (nI (tw.map φ))), F (.list (nI (op.map φ))), s6, s7] =
      some ([F (.list (nI (r.map φ))), s1, s2, s3, F (.list (nI (tw.map φ))), F (.list (nI ((fs.foldl (opStep r tw) op).map φ))), t6, t7], .next) := by
  intro fs
  induction fs with
  | nil =>
    intro op s6 s7 _ _
    exact ⟨s6, s7, rfl⟩
  | cons f fs ih =>
    intro op s6 s7 hf hl
    have hf1 := hf f (by simp)
    simp only [List.length_cons] at hl
    have hc : r.count f ≤ 5 := Nat.le_trans List.count_le_length hr5
    have hc2 : tw.count f ≤ 5 := Nat.le_trans List.count_le_length ht5
    have c1 := count_map H htw hf1
    have c2 := count_map H hr hf1
    have ll : lenV [.list (nI (op.map φ))] = some (.int (op.length : Int)) := by
      have := len_list (l := nI (op.map φ)) (by unfold lim; simp; omega)
      simpa using this
    have b0 : law_told_s1_b_s0_b_s2_b_s0 [F (.list (nI (r.map φ))), s1, s2, s3, F (.list (nI (tw.map φ))), F (.list (nI (op.map φ))), FI (φ f : Nat), s7] = some ([F (.list (nI (r.map φ))), s1, s2, s3, F (.list (nI (tw.map φ))), F (.list (nI (op.map φ))), FI (φ f : Nat), FI (tw.count f : Nat)], .next) := by
      simp only [law_told_s1_b_s0_b_s2_b_s0, getF_succ, getF_zero, Option.bind_some, Option.map_some, isListV, if_true, c1, setF_succ, setF_zero]
    have mx : maxV [.int 0, .int ((op.length : Int) - (tw.count f : Int))] = some (.int ((op.length - tw.count f : Nat) : Int)) := by
      simp only [maxV]
      congr 2
      split <;> omega
    have sl := (slice_nat (xs := nI (op.map φ)) (by unfold lim; simp; omega) 0 (op.length - tw.count f)).1
    have m1 : ∀ x : V, ([x] : List V).length ≤ lim := fun zz => by unfold lim; simp
    have ml : mulV (.list [.int (φ f : Nat)]) (.int ((r.count f : Int) - (tw.count f : Int))) = some (.list (List.replicate (r.count f - tw.count f) (V.int (φ f : Nat)))) := by
      simp only [mulV]
      rw [if_pos ⟨by simp, by omega⟩]
      have e1 : ((r.count f : Int) - (tw.count f : Int)).toNat = r.count f - tw.count f := by omega
      rw [e1]
      congr 2
      generalize r.count f - tw.count f = k
      induction k with
      | zero => rfl
      | succ k ih => rw [List.replicate_succ, List.replicate_succ, List.flatten_cons, ih]; rfl
    have ad : addV (.list ((nI (op.map φ)).take (op.length - tw.count f))) (.list (List.replicate (r.count f - tw.count f) (V.int (φ f : Nat)))) = some (.list (nI ((opStep r tw op f).map φ))) := by
      have e : nI ((opStep r tw op f).map φ) = (nI (op.map φ)).take (op.length - tw.count f) ++ List.replicate (r.count f - tw.count f) (V.int (φ f : Nat)) := by
        simp [nI, opStep, List.map_take]
      rw [e]
      refine if_pos ?_
      simp only [List.length_take, List.length_map, List.length_replicate]
      unfold lim; omega
    have b1 : law_told_s1_b_s0_b_s2_b_s1 [F (.list (nI (r.map φ))), s1, s2, s3, F (.list (nI (tw.map φ))), F (.list (nI (op.map φ))), FI (φ f : Nat), FI (tw.count f : Nat)] = some ([F (.list (nI (r.map φ))), s1, s2, s3, F (.list (nI (tw.map φ))), F (.list (nI ((opStep r tw op f).map φ))), FI (φ f : Nat), FI (tw.count f : Nat)], .next) := by
      simp only [law_told_s1_b_s0_b_s2_b_s1, getF_succ, getF_zero, Option.bind_some, Option.map_some, asList, ll, sub_int, mx, part_nat (show op.length - tw.count f ≤ 1000000 by omega), sl, isListV, if_true, c2]
      rw [if_pos (m1 _)]
      simp only [Option.map_some, Option.bind_some, ml, ad, setF_succ, setF_zero]
    have hol : (opStep r tw op f).length ≤ op.length + 5 := by
      simp only [opStep, List.length_append, List.length_take, List.length_replicate]; omega
    obtain ⟨t6, t7, ih⟩ := ih (opStep r tw op f) (FI (φ f : Nat)) (FI (tw.count f : Nat)) (fun g hg => hf g (by simp [hg])) (by omega)
    refine ⟨t6, t7, ?_⟩
    simp only [nI, List.map_cons, forF, setF_succ, setF_zero, Option.bind_some]
    have e' : law_told_s1_b_s0_b_s2_b [F (.list (nI (r.map φ))), s1, s2, s3, F (.list (nI (tw.map φ))), F (.list (nI (op.map φ))), some (.frz (.int ((φ f : Nat) : Int))), s7] = some ([F (.list (nI (r.map φ))), s1, s2, s3, F (.list (nI (tw.map φ))), F (.list (nI ((opStep r tw op f).map φ))), FI (φ f : Nat), FI (tw.count f : Nat)], .next) := by
      unfold law_told_s1_b_s0_b_s2_b
      rw [seqF_next b0, seqF_next b1]
    have e'' := e'
    simp only [nI] at e''
    rw [e'']
    simp only [Option.bind_some, List.foldl_cons]
    exact ih
end
end Lw

namespace Lw
open PySem PyProof.Rows
set_option maxRecDepth 10000

section
variable {φ : Nat → Nat} {n : Nat} {s0 s1 s2 s3 s4 s5 s6 s7 : Option Slot}
theorem fig_get {r : List Nat} {i : Nat} (hi : i < r.length) (h5 : r.length ≤ 5) : idxLV (nI (r.map φ)) (.int (i : Int)) = some (.int ((φ (r.getD i 0) : Nat) : Int)) := idxL_nat (by simp [nI, hi]) (by (first | lia | omega))
theorem in_get {r : List Nat} (hr : In n r) {i : Nat} (hi : i < r.length) : 1 ≤ r.getD i 0 ∧ r.getD i 0 ≤ n := hr _ (by simp [List.getD, hi])
theorem two_in {r : List Nat} (hr : In n r) {i j : Nat} (hi : i < r.length) (hj : j < r.length) : In n (two r i j) := fun d hd => by
  simp only [two, List.mem_cons, List.not_mem_nil, or_false] at hd
  rcases hd with rfl | rfl
  · exact in_get hr hi
  · exact in_get hr hj
theorem op_mem {r tw : List Nat} : ∀ (fs op : List Nat) (d : Nat), d ∈ fs.foldl (opStep r tw) op → d ∈ op ∨ d ∈ fs
  | [], _, _, h => .inl h
  | f :: fs, op, d, h => by
    rcases op_mem fs _ d h with h | h
    · rcases List.mem_append.mp h with h | h
      · exact .inl (List.mem_of_mem_take h)
      · have := List.eq_of_mem_replicate h
        exact .inr (by simp [this])
    · exact .inr (by simp [h])
theorem drs_in {r : List Nat} (hr : In n r) : In n (drs5 r) := fun d hd => by
  rcases ndd_mem r [] d ((nsort_mem _ _).mp hd) with h | h
  · simp at h
  · exact hr d h
theorem row3_in {r : List Nat} (hr : In n r) {i j : Nat} (hi : i < r.length) (hj : j < r.length) : In n (row3 r i j) := fun d hd => by
  rcases List.mem_append.mp ((nsort_mem _ _).mp hd) with h | h
  · exact two_in hr hi hj d h
  · rcases op_mem (drs5 r) [] d (List.mem_of_mem_take h) with h | h
    · simp at h
    · exact drs_in hr d h
theorem row3_len (r : List Nat) (i j : Nat) : (row3 r i j).length = 2 ∨ (row3 r i j).length = 3 := by
  unfold row3
  rw [nsort_len, List.length_append, List.length_take]
  have : (two r i j).length = 2 := rfl
  (first | lia | omega)
theorem ndd_len : ∀ (l s : List Nat), (l.foldl ndd1 s).length ≤ s.length + l.length
  | [], _ => by simp
  | d :: l, s => by
    have h1 := ndd_len l (ndd1 s d)
    have h2 : (ndd1 s d).length ≤ s.length + 1 := by unfold ndd1; split <;> simp
    simp only [List.foldl_cons, List.length_cons]; (first | lia | omega)
theorem num_rev (w : List Nat) : (num (w.map φ).reverse : Int) = NI φ w.reverse := by unfold NI NW; rw [List.map_reverse]
theorem sorted_fig (H : Mono φ n) {l : List Nat} (hl : In n l) (h : l.length < 64) : sortedV2 [.list (nI (l.map φ))] = some (.list (nI ((nsort l).map φ))) := by
  rw [nI_fI, nI_fI]
  simp only [sortedV2, sortedV, ints?_map, Option.bind_some]
  rw [if_pos (by simpa using h), nsort_map H l hl]

theorem told_step (H : Mono φ n) {r : List Nat} (hr : In n r) (h5 : r.length = 5) {i j : Nat} (hi : i < 5) (hj : j < 5) {D : List (List Nat × List Nat)} (hD : ∀ p ∈ D, Dom n p.1) (hl : D.length < 1000) :
    ∃ t4 t5 t6 t7, law_told_s1_b_s0_b [F (.list (nI (r.map φ))), OD (D.map (DIr φ)), FI j, FI i, s4, s5, s6, s7] =
      some ([F (.list (nI (r.map φ))), OD ((storeR D (two r i j).reverse (row3 r i j).reverse).map (DIr φ)), FI j, FI i, t4, t5, t6, t7], .next) := by
  have g1 := fig_get (φ := φ) (r := r) (i := i) (by omega) (by omega)
  have g2 := fig_get (φ := φ) (r := r) (i := j) (by omega) (by omega)
  have h2 := two_in hr (i := i) (j := j) (by omega) (by omega)
  have l2 : ∀ p q : V, [p, q].length ≤ lim := fun zz zz => by unfold lim; simp
  have htw : nI ((two r i j).map φ) = [V.int ((φ (r.getD i 0) : Nat) : Int), V.int ((φ (r.getD j 0) : Nat) : Int)] := rfl
  have e0 : law_told_s1_b_s0_b_s0 [F (.list (nI (r.map φ))), OD (D.map (DIr φ)), FI j, FI i, s4, s5, s6, s7] = some ([F (.list (nI (r.map φ))), OD (D.map (DIr φ)), FI j, FI i, F (.list (nI ((two r i j).map φ))), s5, s6, s7], .next) := by
    simp only [law_told_s1_b_s0_b_s0, getF_succ, getF_zero, Option.bind_some, Option.map_some, asList, g1, g2]
    rw [if_pos (l2 _ _), htw]
    rfl
  have e1 : law_told_s1_b_s0_b_s1 [F (.list (nI (r.map φ))), OD (D.map (DIr φ)), FI j, FI i, F (.list (nI ((two r i j).map φ))), s5, s6, s7] = some ([F (.list (nI (r.map φ))), OD (D.map (DIr φ)), FI j, FI i, F (.list (nI ((two r i j).map φ))), F (.list (nI (([] : List Nat).map φ))), s6, s7], .next) := rfl
  have hss : sortedSetV (.list (nI (r.map φ))) = some (.list (nI ((drs5 r).map φ))) := by
    rw [nI_fI, nI_fI]
    simp only [sortedSetV, ints?_map, Option.bind_some]
    rw [if_pos ⟨by simp; omega, List.all_eq_true.mpr fun x hx => by
      obtain ⟨d, hd, rfl⟩ := List.mem_map.mp hx
      have := H.hi d (hr d hd).1 (hr d hd).2
      unfold fI
      exact decide_eq_true (by omega)⟩]
    have e := ndd_map H r [] hr (fun zz h => by simp at h)
    simp only [List.map_nil] at e
    unfold dedup
    rw [e, nsort_map H _ fun d hd => by
      rcases ndd_mem r [] d hd with h | h
      · simp at h
      · exact hr d h]
    rfl
  obtain ⟨t6, t7, eL⟩ := op_loop (s1 := OD (D.map (DIr φ))) (s2 := FI j) (s3 := FI i) H hr h2 (by omega) (by simp [two]) (drs5 r) [] s6 s7 (fun f hf => drs_in hr f hf) (by
    have h1 := ndd_len r []
    have : (drs5 r).length ≤ 5 := by unfold drs5; rw [nsort_len]; simp at h1; omega
    simp; omega)
  have e2 : law_told_s1_b_s0_b_s2 [F (.list (nI (r.map φ))), OD (D.map (DIr φ)), FI j, FI i, F (.list (nI ((two r i j).map φ))), F (.list (nI (([] : List Nat).map φ))), s6, s7] = some ([F (.list (nI (r.map φ))), OD (D.map (DIr φ)), FI j, FI i, F (.list (nI ((two r i j).map φ))), F (.list (nI (((drs5 r).foldl (opStep r (two r i j)) []).map φ))), t6, t7], .next) := by
    simp only [law_told_s1_b_s0_b_s2, getF_zero, Option.bind_some, hss, iterV]
    exact eL
  have sl := (slice_nat (xs := nI (((drs5 r).foldl (opStep r (two r i j)) []).map φ)) (by
    have hol : ∀ (fs op : List Nat), (fs.foldl (opStep r (two r i j)) op).length ≤ op.length + 5 * fs.length := by
      intro fs
      induction fs with
      | nil => intro op; simp
      | cons f fs ih =>
        intro op
        have h1 := ih (opStep r (two r i j) op f)
        have hc : r.count f ≤ 5 := Nat.le_trans List.count_le_length (by omega)
        have h2 : (opStep r (two r i j) op f).length ≤ op.length + 5 := by
          simp only [opStep, List.length_append, List.length_take, List.length_replicate]; omega
        simp only [List.foldl_cons, List.length_cons]; omega
    have := hol (drs5 r) []
    have h1 := ndd_len r []
    have : (drs5 r).length ≤ 5 := by unfold drs5; rw [nsort_len]; simp at h1; omega
    simp only [List.length_map]
    simp only [List.length_nil] at *
    unfold lim; omega) 0 1).1
  have p1 : partV (.int 1) = some (some 1) := rfl
  have sl' : sliceV (nI (((drs5 r).foldl (opStep r (two r i j)) []).map φ)) none (some 1) none = some ((nI (((drs5 r).foldl (opStep r (two r i j)) []).map φ)).take 1) := sl
  have ad : addV (.list (nI ((two r i j).map φ))) (.list ((nI (((drs5 r).foldl (opStep r (two r i j)) []).map φ)).take 1)) = some (.list (nI ((two r i j ++ ((drs5 r).foldl (opStep r (two r i j)) []).take 1).map φ))) := by
    have e : nI ((two r i j ++ ((drs5 r).foldl (opStep r (two r i j)) []).take 1).map φ) = nI ((two r i j).map φ) ++ (nI (((drs5 r).foldl (opStep r (two r i j)) []).map φ)).take 1 := by
      simp [nI, List.map_take]
    rw [e]
    refine if_pos ?_
    have : (two r i j).length = 2 := rfl
    simp only [List.length_map, List.length_take, this]
    unfold lim; omega
  have so := sorted_fig H (l := two r i j ++ ((drs5 r).foldl (opStep r (two r i j)) []).take 1) (fun d hd => row3_in hr (i := i) (j := j) (by omega) (by omega) d ((nsort_mem _ _).mpr hd)) (by
    have : (two r i j).length = 2 := rfl
    rw [List.length_append, List.length_take]; omega)
  have hrow : nsort (two r i j ++ ((drs5 r).foldl (opStep r (two r i j)) []).take 1) = row3 r i j := rfl
  rw [hrow] at so
  have nb1 : g_law_number [.list (nI ((row3 r i j).map φ))] = some (.int (NI φ (row3 r i j).reverse)) := by
    rw [number_give (by rw [List.length_map]; exact row3_len r i j), num_rev]
  have nb2 : g_law_number [.list (nI ((two r i j).map φ))] = some (.int (NI φ (two r i j).reverse)) := by
    rw [number_give (by rw [List.length_map]; exact .inl rfl), num_rev]
  have hdom : Dom n (two r i j).reverse := ⟨fun d hd => h2 d (by simpa using hd), .inl rfl⟩
  have st : storeDV (D.map (DIr φ)) (.int (NI φ (two r i j).reverse)) (.int (NI φ (row3 r i j).reverse)) = some ((storeR D (two r i j).reverse (row3 r i j).reverse).map (DIr φ)) := by
    simp only [storeDV]
    rw [if_pos (by unfold lim; simp; omega), storeR_map H hdom D hD]
  have e3 : law_told_s1_b_s0_b_s3 [F (.list (nI (r.map φ))), OD (D.map (DIr φ)), FI j, FI i, F (.list (nI ((two r i j).map φ))), F (.list (nI (((drs5 r).foldl (opStep r (two r i j)) []).map φ))), t6, t7] = some ([F (.list (nI (r.map φ))), OD ((storeR D (two r i j).reverse (row3 r i j).reverse).map (DIr φ)), FI j, FI i, F (.list (nI ((two r i j).map φ))), F (.list (nI (((drs5 r).foldl (opStep r (two r i j)) []).map φ))), t6, t7], .next) := by
    simp only [law_told_s1_b_s0_b_s3, getF_succ, getF_zero, getD_succ, getD_zero, Option.bind_some, Option.map_some, asList, p1, sl', ad, so, nb1, nb2, st]
    rfl
  refine ⟨F (.list (nI ((two r i j).map φ))), F (.list (nI (((drs5 r).foldl (opStep r (two r i j)) []).map φ))), t6, t7, ?_⟩
  unfold law_told_s1_b_s0_b
  rw [seqF_next e0, seqF_next e1, seqF_next e2, seqF_next e3]
end
end Lw

namespace Lw
open PySem PyProof.Rows
set_option maxRecDepth 10000

noncomputable def wantR (r : List Nat) : List (List Nat × List Nat) := (sortW ((toldR r).map (·.1))).map fun k => (k, (lookR (toldR r) k).getD [])
theorem storeR_len : ∀ (D : List (List Nat × List Nat)) (k v : List Nat), (storeR D k v).length ≤ D.length + 1
  | [], _, _ => by simp [storeR]
  | (k', u) :: r, k, v => by
    have := storeR_len r k v
    unfold storeR
    split
    · simp
    · simp; omega
theorem lookR_some : ∀ (D : List (List Nat × List Nat)) (k : List Nat), k ∈ D.map (·.1) → ∃ v, lookR D k = some v
  | [], k, h => by simp at h
  | (k', u) :: r, k, h => by
    unfold lookR
    by_cases e : k' = k
    · exact ⟨u, if_pos e⟩
    · rw [if_neg e]
      refine lookR_some r k ?_
      simp only [List.map_cons, List.mem_cons] at h
      rcases h with h | h
      · exact absurd h.symm e
      · exact h

section
variable {φ : Nat → Nat} {n : Nat} {s0 s1 s2 s3 s4 s5 s6 s7 : Option Slot}

theorem told_in (H : Mono φ n) {r : List Nat} (hr : In n r) (h5 : r.length = 5) {j : Nat} (hj : j < 5) (is : List Nat) (D : List (List Nat × List Nat)) (his : ∀ i ∈ is, i < 5) (hD : ∀ p ∈ D, Dom n p.1) (hl : D.length + is.length < 60) :
    ∃ t3 t4 t5 t6 t7, forF (fun v σ => some (setF 3 v σ)) law_told_s1_b_s0_b (nI is) [F (.list (nI (r.map φ))), OD (D.map (DIr φ)), FI j, s3, s4, s5, s6, s7] =
      some ([F (.list (nI (r.map φ))), OD ((is.foldl (fun D i => storeR D (two r i j).reverse (row3 r i j).reverse) D).map (DIr φ)), FI j, t3, t4, t5, t6, t7], .next) ∧
      (∀ p ∈ is.foldl (fun D i => storeR D (two r i j).reverse (row3 r i j).reverse) D, Dom n p.1) ∧ (is.foldl (fun D i => storeR D (two r i j).reverse (row3 r i j).reverse) D).length ≤ D.length + is.length := by
  obtain ⟨σ', e1, _, p2, p3, t3, t4, t5, t6, t7, e3⟩ := forF_inv (st := fun v σ => some (setF 3 v σ)) (b := law_told_s1_b_s0_b) (fun d : Nat => V.int (d : Int)) (fun D i => storeR D (two r i j).reverse (row3 r i j).reverse)
    (fun q E σ => (∀ i ∈ q, i < 5) ∧ (∀ p ∈ E, Dom n p.1) ∧ E.length + q.length ≤ D.length + is.length ∧ ∃ t3 t4 t5 t6 t7, σ = [F (.list (nI (r.map φ))), OD (E.map (DIr φ)), FI j, t3, t4, t5, t6, t7])
    (fun i q E σ => by
      rintro ⟨q1, q2, q3, t3, t4, t5, t6, t7, rfl⟩
      simp only [List.length_cons] at q3
      obtain ⟨u4, u5, u6, u7, e⟩ := told_step (s4 := t4) (s5 := t5) (s6 := t6) (s7 := t7) H hr h5 (q1 i (by simp)) hj q2 (by (first | lia | omega))
      refine ⟨_, _, rfl, e, fun x hx => q1 x (by simp [hx]), fun p hp => ?_, ?_, FI i, u4, u5, u6, u7, rfl⟩
      · rcases storeR_keys _ _ _ _ hp with h | h
        · rw [h]
          have hi5 := q1 i (by simp)
          exact ⟨fun d hd => two_in hr (i := i) (j := j) (by (first | lia | omega)) (by (first | lia | omega)) d (by simpa using hd), .inl rfl⟩
        · obtain ⟨p', hp', e'⟩ := List.mem_map.mp h
          rw [← e']; exact q2 p' hp'
      · have := storeR_len E (two r i j).reverse (row3 r i j).reverse
        (first | lia | omega))
    is D [F (.list (nI (r.map φ))), OD (D.map (DIr φ)), FI j, s3, s4, s5, s6, s7] ⟨his, hD, Nat.le_refl _, s3, s4, s5, s6, s7, rfl⟩
  subst e3
  exact ⟨t3, t4, t5, t6, t7, e1, p2, by simpa using p3⟩

theorem told_give (H : Mono φ n) {r : List Nat} (hr : In n r) (h5 : r.length = 5) : g_law_told [.list (nI (r.map φ))] = some (.list ((wantR r).map (takV φ))) := by
  show (if [V.list (nI (r.map φ))].length = pn_law_told.length then giveF (e_law_told.1 (startS nm_law_told [.list (nI (r.map φ))])) else none) = _
  rw [if_pos (show [V.list (nI (r.map φ))].length = pn_law_told.length from rfl), f_law_told_eq]
  show giveF (f_law_told [F (.list (nI (r.map φ))), none, none, none, none, none, none, none]) = _
  have e0 : law_told_s0 [F (.list (nI (r.map φ))), none, none, none, none, none, none, none] = some ([F (.list (nI (r.map φ))), OD (([] : List (List Nat × List Nat)).map (DIr φ)), none, none, none, none, none, none], .next) := rfl
  have r15 : rangeV [.int 1, .int 5] = some (nI [1, 2, 3, 4]) := by kernel_rfl
  obtain ⟨σ', e1, _, p2, p3, t2, t3, t4, t5, t6, t7, e3⟩ := forF_inv (st := fun v σ => some (setF 2 v σ)) (b := law_told_s1_b) (fun d : Nat => V.int (d : Int)) (fun D j => (List.range j).foldl (fun D i => storeR D (two r i j).reverse (row3 r i j).reverse) D)
    (fun q E σ => (∀ j ∈ q, j < 5) ∧ (∀ p ∈ E, Dom n p.1) ∧ E.length + 5 * q.length ≤ 20 ∧ ∃ t2 t3 t4 t5 t6 t7, σ = [F (.list (nI (r.map φ))), OD (E.map (DIr φ)), t2, t3, t4, t5, t6, t7])
    (fun j q E σ => by
      rintro ⟨q1, q2, q3, t2, t3, t4, t5, t6, t7, rfl⟩
      simp only [List.length_cons] at q3
      have hj := q1 j (by simp)
      have hlt : ∀ i ∈ List.range j, i < 5 := fun i hi => by
        have h : i < j := by simpa using hi
        (first | lia | omega)
      obtain ⟨u3, u4, u5, u6, u7, e, k1, k2⟩ := told_in (s3 := t3) (s4 := t4) (s5 := t5) (s6 := t6) (s7 := t7) H hr h5 hj (List.range j) E hlt q2 (by simp; (first | lia | omega))
      refine ⟨_, [F (.list (nI (r.map φ))), OD (((List.range j).foldl (fun D i => storeR D (two r i j).reverse (row3 r i j).reverse) E).map (DIr φ)), FI j, u3, u4, u5, u6, u7], rfl, ?_, fun x hx => q1 x (by simp [hx]), k1, ?_, FI j, u3, u4, u5, u6, u7, rfl⟩
      · have rN : rangeV [.int (j : Int)] = some (nI (List.range j)) := by
          rw [range_nat (by unfold lim; (first | lia | omega)), ← List.range_eq_range']
        simp only [setF_succ, setF_zero]
        have b0 : law_told_s1_b_s0 [F (.list (nI (r.map φ))), OD (E.map (DIr φ)), FI j, t3, t4, t5, t6, t7] = some ([F (.list (nI (r.map φ))), OD (((List.range j).foldl (fun D i => storeR D (two r i j).reverse (row3 r i j).reverse) E).map (DIr φ)), FI j, u3, u4, u5, u6, u7], .next) := by
          simp only [law_told_s1_b_s0, getF_succ, getF_zero, Option.bind_some, Option.map_some, rN]
          exact e
        unfold law_told_s1_b
        exact seqF_next b0
      · simp only [List.length_range] at k2; (first | lia | omega))
    [1, 2, 3, 4] [] [F (.list (nI (r.map φ))), OD (([] : List (List Nat × List Nat)).map (DIr φ)), none, none, none, none, none, none] ⟨by simp, by simp, by simp, none, none, none, none, none, none, rfl⟩
  subst e3
  have hT : List.foldl (fun D j => (List.range j).foldl (fun D i => storeR D (two r i j).reverse (row3 r i j).reverse) D) [] [1, 2, 3, 4] = toldR r := rfl
  rw [hT] at e1 p2 p3
  have hlen : (toldR r).length ≤ 20 := by simpa using p3
  have e1' : law_told_s1 [F (.list (nI (r.map φ))), OD (([] : List (List Nat × List Nat)).map (DIr φ)), none, none, none, none, none, none] = some ([F (.list (nI (r.map φ))), OD ((toldR r).map (DIr φ)), t2, t3, t4, t5, t6, t7], .next) := by
    simp only [law_told_s1, Option.bind_some, Option.map_some, r15]
    exact e1
  have hkeys : ((toldR r).map (DIr φ)).map (·.1) = ((toldR r).map (·.1)).map (NI φ) := by simp [DIr, List.map_map, Function.comp_def]
  have hKd : ∀ k ∈ (toldR r).map (·.1), Dom n k := fun k hk => by
    obtain ⟨p, hp, rfl⟩ := List.mem_map.mp hk
    exact p2 p hp
  have so : sortedV2 [.dict ((toldR r).map (DIr φ))] = some (.list ((sortW ((toldR r).map (·.1))).map fun k => V.int (NI φ k))) := by
    simp only [sortedV2]
    rw [if_pos (by simp; (first | lia | omega)), hkeys, sortW_map H _ hKd, List.map_map]
    rfl
  have hm : maskS [false, true, false, false, false, false, false, false] [F (.list (nI (r.map φ))), F (.dict ((toldR r).map (DIr φ))), t2, t3, t4, t5, t6, t7] = [none, F (.dict ((toldR r).map (DIr φ))), none, none, none, none, none, none] := by simp [maskS]
  have key := loopL_map (t := fun zz => some true) (g := fun v => Option.map (fun v => [v]) (Option.map V.list (((getF (some (Slot.frz v) :: [none, F (.dict ((toldR r).map (DIr φ))), none, none, none, none, none, none]) 0).bind fun v_1 => Option.map (fun x => v_1 :: x)
      ((((getF (some (Slot.frz v) :: [none, F (.dict ((toldR r).map (DIr φ))), none, none, none, none, none, none]) 2).bind asDict).bind fun xs => (getF (some (Slot.frz v) :: [none, F (.dict ((toldR r).map (DIr φ))), none, none, none, none, none, none]) 0).bind fun v => lookDV xs v).bind
        fun v => Option.map (fun x => v :: x) (some []))).bind fun vs => if vs.length ≤ lim then some vs else none)))
    (sortW ((toldR r).map (·.1))) (fun k => V.int (NI φ k)) (fun k => takV φ (k, (lookR (toldR r) k).getD [])) (fun zz zz => rfl) (fun k hk => by
      have hk' := sortW_mem _ _ hk
      obtain ⟨v, hv⟩ := lookR_some _ _ hk'
      have hl := lookR_map H (hKd k hk') (toldR r) p2
      rw [hv] at hl
      simp only [getF_succ, getF_zero, Option.bind_some, asDict, lookDV, hl, Option.map_some]
      rw [if_pos (by unfold lim; simp), hv]
      rfl)
  have hsl : ∀ l : List (List Nat), (sortW l).length = l.length := fun l => by
    induction l with
    | nil => rfl
    | cons x l ih =>
      have : ∀ l : List (List Nat), (ins1W x l).length = l.length + 1 := fun l => by
        induction l with
        | nil => rfl
        | cons y l ih => unfold ins1W; split <;> simp [ih]
      rw [sortW, this, ih]; rfl
  have e2 : law_told_s2_s0 [F (.list (nI (r.map φ))), F (.dict ((toldR r).map (DIr φ))), t2, t3, t4, t5, t6, t7] = some ([F (.list (nI (r.map φ))), F (.dict ((toldR r).map (DIr φ))), t2, t3, t4, t5, t6, t7], .ret (.list ((wantR r).map (takV φ)))) := by
    simp only [law_told_s2_s0, getF_succ, getF_zero, Option.bind_some, Option.map_some, so, iterV, hm]
    simp only [getF_succ, getF_zero, Option.bind_some, Option.map_some] at key
    rw [key]
    simp only [Option.bind_some]
    rw [if_pos (by rw [List.length_map, hsl, List.length_map]; unfold lim; (first | lia | omega))]
    simp [wantR, List.map_map, Function.comp_def]
  have e2' : law_told_s2 [F (.list (nI (r.map φ))), OD ((toldR r).map (DIr φ)), t2, t3, t4, t5, t6, t7] = some ([F (.list (nI (r.map φ))), F (.dict ((toldR r).map (DIr φ))), t2, t3, t4, t5, t6, t7], .ret (.list ((wantR r).map (takV φ)))) := by
    unfold law_told_s2
    exact seqF_ret e2
  unfold f_law_told
  rw [seqF_next e0, seqF_next e1', e2']
  rfl
end
end Lw

namespace Lw
open PySem PyProof.Rows
set_option maxRecDepth 10000

noncomputable def rest (r : List Nat) (i j : Nat) : List Nat := r.take i ++ (r.drop (i + 1)).take (j - (i + 1)) ++ r.drop (j + 1)
noncomputable def lineR (r : List Nat) : List (List Nat) := [1, 2, 3, 4].foldl (fun W j => (List.range j).foldl (fun W i => insW (insW W (two r i j).reverse) (rest r i j).reverse) W) []
theorem insW_len : ∀ (W : List (List Nat)) (w : List Nat), (insW W w).length ≤ W.length + 1
  | [], _ => by simp [insW]
  | x :: r, w => by
    have := insW_len r w
    unfold insW
    split
    · simp only [List.length_cons]; (first | lia | omega)
    · split <;> simp

section
variable {φ : Nat → Nat} {n : Nat} {s0 s1 s2 s3 s4 s5 : Option Slot}
theorem line_step (H : Mono φ n) {r : List Nat} (hr : In n r) (h5 : r.length = 5) {i j : Nat} (hi : i < j) (hj : j < 5) {W : List (List Nat)} (hW : ∀ w ∈ W, Dom n w) (hl : W.length < 48) :
    law_s3_b_s0_b [s0, s1, F (.list (nI (r.map φ))), OL (iI (W.map (NI φ))), FI j, FI i] =
      some ([s0, s1, F (.list (nI (r.map φ))), OL (iI ((insW (insW W (two r i j).reverse) (rest r i j).reverse).map (NI φ))), FI j, FI i], .next) ∧ (∀ w ∈ insW (insW W (two r i j).reverse) (rest r i j).reverse, Dom n w) := by
  have g1 := fig_get (φ := φ) (r := r) (i := i) (by (first | lia | omega)) (by (first | lia | omega))
  have g2 := fig_get (φ := φ) (r := r) (i := j) (by (first | lia | omega)) (by (first | lia | omega))
  have l2 : ∀ p q : V, [p, q].length ≤ lim := fun zz zz => by unfold lim; simp
  have hA : law_argA [s0, s1, F (.list (nI (r.map φ))), OL (iI (W.map (NI φ))), FI j, FI i] = some [.list (nI ((two r i j).map φ))] := by
    simp only [law_argA, getF_succ, getF_zero, Option.bind_some, Option.map_some, asList, g1, g2]
    rw [if_pos (l2 _ _)]
    rfl
  have hlen : (nI (r.map φ)).length ≤ lim := by unfold lim; simp; (first | lia | omega)
  have s1' := (slice_nat hlen 0 i).1
  have s2' := (slice_nat hlen (i + 1) j).2.2
  have s3' := (slice_nat hlen (j + 1) 0).2.1
  have hrest : nI ((rest r i j).map φ) = ((nI (r.map φ)).take i ++ ((nI (r.map φ)).drop (i + 1)).take (j - (i + 1))) ++ (nI (r.map φ)).drop (j + 1) := by
    simp [nI, rest, List.map_take, List.map_drop]
  have a1 : addV (.list ((nI (r.map φ)).take i)) (.list (((nI (r.map φ)).drop (i + 1)).take (j - (i + 1)))) = some (.list ((nI (r.map φ)).take i ++ ((nI (r.map φ)).drop (i + 1)).take (j - (i + 1)))) := if_pos (by
    simp only [List.length_take, List.length_drop, List.length_map]; unfold lim; (first | lia | omega))
  have a2 : addV (.list ((nI (r.map φ)).take i ++ ((nI (r.map φ)).drop (i + 1)).take (j - (i + 1)))) (.list ((nI (r.map φ)).drop (j + 1))) = some (.list (nI ((rest r i j).map φ))) := by
    rw [hrest]
    exact if_pos (by simp only [List.length_append, List.length_take, List.length_drop, List.length_map]; unfold lim; (first | lia | omega))
  have pi1 : partV (.int ((i : Int) + 1)) = some (some (((i + 1 : Nat) : Int))) := part_nat (i := i + 1) (by (first | lia | omega))
  have pj1 : partV (.int ((j : Int) + 1)) = some (some (((j + 1 : Nat) : Int))) := part_nat (i := j + 1) (by (first | lia | omega))
  have hB : ∀ Wx : List Int, law_argB [s0, s1, F (.list (nI (r.map φ))), OL (iI Wx), FI j, FI i] = some [.list (nI ((rest r i j).map φ))] := fun Wx => by
    simp only [law_argB, getF_succ, getF_zero, Option.bind_some, Option.map_some, asList, part_nat (show i ≤ 1000000 by (first | lia | omega)), part_nat (show j ≤ 1000000 by (first | lia | omega)), add_int, pi1, pj1, s1', s2', s3', a1, a2]
  have h2 := two_in hr (i := i) (j := j) (by (first | lia | omega)) (by (first | lia | omega))
  have d2 : Dom n (two r i j).reverse := ⟨fun d hd => h2 d (by simpa using hd), .inl rfl⟩
  have hr3 : (rest r i j).length = 3 := by
    simp only [rest, List.length_append, List.length_take, List.length_drop]; (first | lia | omega)
  have d3 : Dom n (rest r i j).reverse := ⟨fun d hd => by
    have hd : d ∈ rest r i j := by simpa using hd
    unfold rest at hd
    rcases List.mem_append.mp hd with hd | hd
    · rcases List.mem_append.mp hd with hd | hd
      · exact hr d (List.mem_of_mem_take hd)
      · exact hr d (List.mem_of_mem_drop (List.mem_of_mem_take hd))
    · exact hr d (List.mem_of_mem_drop hd), .inr (by simpa using hr3)⟩
  have nb1 : g_law_number [.list (nI ((two r i j).map φ))] = some (.int (NI φ (two r i j).reverse)) := by
    rw [number_give (by rw [List.length_map]; exact .inl rfl), num_rev]
  have nb2 : g_law_number [.list (nI ((rest r i j).map φ))] = some (.int (NI φ (rest r i j).reverse)) := by
    rw [number_give (by rw [List.length_map]; exact .inr hr3), num_rev]
  have ly : ∀ {X : List (List Nat)} {w : List Nat}, (∀ x ∈ X, Dom n x) → Dom n w → X.length ≤ 50 → g_law_lay (X.map (NI φ)) (NI φ w) = some ((insW X w).map (NI φ)) := fun {X w} hX hw hXl => by
    rw [lay_give (by simpa using hXl), insI_map H X w hX hw]
  have dW1 : ∀ w ∈ insW W (two r i j).reverse, Dom n w := fun w hw => by
    rcases insW_mem _ _ _ hw with rfl | h
    · exact d2
    · exact hW w h
  have hl1 := insW_len W (two r i j).reverse
  refine ⟨?_, fun w hw => by
    rcases insW_mem _ _ _ hw with rfl | h
    · exact d3
    · exact dW1 w h⟩
  have e0 : law_s3_b_s0_b_s0 [s0, s1, F (.list (nI (r.map φ))), OL (iI (W.map (NI φ))), FI j, FI i] = some ([s0, s1, F (.list (nI (r.map φ))), OL (iI ((insW W (two r i j).reverse).map (NI φ))), FI j, FI i], .next) := by
    simp only [law_s3_b_s0_b_s0, getO_succ, getO_zero, Option.bind_some, ints?_map, hA, nb1, ly hW d2 (by (first | lia | omega)), Option.map_some]
    rfl
  have e1 : law_s3_b_s0_b_s1 [s0, s1, F (.list (nI (r.map φ))), OL (iI ((insW W (two r i j).reverse).map (NI φ))), FI j, FI i] = some ([s0, s1, F (.list (nI (r.map φ))), OL (iI ((insW (insW W (two r i j).reverse) (rest r i j).reverse).map (NI φ))), FI j, FI i], .next) := by
    simp only [law_s3_b_s0_b_s1, getO_succ, getO_zero, Option.bind_some, ints?_map, hB, nb2, ly dW1 d3 (by (first | lia | omega)), Option.map_some]
    rfl
  unfold law_s3_b_s0_b
  rw [seqF_next e0, seqF_next e1]

theorem line_loop (H : Mono φ n) {r : List Nat} (hr : In n r) (h5 : r.length = 5) : ∃ t4 t5, law_s3 [s0, s1, F (.list (nI (r.map φ))), OL [], s4, s5] = some ([s0, s1, F (.list (nI (r.map φ))), OL (iI ((lineR r).map (NI φ))), t4, t5], .next) ∧ (∀ w ∈ lineR r, Dom n w) ∧ (lineR r).length ≤ 40 := by
  have r15 : rangeV [.int 1, .int 5] = some (nI [1, 2, 3, 4]) := by kernel_rfl
  obtain ⟨σ', e1, _, p2, p3, t4, t5, e3⟩ := forF_inv (st := fun v σ => some (setF 4 v σ)) (b := law_s3_b) (fun d : Nat => V.int (d : Int)) (fun W j => (List.range j).foldl (fun W i => insW (insW W (two r i j).reverse) (rest r i j).reverse) W)
    (fun q W σ => (∀ j ∈ q, j < 5) ∧ (∀ w ∈ W, Dom n w) ∧ W.length + 10 * q.length ≤ 40 ∧ ∃ t4 t5, σ = [s0, s1, F (.list (nI (r.map φ))), OL (iI (W.map (NI φ))), t4, t5])
    (fun j q W σ => by
      rintro ⟨q1, q2, q3, t4, t5, rfl⟩
      simp only [List.length_cons] at q3
      have hj := q1 j (by simp)
      have hlt : ∀ i ∈ List.range j, i < j := fun i hi => by simpa using hi
      have rN : rangeV [.int (j : Int)] = some (nI (List.range j)) := by
        rw [range_nat (by unfold lim; (first | lia | omega)), ← List.range_eq_range']
      obtain ⟨σ', e, _, k2, k3, u5, e3⟩ := forF_inv (st := fun v σ => some (setF 5 v σ)) (b := law_s3_b_s0_b) (fun d : Nat => V.int (d : Int)) (fun W i => insW (insW W (two r i j).reverse) (rest r i j).reverse)
        (fun p X σ => (∀ i ∈ p, i < j) ∧ (∀ w ∈ X, Dom n w) ∧ X.length + 2 * p.length ≤ W.length + 2 * j ∧ ∃ t5, σ = [s0, s1, F (.list (nI (r.map φ))), OL (iI (X.map (NI φ))), FI j, t5])
        (fun i p X σ => by
          rintro ⟨m1, m2, m3, t5, rfl⟩
          simp only [List.length_cons] at m3
          obtain ⟨e, hd⟩ := line_step (s0 := s0) (s1 := s1) H hr h5 (m1 i (by simp)) hj m2 (by (first | lia | omega))
          refine ⟨_, _, rfl, e, fun x hx => m1 x (by simp [hx]), hd, ?_, FI i, rfl⟩
          have h1 := insW_len X (two r i j).reverse
          have h2 := insW_len (insW X (two r i j).reverse) (rest r i j).reverse
          (first | lia | omega))
        (List.range j) W [s0, s1, F (.list (nI (r.map φ))), OL (iI (W.map (NI φ))), FI j, t5] ⟨hlt, q2, by simp, t5, rfl⟩
      subst e3
      refine ⟨_, [s0, s1, F (.list (nI (r.map φ))), OL (iI (((List.range j).foldl (fun W i => insW (insW W (two r i j).reverse) (rest r i j).reverse) W).map (NI φ))), FI j, u5], rfl, ?_, fun x hx => q1 x (by simp [hx]), k2, ?_, FI j, u5, rfl⟩
      · simp only [setF_succ, setF_zero]
        have b0 : law_s3_b_s0 [s0, s1, F (.list (nI (r.map φ))), OL (iI (W.map (NI φ))), FI j, t5] = some ([s0, s1, F (.list (nI (r.map φ))), OL (iI (((List.range j).foldl (fun W i => insW (insW W (two r i j).reverse) (rest r i j).reverse) W).map (NI φ))), FI j, u5], .next) := by
          simp only [law_s3_b_s0, getF_succ, getF_zero, Option.bind_some, Option.map_some, rN]
          exact e
        unfold law_s3_b
        exact seqF_next b0
      · simp only [List.length_nil] at k3; (first | lia | omega))
    [1, 2, 3, 4] [] [s0, s1, F (.list (nI (r.map φ))), OL (iI (([] : List (List Nat)).map (NI φ))), s4, s5] ⟨by simp, by simp, by simp, s4, s5, rfl⟩
  subst e3
  have hT : List.foldl (fun W j => (List.range j).foldl (fun W i => insW (insW W (two r i j).reverse) (rest r i j).reverse) W) [] [1, 2, 3, 4] = lineR r := rfl
  rw [hT] at e1 p2 p3
  refine ⟨t4, t5, ?_, p2, by simpa using p3⟩
  simp only [law_s3, Option.bind_some, Option.map_some, r15]
  exact e1
end
end Lw

namespace Lw
open PySem PyProof.Rows
set_option maxRecDepth 10000

noncomputable def dueR (r : List Nat) : Nat := 2 * min 2 ([2, 3, 4].filter fun k => decide (r.getD (k - 1) 0 ≠ r.getD k 0)).length
noncomputable def slidesR (r : List Nat) : Bool := decide (levP (((r.drop 1).take 3).reverse.map (65 + ·)) ((r.drop 2).reverse.map (65 + ·)) (dueR r) = dueR r)
noncomputable def CheckR (r : List Nat) : Bool := decide (takeR (lineR r) = (wantR r, [])) && slidesR r
theorem check_all : ∀ a < 2, ∀ b < 2, ∀ c < 2, ∀ d < 2, CheckR [1, 1 + a, 1 + a + b, 1 + a + b + c, 1 + a + b + c + d] = true := by decide +kernel

section
variable {φ : Nat → Nat} {n : Nat} {s0 s1 s2 s3 s4 s5 : Option Slot}
theorem lev_ranks (H : Mono φ n) {u v : List Nat} (hu : In n u) (hv : In n v) (m : Nat) : levP (LW φ u) (LW φ v) m = levP (u.map (65 + ·)) (v.map (65 + ·)) m := by
  unfold LW
  rw [List.map_map, List.map_map]
  refine levP_two (fun a ha b hb => ?_) m
  have h1 := hu a ha
  have h2 := hv b hb
  have h3 := H.hi a h1.1 h1.2
  have h4 := H.hi b h2.1 h2.2
  have e := H.eq_iff h1 h2
  have e' := H.eq_iff h2 h1
  have hn := H.n15
  simp only [Function.comp]
  rw [subC_cap (by (first | lia | omega)) (by (first | lia | omega)), subC_cap (by (first | lia | omega)) (by (first | lia | omega)), subC_cap (by (first | lia | omega)) (by (first | lia | omega)), subC_cap (by (first | lia | omega)) (by (first | lia | omega))]
  simp only [e, e']
  exact ⟨⟨fun h => by rw [e.mp (by (first | lia | omega))], fun h => by rw [show a = b by (first | lia | omega)]⟩, trivial, trivial⟩

theorem slides_give (H : Mono φ n) {r : List Nat} (hr : In n r) (h5 : r.length = 5) (hs : slidesR r = true) : g_law_slides [.list (nI (r.map φ))] = some (.bool true) := by
  show (if [V.list (nI (r.map φ))].length = pn_law_slides.length then giveF (e_law_slides.1 (startS nm_law_slides [.list (nI (r.map φ))])) else none) = _
  rw [if_pos (show [V.list (nI (r.map φ))].length = pn_law_slides.length from rfl), f_law_slides_eq]
  show giveF (f_law_slides [F (.list (nI (r.map φ))), none, none, none]) = _
  have hm : maskS [true, false, false, false] [F (.list (nI (r.map φ))), none, none, none] = [F (.list (nI (r.map φ))), none, none, none] := by simp [maskS]
  have r25 : rangeV [.int 2, .int 5] = some (nI [2, 3, 4]) := by kernel_rfl
  have key := loopL_pick (t := fun v => (((getF (some (Slot.frz v) :: [F (.list (nI (r.map φ))), none, none, none]) 1).bind asList).bind fun xs => ((getF (some (Slot.frz v) :: [F (.list (nI (r.map φ))), none, none, none]) 0).bind fun a => (some (V.int 1)).bind fun b => subV a b).bind fun v => idxLV xs v).bind
      fun a => (((getF (some (Slot.frz v) :: [F (.list (nI (r.map φ))), none, none, none]) 1).bind asList).bind fun xs => (getF (some (Slot.frz v) :: [F (.list (nI (r.map φ))), none, none, none]) 0).bind fun v => idxLV xs v).bind fun b => cmpV CmpOp.NotEq a b)
    (g := fun v => Option.map (fun v => [v]) (getF (some (Slot.frz v) :: [F (.list (nI (r.map φ))), none, none, none]) 0))
    (fun k => decide (r.getD (k - 1) 0 ≠ r.getD k 0)) (fun k : Nat => V.int (k : Int)) (fun k : Nat => V.int (k : Int)) [2, 3, 4] (fun k hk => by
      have hk' : 1 ≤ k ∧ k ≤ 4 := by
        simp only [List.mem_cons, List.not_mem_nil, or_false] at hk; (first | lia | omega)
      have g1 := fig_get (φ := φ) (r := r) (i := k - 1) (by (first | lia | omega)) (by (first | lia | omega))
      have g2 := fig_get (φ := φ) (r := r) (i := k) (by (first | lia | omega)) (by (first | lia | omega))
      have e := H.eq_iff (in_get hr (i := k - 1) (by (first | lia | omega))) (in_get hr (i := k) (by (first | lia | omega)))
      have hk1 : ((k : Int) - 1) = ((k - 1 : Nat) : Int) := by (first | lia | omega)
      simp only [getF_succ, getF_zero, Option.bind_some, asList, sub_int, hk1, g1, g2, cmpV]
      congr 1
      rw [← decide_not]
      exact decide_eq_decide.mpr (by rw [ne_eq, ← e]; (first | lia | omega))) (fun k hk zz => by simp only [getF_zero, Option.map_some])
  have hcl : ([2, 3, 4].filter fun k => decide (r.getD (k - 1) 0 ≠ r.getD k 0)).length ≤ 3 := List.length_filter_le _ _
  have e0 : law_slides_s0 [F (.list (nI (r.map φ))), none, none, none] = some ([F (.list (nI (r.map φ))), FI (dueR r : Nat), none, none], .next) := by
    simp only [law_slides_s0, Option.bind_some, Option.map_some, r25, hm]
    simp only [Option.bind_some] at key
    rw [key]
    simp only [Option.bind_some]
    rw [if_pos (by rw [List.length_map]; unfold lim; (first | lia | omega))]
    simp only [Option.map_some, Option.bind_some]
    rw [len_list (by rw [List.length_map]; unfold lim; (first | lia | omega)), List.length_map]
    have mn : minV [.int 2, .int ((([2, 3, 4].filter fun k => decide (r.getD (k - 1) 0 ≠ r.getD k 0)).length : Nat) : Int)] = some (.int ((min 2 ([2, 3, 4].filter fun k => decide (r.getD (k - 1) 0 ≠ r.getD k 0)).length : Nat) : Int)) := by
      rw [min_int]
      congr 2
      split <;> (first | lia | omega)
    simp only [Option.map_some, Option.bind_some, mn]
    rw [mul_int (by decide)]
    rfl
  have hlen : (nI (r.map φ)).length ≤ lim := by unfold lim; simp; (first | lia | omega)
  have t1 := (slice_nat hlen 1 4).2.2
  have t2 := (slice_nat hlen 2 0).2.1
  have n1 : nI (((r.drop 1).take 3).map φ) = ((nI (r.map φ)).drop 1).take (4 - 1) := by simp [nI, List.map_take, List.map_drop]
  have n2 : nI ((r.drop 2).map φ) = (nI (r.map φ)).drop 2 := by simp [nI, List.map_drop]
  have l1 : ((r.drop 1).take 3).length = 3 := by simp only [List.length_take, List.length_drop]; (first | lia | omega)
  have l2 : (r.drop 2).length = 3 := by simp only [List.length_drop]; (first | lia | omega)
  have i1 : In n ((r.drop 1).take 3).reverse := fun d hd => hr d (List.mem_of_mem_drop (List.mem_of_mem_take (List.mem_reverse.mp hd)))
  have i2 : In n (r.drop 2).reverse := fun d hd => hr d (List.mem_of_mem_drop (List.mem_reverse.mp hd))
  have d1 : Dom n ((r.drop 1).take 3).reverse := ⟨i1, .inr (by simpa using l1)⟩
  have d2 : Dom n (r.drop 2).reverse := ⟨i2, .inr (by simpa using l2)⟩
  have nb1 : g_law_number [.list (((nI (r.map φ)).drop 1).take (4 - 1))] = some (.int (NI φ ((r.drop 1).take 3).reverse)) := by
    rw [← n1, number_give (by rw [List.length_map]; exact .inr l1), num_rev]
  have nb2 : g_law_number [.list ((nI (r.map φ)).drop 2)] = some (.int (NI φ (r.drop 2).reverse)) := by
    rw [← n2, number_give (by rw [List.length_map]; exact .inr l2), num_rev]
  have lt := lt01 (dom_wd H d1)
  have w2 := dom_wd H d2
  have hsm := num_small w2
  have ap : g_Int2AP [.int (NI φ (r.drop 2).reverse)] = some (.bytes (((r.drop 2).reverse.map φ).map ltr)) := by
    have ha : (NI φ (r.drop 2).reverse).natAbs = num ((r.drop 2).reverse.map φ) := by unfold NI NW; (first | lia | omega)
    rw [ap01 (by rw [ha]; (first | lia | omega)), ha, ap_word w2]
  have dc := decode_word w2
  have p1 : partV (.int 1) = some (some 1) := rfl
  have p2 : partV (.int 2) = some (some 2) := rfl
  have p4 : partV (.int 4) = some (some 4) := rfl
  have t1' : sliceV (nI (r.map φ)) (some 1) (some 4) none = some (((nI (r.map φ)).drop 1).take (4 - 1)) := t1
  have t2' : sliceV (nI (r.map φ)) (some 2) none none = some ((nI (r.map φ)).drop 2) := t2
  have lt' : g_law_letters [.int (NI φ ((r.drop 1).take 3).reverse)] = some (.str (LW φ ((r.drop 1).take 3).reverse)) := lt
  have e1 : law_slides_s1 [F (.list (nI (r.map φ))), FI (dueR r : Nat), none, none] = some ([F (.list (nI (r.map φ))), FI (dueR r : Nat), F (.str (LW φ ((r.drop 1).take 3).reverse)), none], .next) := by
    simp only [law_slides_s1, getF_zero, Option.bind_some, Option.map_some, asList, p1, p4, t1', nb1, lt', setF_succ, setF_zero]
  have e2 : law_slides_s2 [F (.list (nI (r.map φ))), FI (dueR r : Nat), F (.str (LW φ ((r.drop 1).take 3).reverse)), none] = some ([F (.list (nI (r.map φ))), FI (dueR r : Nat), F (.str (LW φ ((r.drop 1).take 3).reverse)), F (.str (LW φ (r.drop 2).reverse))], .next) := by
    simp only [law_slides_s2, getF_zero, Option.bind_some, Option.map_some, asList, p2, t2', nb2, ap, isBytesV, if_true, dc, setF_succ, setF_zero]
    rfl
  obtain ⟨o1, o2, _⟩ := lw_ok H d1
  obtain ⟨o3, o4, _⟩ := lw_ok H d2
  have lv := lev01 (m := dueR r) (by (first | lia | omega)) (by (first | lia | omega)) o2 o4
  rw [lev_ranks H i1 i2] at lv
  have e3 : law_slides_s3 [F (.list (nI (r.map φ))), FI (dueR r : Nat), F (.str (LW φ ((r.drop 1).take 3).reverse)), F (.str (LW φ (r.drop 2).reverse))] = some ([F (.list (nI (r.map φ))), FI (dueR r : Nat), F (.str (LW φ ((r.drop 1).take 3).reverse)), F (.str (LW φ (r.drop 2).reverse))], .ret (.bool true)) := by
    have hd := of_decide_eq_true hs
    simp only [law_slides_s3, getF_succ, getF_zero, Option.bind_some, Option.map_some, lv, cmpV, hd, decide_true]
  unfold f_law_slides
  rw [seqF_next e0, seqF_next e1, seqF_next e2, seqF_ret e3]
  rfl
end
end Lw

namespace Lw
open PySem PyProof.Rows
set_option maxRecDepth 10000

/-- ranks for figures that rise -/
structure Rk (φ : Nat → Nat) (n : Nat) (r fs : List Nat) (l : Nat) : Prop where
  mono : Mono φ n
  inn : In n r
  map : r.map φ = fs
  last : φ n = l
  pos : 1 ≤ n
noncomputable def upR (φ : Nat → Nat) (n f i : Nat) : Nat := if i = n + 1 then f else φ i
theorem rk_step {φ : Nat → Nat} {n : Nat} {r fs : List Nat} {l f : Nat} (H : Rk φ n r fs l) (hn : n < 15) (h1 : l ≤ f) (h2 : f ≤ 15) : ∃ b < 2, ∃ φ', Rk φ' (n + b) (r ++ [n + b]) (fs ++ [f]) f := by
  by_cases h : l = f
  · subst h
    refine ⟨0, by decide, φ, H.mono, fun d hd => ?_, ?_, H.last, H.pos⟩
    · rcases List.mem_append.mp hd with hd | hd
      · exact H.inn d hd
      · simp only [List.mem_singleton] at hd; subst hd; exact ⟨H.pos, Nat.le_refl _⟩
    · rw [List.map_append, H.map]; simp [H.last]
  · have hφ : ∀ i, i ≤ n → upR φ n f i = φ i := fun i hi => if_neg (by (first | lia | omega))
    have hf : upR φ n f (n + 1) = f := if_pos rfl
    refine ⟨1, by decide, upR φ n f, ⟨fun i j hi hij hj => ?_, fun i hi hin => ?_, fun i hi hin => ?_, by (first | lia | omega)⟩, fun d hd => ?_, ?_, hf, by (first | lia | omega)⟩
    · by_cases hjn : j = n + 1
      · subst hjn
        rw [hf, hφ i (by (first | lia | omega))]
        rcases Nat.lt_or_ge i n with q | q
        · have := H.mono.inc i n hi q (Nat.le_refl _)
          have := H.last; (first | lia | omega)
        · have : i = n := by (first | lia | omega)
          subst this
          have := H.last; (first | lia | omega)
      · rw [hφ i (by (first | lia | omega)), hφ j (by (first | lia | omega))]
        exact H.mono.inc i j hi hij (by (first | lia | omega))
    · by_cases hin' : i = n + 1
      · subst hin'
        rw [hf]
        have := H.mono.lo n H.pos (Nat.le_refl _)
        have := H.last; (first | lia | omega)
      · rw [hφ i (by (first | lia | omega))]; exact H.mono.lo i hi (by (first | lia | omega))
    · by_cases hin' : i = n + 1
      · subst hin'; rw [hf]; exact h2
      · rw [hφ i (by (first | lia | omega))]; exact H.mono.hi i hi (by (first | lia | omega))
    · rcases List.mem_append.mp hd with hd | hd
      · have := H.inn d hd; (first | lia | omega)
      · simp only [List.mem_singleton] at hd; (first | lia | omega)
    · rw [List.map_append, List.map_cons, List.map_nil, hf, ← H.map]
      congr 1
      exact List.map_congr_left fun d hd => hφ d (H.inn d hd).2

theorem ranks {a b c d e : Nat} (ha : 1 ≤ a) (hab : a ≤ b) (hbc : b ≤ c) (hcd : c ≤ d) (hde : d ≤ e) (he : e ≤ 15) : ∃ φ n r, Mono φ n ∧ In n r ∧ r.length = 5 ∧ r.map φ = [a, b, c, d, e] ∧ CheckR r = true := by
  have R0 : Rk (fun zz => a) 1 [1] [a] a := ⟨⟨fun i j zz zz zz => by (first | lia | omega), fun zz zz zz => ha, fun zz zz zz => by (first | lia | omega), by decide⟩, fun d hd => by simp only [List.mem_singleton] at hd; (first | lia | omega), rfl, rfl, by decide⟩
  obtain ⟨w, hw, φ1, R1⟩ := rk_step R0 (by decide) hab (by (first | lia | omega))
  obtain ⟨x, hx, φ2, R2⟩ := rk_step R1 (by (first | lia | omega)) hbc (by (first | lia | omega))
  obtain ⟨y, hy, φ3, R3⟩ := rk_step R2 (by (first | lia | omega)) hcd (by (first | lia | omega))
  obtain ⟨z, hz, φ4, R4⟩ := rk_step R3 (by (first | lia | omega)) hde he
  exact ⟨φ4, _, _, R4.mono, R4.inn, rfl, R4.map, check_all w hw x hx y hy z hz⟩

/-- five figures in rising order -/
inductive Five : List Int → Prop
  | mk (a b c d e : Nat) : 1 ≤ a → a ≤ b → b ≤ c → c ≤ d → d ≤ e → e ≤ 15 → Five [(a : Int), b, c, d, e]

theorem five_of {p q r s t : Int} (hm : ∀ x ∈ [p, q, r, s, t], 1 ≤ x ∧ x ≤ 15) (hs : [p, q, r, s, t].Pairwise (· ≤ ·)) : Five [p, q, r, s, t] := by
  have h1 := hm p (by simp)
  have h4 := hm t (by simp)
  simp only [List.pairwise_cons, List.mem_cons, List.not_mem_nil, or_false] at hs
  have e1 := hs.1 q (.inl rfl)
  have e2 := hs.2.1 r (.inl rfl)
  have e3 := hs.2.2.1 s (.inl rfl)
  have e4 := hs.2.2.2.1 t rfl
  clear hs hm
  obtain ⟨p, rfl⟩ := Int.eq_ofNat_of_zero_le (show 0 ≤ p by (first | lia | omega))
  obtain ⟨q, rfl⟩ := Int.eq_ofNat_of_zero_le (show 0 ≤ q by (first | lia | omega))
  obtain ⟨r, rfl⟩ := Int.eq_ofNat_of_zero_le (show 0 ≤ r by (first | lia | omega))
  obtain ⟨s, rfl⟩ := Int.eq_ofNat_of_zero_le (show 0 ≤ s by (first | lia | omega))
  obtain ⟨t, rfl⟩ := Int.eq_ofNat_of_zero_le (show 0 ≤ t by (first | lia | omega))
  exact .mk p q r s t (by (first | lia | omega)) (by (first | lia | omega)) (by (first | lia | omega)) (by (first | lia | omega)) (by (first | lia | omega)) (by (first | lia | omega))

noncomputable def figs (ns : List Int) : List Int := [0, 1, 2, 3, 4].map fun k : Nat => 1 + ([1, 4, 7, 8, 14].getD k 0 + SSk 5 ns k) % 15
theorem figs_sorted (ns : List Int) : Five (isort (figs ns)) := by
  have hp := isort_perm (figs ns)
  have hs := isort_sorted (figs ns)
  have hl : (isort (figs ns)).length = 5 := hp.length_eq
  have hm : ∀ x ∈ isort (figs ns), 1 ≤ x ∧ x ≤ 15 := fun x hx => by
    obtain ⟨k, _, rfl⟩ := List.mem_map.mp (hp.mem_iff.mp hx)
    (first | lia | omega)
  generalize isort (figs ns) = l at hs hl hm ⊢
  obtain ⟨p, l, rfl⟩ := List.exists_cons_of_length_eq_add_one hl
  obtain ⟨q, l, rfl⟩ := List.exists_cons_of_length_eq_add_one (Nat.succ.inj hl)
  obtain ⟨r, l, rfl⟩ := List.exists_cons_of_length_eq_add_one (Nat.succ.inj (Nat.succ.inj hl))
  obtain ⟨s, l, rfl⟩ := List.exists_cons_of_length_eq_add_one (Nat.succ.inj (Nat.succ.inj (Nat.succ.inj hl)))
  obtain ⟨t, l, rfl⟩ := List.exists_cons_of_length_eq_add_one (Nat.succ.inj (Nat.succ.inj (Nat.succ.inj (Nat.succ.inj hl))))
  obtain rfl := List.eq_nil_of_length_eq_zero (Nat.succ.inj (Nat.succ.inj (Nat.succ.inj (Nat.succ.inj (Nat.succ.inj hl)))))
  exact five_of hm hs

theorem five_ranks {l : List Int} (h : Five l) : ∃ φ n r, Mono φ n ∧ In n r ∧ r.length = 5 ∧ l.map V.int = nI (r.map φ) ∧ CheckR r = true := by
  obtain ⟨a, b, c, d, e, h1, h2, h3, h4, h5, h6⟩ := h
  obtain ⟨φ, n, r, H, hr, hr5, hmap, hck⟩ := ranks h1 h2 h3 h4 h5 h6
  exact ⟨φ, n, r, H, hr, hr5, by rw [hmap]; rfl, hck⟩

theorem figs_sort (ns : List Int) : sortedV2 [.list ([0, 1, 2, 3, 4].map fun k : Nat => V.int (1 + ([1, 4, 7, 8, 14].getD k 0 + SSk 5 ns k) % 15))] = some (.list ((isort (figs ns)).map .int)) := by
  show sortedV2 [.list ((figs ns).map .int)] = _
  simp only [sortedV2, sortedV, ints?_map, Option.bind_some]
  exact if_pos (by simp [figs])

theorem figs_eq {ns : List Int} (hn : ns.length ≤ 63) : law_s1 [F (.list (ns.map .int)), F (.list [.int 1, .int 4, .int 7, .int 8, .int 14]), none, none, none, none] =
    some ([F (.list (ns.map .int)), F (.list [.int 1, .int 4, .int 7, .int 8, .int 14]), F (.list ((isort (figs ns)).map .int)), none, none, none], .next) := by
  have hm : maskS [true, true, false, false, false, false] [F (.list (ns.map .int)), F (.list [.int 1, .int 4, .int 7, .int 8, .int 14]), none, none, none, none] =
    [F (.list (ns.map .int)), F (.list [.int 1, .int 4, .int 7, .int 8, .int 14]), none, none, none, none] := by simp [maskS]
  have r5 : rangeV [.int 5] = some (nI [0, 1, 2, 3, 4]) := by kernel_rfl
  obtain ⟨l1, _, a1, _, _⟩ := ss_eq (q := 5) (by decide) hn 0
  simp only [law_s1, Option.bind_some, Option.map_some, r5, hm]
  rw [loopL_map [0, 1, 2, 3, 4] (fun k : Nat => V.int (k : Int)) (fun k : Nat => V.int (1 + ([1, 4, 7, 8, 14].getD k 0 + SSk 5 ns k) % 15)) (fun zz zz => rfl) (fun k hk => by
      have hk5 : k ≤ 4 := by simp only [List.mem_cons, List.not_mem_nil, or_false] at hk; (first | lia | omega)
      obtain ⟨l1', z, b1, x0, y0⟩ := ss_eq (q := 5) (by decide) hn k
      rw [a1] at b1; cases b1
      have m15 : ∀ c : Int, modV (.int c) (.int 15) = some (.int (c % 15)) := fun c => mod_int (by decide)
      have ix : idxLV [.int 1, .int 4, .int 7, .int 8, .int 14] (.int (k : Nat)) = some (.int ([1, 4, 7, 8, 14].getD k 0)) := by
        simp only [List.mem_cons, List.not_mem_nil, or_false] at hk
        rcases hk with rfl | rfl | rfl | rfl | rfl <;> rfl
      simp only [getF_succ, getF_zero, Option.bind_some, Option.map_some, asList, ix, show partV (.int 63) = some (some 63) from rfl, show partV (.int 5) = some (some 5) from rfl, part_nat (show k ≤ 1000000 by (first | lia | omega)), a1, x0, y0, add_int, m15])]
  simp only [Option.bind_some]
  rw [if_pos (by simp [lim])]
  simp only [Option.map_some, Option.bind_some, figs_sort]
  rfl

theorem plain_law01 (ns : List Int) (hn : ns.length ≤ 63) : specOf pn_law nm_law e_law.1 [.list (ns.map .int)] = some (.bool true) := by
  have e0 : law_s0 [F (.list (ns.map .int)), none, none, none, none, none] = some ([F (.list (ns.map .int)), F (.list [.int 1, .int 4, .int 7, .int 8, .int 14]), none, none, none, none], .next) := by kernel_rfl
  have e1 := figs_eq hn
  obtain ⟨φ, n, r, H, hr, hr5, hmap, hck⟩ := five_ranks (figs_sorted ns)
  rw [hmap] at e1
  generalize hS : V.list (ns.map V.int) = S at e0 e1 ⊢
  generalize hFi : V.list [V.int 1, .int 4, .int 7, .int 8, .int 14] = Fi at e0 e1
  have e2 : law_s2 [F S, F Fi, F (.list (nI (r.map φ))), none, none, none] = some ([F S, F Fi, F (.list (nI (r.map φ))), OL [], none, none], .next) := rfl
  obtain ⟨t4, t5, e3, hdom, hlen⟩ := line_loop (s0 := F S) (s1 := F Fi) (s4 := none) (s5 := none) H hr hr5
  unfold CheckR at hck
  rw [Bool.and_eq_true] at hck
  have hck1 := of_decide_eq_true hck.1
  have tg := take_give H hdom (by (first | lia | omega))
  rw [hck1] at tg
  have tl := told_give H hr hr5
  have sl := slides_give H hr hr5 hck.2
  have hfz : freezeS 3 [F S, F Fi, F (.list (nI (r.map φ))), OL (iI ((lineR r).map (NI φ))), t4, t5] = [F S, F Fi, F (.list (nI (r.map φ))), F (.list (iI ((lineR r).map (NI φ)))), t4, t5] := rfl
  have hline : iI ((lineR r).map (NI φ)) = (lineR r).map fun w => V.int (NI φ w) := by simp [iI, List.map_map, Function.comp_def]
  have hpl : plainVs [V.list ((wantR r).map (takV φ)), .list []] = true := by
    have := plainVs_map (takV φ) (fun zz => rfl) (wantR r)
    simp [plainVs, plainV, this]
  have hdp : deepVs [V.list ((wantR r).map (takV φ)), .list []] ≤ 10 := by
    have := deepVs_map (takV φ) 1 (fun zz => by simp [takV, deepV, deepVs]) (wantR r)
    simp only [deepVs, deepV]; (first | lia | omega)
  have hcm := (cmp_same hpl hdp).1
  have l2 : ∀ p q : V, [p, q].length ≤ lim := fun zz zz => by unfold lim; simp
  have e4 : law_s4_s0 [F S, F Fi, F (.list (nI (r.map φ))), F (.list (iI ((lineR r).map (NI φ)))), t4, t5] = some ([F S, F Fi, F (.list (nI (r.map φ))), F (.list (iI ((lineR r).map (NI φ)))), t4, t5], .ret (.bool true)) := by
    rw [hline]
    simp only [law_s4_s0, getF_succ, getF_zero, Option.bind_some, Option.map_some, tg, tl]
    rw [if_pos (by simp)]
    simp only [Option.bind_some, Option.map_some]
    rw [if_pos (l2 _ _)]
    simp only [Option.bind_some, Option.map_some, List.map_nil, hcm, truthyV, if_true, sl]
  have go : ∃ σ', f_law [F S, none, none, none, none, none] = some (σ', .ret (.bool true)) := by
    unfold f_law
    rw [seqF_next e0, seqF_next e1, seqF_next e2, seqF_next e3]
    unfold law_s4
    rw [hfz, seqF_ret e4]
    exact ⟨_, rfl⟩
  obtain ⟨σ', hgo⟩ := go
  show (if [S].length = pn_law.length then giveF (e_law.1 (startS nm_law [S])) else none) = _
  rw [if_pos (show [S].length = pn_law.length from rfl), f_law_eq]
  show giveF (f_law [F S, none, none, none, none, none]) = _
  rw [hgo]
  rfl
end Lw

open PySem PySem.W PyProof.Rows
set_option maxRecDepth 100000 in
set_option maxHeartbeats 8000000 in
theorem PySem.Challenge.cw_sw0007_01_holds : PySem.Challenge.rw_sw0007_01.Holds := by
  w_on; o_law; o_head Hook.none; (case hw => w_witness2)
  intro w s₀ s₁ mg mb G Y fa o pm cd doc dV kV ho hd hcd hD hmg hg args vals as hpre hlay hrd hwl hlo
  refine Ground.open G ?_
  intro T B D TE TW
  wrow_args hpre hlay hrd hwl hlo
  all_goals (first | refine callC_kw (enter_call ?_) | refine enter_call ?_)
  rename_i ns _ _ _ _ _ _ _ l vs _ hL _ hW _ hI _ hlen _
  have hob := Lw.well_list hW hL
  clear hd hcd hD ho
  let C : Lw.Cx := ⟨PySem.Challenge.rw_sw0007_01.row.prog, w, s₁.heap, mg, mb, T.g, T.b, T.nolimit⟩
  have gl : ∀ (x : Str) (v : Value), x ∈ Lw.builtinNames → bootBuiltins x = some v → C.glob x v := fun x v hx hv => .inr ⟨T.free x (Lw.all_not (by decide +kernel) hx) (Lw.all_not (by decide +kernel) hx) (Lw.all_not (by decide +kernel) hx) (Lw.all_not (by decide +kernel) hx) (Lw.all_not (by decide +kernel) hx), (T.builtins x (Lw.all_ne (by decide +kernel) hx)).trans hv⟩
  have G : Lw.Globs C := ⟨gl _ _ (by decide +kernel) (by kernel_rfl), gl _ _ (by decide +kernel) (by kernel_rfl), gl _ _ (by decide +kernel) (by kernel_rfl), gl _ _ (by decide +kernel) (by kernel_rfl), gl _ _ (by decide +kernel) (by kernel_rfl), gl _ _ (by decide +kernel) (by kernel_rfl), gl _ _ (by decide +kernel) (by kernel_rfl), gl _ _ (by decide +kernel) (by kernel_rfl), gl _ _ (by decide +kernel) (by kernel_rfl), gl _ _ (by decide +kernel) (by kernel_rfl), gl _ _ (by decide +kernel) (by kernel_rfl), gl _ _ (by decide +kernel) (by kernel_rfl), gl _ _ (by decide +kernel) (by kernel_rfl)⟩
  have h_ENDMARKER : ∃ t, C.glob (Str.ofString "ENDMARKER") (.int 0 t) := Lw.const_int (T.const _ _ (by kernel_rfl))
  have h_NT_OFFSET : ∃ t, C.glob (Str.ofString "NT_OFFSET") (.int 256 t) := Lw.const_int (T.const _ _ (by kernel_rfl))
  have h_CASE_COST : ∃ t, C.glob (Str.ofString "_CASE_COST") (.int 1 t) := Lw.const_int (T.const _ _ (by kernel_rfl))
  have h_MAX_STRING_SIZE : ∃ t, C.glob (Str.ofString "_MAX_STRING_SIZE") (.int 40 t) := Lw.const_int (T.const _ _ (by kernel_rfl))
  have h_MOVE_COST : ∃ t, C.glob (Str.ofString "_MOVE_COST") (.int 2 t) := Lw.const_int (T.const _ _ (by kernel_rfl))
  have h_substitution_cost : Lw.Fun C 1 (Str.ofString "_substitution_cost") Lw.g_substitution_cost := by
    have t := T.fn _ (List.mem_of_getElem? (i := 0) rfl)
    refine Lw.Fun.of Lw.pn_substitution_cost Lw.nm_substitution_cost Lw.e_substitution_cost.1 rfl rfl t ?_ ?_
    · exact ⟨fun body pm cd doc => Lw.len2 rfl (fun zz zz => rfl), by rfl, by rfl, by rfl, ⟨_, rfl⟩, by decide +kernel, by decide +kernel⟩
    · exact Lw.e_substitution_cost.2 C 0 G h_CASE_COST h_MOVE_COST
  have h_levenshtein_distance : Lw.Fun C 2 (Str.ofString "_levenshtein_distance") Lw.g_levenshtein_distance := by
    have t := T.fn _ (List.mem_of_getElem? (i := 1) rfl)
    refine Lw.Fun.of Lw.pn_levenshtein_distance Lw.nm_levenshtein_distance Lw.e_levenshtein_distance.1 rfl rfl t ?_ ?_
    · exact ⟨fun body pm cd doc => Lw.len3 rfl (fun zz zz zz => rfl), by rfl, by rfl, by rfl, ⟨_, rfl⟩, by decide +kernel, by decide +kernel⟩
    · exact Lw.e_levenshtein_distance.2 C 1 G h_MOVE_COST h_MAX_STRING_SIZE (h_substitution_cost.up (by decide))
  have h_Int2AP : Lw.Fun C 1 (Str.ofString "Int2AP") Lw.g_Int2AP := by
    have t := T.fn _ (List.mem_of_getElem? (i := 2) rfl)
    refine Lw.Fun.of Lw.pn_Int2AP Lw.nm_Int2AP Lw.e_Int2AP.1 rfl rfl t ?_ ?_
    · exact ⟨fun body pm cd doc => Lw.len1 rfl (fun zz => rfl), by rfl, by rfl, by rfl, ⟨_, rfl⟩, by decide +kernel, by decide +kernel⟩
    · exact Lw.e_Int2AP.2 C 0 G 
  have h_ISTERMINAL : Lw.Fun C 1 (Str.ofString "ISTERMINAL") Lw.g_ISTERMINAL := by
    have t := T.fn _ (List.mem_of_getElem? (i := 3) rfl)
    refine Lw.Fun.of Lw.pn_ISTERMINAL Lw.nm_ISTERMINAL Lw.e_ISTERMINAL.1 rfl rfl t ?_ ?_
    · exact ⟨fun body pm cd doc => Lw.len1 rfl (fun zz => rfl), by rfl, by rfl, by rfl, ⟨_, rfl⟩, by decide +kernel, by decide +kernel⟩
    · exact Lw.e_ISTERMINAL.2 C 0 G h_NT_OFFSET
  have h_ISNONTERMINAL : Lw.Fun C 1 (Str.ofString "ISNONTERMINAL") Lw.g_ISNONTERMINAL := by
    have t := T.fn _ (List.mem_of_getElem? (i := 4) rfl)
    refine Lw.Fun.of Lw.pn_ISNONTERMINAL Lw.nm_ISNONTERMINAL Lw.e_ISNONTERMINAL.1 rfl rfl t ?_ ?_
    · exact ⟨fun body pm cd doc => Lw.len1 rfl (fun zz => rfl), by rfl, by rfl, by rfl, ⟨_, rfl⟩, by decide +kernel, by decide +kernel⟩
    · exact Lw.e_ISNONTERMINAL.2 C 0 G h_NT_OFFSET
  have h_ISEOF : Lw.Fun C 1 (Str.ofString "ISEOF") Lw.g_ISEOF := by
    have t := T.fn _ (List.mem_of_getElem? (i := 5) rfl)
    refine Lw.Fun.of Lw.pn_ISEOF Lw.nm_ISEOF Lw.e_ISEOF.1 rfl rfl t ?_ ?_
    · exact ⟨fun body pm cd doc => Lw.len1 rfl (fun zz => rfl), by rfl, by rfl, by rfl, ⟨_, rfl⟩, by decide +kernel, by decide +kernel⟩
    · exact Lw.e_ISEOF.2 C 0 G h_ENDMARKER
  have h_law_number : Lw.Fun C 1 (Str.ofString "_law_number") Lw.g_law_number := by
    have t := T.fn _ (List.mem_of_getElem? (i := 6) rfl)
    refine Lw.Fun.of Lw.pn_law_number Lw.nm_law_number Lw.e_law_number.1 rfl rfl t ?_ ?_
    · exact ⟨fun body pm cd doc => Lw.len1 rfl (fun zz => rfl), by rfl, by rfl, by rfl, ⟨_, rfl⟩, by decide +kernel, by decide +kernel⟩
    · exact Lw.e_law_number.2 C 0 G 
  have h_law_lay : Lw.FunLay C 2 (Str.ofString "_law_lay") Lw.g_law_lay := by
    obtain ⟨a, o, pm, cd, doc, q1, q2, q3, q4⟩ := T.fn _ (List.mem_of_getElem? (i := 7) rfl)
    refine Lw.lay_call (C := C) (lv := 1) (lN := Str.ofString "line") (pN := Str.ofString "place") (qN := Str.ofString "number") (pn := Lw.pn_law_lay) (nm := Lw.nm_law_lay) ?_ rfl rfl (by decide +kernel) (by decide +kernel) (by decide +kernel) ⟨_, _, _, _, _, _, _, rfl, rfl⟩ q2 q3 q4
      (Lw.e_law_lay1.2 C 1 G (h_ISTERMINAL.up (by decide)) (h_ISNONTERMINAL.up (by decide)) (h_ISEOF.up (by decide))) (Lw.e_law_lay2.2 C 1 G (h_ISTERMINAL.up (by decide)) (h_ISNONTERMINAL.up (by decide)) (h_ISEOF.up (by decide))) (Lw.e_law_layT.2 C 1 G (h_ISTERMINAL.up (by decide)) (h_ISNONTERMINAL.up (by decide)) (h_ISEOF.up (by decide))) (.inl q1)
    exact ⟨fun body pm cd doc => Lw.len2 rfl (fun zz zz => rfl), by rfl, by rfl, by rfl, ⟨_, rfl⟩, by decide +kernel, by decide +kernel⟩
  have h_law_letters : Lw.Fun C 1 (Str.ofString "_law_letters") Lw.g_law_letters := by
    have t := T.fn _ (List.mem_of_getElem? (i := 8) rfl)
    refine Lw.Fun.of Lw.pn_law_letters Lw.nm_law_letters Lw.e_law_letters.1 rfl rfl t ?_ ?_
    · exact ⟨fun body pm cd doc => Lw.len1 rfl (fun zz => rfl), by rfl, by rfl, by rfl, ⟨_, rfl⟩, by decide +kernel, by decide +kernel⟩
    · exact Lw.e_law_letters.2 C 0 G 
  have h_law_dressed : Lw.Fun C 1 (Str.ofString "_law_dressed") Lw.g_law_dressed := by
    have t := T.fn _ (List.mem_of_getElem? (i := 9) rfl)
    refine Lw.Fun.of Lw.pn_law_dressed Lw.nm_law_dressed Lw.e_law_dressed.1 rfl rfl t ?_ ?_
    · exact ⟨fun body pm cd doc => Lw.len1 rfl (fun zz => rfl), by rfl, by rfl, by rfl, ⟨_, rfl⟩, by decide +kernel, by decide +kernel⟩
    · exact Lw.e_law_dressed.2 C 0 G 
  have h_law_slides : Lw.Fun C 3 (Str.ofString "_law_slides") Lw.g_law_slides := by
    have t := T.fn _ (List.mem_of_getElem? (i := 10) rfl)
    refine Lw.Fun.of Lw.pn_law_slides Lw.nm_law_slides Lw.e_law_slides.1 rfl rfl t ?_ ?_
    · exact ⟨fun body pm cd doc => Lw.len1 rfl (fun zz => rfl), by rfl, by rfl, by rfl, ⟨_, rfl⟩, by decide +kernel, by decide +kernel⟩
    · exact Lw.e_law_slides.2 C 2 G (h_law_letters.up (by decide)) (h_law_number.up (by decide)) (h_Int2AP.up (by decide)) (h_levenshtein_distance.up (by decide))
  have h_law_take : Lw.Fun C 3 (Str.ofString "_law_take") Lw.g_law_take := by
    have t := T.fn _ (List.mem_of_getElem? (i := 11) rfl)
    refine Lw.Fun.of Lw.pn_law_take Lw.nm_law_take Lw.e_law_take.1 rfl rfl t ?_ ?_
    · exact ⟨fun body pm cd doc => Lw.len1 rfl (fun zz => rfl), by rfl, by rfl, by rfl, ⟨_, rfl⟩, by decide +kernel, by decide +kernel⟩
    · exact Lw.e_law_take.2 C 2 G (h_ISNONTERMINAL.up (by decide)) (h_Int2AP.up (by decide)) (h_ISTERMINAL.up (by decide)) (h_law_letters.up (by decide)) (h_law_dressed.up (by decide)) (h_levenshtein_distance.up (by decide))
  have h_law_told : Lw.Fun C 2 (Str.ofString "_law_told") Lw.g_law_told := by
    have t := T.fn _ (List.mem_of_getElem? (i := 12) rfl)
    refine Lw.Fun.of Lw.pn_law_told Lw.nm_law_told Lw.e_law_told.1 rfl rfl t ?_ ?_
    · exact ⟨fun body pm cd doc => Lw.len1 rfl (fun zz => rfl), by rfl, by rfl, by rfl, ⟨_, rfl⟩, by decide +kernel, by decide +kernel⟩
    · exact Lw.e_law_told.2 C 1 G (h_law_number.up (by decide))
  obtain ⟨a, o, pm, code, doc, q1, q2, q3, q4⟩ := T.fn _ (List.mem_of_getElem? (i := 13) rfl)
  have ea : a = fa := by have := q1.symm.trans hmg; injection this with this; injection this
  subst ea
  have hP : ∀ b o, (fun b => if b = l then some (Lw.lobj vs 0) else none : Lw.Fz) b = some o → s₁.heap.get? b = some o := fun b o e => by
    by_cases hb : b = l
    · subst hb; simp only [if_true] at e; cases e; exact hob
    · simp only [hb, if_false] at e; cases e
  have hx : C.VRs (fun b => if b = l then some (Lw.lobj vs 0) else none : Lw.Fz) [.list (ns.map .int)] [.ref l] := .cons (.list (n := 0) (xs := vs) (by simp) (Lw.VRs.of_ints hI)) .nil
  refine Lw.call_code (C := C) (lv := 3) (pn := Lw.pn_law) (nm := Lw.nm_law) (f := Lw.e_law.1) ?_ q2 q3 q4
    (Lw.e_law.2 C 3 G (h_law_lay.up (by decide)) (h_law_number.up (by decide)) (h_law_take.up (by decide)) (h_law_told.up (by decide)) (h_law_slides.up (by decide))) (Lw.callerA_ok (by decide)) (fun zz zz e => e) hP hx (Lw.plain_law01 ns (by (first | lia | omega))) fun P' h' tk x g hx => ?_
  · exact ⟨fun body pm cd doc => Lw.len1 rfl (fun zz => rfl), by rfl, by rfl, by rfl, ⟨_, rfl⟩, by decide +kernel, by decide +kernel⟩
  cases hx
  exact ⟨.inl ⟨_, .bool true, [], rfl, fun zz => by first | rfl | kernel_rfl, .bool true, by first | kernel_rfl | with_unfolding_all rfl, fun zz => ⟨.nil, by simp⟩⟩, .of_keep g.keep, rfl, .of_eq hg⟩
