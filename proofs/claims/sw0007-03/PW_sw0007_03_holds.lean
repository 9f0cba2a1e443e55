import PyProof.Rows.All
import Wide.All
import OpenK.AllK
import Wide.FinOn
import KE.KxDecode
import Lean
import PySem.Challenge.RW_sw0007_03
set_option Elab.async false
set_option genSizeOfSpec false
set_option genSizeOf false
namespace Lw
open PySem PySem.Calls PyProof.Rows

abbrev Fz := Addr → Option Obj

inductive V where
  | none : V
  | bool : Bool → V
  | int : Int → V
  | str : List Nat → V
  | bytes : List UInt8 → V
  | list : List V → V
  | dict : List (Int × V) → V

abbrev lobj (xs : List Value) (n : Nat) : Obj := { cls := .type "list", dict := none, data := .seq xs.toArray n, slots := #[] }

section
variable (prog : Program) (w : World)
mutual
inductive VR (P : Fz) : V → Value → Prop
  | none : VR P .none .none
  | bool (b : Bool) : VR P (.bool b) (.bool b)
  | int (i : Int) (t : Tok) : VR P (.int i) (.int i t)
  | str (s : List Nat) (t : Tok) : VR P (.str s) (.str ⟨s.toArray⟩ t)
  | bytes (s : List UInt8) (t : Tok) : VR P (.bytes s) (.bytes s.toArray t)
  | list {a : Addr} {xs : List Value} {n : Nat} {vs : List V} : P a = some (lobj xs n) → VRs P vs xs → VR P (.list vs) (.ref a)
  | dict {a : Addr} {o : Obj} {kvs : List (Int × V)} {kxs : List (Int × Value)} : (a == sysModules) = false → P a = some o → o.IsDictOf (intKind prog w) kxs → DRs P kvs kxs → VR P (.dict kvs) (.ref a)
inductive VRs (P : Fz) : List V → List Value → Prop
  | nil : VRs P [] []
  | cons {v : V} {x : Value} {vs : List V} {xs : List Value} : VR P v x → VRs P vs xs → VRs P (v :: vs) (x :: xs)
inductive DRs (P : Fz) : List (Int × V) → List (Int × Value) → Prop
  | nil : DRs P [] []
  | cons {k : Int} {v : V} {x : Value} {r : List (Int × V)} {r' : List (Int × Value)} : VR P v x → DRs P r r' → DRs P ((k, v) :: r) ((k, x) :: r')
end
end

section
variable {prog : Program} {w : World} {P P' : Fz}
mutual
theorem VR.mono (hp : ∀ b o, P b = some o → P' b = some o) : ∀ {v : V} {x : Value}, VR prog w P v x → VR prog w P' v x
  | _, _, .none => .none
  | _, _, .bool b => .bool b
  | _, _, .int i t => .int i t
  | _, _, .str i t => .str i t
  | _, _, .bytes i t => .bytes i t
  | _, _, .list h1 h2 => .list (hp _ _ h1) (VRs.mono hp h2)
  | _, _, .dict h0 h1 h2 h3 => .dict h0 (hp _ _ h1) h2 (DRs.mono hp h3)
theorem VRs.mono (hp : ∀ b o, P b = some o → P' b = some o) : ∀ {v : List V} {x : List Value}, VRs prog w P v x → VRs prog w P' v x
  | _, _, .nil => .nil
  | _, _, .cons h1 h2 => .cons (VR.mono hp h1) (VRs.mono hp h2)
theorem DRs.mono (hp : ∀ b o, P b = some o → P' b = some o) : ∀ {v : List (Int × V)} {x : List (Int × Value)}, DRs prog w P v x → DRs prog w P' v x
  | _, _, .nil => .nil
  | _, _, .cons h1 h2 => .cons (VR.mono hp h1) (DRs.mono hp h2)
end

theorem VRs.length {vs : List V} {xs : List Value} (h : VRs prog w P vs xs) : vs.length = xs.length := by
  induction vs generalizing xs with
  | nil => cases h; rfl
  | cons v r ih => cases h with | cons h1 h2 => simp [ih h2]
theorem VRs.get {vs : List V} {xs : List Value} (h : VRs prog w P vs xs) {i : Nat} {v : V} (hv : vs[i]? = some v) : ∃ x, xs[i]? = some x ∧ VR prog w P v x := by
  induction vs generalizing xs i with
  | nil => simp at hv
  | cons u r ih =>
    cases h with
    | cons h1 h2 =>
      cases i with
      | zero => simp at hv; subst hv; exact ⟨_, rfl, h1⟩
      | succ i => simp at hv; simpa using ih h2 hv
theorem VRs.append {vs us : List V} {xs ys : List Value} (h : VRs prog w P vs xs) (h' : VRs prog w P us ys) : VRs prog w P (vs ++ us) (xs ++ ys) := by
  induction vs generalizing xs with
  | nil => cases h; exact h'
  | cons v r ih => cases h with | cons h1 h2 => exact .cons h1 (ih h2)
theorem VRs.snoc {vs : List V} {xs : List Value} {v : V} {x : Value} (h : VRs prog w P vs xs) (h' : VR prog w P v x) : VRs prog w P (vs ++ [v]) (xs ++ [x]) :=
  h.append (.cons h' .nil)
end

inductive Slot where
  | frz : V → Slot
  | ownL : List V → Slot
  | ownD : List (Int × V) → Slot

abbrev St := List (Option Slot)

set_option genInjectivity false in
structure Cx where
  prog : Program
  w : World
  h₀ : Heap
  mg : Str → Option Value
  mb : Str → Option Value
  g : h₀.Ns mainGlobals mg
  b : h₀.Ns builtinsNs mb
  nolimit : h₀.NoLimit

abbrev Cx.VR (C : Cx) := Lw.VR C.prog C.w
abbrev Cx.VRs (C : Cx) := Lw.VRs C.prog C.w
abbrev Cx.DRs (C : Cx) := Lw.DRs C.prog C.w
abbrev Cx.M (C : Cx) : Model := model C.prog C.w

noncomputable def SlotR (C : Cx) (P : Fz) (h : Heap) : Slot → Value → Prop
  | .frz v, x => C.VR P v x
  | .ownL vs, x => ∃ a xs n, x = .ref a ∧ h.get? a = some (lobj xs n) ∧ C.VRs P vs xs
  | .ownD kvs, x => ∃ a o kxs, x = .ref a ∧ (a == sysModules) = false ∧ h.get? a = some o ∧ o.IsDictOf (intKind C.prog C.w) kxs ∧ C.DRs P kvs kxs

noncomputable def At (env : Env) (h : Heap) (x : Str) (v : Value) : Prop :=
  (env.kindOf x = some .local ∧ ∃ m, h.Ns env.locals m ∧ m x = some v) ∨
  ((env.kindOf x = some .cell ∨ (env.kindOf x = some .free ∧ (x == ("__classdict__" : Str)) = false)) ∧ ∃ c, env.cells.lookup x = some c ∧ h.IsCell c (some v))

theorem At.keeps {env : Env} {h h' : Heap} {x : Str} {v : Value} (H : At env h x v) (hk : ∀ b o, h.get? b = some o → h'.get? b = some o) : At env h' x v := by
  rcases H with ⟨h1, m, h2, h3⟩ | ⟨h1, c, h2, h3⟩
  · exact .inl ⟨h1, m, h2.keeps hk, h3⟩
  · exact .inr ⟨h1, c, h2, h3.keeps hk⟩

structure RepE (C : Cx) (env : Env) (nm : List Str) (P : Fz) (σ : St) (h : Heap) : Prop where
  base : ∀ b o, C.h₀.get? b = some o → h.get? b = some o
  sub : ∀ b o, P b = some o → h.get? b = some o
  fn : env.scope.kind = .function
  gl : env.globals = mainGlobals
  bl : env.builtins = builtinsNs
  vars : ∀ (i : Nat) (n : Str) (sl : Slot), nm[i]? = some n → σ[i]? = some (some sl) → ∃ x, At env h n x ∧ SlotR C P h sl x
  cells : ∀ n, env.kindOf n = some .cell → ∃ c, env.cells.lookup n = some c

structure Grow (P : Fz) (h : Heap) (P' : Fz) (h' : Heap) : Prop where
  le : ∀ b o, P b = some o → P' b = some o
  sub : ∀ b o, P' b = some o → h'.get? b = some o
  keep : ∀ b o, h.get? b = some o → h'.get? b = some o
  new : ∀ b o, P' b = some o → P b = some o ∨ h.get? b = none

theorem Grow.refl {P : Fz} {h : Heap} (hs : ∀ b o, P b = some o → h.get? b = some o) : Grow P h P h :=
  ⟨fun _ _ e => e, hs, fun _ _ e => e, fun _ _ e => .inl e⟩
theorem Grow.trans {P P' P'' : Fz} {h h' h'' : Heap} (g : Grow P h P' h') (g' : Grow P' h' P'' h'') : Grow P h P'' h'' :=
  ⟨fun b o e => g'.le b o (g.le b o e), g'.sub, fun b o e => g'.keep b o (g.keep b o e), fun b o e => by
    rcases g'.new b o e with e | e
    · exact g.new b o e
    · right
      cases hq : h.get? b with
      | none => rfl
      | some o' => rw [g.keep b o' hq] at e; cases e⟩
theorem Grow.of_keep {P : Fz} {h h' : Heap} (hs : ∀ b o, P b = some o → h.get? b = some o) (hk : ∀ b o, h.get? b = some o → h'.get? b = some o) : Grow P h P h' :=
  ⟨fun _ _ e => e, fun b o e => hk b o (hs b o e), hk, fun _ _ e => .inl e⟩

theorem SlotR.grow {C : Cx} {P P' : Fz} {h h' : Heap} {sl : Slot} {x : Value} (H : SlotR C P h sl x) (g : Grow P h P' h') : SlotR C P' h' sl x := by
  cases sl with
  | frz v => exact VR.mono g.le H
  | ownL vs => obtain ⟨a, xs, n, h1, h2, h3⟩ := H; exact ⟨a, xs, n, h1, g.keep _ _ h2, VRs.mono g.le h3⟩
  | ownD kvs => obtain ⟨a, o, kxs, h1, h0, h2, h3, h4⟩ := H; exact ⟨a, o, kxs, h1, h0, g.keep _ _ h2, h3, DRs.mono g.le h4⟩

theorem RepE.grow {C : Cx} {env : Env} {nm : List Str} {P P' : Fz} {σ : St} {h h' : Heap} (R : RepE C env nm P σ h) (g : Grow P h P' h') : RepE C env nm P' σ h' :=
  ⟨fun b o e => g.keep b o (R.base b o e), g.sub, R.fn, R.gl, R.bl, fun i n sl h1 h2 => by
    obtain ⟨x, h3, h4⟩ := R.vars i n sl h1 h2
    exact ⟨x, h3.keeps g.keep, h4.grow g⟩, R.cells⟩

structure AOk (A : Around) (lv : Nat) : Prop where
  handled : A.handled = none
  depth : A.depth + lv < recursionLimit
  units : A.units + 8 * lv + 120 < cLine

/-- the continuation of a value -/
abbrev KV (C : Cx) (P : Fz) (s : Shared) (v : V) (Q : Value → Shared → Prop) : Prop :=
  ∀ P' h' tk x, Grow P s.heap P' h' → C.VR P' v x → Q x { s with heap := h', toks := tk }

noncomputable def DE (C : Cx) (sc : Scope) (nm : List Str) (lv : Nat) (e : PySem.Expr) (f : St → Option V) : Prop :=
  ∀ (A : Around) (E : Value → Shared → Prop) (env : Env) (P : Fz) (σ : St) (s : Shared) (v : V) (Q : Value → Shared → Prop),
    AOk A lv → env.scope = sc → RepE C env nm P σ s.heap → f σ = some v → KV C P s v Q → wpAny C.M A (eval e env) Q E s

noncomputable def DT (C : Cx) (sc : Scope) (nm : List Str) (lv : Nat) (e : PySem.Expr) (f : St → Option Bool) : Prop :=
  ∀ (A : Around) (E : Value → Shared → Prop) (env : Env) (P : Fz) (σ : St) (s : Shared) (b : Bool) (Q : Bool → Shared → Prop),
    AOk A lv → env.scope = sc → RepE C env nm P σ s.heap → f σ = some b →
    (∀ P' h' tk, Grow P s.heap P' h' → Q b { s with heap := h', toks := tk }) → wpAny C.M A (isTrue e env (eval e env)) Q E s

abbrev KF (C : Cx) (P : Fz) (s : Shared) (vs : List V) (Q : Value → Shared → Prop) : Prop :=
  ∀ P' h' tk a xs n, Grow P s.heap P' h' → P' a = none → s.heap.get? a = none → h'.get? a = some (lobj xs n) → C.VRs P' vs xs → Q (.ref a) { s with heap := h', toks := tk }

/-- a list newly made -/
noncomputable def DF (C : Cx) (sc : Scope) (nm : List Str) (lv : Nat) (e : PySem.Expr) (f : St → Option (List V)) : Prop :=
  ∀ (A : Around) (E : Value → Shared → Prop) (env : Env) (P : Fz) (σ : St) (s : Shared) (vs : List V) (Q : Value → Shared → Prop),
    AOk A lv → env.scope = sc → RepE C env nm P σ s.heap → f σ = some vs → KF C P s vs Q → wpAny C.M A (eval e env) Q E s

theorem Grow.add {P P' : Fz} {h h' : Heap} {a : Addr} {o : Obj} (g : Grow P h P' h') (ha : P' a = none) (hn : h.get? a = none) (ho : h'.get? a = some o) :
    Grow P h (fun b => if b = a then some o else P' b) h' := by
  refine ⟨fun b o' e => ?_, fun b o' e => ?_, g.keep, fun b o' e => ?_⟩
  · by_cases hb : b = a
    · subst hb; rw [g.le _ _ e] at ha; cases ha
    · simp only [hb, if_false]; exact g.le _ _ e
  · by_cases hb : b = a
    · subst hb; simp only [if_true] at e; cases e; exact ho
    · simp only [hb, if_false] at e; exact g.sub _ _ e
  · by_cases hb : b = a
    · subst hb; exact .inr hn
    · simp only [hb, if_false] at e; exact g.new _ _ e

theorem KF.of {C : Cx} {P : Fz} {s : Shared} {vs : List V} {Q : Value → Shared → Prop} (k : KV C P s (.list vs) Q) : KF C P s vs Q := by
  intro P' h' tk a xs n g ha hn ho hv
  refine k _ h' tk (.ref a) (g.add ha hn ho) (.list (n := n) (xs := xs) (by simp) (VRs.mono (fun b o e => ?_) hv))
  have hb : b ≠ a := by rintro rfl; rw [ha] at e; cases e
  simpa [hb] using e

theorem DF.toE {C : Cx} {sc : Scope} {nm : List Str} {lv : Nat} {e : PySem.Expr} {f : St → Option (List V)} (H : DF C sc nm lv e f) : DE C sc nm lv e (fun σ => (f σ).map V.list) := by
  intro A E env P σ s v Q hA hs R hf k
  replace hf : (f σ).map V.list = some v := hf
  cases hq : f σ with
  | none => rw [hq] at hf; cases hf
  | some vs =>
    rw [hq] at hf
    simp only [Option.map_some, Option.some.injEq] at hf
    subst hf
    exact H A E env P σ s vs Q hA hs R hq (KF.of k)

end Lw

namespace Lw
open PySem PySem.Calls PyProof.Rows
set_option maxRecDepth 10000

noncomputable def lim : Nat := 100000

noncomputable def addV : V → V → Option V
  | .int a, .int b => some (.int (a + b))
  | .str a, .str b => if a.length + b.length ≤ lim then some (.str (a ++ b)) else none
  | .bytes a, .bytes b => if a.length + b.length ≤ lim then some (.bytes (a ++ b)) else none
  | .list a, .list b => if a.length + b.length ≤ lim then some (.list (a ++ b)) else none
  | _, _ => none
noncomputable def subV : V → V → Option V
  | .int a, .int b => some (.int (a - b))
  | _, _ => none
noncomputable def mulV : V → V → Option V
  | .int a, .int b => if a.natAbs < 2 ^ 40 then some (.int (a * b)) else none
  | .str a, .int n => if a.length ≤ 100 ∧ n.natAbs ≤ 100 then some (.str (List.replicate n.toNat a).flatten) else none
  | .list a, .int n => if a.length ≤ 100 ∧ n.natAbs ≤ 100 then some (.list (List.replicate n.toNat a).flatten) else none
  | _, _ => none
noncomputable def fdivV : V → V → Option V
  | .int a, .int b => if 0 < b ∧ b < 1073741824 then some (.int (a / b)) else none
  | _, _ => none
noncomputable def modV : V → V → Option V
  | .int a, .int b => if 0 < b ∧ b < 1073741824 then some (.int (a % b)) else none
  | _, _ => none
noncomputable def xorV : V → V → Option V
  | .int a, .int b => some (.int (Builtin.bitXor a b))
  | _, _ => none

/-- what a binary step gives -/
noncomputable def BinOk (C : Cx) (step : Value → Value → Sem Value) (g : V → V → Option V) : Prop :=
  ∀ (A : Around) (E : Value → Shared → Prop) (P : Fz) (s : Shared) (a b v : V) (x y : Value) (Q : Value → Shared → Prop), A.handled = none → A.units + 100 < cLine →
    (∀ b o, C.h₀.get? b = some o → s.heap.get? b = some o) → (∀ b o, P b = some o → s.heap.get? b = some o) → C.VR P a x → C.VR P b y → g a b = some v → KV C P s v Q → wpAny C.M A (step x y) Q E s

section
variable {C : Cx} {P : Fz} {s : Shared} {v : V} {Q : Value → Shared → Prop}

theorem KV.tok (k : KV C P s v Q) (hs : ∀ b o, P b = some o → s.heap.get? b = some o) {x : Value} {tk : Nat} (hx : C.VR P v x) : Q x { s with toks := tk } :=
  k P s.heap tk x (Grow.refl hs) hx
theorem KV.here (k : KV C P s v Q) (hs : ∀ b o, P b = some o → s.heap.get? b = some o) {x : Value} (hx : C.VR P v x) : Q x s :=
  k P s.heap s.toks x (Grow.refl hs) hx

/-- a fresh list pushed -/
theorem KV.pushL {vs : List V} (k : KV C P s (.list vs) Q) (hs : ∀ b o, P b = some o → s.heap.get? b = some o) {h₁ : Heap} {tk : Nat} {xs : List Value} (hk : ∀ b o, s.heap.get? b = some o → h₁.get? b = some o)
    (hx : C.VRs P vs xs) : s.heap.get? h₁.objs.size = none → Q (.ref h₁.objs.size) { s with heap := h₁.push { cls := .type "list", data := .seq xs.toArray }, toks := tk } := by
  intro hn
  have hP : P h₁.objs.size = none := by
    cases hq : P h₁.objs.size with
    | none => rfl
    | some o => rw [hs _ _ hq] at hn; cases hn
  have g : Grow P s.heap P (h₁.push { cls := .type "list", data := .seq xs.toArray }) := Grow.of_keep hs fun b o e => Heap.get?_push_of_some _ (hk b o e)
  exact KF.of k _ _ tk _ xs 0 g hP hn (Heap.get?_push_size _ rfl) hx
end

theorem fresh_none (h : Heap) : h.get? h.objs.size = none := by
  cases hq : h.get? h.objs.size with
  | none => rfl
  | some o => exact absurd (Heap.lt_size hq) (Nat.lt_irrefl _)
theorem fresh_ge {h : Heap} {a : Addr} (ha : h.objs.size ≤ a) : h.get? a = none := by
  cases hq : h.get? a with
  | none => rfl
  | some o => exact absurd (Heap.lt_size hq) (Nat.not_lt.mpr ha)

theorem add_ok (C : Cx) : BinOk C (binaryOp .Add) addV := by
  intro A E P s a b v x y Q hA hu hb hs hx hy hv k
  unfold addV at hv
  split at hv
  · cases hx; cases hy; cases hv
    exact add_int (k.tok hs (.int _ _))
  · rename_i a b
    split at hv
    · rename_i hl
      cases hx; cases hy; cases hv
      unfold lim at hl
      refine add_str (fun t' tk => ?_) (by rw [sizeLine_eq]; simp only [Str.length, List.size_toArray]; omega)
      have e : (⟨a.toArray⟩ : Str) ++ ⟨b.toArray⟩ = ⟨(a ++ b).toArray⟩ := by
        show Str.append _ _ = _
        simp [Str.append]
      rw [e]
      exact k.tok hs (.str _ _)
    · cases hv
  · rename_i a b
    split at hv
    · rename_i hl
      cases hx; cases hy; cases hv
      unfold lim at hl
      refine PySem.W.bytes_add_K (d := a ++ b) (by simp only [List.size_toArray]; omega) rfl fun t' tk => ?_
      exact k.tok hs (.bytes _ _)
    · cases hv
  · rename_i a b
    split at hv
    · rename_i hl
      cases hx with
      | list h1 h2 =>
      cases hy with
      | list h3 h4 =>
      cases hv
      unfold lim at hl
      have e1 := h2.length
      have e2 := h4.length
      refine _root_.PySem.P.add_list (hs _ _ h1) (hs _ _ h3) ?_ (by rw [sizeLine_eq]; simp only [List.size_toArray]; omega)
      rw [List.append_toArray]
      exact k.pushL hs (fun _ _ e => e) (h2.append h4) (fresh_none _)
    · cases hv
  · cases hv

theorem sub_ok (C : Cx) : BinOk C (binaryOp .Sub) subV := by
  intro A E P s a b v x y Q hA hu hb hs hx hy hv k
  unfold subV at hv
  split at hv
  · cases hx; cases hy; cases hv
    exact sub_int (k.tok hs (.int _ _))
  · cases hv

theorem xor_ok (C : Cx) : BinOk C (binaryOp .BitXor) xorV := by
  intro A E P s a b v x y Q hA hu hb hs hx hy hv k
  unfold xorV at hv
  split at hv
  · cases hx; cases hy; cases hv
    exact xor_int (k.tok hs (.int _ _))
  · cases hv

theorem fdiv_ok (C : Cx) : BinOk C (binaryOp .FloorDiv) fdivV := by
  intro A E P s a b v x y Q hA hu hb hs hx hy hv k
  unfold fdivV at hv
  split at hv
  · rename_i a b
    split at hv
    · rename_i hl
      cases hx; cases hy; cases hv
      refine floordiv_int (by omega) ?_ (.inl (PyProof.noPylong_small (by omega)))
      rw [show a.fdiv b = a / b from Int.fdiv_eq_ediv_of_nonneg a (by omega)]
      exact k.tok hs (.int _ _)
    · cases hv
  · cases hv

theorem mod_ok (C : Cx) : BinOk C (binaryOp .Mod) modV := by
  intro A E P s a b v x y Q hA hu hb hs hx hy hv k
  unfold modV at hv
  split at hv
  · rename_i a b
    split at hv
    · rename_i hl
      cases hx; cases hy; cases hv
      refine mod_int' (by omega) ?_
      rw [show a.fmod b = a % b from Int.fmod_eq_emod_of_nonneg a (by omega)]
      exact k.tok hs (.int _ _)
    · cases hv
  · cases hv

theorem bits_small {a : Int} (h : a.natAbs < 2 ^ 40) : Builtin.Int.intBits a ≤ 64 := by
  apply PySem.intBits_le_64 <;> omega

theorem VRs.replicate {prog : Program} {w : World} {P : Fz} {vs : List V} {xs : List Value} (h : VRs prog w P vs xs) : ∀ n : Nat, VRs prog w P (List.replicate n vs).flatten (List.replicate n xs).flatten
  | 0 => .nil
  | n + 1 => by
    rw [List.replicate_succ, List.replicate_succ, List.flatten_cons, List.flatten_cons]
    exact h.append (VRs.replicate h n)

theorem foldl_cat {α : Type} (a : List α) : ∀ (k : Nat) (acc : Array α), (List.replicate k a.toArray).foldl (· ++ ·) acc = acc ++ (List.replicate k a).flatten.toArray
  | 0, acc => by simp
  | k + 1, acc => by
    rw [List.replicate_succ, List.foldl_cons, foldl_cat a k]
    simp [List.replicate_succ]
theorem txt_mul (a : List Nat) (n : Int) : PySem.Txt.mul ⟨a.toArray⟩ n = ⟨(List.replicate n.toNat a).flatten.toArray⟩ := by
  unfold PySem.Txt.mul
  split
  · rename_i h
    have : n.toNat = 0 := by omega
    rw [this]; rfl
  · split
    · rename_i h
      simp only [Bool.or_eq_true, beq_iff_eq, Str.length, List.size_toArray] at h
      rcases h with h | h
      · subst h; simp
      · have : a = [] := List.length_eq_zero_iff.mp h
        subst this
        have e : ∀ k : Nat, (List.replicate k ([] : List Nat)).flatten = [] := by
          intro k; induction k with
          | zero => rfl
          | succ k ih => rw [List.replicate_succ, List.flatten_cons, ih]; rfl
        rw [e]
    · rw [foldl_cat]; simp

theorem mul_ok (C : Cx) : BinOk C (binaryOp .Mult) mulV := by
  intro A E P s a b v x y Q hA hu hb hs hx hy hv k
  unfold mulV at hv
  split at hv
  · split at hv
    · rename_i hl
      cases hx; cases hy; cases hv
      exact mul_int (k.tok hs (.int _ _)) (IntMulOk.of_left (bits_small hl))
    · cases hv
  · rename_i a n
    split at hv
    · rename_i hl
      cases hx; cases hy; cases hv
      refine PySem.SB.mul (mulOk_of 100 100 (by simp [Str.length]; omega) (by omega) (by omega) (by decide) (by decide)) fun t' k' => ?_
      rw [txt_mul]
      exact k.tok hs (.str _ _)
    · cases hv
  · rename_i a n
    split at hv
    · rename_i hl
      cases hx with
      | @list l xs n' _ h1 h2 =>
      cases hy
      cases hv
      have e1 := h2.length
      have hsz : xs.toArray.size * n.toNat ≤ 10000 := by
        have h1 : xs.toArray.size ≤ 100 := by simp only [List.size_toArray]; omega
        have h2 : n.toNat ≤ 100 := by omega
        exact Nat.le_trans (Nat.mul_le_mul h1 h2) (by decide)
      refine PySem.wpAny_binaryOp_repeat_ref (T := "list") (U := "int") (by decide) ⟨_, hs _ _ h1, rfl⟩ (fun s' => typeIs_int s' n _) noFill_list_mul F.fills_int_mul F.slot_int_rmul repeat_list F.slot_int_index.lookup
        (call_meets F.slot_int_rmul (typeIs_int s n _) F.entry_int_rmul (F.args_int_rmul_2 _ _) (int___rmul___int_list n _ l xs.toArray n')
          ⟨hs _ _ h1, rfl, ⟨_, hs _ _ h1, rfl⟩, call_meets F.slot_list_mul ⟨_, hs _ _ h1, rfl⟩ F.entry_list_mul (F.args_list_mul_2 _ _)
            (AutoListH.list___mul___list_int_3 l xs.toArray n' n _ (by simp [Builtin.List.listFitsIndex]; omega) (by omega) (by simp [Builtin.List.listTooLong, sizeLine]; simp at hsz; omega))
            ⟨hs _ _ h1, ?_⟩⟩)
      rw [listMul_foldl_if]
      exact k.pushL hs (fun _ _ e => e) (VRs.replicate h2 _) (fresh_none _)
    · cases hv
  · cases hv
end Lw

namespace Lw
open PySem PySem.Calls PyProof.Rows
set_option maxRecDepth 10000

noncomputable def ints? : List V → Option (List Int)
  | [] => some []
  | .int i :: r => (ints? r).map (i :: ·)
  | _ => none
noncomputable def strs? : List V → Option (List (List Nat))
  | [] => some []
  | .str i :: r => (strs? r).map (i :: ·)
  | _ => none
@[simp] theorem ints?_map (ns : List Int) : ints? (ns.map V.int) = some ns := by
  induction ns with
  | nil => rfl
  | cons n r ih => simp [ints?, ih]
@[simp] theorem strs?_map (ns : List (List Nat)) : strs? (ns.map V.str) = some ns := by
  induction ns with
  | nil => rfl
  | cons n r ih => simp [strs?, ih]

section
variable {prog : Program} {w : World} {P : Fz}
theorem VRs.ints {vs : List V} {xs : List Value} {ns : List Int} (h : VRs prog w P vs xs) (e : ints? vs = some ns) : IntsAre xs ns := by
  induction vs generalizing xs ns with
  | nil => cases h; cases e; exact .nil
  | cons v r ih =>
    cases h with
    | cons h1 h2 =>
      cases v with
      | int i =>
        simp only [ints?, Option.map_eq_some_iff] at e
        obtain ⟨ms, e1, rfl⟩ := e
        cases h1
        exact .cons _ _ (ih h2 e1)
      | _ => cases e
theorem VRs.of_ints {xs : List Value} {ns : List Int} (h : IntsAre xs ns) : VRs prog w P (ns.map V.int) xs := by
  induction h with
  | nil => exact .nil
  | cons n t _ ih => exact .cons (.int _ _) ih
end

mutual
noncomputable def toPy : V → PyData
  | .none => .none
  | .bool b => .bool b
  | .int i => .int i
  | .str s => .str ⟨s.toArray⟩
  | .bytes _ => .none
  | .list xs => .list (toPys xs)
  | .dict _ => .none
noncomputable def toPys : List V → List PyData
  | [] => []
  | x :: r => toPy x :: toPys r
end
theorem toPys_map (xs : List V) : toPys xs = xs.map toPy := by
  induction xs with
  | nil => rfl
  | cons x r ih => simp [toPys, ih]
mutual
noncomputable def plainV : V → Bool
  | .none => true
  | .bool _ => true
  | .int _ => true
  | .str s => s.all (· < 128)
  | .bytes _ => false
  | .list xs => plainVs xs
  | .dict _ => false
noncomputable def plainVs : List V → Bool
  | [] => true
  | x :: r => plainV x && plainVs r
end
mutual
noncomputable def deepV : V → Nat
  | .list xs => deepVs xs + 1
  | _ => 0
noncomputable def deepVs : List V → Nat
  | [] => 0
  | x :: r => max (deepV x) (deepVs r)
end

section
variable {prog : Program} {w : World} {P : Fz} {h : Heap}
mutual
theorem VR.reads (hs : ∀ b o, P b = some o → h.get? b = some o) : ∀ (v : V) (x : Value), VR prog w P v x → plainV v = true → ∃ as, Reads h x (toPy v) as
  | .none, x, H, _ => by cases H; exact ⟨_, .none⟩
  | .bool b, x, H, _ => by cases H; exact ⟨_, .bool b⟩
  | .int i, x, H, _ => by cases H; exact ⟨_, .int i _⟩
  | .str s, x, H, _ => by cases H; exact ⟨_, .str _ _⟩
  | .bytes s, x, H, hp => by cases hp
  | .dict s, x, H, hp => by cases hp
  | .list xs, x, H, hp => by
    cases H with
    | list h1 h2 =>
      obtain ⟨as, hr⟩ := VRs.reads hs xs _ h2 hp
      exact ⟨_, .list (hs _ _ h1) rfl rfl hr⟩
theorem VRs.reads (hs : ∀ b o, P b = some o → h.get? b = some o) : ∀ (v : List V) (x : List Value), VRs prog w P v x → plainVs v = true → ∃ as, ReadsAll h x (toPys v) as
  | [], x, H, _ => by cases H; exact ⟨_, .nil⟩
  | v :: r, x, H, hp => by
    cases H with
    | cons h1 h2 =>
      have hp' : plainV v = true ∧ plainVs r = true := by simpa [plainVs] using hp
      obtain ⟨as, hr⟩ := VR.reads hs v _ h1 hp'.1
      obtain ⟨bs, hr'⟩ := VRs.reads hs r _ h2 hp'.2
      exact ⟨_, .cons hr hr'⟩
end
end
mutual
theorem plain_canLay : ∀ {v : V}, plainV v = true → (toPy v).canLay0 = true
  | .none, _ => rfl
  | .bool _, _ => rfl
  | .int _, _ => rfl
  | .str s, h => by
    show PyData.strOk _ = true
    have h' : s.all (· < 128) = true := h
    rw [List.all_eq_true] at h'
    unfold PyData.strOk
    rw [List.all_toArray, List.all_eq_true]
    intro c hc
    have := of_decide_eq_true (h' c hc)
    exact decide_eq_true (by omega)
  | .list xs, h => by
    show PyData.canLayAll0 (toPys xs) = true
    exact plains_canLay h
theorem plains_canLay : ∀ {v : List V}, plainVs v = true → PyData.canLayAll0 (toPys v) = true
  | [], _ => rfl
  | x :: r, h => by
    simp only [plainVs, Bool.and_eq_true] at h
    simp only [toPys, PyData.canLayAll0, Bool.and_eq_true]
    exact ⟨plain_canLay h.1, plains_canLay h.2⟩
end
mutual
theorem deep_toPy : ∀ (v : V), (toPy v).depth = deepV v
  | .none => rfl
  | .bool _ => rfl
  | .int _ => rfl
  | .str s => rfl
  | .bytes _ => rfl
  | .dict _ => rfl
  | .list xs => by
    simp only [toPy, deepV, PyData.depth]
    rw [deeps_toPy xs]
theorem deeps_toPy : ∀ (v : List V), PyData.depthAll (toPys v) = deepVs v
  | [] => rfl
  | x :: r => by
    simp only [toPys, deepVs, PyData.depthAll]
    rw [deep_toPy x, deeps_toPy r]
end

noncomputable def eqB (a b : V) : Bool := PyData.eqv (toPy a) (toPy b)

noncomputable def cmpV : CmpOp → V → V → Option Bool
  | .Lt, .int a, .int b => some (decide (a < b))
  | .LtE, .int a, .int b => some (decide (a ≤ b))
  | .Gt, .int a, .int b => some (decide (b < a))
  | .GtE, .int a, .int b => some (decide (b ≤ a))
  | .Eq, .int a, .int b => some (decide (a = b))
  | .NotEq, .int a, .int b => some (!decide (a = b))
  | .Eq, .str a, .str b => some (decide (a = b))
  | .Eq, .list a, .list b => if plainVs a = true ∧ plainVs b = true ∧ deepVs a ≤ 10 ∧ deepVs b ≤ 10 then some (eqB (.list a) (.list b)) else none
  | .NotEq, .list a, .list b => if plainVs a = true ∧ plainVs b = true ∧ deepVs a ≤ 10 ∧ deepVs b ≤ 10 then some (!eqB (.list a) (.list b)) else none
  | .In, .int k, .list a => (ints? a).map fun ns => ns.any (· == k)
  | _, _, _ => none

theorem shaped_list {a : List V} (h1 : plainVs a = true) (h2 : deepVs a ≤ 10) : SeqAt.shaped (toPy (.list a)) = true := by
  unfold SeqAt.shaped
  rw [Bool.and_eq_true]
  refine ⟨plain_canLay h1, decide_eq_true ?_⟩
  rw [deep_toPy]
  show deepVs a + 1 ≤ 64
  omega

theorem cmp_ok (C : Cx) (op : CmpOp) : BinOk C (compareOp op) (fun a b => (cmpV op a b).map V.bool) := by
  intro A E P s a b v x y Q hA hu hb hs hx hy hv k
  replace hv : (cmpV op a b).map V.bool = some v := hv
  unfold cmpV at hv
  split at hv
  · cases hx; cases hy; cases hv; exact lt_int (k.here hs (.bool _))
  · cases hx; cases hy; cases hv; exact le_int (k.here hs (.bool _))
  · cases hx; cases hy; cases hv; exact gt_int (k.here hs (.bool _))
  · cases hx; cases hy; cases hv; exact ge_int (k.here hs (.bool _))
  · cases hx; cases hy; cases hv; exact eq_int (k.here hs (.bool _))
  · cases hx; cases hy; cases hv; exact ne_int (k.here hs (.bool _))
  · cases hx; cases hy; cases hv
    refine eq_str ?_
    rename_i a b _ _
    rw [show ((⟨a.toArray⟩ : Str) == ⟨b.toArray⟩) = decide (a = b) by
      rw [Bool.eq_iff_iff]; simp]
    exact k.here hs (.bool _)
  · split at hv
    · rename_i hp
      cases hv
      obtain ⟨as, ra⟩ := VR.reads hs _ _ hx hp.1
      obtain ⟨bs, rb⟩ := VR.reads hs _ _ hy hp.2.1
      exact eq_dataH ra rb (shaped_list hp.1 hp.2.2.1) (shaped_list hp.2.1 hp.2.2.2) (by omega) (k.here hs (.bool _))
    · cases hv
  · split at hv
    · rename_i hp
      cases hv
      obtain ⟨as, ra⟩ := VR.reads hs _ _ hx hp.1
      obtain ⟨bs, rb⟩ := VR.reads hs _ _ hy hp.2.1
      exact ne_dataH ra rb (shaped_list hp.1 hp.2.2.1) (shaped_list hp.2.1 hp.2.2.2) (by omega) (k.here hs (.bool _))
    · cases hv
  · rename_i kk a
    cases hq : ints? a with
    | none => rw [hq] at hv; cases hv
    | some ns =>
      rw [hq] at hv
      cases hv
      cases hx
      cases hy with
      | list h1 h2 =>
        exact in_list_ints ⟨_, hs _ _ h1, rfl, _, rfl⟩ (h2.ints hq) (k.here hs (.bool _))
  · cases hv

noncomputable def truthyV : V → Option Bool
  | .bool b => some b
  | .int i => some (decide (i ≠ 0))
  | .str s => if s.length ≤ lim then some (decide (s ≠ [])) else none
  | _ => none

theorem truthy_ok (C : Cx) {A : Around} {E : Value → Shared → Prop} {P : Fz} {s : Shared} {v : V} {b : Bool} {x : Value} {Q : Bool → Shared → Prop}
    (hs : ∀ b o, P b = some o → s.heap.get? b = some o) (hx : C.VR P v x) (hv : truthyV v = some b) (k : ∀ tk, Q b { s with toks := tk }) : wpAny C.M A (truthy x) Q E s := by
  unfold truthyV at hv
  split at hv
  · cases hx; cases hv; exact wpAny_truthy_bool (k _)
  · cases hx; cases hv
    rename_i i t
    refine PyProof.Rows.truthy_int ?_
    rw [show (i != 0) = decide (i ≠ 0) by by_cases h : i = 0 <;> simp [h]]
    exact k s.toks
  · rename_i l
    split at hv
    · rename_i hl
      cases hx; cases hv
      unfold lim at hl
      refine PySem.W.KXt.truthy ?_ (by simp only [Str.length, List.size_toArray]; omega) k
      by_cases h : l = []
      · subst h; rfl
      · have : l.length ≠ 0 := fun e => h (List.length_eq_zero_iff.mp e)
        simp [Str.length, h]
    · cases hv
  · cases hv
end Lw

namespace Lw
open PySem PySem.Calls PyProof.Rows
set_option maxRecDepth 10000

section
variable {C : Cx} {sc : Scope} {nm : List Str} {lv : Nat}

theorem KV.after {P P1 : Fz} {s : Shared} {h1 : Heap} {tk1 : Nat} {v : V} {Q : Value → Shared → Prop} (k : KV C P s v Q) (g : Grow P s.heap P1 h1) :
    KV C P1 { s with heap := h1, toks := tk1 } v Q := fun P' h' tk x g' hx => k P' h' tk x (g.trans g') hx

theorem at_frz {P : Fz} {h : Heap} {env : Env} {σ : St} {i : Nat} {n : Str} {v : V} (R : RepE C env nm P σ h) (hn : nm[i]? = some n) (hv : σ[i]? = some (some (.frz v))) :
    ∃ x, At env h n x ∧ C.VR P v x := by
  obtain ⟨x, h1, h2⟩ := R.vars i n _ hn hv
  exact ⟨x, h1, h2⟩

theorem wp_at {A : Around} {E : Value → Shared → Prop} {s : Shared} {env : Env} {n : Str} {x : Value} {Q : Value → Shared → Prop} (hk : env.scope.kind = .function) (ha : At env s.heap n x) (h : Q x s) :
    wpAny C.M A (loadName env n) Q E s := by
  rcases ha with ⟨h1, m, h2, h3⟩ | ⟨h1, c, h2, h3⟩
  · exact wpAny_loadName_local hk h1 h2 h3 h
  · rcases h1 with h1 | ⟨h1, hc⟩
    · exact wpAny_loadName_cell hk h1 h2 h3 h
    · exact wpAny_loadName_free hk h1 h2 h3 h hc

noncomputable def getF (σ : St) (i : Nat) : Option V := match σ[i]? with
  | some (some (.frz v)) => some v
  | _ => none

theorem getF_some {σ : St} {i : Nat} {v : V} (h : getF σ i = some v) : σ[i]? = some (some (.frz v)) := by
  unfold getF at h
  split at h
  · cases h; assumption
  · cases h

theorem DE_var {n : Str} {pos : Pos} (i : Nat) (hn : nm[i]? = some n) (hd : (n == ("__debug__" : Str)) = false) : DE C sc nm lv (.Name n pos) (fun σ => getF σ i) := by
  intro A E env P σ s v Q hA hs R hf k
  obtain ⟨x, h1, h2⟩ := at_frz R hn (getF_some hf)
  exact wpAny_Name (wp_at R.fn h1 (k.here R.sub h2)) hd

noncomputable def Cx.glob (C : Cx) (n : Str) (v : Value) : Prop := C.mg n = some v ∨ (C.mg n = none ∧ C.mb n = some v)

theorem wp_glob {A : Around} {E : Value → Shared → Prop} {s : Shared} {env : Env} {P : Fz} {σ : St} {n : Str} {pos : Pos} {x : Value} {Q : Value → Shared → Prop} (hg : C.glob n x) (hs : env.scope = sc) (R : RepE C env nm P σ s.heap)
    (hk : sc.names.lookup n = some .globalImplicit) (hd : (n == ("__debug__" : Str)) = false) (h : Q x s) : wpAny C.M A (eval (.Name n pos) env) Q E s := by
  refine Name_function_global R.fn (by unfold Env.kindOf; rw [hs]; exact hk) ?_ hd
  have g1 : s.heap.Ns env.globals C.mg := by rw [R.gl]; exact C.g.keeps R.base
  have b1 : s.heap.Ns env.builtins C.mb := by rw [R.bl]; exact C.b.keeps R.base
  rcases hg with hg | ⟨hg, hb⟩
  · exact loadGlobal_global g1 hg h
  · exact loadGlobal_builtin g1 hg b1 hb h

theorem DE_glob {n : Str} {pos : Pos} {i : Int} {t : Tok} (hg : C.glob n (.int i t)) (hk : sc.names.lookup n = some .globalImplicit) (hd : (n == ("__debug__" : Str)) = false) :
    DE C sc nm lv (.Name n pos) (fun _ => some (.int i)) := by
  intro A E env P σ s v Q hA hs R hf k
  cases hf
  exact wp_glob hg hs R hk hd (k.here R.sub (.int _ _))

theorem DE_int {i : Int} {kk : Nat} {pos : Pos} : DE C sc nm lv (.Constant (.int i) kk pos) (fun _ => some (.int i)) := by
  intro A E env P σ s v Q hA hs R hf k
  cases hf
  exact wpAny_Constant_int (k.tok R.sub (.int _ _))
theorem DE_str {x : Str} {kk : Nat} {pos : Pos} (l : List Nat) (hx : x = ⟨l.toArray⟩) : DE C sc nm lv (.Constant (.str x) kk pos) (fun _ => some (.str l)) := by
  intro A E env P σ s v Q hA hs R hf k
  cases hf
  subst hx
  exact Constant_str (k.tok R.sub (.str _ _))
theorem DE_bytes {x : List UInt8} {kk : Nat} {pos : Pos} : DE C sc nm lv (.Constant (.bytes x) kk pos) (fun _ => some (.bytes x)) := by
  intro A E env P σ s v Q hA hs R hf k
  cases hf
  show wpAny C.M A (mkTextBytes x.toArray) Q E s
  exact fun _ _ _ => k.tok R.sub (.bytes _ _)
theorem DE_none {kk : Nat} {pos : Pos} : DE C sc nm lv (.Constant .none kk pos) (fun _ => some .none) := by
  intro A E env P σ s v Q hA hs R hf k
  cases hf
  exact wpAny_pure (k.here R.sub .none)
theorem DE_bool {b : Bool} {kk : Nat} {pos : Pos} : DE C sc nm lv (.Constant (.bool b) kk pos) (fun _ => some (.bool b)) := by
  intro A E env P σ s v Q hA hs R hf k
  cases hf
  exact wpAny_pure (k.here R.sub (.bool _))

theorem bind_some {α β : Type} {x : Option α} {f : α → Option β} {b : β} (h : x.bind f = some b) : ∃ a, x = some a ∧ f a = some b := by
  cases x with
  | none => cases h
  | some a => exact ⟨a, rfl, h⟩

theorem AOk.u {A : Around} (h : AOk A lv) : A.units + 100 < cLine := by have := h.units; omega

theorem DE_bin {l r : PySem.Expr} {op : Operator} {pos : Pos} {f g : St → Option V} {o : V → V → Option V} (ho : BinOk C (binaryOp op) o) (hl : DE C sc nm lv l f) (hr : DE C sc nm lv r g) :
    DE C sc nm lv (.BinOp l op r pos) (fun σ => (f σ).bind fun a => (g σ).bind fun b => o a b) := by
  intro A E env P σ s v Q hA hs R hf k
  obtain ⟨a, hfa, hf⟩ := bind_some hf
  obtain ⟨b, hgb, hf⟩ := bind_some hf
  refine wpAny_BinOp (hl A E env P σ s a _ hA hs R hfa fun P1 h1 tk1 x g1 hx => ?_)
  have R1 := R.grow g1
  refine hr A E env P1 σ { s with heap := h1, toks := tk1 } b _ hA hs R1 hgb fun P2 h2 tk2 y g2 hy => ?_
  have R2 := R1.grow g2
  exact ho A E P2 _ a b v x y Q hA.handled hA.u R2.base R2.sub (VR.mono g2.le hx) hy hf (k.after (g1.trans g2))

theorem DE_cmp {l r : PySem.Expr} {op : CmpOp} {pos : Pos} {f g : St → Option V} (hl : DE C sc nm lv l f) (hr : DE C sc nm lv r g) (hm : behindInMarks op r = false) :
    DE C sc nm lv (.Compare l [op] [r] pos) (fun σ => (f σ).bind fun a => (g σ).bind fun b => (cmpV op a b).map V.bool) := by
  intro A E env P σ s v Q hA hs R hf k
  obtain ⟨a, hfa, hf⟩ := bind_some hf
  obtain ⟨b, hgb, hf⟩ := bind_some hf
  refine wpAny_Compare1 (hl A E env P σ s a _ hA hs R hfa fun P1 h1 tk1 x g1 hx => ?_) hm
  have R1 := R.grow g1
  refine hr A E env P1 σ { s with heap := h1, toks := tk1 } b _ hA hs R1 hgb fun P2 h2 tk2 y g2 hy => ?_
  have R2 := R1.grow g2
  exact cmp_ok C op A E P2 _ a b v x y Q hA.handled hA.u R2.base R2.sub (VR.mono g2.le hx) hy hf (k.after (g1.trans g2))

theorem DT_cmp {l r : PySem.Expr} {op : CmpOp} {pos : Pos} {f g : St → Option V} (hl : DE C sc nm lv l f) (hr : DE C sc nm lv r g) (hm : behindInMarks op r = false) :
    DT C sc nm lv (.Compare l [op] [r] pos) (fun σ => (f σ).bind fun a => (g σ).bind fun b => cmpV op a b) := by
  intro A E env P σ s v Q hA hs R hf k
  obtain ⟨a, hfa, hf⟩ := bind_some hf
  obtain ⟨b, hgb, hf⟩ := bind_some hf
  refine wpAny_isTrue_Compare1 (hl A E env P σ s a _ hA hs R hfa fun P1 h1 tk1 x g1 hx => ?_) hm
  have R1 := R.grow g1
  refine hr A E env P1 σ { s with heap := h1, toks := tk1 } b _ hA hs R1 hgb fun P2 h2 tk2 y g2 hy => ?_
  have R2 := R1.grow g2
  refine cmp_ok C op A E P2 _ a b (.bool v) x y _ hA.handled hA.u R2.base R2.sub (VR.mono g2.le hx) hy (by show (cmpV op a b).map V.bool = _; rw [hf]; rfl) fun P3 h3 tk3 z g3 hz => ?_
  cases hz
  exact wpAny_truthy_bool (k P3 h3 tk3 ((g1.trans g2).trans g3))

theorem DT_not {x : PySem.Expr} {pos : Pos} {f : St → Option Bool} (h : DT C sc nm lv x f) : DT C sc nm lv (.UnaryOp .Not x pos) (fun σ => (f σ).map (!·)) := by
  intro A E env P σ s v Q hA hs R hf k
  obtain ⟨b, hb, rfl⟩ := Option.map_eq_some_iff.mp hf
  exact wpAny_isTrue_Not (h A E env P σ s b _ hA hs R hb fun P1 h1 tk1 g1 => k P1 h1 tk1 g1)

/-- a value as a test: neither not, and, or, a comparison, nor a conditional -/
theorem DT_val {e : PySem.Expr} {f : St → Option V} (h : DE C sc nm lv e f) (ht : ∀ env w, isTrue e env w = (do let v ← w; standAt e.pos; holding [v] (truthy v))) :
    DT C sc nm lv e (fun σ => (f σ).bind truthyV) := by
  intro A E env P σ s v Q hA hs R hf k
  obtain ⟨a, hfa, hf⟩ := bind_some hf
  rw [ht]
  refine wpAny_bind (h A E env P σ s a _ hA hs R hfa fun P1 h1 tk1 x g1 hx => ?_)
  refine wpAny_bind (wpAny_standAt (wpAny_holding ?_))
  exact truthy_ok C (s := { s with heap := h1, toks := tk1 }) g1.sub hx hf fun tk => k P1 h1 tk g1

/-- and | or in a test -/
noncomputable def DTs (C : Cx) (sc : Scope) (nm : List Str) (lv : Nat) (op : BoolOp) (es : List PySem.Expr) (f : St → Option Bool) : Prop :=
  ∀ (A : Around) (E : Value → Shared → Prop) (env : Env) (P : Fz) (σ : St) (s : Shared) (b : Bool) (Q : Bool → Shared → Prop),
    AOk A lv → env.scope = sc → RepE C env nm P σ s.heap → f σ = some b →
    (∀ P' h' tk, Grow P s.heap P' h' → Q b { s with heap := h', toks := tk }) → wpAny C.M A (allTrue op es env) Q E s

theorem DTs_nil {op : BoolOp} : DTs C sc nm lv op [] (fun _ => some (op == .And)) := by
  intro A E env P σ s v Q hA hs R hf k
  cases hf
  show wpAny C.M A (pure (op == .And)) Q E s
  exact wpAny_pure (k P s.heap s.toks (Grow.refl R.sub))
theorem DTs_and {e : PySem.Expr} {es : List PySem.Expr} {f g : St → Option Bool} (h : DT C sc nm lv e f) (h' : DTs C sc nm lv .And es g) :
    DTs C sc nm lv .And (e :: es) (fun σ => (f σ).bind fun b => if b = true then g σ else some false) := by
  intro A E env P σ s v Q hA hs R hf k
  obtain ⟨b, hb, hf⟩ := bind_some hf
  show wpAny C.M A (isTrue e env (eval e env) >>= fun t => match BoolOp.And, t with | .And, false => pure false | .Or, true => pure true | _, _ => allTrue .And es env) Q E s
  refine wpAny_bind (h A E env P σ s b _ hA hs R hb fun P1 h1 tk1 g1 => ?_)
  cases b with
  | false =>
    cases hf
    exact wpAny_pure (k P1 h1 tk1 g1)
  | true => exact h' A E env P1 σ { s with heap := h1, toks := tk1 } v Q hA hs (R.grow g1) hf fun P2 h2 tk2 g2 => k P2 h2 tk2 (g1.trans g2)
theorem DTs_or {e : PySem.Expr} {es : List PySem.Expr} {f g : St → Option Bool} (h : DT C sc nm lv e f) (h' : DTs C sc nm lv .Or es g) :
    DTs C sc nm lv .Or (e :: es) (fun σ => (f σ).bind fun b => if b = true then some true else g σ) := by
  intro A E env P σ s v Q hA hs R hf k
  obtain ⟨b, hb, hf⟩ := bind_some hf
  show wpAny C.M A (isTrue e env (eval e env) >>= fun t => match BoolOp.Or, t with | .And, false => pure false | .Or, true => pure true | _, _ => allTrue .Or es env) Q E s
  refine wpAny_bind (h A E env P σ s b _ hA hs R hb fun P1 h1 tk1 g1 => ?_)
  cases b with
  | true =>
    cases hf
    exact wpAny_pure (k P1 h1 tk1 g1)
  | false => exact h' A E env P1 σ { s with heap := h1, toks := tk1 } v Q hA hs (R.grow g1) hf fun P2 h2 tk2 g2 => k P2 h2 tk2 (g1.trans g2)
theorem DT_bool {op : BoolOp} {es : List PySem.Expr} {pos : Pos} {f : St → Option Bool} (h : DTs C sc nm lv op es f) : DT C sc nm lv (.BoolOp op es pos) f := by
  intro A E env P σ s v Q hA hs R hf k
  exact wpAny_isTrue_BoolOp (h A E env P σ s v Q hA hs R hf k)

theorem DE_or2 {l r : PySem.Expr} {pos : Pos} {f g : St → Option V} (hl : DE C sc nm lv l f) (hr : DE C sc nm lv r g) :
    DE C sc nm lv (.BoolOp .Or [l, r] pos) (fun σ => (f σ).bind fun a => (truthyV a).bind fun c => if c = true then some a else g σ) := by
  intro A E env P σ s v Q hA hs R hf k
  obtain ⟨a, ha, hf⟩ := bind_some hf
  obtain ⟨c, hc, hf⟩ := bind_some hf
  refine wpAny_Or2 (hl A E env P σ s a _ hA hs R ha fun P1 h1 tk1 x g1 hx => ?_)
  refine truthy_ok C (s := { s with heap := h1, toks := tk1 }) g1.sub hx hc fun tk => ?_
  cases c with
  | false => exact hr A E env P1 σ { s with heap := h1, toks := tk } v Q hA hs (R.grow g1) hf (k.after g1)
  | true => cases hf; exact k P1 h1 tk x g1 hx

/-- the arguments of a call, the items of a display -/
noncomputable def DEs (C : Cx) (sc : Scope) (nm : List Str) (lv : Nat) (es : List PySem.Expr) (f : St → Option (List V)) : Prop :=
  ∀ (A : Around) (E : Value → Shared → Prop) (env : Env) (P : Fz) (σ : St) (s : Shared) (vs : List V) (pos : Pos) (Q : List Value → Shared → Prop),
    AOk A lv → env.scope = sc → RepE C env nm P σ s.heap → f σ = some vs →
    (∀ P' h' tk xs, Grow P s.heap P' h' → C.VRs P' vs xs → Q xs { s with heap := h', toks := tk }) →
    wpAny C.M A (spliced (backTo pos (starEach es env))) Q E s ∧ (backTo pos (starEach es env)).any (·.1) = false ∧ (es ≠ [] → ∃ t r, backTo pos (starEach es env) = (false, t) :: r)

theorem star_plain {e : PySem.Expr} {es : List PySem.Expr} {env : Env} (h : PySem.W.isStarred e = false) : starEach (e :: es) env = (false, eval e env) :: starEach es env := by
  cases e <;> first | rfl | cases h

theorem DEs_nil : DEs C sc nm lv [] (fun _ => some []) := by
  intro A E env P σ s vs pos Q hA hs R hf k
  cases hf
  exact ⟨spliced_nil (k P s.heap s.toks [] (Grow.refl R.sub) .nil), rfl, fun h => absurd rfl h⟩
theorem DEs_cons {e : PySem.Expr} {es : List PySem.Expr} {f : St → Option V} {g : St → Option (List V)} (he : DE C sc nm lv e f) (hes : DEs C sc nm lv es g) (hst : PySem.W.isStarred e = false) :
    DEs C sc nm lv (e :: es) (fun σ => (f σ).bind fun v => (g σ).map (v :: ·)) := by
  intro A E env P σ s vs pos Q hA hs R hf k
  obtain ⟨v, hv, hf⟩ := bind_some hf
  obtain ⟨us, hu, rfl⟩ := Option.map_eq_some_iff.mp hf
  have eq : backTo pos (starEach (e :: es) env) = (false, eval e env) :: backTo pos (starEach es env) := by
    rw [star_plain hst]; rfl
  rw [eq]
  refine ⟨spliced_cons (he A E env P σ s v _ hA hs R hv fun P1 h1 tk1 x g1 hx => ?_), ?_, fun _ => ⟨_, _, rfl⟩⟩
  · exact (hes A E env P1 σ { s with heap := h1, toks := tk1 } us pos _ hA hs (R.grow g1) hu fun P2 h2 tk2 xs g2 hxs => k P2 h2 tk2 (x :: xs) (g1.trans g2) (.cons (VR.mono g2.le hx) hxs)).1
  · have h2 := (hes A E env P σ s us pos (fun _ _ => True) hA hs R hu fun _ _ _ _ _ _ => trivial).2.1
    rw [List.any_cons, h2]; rfl

/-- what a call of a value gives -/
noncomputable def CallOk (C : Cx) (lv : Nat) (fv : Value) (g : List V → Option V) : Prop :=
  ∀ (A : Around) (E : Value → Shared → Prop) (P : Fz) (s : Shared) (vs : List V) (v : V) (xs : List Value) (Q : Value → Shared → Prop), AOk A lv →
    (∀ b o, C.h₀.get? b = some o → s.heap.get? b = some o) → (∀ b o, P b = some o → s.heap.get? b = some o) → C.VRs P vs xs → g vs = some v → KV C P s v Q → wpAny C.M A (call fv xs) Q E s

/-- how a callee is called -/
noncomputable def Callee (C : Cx) : Value → Prop
  | .builtin _ => True
  | .type _ => True
  | .ref a => ∃ o fd, C.h₀.get? a = some o ∧ o.data = .func fd
  | _ => False

theorem DE_call {n : Str} {np pos : Pos} {args : List PySem.Expr} {fv : Value} {f : St → Option (List V)} {g : List V → Option V} (hg : C.glob n fv) (hk : sc.names.lookup n = some .globalImplicit) (hd : (n == ("__debug__" : Str)) = false)
    (hcal : Callee C fv) (hne : args ≠ []) (ha : DEs C sc nm lv args f) (hc : CallOk C lv fv g) : DE C sc nm lv (.Call (.Name n np) args [] pos) (fun σ => (f σ).bind g) := by
  intro A E env P σ s v Q hA hs R hf k
  obtain ⟨vs, hvs, hf⟩ := bind_some hf
  refine wpAny_Call_NameR (wp_glob hg hs R hk hd ?_)
  obtain ⟨h1, h2, h3⟩ := ha A E env P σ s vs pos (fun xs s₁ => (∀ b o, C.h₀.get? b = some o → s₁.heap.get? b = some o) ∧ wpAny C.M A (call fv xs) Q E s₁) hA hs R hvs fun P1 h1 tk1 xs g1 hxs =>
    ⟨(R.grow g1).base, hc A E P1 { s with heap := h1, toks := tk1 } vs v xs Q hA (R.grow g1).base g1.sub hxs hf (k.after g1)⟩
  obtain ⟨t, r, e⟩ := h3 hne
  rw [e] at h1 h2 ⊢
  cases fv with
  | builtin id => exact callWith_builtin h2 (evalArgs_plain (wpAny_mono h1 (fun _ _ x => by simpa using x.2) fun _ _ x => x))
  | type T => exact PySem.callWith_type h2 (evalArgs_plain (wpAny_mono h1 (fun _ _ x => by simpa using x.2) fun _ _ x => x))
  | ref a =>
    obtain ⟨o, fd, ho, hd⟩ := hcal
    exact callWith_function (o := o) (fd := fd) (evalArgs_plain (wpAny_mono h1 (fun _ s₁ x => ⟨⟨x.1 _ _ ho, hd⟩, by simpa using x.2⟩) fun _ _ x => x))
  | _ => exact hcal.elim

theorem DF_list {es : List PySem.Expr} {pos : Pos} {f : St → Option (List V)} (h : DEs C sc nm lv es f) : DF C sc nm lv (.List es pos) (fun σ => (f σ).bind fun vs => if vs.length ≤ lim then some vs else none) := by
  intro A E env P σ s vs Q hA hs R hf k
  obtain ⟨us, hu, hf⟩ := bind_some hf
  split at hf
  · rename_i hl
    cases hf
    refine List_ ((h A E env P σ s vs pos _ hA hs R hu fun P1 h1 tk1 xs g1 hxs => ?_).1)
    have hlen := hxs.length
    unfold lim at hl
    refine wpAny_newObj_type ?_ (by show xs.toArray.size ≤ sizeLine; rw [List.size_toArray, sizeLine_eq]; omega)
    have hn : s.heap.get? h1.objs.size = none := by
      cases hq : s.heap.get? h1.objs.size with
      | none => rfl
      | some o => have := g1.keep _ _ hq; rw [fresh_none] at this; cases this
    have hP : P1 h1.objs.size = none := by
      cases hq : P1 h1.objs.size with
      | none => rfl
      | some o => have := g1.sub _ _ hq; rw [fresh_none] at this; cases this
    exact k P1 _ tk1 _ xs 0 (g1.trans (Grow.of_keep g1.sub fun b o e => Heap.get?_push_of_some _ e)) hP hn (Heap.get?_push_size _ rfl) hxs
  · cases hf
end
end Lw

namespace Lw
open PySem PySem.Calls PyProof.Rows
set_option maxRecDepth 10000

noncomputable def isort1 (x : Int) : List Int → List Int
  | [] => [x]
  | y :: r => if x ≤ y then x :: y :: r else y :: isort1 x r
noncomputable def isort : List Int → List Int
  | [] => []
  | x :: r => isort1 x (isort r)
theorem isort1_perm (x : Int) : ∀ l, (isort1 x l).Perm (x :: l)
  | [] => .refl _
  | y :: r => by
    unfold isort1
    split
    · exact .refl _
    · exact ((isort1_perm x r).cons y).trans (List.Perm.swap x y r)
theorem isort_perm : ∀ l, (isort l).Perm l
  | [] => .refl _
  | x :: r => (isort1_perm x _).trans ((isort_perm r).cons x)
theorem isort1_sorted (x : Int) : ∀ l : List Int, l.Pairwise (· ≤ ·) → (isort1 x l).Pairwise (· ≤ ·)
  | [], _ => by simp [isort1]
  | y :: r, h => by
    unfold isort1
    split
    · rename_i hxy
      refine List.pairwise_cons.mpr ⟨fun z hz => ?_, h⟩
      rcases List.mem_cons.mp hz with rfl | hz
      · exact hxy
      · exact Int.le_trans hxy ((List.pairwise_cons.mp h).1 z hz)
    · rename_i hxy
      refine List.pairwise_cons.mpr ⟨fun z hz => ?_, isort1_sorted x r (List.pairwise_cons.mp h).2⟩
      rcases List.mem_cons.mp ((isort1_perm x r).mem_iff.mp hz) with rfl | hz
      · omega
      · exact (List.pairwise_cons.mp h).1 z hz
theorem isort_sorted : ∀ l : List Int, (isort l).Pairwise (· ≤ ·)
  | [] => .nil
  | x :: r => isort1_sorted x _ (isort_sorted r)
theorem isort_eq {l l' : List Int} (hp : l'.Perm l) (hs : l'.Pairwise (· ≤ ·)) : l' = isort l :=
  List.Perm.eq_of_pairwise (le := (· ≤ ·)) (fun a b _ _ h1 h2 => Int.le_antisymm h1 h2) hs (isort_sorted l) (hp.trans (isort_perm l).symm)

theorem VRs.one {prog : Program} {w : World} {P : Fz} {v : V} {xs : List Value} (h : VRs prog w P [v] xs) : ∃ x, xs = [x] ∧ VR prog w P v x := by
  cases h with
  | cons h1 h2 => cases h2; exact ⟨_, rfl, h1⟩
theorem VRs.two {prog : Program} {w : World} {P : Fz} {v u : V} {xs : List Value} (h : VRs prog w P [v, u] xs) : ∃ x y, xs = [x, y] ∧ VR prog w P v x ∧ VR prog w P u y := by
  cases h with
  | cons h1 h2 => obtain ⟨y, rfl, h3⟩ := h2.one; exact ⟨_, _, rfl, h1, h3⟩
theorem VR.list_inv {prog : Program} {w : World} {P : Fz} {vs : List V} {x : Value} (h : VR prog w P (.list vs) x) : ∃ a xs n, x = .ref a ∧ P a = some (lobj xs n) ∧ VRs prog w P vs xs := by
  cases h with
  | list h1 h2 => exact ⟨_, _, _, rfl, h1, h2⟩

section
variable {C : Cx} {sc : Scope} {nm : List Str} {lv : Nat}

noncomputable def lenV : List V → Option V
  | [.str s] => if s.length ≤ lim then some (.int s.length) else none
  | [.list s] => if s.length ≤ lim then some (.int s.length) else none
  | _ => none
theorem len_ok : CallOk C lv (.builtin "len") lenV := by
  intro A E P s vs v xs Q hA hb hs hx hf k
  unfold lenV at hf
  split at hf
  · split at hf
    · rename_i hl
      cases hf
      obtain ⟨x, rfl, h1⟩ := hx.one
      cases h1
      unfold lim at hl
      refine PyProof.Rows.len_str (by simp only [Str.length, List.size_toArray]; omega) ?_
      have := k.tok hs (x := .int _ (s.toks + 1)) (tk := s.toks + 1 + 1) (.int _ _)
      simpa [Str.length] using this
    · cases hf
  · split at hf
    · rename_i hl
      cases hf
      obtain ⟨x, rfl, h1⟩ := hx.one
      obtain ⟨a, ys, m, rfl, h3, h4⟩ := h1.list_inv
      have e := h4.length
      unfold lim at hl
      refine call_len_list ⟨_, hs _ _ h3, rfl, _, rfl⟩ (by simp only [List.size_toArray]; omega) ?_
      rw [List.size_toArray, ← e]
      exact k.tok hs (.int _ _)
    · cases hf
  · cases hf

noncomputable def chrV : List V → Option V
  | [.int i] => if 0 ≤ i ∧ i ≤ 127 then some (.str [i.toNat]) else none
  | _ => none
theorem chr_ok : CallOk C lv (.builtin "chr") chrV := by
  intro A E P s vs v xs Q hA hb hs hx hf k
  unfold chrV at hf
  split at hf
  · split at hf
    · rename_i hl
      cases hf
      obtain ⟨x, rfl, h1⟩ := hx.one
      cases h1
      exact chr_of_range hl.1 (by omega) (k.tok hs (.str [_] _))
    · cases hf
  · cases hf

noncomputable def ordV : List V → Option V
  | [.str [c]] => some (.int c)
  | _ => none
noncomputable def absV : List V → Option V
  | [.int i] => some (.int (if i < 0 then -i else i))
  | _ => none
theorem abs_ok : CallOk C lv (.builtin "abs") absV := by
  intro A E P s vs v xs Q hA hb hs hx hf k
  unfold absV at hf
  split at hf
  · cases hf
    obtain ⟨x, rfl, h1⟩ := hx.one
    cases h1
    exact call_abs_int fun u tk => k.tok hs (.int _ _)
  · cases hf

noncomputable def intV : List V → Option V
  | [.int i] => some (.int i)
  | _ => none
theorem int_ok : CallOk C lv (.type "int") intV := by
  intro A E P s vs v xs Q hA hb hs hx hf k
  unfold intV at hf
  split at hf
  · cases hf
    obtain ⟨x, rfl, h1⟩ := hx.one
    cases h1
    exact call_int_int (k.here hs (.int _ _))
  · cases hf

noncomputable def minV : List V → Option V
  | [.int a, .int b] => some (.int (if b < a then b else a))
  | _ => none
theorem min_ok : CallOk C lv (.builtin "min") minV := by
  intro A E P s vs v xs Q hA hb hs hx hf k
  unfold minV at hf
  split at hf
  · cases hf
    obtain ⟨x, y, rfl, h1, h3⟩ := hx.two
    cases h1; cases h3
    refine min_two_ints hA.handled fun h' tk hk => ?_
    refine k P h' tk _ (Grow.of_keep hs hk) ?_
    split <;> exact .int _ _
  · cases hf
noncomputable def maxV : List V → Option V
  | [.int a, .int b] => some (.int (if b > a then b else a))
  | _ => none
noncomputable def sumV : List V → Option V
  | [.list xs] => (ints? xs).map fun ns => .int ns.sum
  | _ => none
theorem sum_ok : CallOk C lv (.builtin "sum") sumV := by
  intro A E P s vs v xs Q hA hb hs hx hf k
  unfold sumV at hf
  split at hf
  · obtain ⟨ns, hn, rfl⟩ := Option.map_eq_some_iff.mp hf
    obtain ⟨x, rfl, h1⟩ := hx.one
    obtain ⟨a, ys, m, rfl, h3, h4⟩ := h1.list_inv
    have hi := h4.ints hn
    obtain ⟨zs, hy⟩ := hi.allInts.items
    have hm : PySem.numsOf ys = ns := by rw [hi.numsOf]
    have hl := hs _ _ h3
    have hI : s.heap.IsList a ys.toArray := ⟨_, hl, rfl, _, rfl⟩
    rw [hy] at hI
    refine sum_intListG hA.handled hI fun h' tk t' hk => ?_
    have e : preSum (numAt zs) zs.size = ns.sum := by
      rw [preSum_eq, List.take_of_length_le (by simp)]
      have h5 : numsOf (intItems zs).toList = ns := by rw [← hy]; exact hm
      rw [nums_intItems] at h5
      rw [h5]
    rw [e]
    exact k P h' tk _ (Grow.of_keep hs hk) (.int _ _)
  · cases hf

/-- sorted of a list of ints -/
noncomputable def sortedV : List V → Option V
  | [.list xs] => (ints? xs).bind fun ns => if ns.length < 64 then some (.list ((isort ns).map .int)) else none
  | _ => none
theorem sorted_ok : CallOk C lv (.builtin "sorted") sortedV := by
  intro A E P s vs v xs Q hA hb hs hx hf k
  unfold sortedV at hf
  split at hf
  · obtain ⟨ns, hn, hf⟩ := bind_some hf
    split at hf
    · rename_i hl
      cases hf
      obtain ⟨x, rfl, h1⟩ := hx.one
      obtain ⟨a, ys, m, rfl, h3, h4⟩ := h1.list_inv
      have hi := h4.ints hn
      have hle := IntsAre.length hi
      refine sorted_ints ⟨_, hs _ _ h3, rfl, _, rfl⟩ hi (by omega) fun out ns' a1 a2 a3 => ?_
      obtain ⟨e, he⟩ := sortedAll_at s.heap ys out
      have g : Grow P s.heap P (sortedAll s.heap ys out) := Grow.of_keep hs fun b o => sortedAll_old
      have hP : P (s.heap.objs.size + 1) = none := by
        cases hq : P (s.heap.objs.size + 1) with
        | none => rfl
        | some o => have := hs _ _ hq; rw [fresh_ge (Nat.le_succ _)] at this; cases this
      refine KF.of k P _ s.toks _ out.toList e g hP (fresh_ge (Nat.le_succ _)) (by rw [he]) ?_
      rw [← isort_eq a2 a3]
      exact VRs.of_ints a1
    · cases hf
  · cases hf

/-- a list, at hand: made, kept or one's own -/
noncomputable def DB (C : Cx) (sc : Scope) (nm : List Str) (lv : Nat) (e : PySem.Expr) (f : St → Option (List V)) : Prop :=
  ∀ (A : Around) (E : Value → Shared → Prop) (env : Env) (P : Fz) (σ : St) (s : Shared) (vs : List V) (Q : Value → Shared → Prop),
    AOk A lv → env.scope = sc → RepE C env nm P σ s.heap → f σ = some vs →
    (∀ P' h' tk a xs n, Grow P s.heap P' h' → h'.get? a = some (lobj xs n) → C.VRs P' vs xs → Q (.ref a) { s with heap := h', toks := tk }) → wpAny C.M A (eval e env) Q E s

noncomputable def asList : V → Option (List V)
  | .list xs => some xs
  | _ => none
theorem DB_of {e : PySem.Expr} {f : St → Option V} (h : DE C sc nm lv e f) : DB C sc nm lv e (fun σ => (f σ).bind asList) := by
  intro A E env P σ s vs Q hA hs R hf k
  obtain ⟨v, hv, hf⟩ := bind_some hf
  cases v with
  | list xs =>
    cases hf
    refine h A E env P σ s _ Q hA hs R hv fun P1 h1 tk1 x g1 hx => ?_
    cases hx with
    | list h3 h4 => exact k P1 h1 tk1 _ _ _ g1 (g1.sub _ _ h3) h4
  | _ => cases hf

noncomputable def getO (σ : St) (i : Nat) : Option (List V) := match σ[i]? with
  | some (some (.ownL vs)) => some vs
  | _ => none
theorem getO_some {σ : St} {i : Nat} {v : List V} (h : getO σ i = some v) : σ[i]? = some (some (.ownL v)) := by
  unfold getO at h
  split at h
  · cases h; assumption
  · cases h
theorem DB_own {n : Str} {pos : Pos} (i : Nat) (hn : nm[i]? = some n) (hd : (n == ("__debug__" : Str)) = false) : DB C sc nm lv (.Name n pos) (fun σ => getO σ i) := by
  intro A E env P σ s vs Q hA hs R hf k
  obtain ⟨x, h1, a, xs, m, rfl, h2, h3⟩ := R.vars i n _ hn (getO_some hf)
  exact wpAny_Name (wp_at R.fn h1 (k P s.heap s.toks a xs m (Grow.refl R.sub) h2 h3)) hd

/-- len of a list at hand -/
theorem sub_ops (slice : PySem.Expr) (o i : Value) : ∃ ops, subscripted slice false o i = operate ops (getItem o i) := by
  unfold subscripted
  split
  · exact ⟨_, rfl⟩
  · cases ‹false = true›
  · exact ⟨_, rfl⟩

noncomputable def idxLV : List V → V → Option V
  | xs, .int k => if 0 ≤ k ∧ k.toNat < 1000000 then xs[k.toNat]? else none
  | _, _ => none
theorem idxLV_inv {xs : List V} {v u : V} (h : idxLV xs v = some u) : ∃ k, v = .int k ∧ 0 ≤ k ∧ k.toNat < 1000000 ∧ xs[k.toNat]? = some u := by
  unfold idxLV at h
  split at h
  · split at h
    · rename_i hk; exact ⟨_, rfl, hk.1, hk.2, h⟩
    · cases h
  · cases h
/-- an item of a list at hand -/
theorem DE_idxB {e i : PySem.Expr} {pos : Pos} {f : St → Option (List V)} {g : St → Option V} (he : DB C sc nm lv e f) (hi : DE C sc nm lv i g) :
    DE C sc nm lv (.Subscript e i pos) (fun σ => (f σ).bind fun xs => (g σ).bind fun v => idxLV xs v) := by
  intro A E env P σ s v Q hA hs R hf k
  obtain ⟨vs, hvs, hf⟩ := bind_some hf
  obtain ⟨iv, hiv, hf⟩ := bind_some hf
  obtain ⟨j, rfl, hj1, hj2, hf⟩ := idxLV_inv hf
  refine Subscript_ (he A E env P σ s vs _ hA hs R hvs fun P1 h1 tk1 a xs n g1 ho hx => ?_)
  refine hi A E env P1 σ { s with heap := h1, toks := tk1 } _ _ hA hs (R.grow g1) hiv fun P2 h2 tk2 y g2 hy => ?_
  cases hy
  obtain ⟨x, hx1, hx2⟩ := (VRs.mono g2.le hx).get hf
  obtain ⟨ops, hops⟩ := sub_ops i (.ref a) (.int j _)
  have ho2 := g2.keep _ _ ho
  refine tail_any (T := "list") ⟨_, ho2, rfl⟩ slot_list_getitem.lookup (wpAny_getItem_list ⟨_, ho2, rfl, _, rfl⟩ hj1 (by omega) (by simpa using hx1) ?_) hops
  exact (k.after (g1.trans g2) (tk1 := tk2)).here (s := { s with heap := h2, toks := tk2 }) g2.sub hx2

/-- a sign of a text -/
noncomputable def signAt (s : List Nat) (k : Int) : Option V :=
  if 0 ≤ k ∧ k.toNat < 1000000 then (s[k.toNat]?).map fun c => .str [c]
  else if -(s.length : Int) ≤ k ∧ k < 0 ∧ s.length < 1000000 then (s[(k + s.length).toNat]?).map fun c => .str [c] else none
theorem seqIndex_pos {j : Int} {n : Nat} (h0 : 0 ≤ j) (h1 : j < n) : seqIndex? j n = some j.toNat := by
  unfold seqIndex?
  have h2 : ¬ j < 0 := by omega
  simp [h0, h1, h2]
theorem seqIndex_neg {j : Int} {n : Nat} (h0 : j < 0) (h1 : -(n : Int) ≤ j) : seqIndex? j n = some (j + n).toNat := by
  unfold seqIndex?
  rw [if_pos h0]
  have a1 : 0 ≤ j + n := by omega
  have a2 : j + n < n := by omega
  simp [a1, a2]
noncomputable def idxSV : V → V → Option V
  | .str s, .int k => signAt s k
  | _, _ => none
theorem idxSV_inv {x v u : V} (h : idxSV x v = some u) : ∃ l j, x = .str l ∧ v = .int j ∧ signAt l j = some u := by
  unfold idxSV at h
  split at h
  · exact ⟨_, _, rfl, rfl, h⟩
  · cases h
theorem DE_idxS {e i : PySem.Expr} {pos : Pos} {f : St → Option V} {g : St → Option V} (he : DE C sc nm lv e f) (hi : DE C sc nm lv i g) :
    DE C sc nm lv (.Subscript e i pos) (fun σ => (f σ).bind fun x => (g σ).bind fun v => idxSV x v) := by
  intro A E env P σ s v Q hA hs R hf k
  obtain ⟨xv, hxv, hf⟩ := bind_some hf
  obtain ⟨iv, hiv, hf⟩ := bind_some hf
  obtain ⟨l, j, rfl, rfl, hg⟩ := idxSV_inv hf
  · refine Subscript_ (he A E env P σ s _ _ hA hs R hxv fun P1 h1 tk1 x g1 hx => ?_)
    refine hi A E env P1 σ { s with heap := h1, toks := tk1 } _ _ hA hs (R.grow g1) hiv fun P2 h2 tk2 y g2 hy => ?_
    cases hx with
    | str _ t1 =>
    cases hy with
    | int _ t2 =>
    obtain ⟨ops, hops⟩ := sub_ops i (.str ⟨l.toArray⟩ t1) (.int j t2)
    have fin : ∀ c : Nat, (decide (j < -(2 ^ 63 : Int)) || decide (j ≥ 2 ^ 63)) = false → (seqIndex? j (Str.length ⟨l.toArray⟩)).bind ((⟨l.toArray⟩ : Str).cps[·]?) = some c → V.str [c] = v →
        wpAny C.M A (subscriptTail e i (.str ⟨l.toArray⟩ t1) (.int j t2)) Q E { s with heap := h2, toks := tk2 } := fun c hr hc hv => by
      subst hv
      exact tail_any (T := "str") (typeIs_str _ _ _) F.slot_str_getitem.lookup (PyProof.Rows.getItem_str hr hc ((k.after (g1.trans g2) (tk1 := tk2)).tok (s := { s with heap := h2, toks := tk2 }) g2.sub (.str [c] _))) hops
    unfold signAt at hg
    split at hg
    · rename_i hj
      obtain ⟨c, hc, hv⟩ := Option.map_eq_some_iff.mp hg
      have hlt : j.toNat < l.length := (List.getElem?_eq_some_iff.mp hc).1
      refine fin c (by simp; omega) ?_ hv
      rw [seqIndex_pos hj.1 (by simp only [Str.length, List.size_toArray]; omega)]
      simpa using hc
    · split at hg
      · rename_i hj
        obtain ⟨c, hc, hv⟩ := Option.map_eq_some_iff.mp hg
        refine fin c (by simp; omega) ?_ hv
        rw [seqIndex_neg hj.2.1 (by simp only [Str.length, List.size_toArray]; omega)]
        simpa [Str.length] using hc
      · cases hg
end
end Lw

namespace Lw
open PySem PySem.Calls PyProof.Rows
set_option maxRecDepth 10000

/-- the items of a slice, by their places -/
noncomputable def pickL {α : Type} (xs : List α) (lo hi st : Option Int) : List α :=
  (sliceRange (sliceBounds lo hi st xs.length).1 (sliceBounds lo hi st xs.length).2.1 (sliceBounds lo hi st xs.length).2.2).filterMap (xs[·]?)
noncomputable def cutL {α : Type} (xs : List α) (lo hi : Option Int) : List α :=
  (xs.drop (lo.elim 0 (clipAt xs.length))).take (hi.elim xs.length (clipAt xs.length) - lo.elim 0 (clipAt xs.length))
theorem pick_cut {α : Type} (xs : List α) (lo hi : Option Int) : pickL xs lo hi none = cutL xs lo hi := by
  unfold pickL cutL
  rw [sliceBounds_plain]
  have := pick_run xs.toArray (lo.elim 0 (clipAt xs.length)) (hi.elim xs.length (clipAt xs.length) - lo.elim 0 (clipAt xs.length))
  simp only [sliceRange_one]
  simpa using this
theorem pick_arr (xs : List Value) (lo hi st : Option Int) : slicePick xs.toArray lo hi st = (pickL xs lo hi st).toArray := by
  unfold slicePick pickL
  simp
theorem strPick (s : List Nat) (lo hi : Option Int) : (Builtin.Str.strSliceIndices lo hi 1 s.length).filterMap (s[·]?) = cutL s lo hi := by
  rw [← pick_cut]
  unfold pickL
  congr 1
theorem strIdx_len (lo hi : Option Int) (n : Nat) : (Builtin.Str.strSliceIndices lo hi 1 n).length = hi.elim n (clipAt n) - lo.elim 0 (clipAt n) := by
  have e : Builtin.Str.strSliceIndices lo hi 1 n = sliceRange (sliceBounds lo hi none n).1 (sliceBounds lo hi none n).2.1 1 := rfl
  rw [e, sliceBounds_plain, sliceRange_one]
  simp

section
variable {prog : Program} {w : World} {P : Fz}
theorem VRs.pickIdx {vs : List V} {xs : List Value} (h : VRs prog w P vs xs) : ∀ is : List Nat, VRs prog w P (is.filterMap (vs[·]?)) (is.filterMap (xs[·]?))
  | [] => .nil
  | i :: r => by
    have ih := VRs.pickIdx h r
    have hl := h.length
    cases hv : vs[i]? with
    | none =>
      have hx : xs[i]? = none := by
        rw [List.getElem?_eq_none_iff] at hv ⊢; omega
      simp only [List.filterMap_cons, hv, hx]; exact ih
    | some v =>
      obtain ⟨x, hx, hr⟩ := h.get hv
      simp only [List.filterMap_cons, hv, hx]; exact .cons hr ih
theorem VRs.pick {vs : List V} {xs : List Value} (h : VRs prog w P vs xs) (lo hi st : Option Int) : VRs prog w P (pickL vs lo hi st) (pickL xs lo hi st) := by
  unfold pickL
  rw [h.length]
  exact h.pickIdx _
end

section
variable {C : Cx} {sc : Scope} {nm : List Str} {lv : Nat}

noncomputable def partV : V → Option (Option Int)
  | .int i => if i.natAbs ≤ 1000000 then some (some i) else none
  | .none => some none
  | _ => none

theorem partV_inv {v : V} {p : Option Int} (h : partV v = some p) : (∃ i, v = .int i ∧ p = some i) ∨ (v = .none ∧ p = none) := by
  unfold partV at h
  split at h
  · split at h
    · cases h; exact .inl ⟨_, rfl, rfl⟩
    · cases h
  · cases h; exact .inr ⟨rfl, rfl⟩
  · cases h
/-- a part of a slice -/
noncomputable def DP (C : Cx) (sc : Scope) (nm : List Str) (lv : Nat) (e : Option PySem.Expr) (f : St → Option (Option Int)) : Prop :=
  ∀ (A : Around) (E : Value → Shared → Prop) (env : Env) (P : Fz) (σ : St) (s : Shared) (p : Option Int) (Q : Value → Shared → Prop),
    AOk A lv → env.scope = sc → RepE C env nm P σ s.heap → f σ = some p →
    (∀ P' h' tk x, Grow P s.heap P' h' → (∃ q : Option (Int × Tok), x = partValue q ∧ q.map (·.1) = p) → IsPart x p → Q x { s with heap := h', toks := tk }) → wpAny C.M A (evalPart e env) Q E s
theorem DP_none : DP C sc nm lv none (fun _ => some none) := by
  intro A E env P σ s p Q hA hs R hf k
  cases hf
  rw [evalPart_none]
  exact wpAny_pure (k P s.heap s.toks _ (Grow.refl R.sub) ⟨none, rfl, rfl⟩ .none)
theorem DP_some {e : PySem.Expr} {f : St → Option V} (h : DE C sc nm lv e f) : DP C sc nm lv (some e) (fun σ => (f σ).bind partV) := by
  intro A E env P σ s p Q hA hs R hf k
  obtain ⟨v, hv, hf⟩ := bind_some hf
  show wpAny C.M A (eval e env) Q E s
  refine h A E env P σ s v Q hA hs R hv fun P1 h1 tk1 x g1 hx => ?_
  rcases partV_inv hf with ⟨i, rfl, rfl⟩ | ⟨rfl, rfl⟩
  · cases hx with
    | int _ t => exact k P1 h1 tk1 _ g1 ⟨some (i, t), rfl, rfl⟩ (.int _ _)
  · cases hx
    exact k P1 h1 tk1 _ g1 ⟨none, rfl, rfl⟩ .none

noncomputable def sliceV (xs : List V) (lo hi st : Option Int) : Option (List V) := if st = some 0 ∨ lim < xs.length then none else some (pickL xs lo hi st)

theorem pickL_le {α : Type} (xs : List α) (lo hi st : Option Int) : (pickL xs lo hi st).length ≤ xs.length := by
  have e : ∀ ys : List Value, ys.length = xs.length → (pickL ys lo hi st).length ≤ ys.length := fun ys _ => by
    have := slicePick_size_le ys.toArray lo hi st
    rw [pick_arr] at this
    simpa using this
  have e2 : ∀ (is : List Nat) (ys : List Value), ys.length = xs.length → (is.filterMap (xs[·]?)).length = (is.filterMap (ys[·]?)).length := fun is ys hy => by
    induction is with
    | nil => rfl
    | cons i r ih =>
      by_cases h : i < xs.length
      · have h' : i < ys.length := by omega
        simp [List.filterMap_cons, h, h', ih]
      · have h' : ¬ i < ys.length := by omega
        simp [List.filterMap_cons, h, h', ih]
  have e3 := e (List.replicate xs.length Value.none) (by simp)
  have e4 := e2 (sliceRange (sliceBounds lo hi st xs.length).1 (sliceBounds lo hi st xs.length).2.1 (sliceBounds lo hi st xs.length).2.2) (List.replicate xs.length Value.none) (by simp)
  unfold pickL at e3 ⊢
  rw [e4]
  simpa using e3

theorem wp_slice {A : Around} {E : Value → Shared → Prop} {env : Env} {P : Fz} {σ : St} {s : Shared} {a b c : Option PySem.Expr} {p : Pos} {f g h : St → Option (Option Int)} {lo hi st : Option Int} {Q : Value → Shared → Prop}
    (ha : DP C sc nm lv a f) (hb : DP C sc nm lv b g) (hc : DP C sc nm lv c h) (hA : AOk A lv) (hs : env.scope = sc) (R : RepE C env nm P σ s.heap) (e1 : f σ = some lo) (e2 : g σ = some hi) (e3 : h σ = some st)
    (k : ∀ P' h' tk sl x y z, Grow P s.heap P' h' → h'.IsSliceOf sl x y z → (∃ q : Option (Int × Tok), x = partValue q ∧ q.map (·.1) = lo) → (∃ q : Option (Int × Tok), y = partValue q ∧ q.map (·.1) = hi) → (∃ q : Option (Int × Tok), z = partValue q ∧ q.map (·.1) = st) →
      IsPart x lo → IsPart y hi → IsPart z st → Q (.ref sl) { s with heap := h', toks := tk }) : wpAny C.M A (eval (.Slice a b c p) env) Q E s := by
  refine wpAny_Slice (ha A E env P σ s lo _ hA hs R e1 fun P1 h1 tk1 x g1 q1 p1 => ?_)
  have R1 := R.grow g1
  refine hb A E env P1 σ { s with heap := h1, toks := tk1 } hi _ hA hs R1 e2 fun P2 h2 tk2 y g2 q2 p2 => ?_
  have R2 := R1.grow g2
  refine hc A E env P2 σ { s with heap := h2, toks := tk2 } st _ hA hs R2 e3 fun P3 h3 tk3 z g3 q3 p3 => ?_
  exact k P3 _ tk3 _ x y z (((g1.trans g2).trans g3).trans (Grow.of_keep g3.sub fun b o e => Heap.get?_push_of_some _ e)) (Heap.IsSliceOf.new _ _ _ _) q1 q2 q3 p1 p2 p3

theorem KF.after {P P1 : Fz} {s : Shared} {h1 : Heap} {tk1 : Nat} {v : List V} {Q : Value → Shared → Prop} (k : KF C P s v Q) (g : Grow P s.heap P1 h1) :
    KF C P1 { s with heap := h1, toks := tk1 } v Q := fun P' h' tk a xs n g' ha hn ho hx => by
  refine k P' h' tk a xs n (g.trans g') ha ?_ ho hx
  cases hq : s.heap.get? a with
  | none => rfl
  | some o => have := g.keep _ _ hq; rw [show h1.get? a = none from hn] at this; cases this

theorem KF.pushed {P : Fz} {s : Shared} {vs : List V} {Q : Value → Shared → Prop} (k : KF C P s vs Q) (hs : ∀ b o, P b = some o → s.heap.get? b = some o) {xs : List Value} {tk : Nat} (hx : C.VRs P vs xs) :
    Q (.ref s.heap.objs.size) { s with heap := s.heap.push { cls := .type "list", data := .seq xs.toArray }, toks := tk } := by
  have hP : P s.heap.objs.size = none := by
    cases hq : P s.heap.objs.size with
    | none => rfl
    | some o => have := hs _ _ hq; rw [fresh_none] at this; cases this
  exact k P _ tk _ xs 0 (Grow.of_keep hs fun b o e => Heap.get?_push_of_some _ e) hP (fresh_none _) (Heap.get?_push_size _ rfl) hx

theorem DF_slice {e : PySem.Expr} {a b c : Option PySem.Expr} {p pos : Pos} {f : St → Option (List V)} {f1 f2 f3 : St → Option (Option Int)} (he : DB C sc nm lv e f) (ha : DP C sc nm lv a f1) (hb : DP C sc nm lv b f2) (hc : DP C sc nm lv c f3) :
    DF C sc nm lv (.Subscript e (.Slice a b c p) pos) (fun σ => (f σ).bind fun xs => (f1 σ).bind fun lo => (f2 σ).bind fun hi => (f3 σ).bind fun st => sliceV xs lo hi st) := by
  intro A E env P σ s vs Q hA hs R hf k
  obtain ⟨us, hu, hf⟩ := bind_some hf
  obtain ⟨lo, e1, hf⟩ := bind_some hf
  obtain ⟨hi, e2, hf⟩ := bind_some hf
  obtain ⟨st, e3, hf⟩ := bind_some hf
  unfold sliceV at hf
  split at hf
  · cases hf
  · rename_i hz
    cases hf
    refine Subscript_ (he A E env P σ s us _ hA hs R hu fun P1 h1 tk1 l xs n g1 ho hx => ?_)
    refine wp_slice ha hb hc hA hs (R.grow g1) e1 e2 e3 fun P2 h2 tk2 sl x y z g2 hsl _ _ _ p1 p2 p3 => ?_
    obtain ⟨ops, hops⟩ := sub_ops (.Slice a b c p) (.ref l) (.ref sl)
    have ho2 := g2.keep _ _ ho
    have hx2 := VRs.mono g2.le hx
    have hl := hx.length
    unfold lim at hz
    refine tail_any (T := "list") ⟨_, ho2, rfl⟩ slot_list_getitem.lookup (wpAny_getItem_list_slice ⟨_, ho2, rfl, _, rfl⟩ hsl p1 p2 p3 (fun h => hz (.inl h)) ?_ (by rw [sizeLine_eq]; simp only [List.size_toArray]; omega)) hops
    rw [pick_arr]
    exact (k.after (g1.trans g2) (tk1 := tk2)).pushed (s := { s with heap := h2, toks := tk2 }) g2.sub (hx2.pick lo hi st)

noncomputable def cutSV : V → Option Int → Option Int → Option V
  | .str s, lo, hi => if s.length ≤ lim then some (.str (cutL s lo hi)) else none
  | _, _, _ => none
theorem cutL_le {α : Type} (xs : List α) (lo hi : Option Int) : (cutL xs lo hi).length ≤ xs.length := by
  rw [← pick_cut]; exact pickL_le _ _ _ _
theorem cutL_all {α : Type} {xs : List α} {lo hi : Option Int} (h : (cutL xs lo hi).length = xs.length) : cutL xs lo hi = xs := by
  unfold cutL at h ⊢
  simp only [List.length_take, List.length_drop] at h
  generalize lo.elim 0 (clipAt xs.length) = a at h ⊢
  generalize hi.elim xs.length (clipAt xs.length) - a = b at h ⊢
  by_cases h0 : xs = []
  · subst h0; simp
  · have hl : 0 < xs.length := List.length_pos_iff.mpr h0
    have ha : a = 0 := by omega
    subst ha
    rw [List.drop_zero, List.take_of_length_le (by omega)]

theorem cutSV_inv {x v : V} {lo hi : Option Int} (h : cutSV x lo hi = some v) : ∃ l, x = .str l ∧ l.length ≤ lim ∧ v = .str (cutL l lo hi) := by
  unfold cutSV at h
  split at h
  · split at h
    · cases h; exact ⟨_, rfl, by assumption, rfl⟩
    · cases h
  · cases h
theorem DE_sliceS {e : PySem.Expr} {a b : Option PySem.Expr} {p pos : Pos} {f : St → Option V} {f1 f2 : St → Option (Option Int)} (he : DE C sc nm lv e f) (ha : DP C sc nm lv a f1) (hb : DP C sc nm lv b f2) :
    DE C sc nm lv (.Subscript e (.Slice a b none p) pos) (fun σ => (f σ).bind fun x => (f1 σ).bind fun lo => (f2 σ).bind fun hi => cutSV x lo hi) := by
  intro A E env P σ s v Q hA hs R hf k
  obtain ⟨u, hu, hf⟩ := bind_some hf
  obtain ⟨lo, e1, hf⟩ := bind_some hf
  obtain ⟨hi, e2, hf⟩ := bind_some hf
  obtain ⟨l, rfl, hl, rfl⟩ := cutSV_inv hf
  refine Subscript_ (he A E env P σ s _ _ hA hs R hu fun P1 h1 tk1 x g1 hx => ?_)
  refine wp_slice ha hb DP_none hA hs (R.grow g1) e1 e2 rfl fun P2 h2 tk2 sl x y z g2 hsl q1 q2 q3 _ _ _ => ?_
  cases hx with
  | str _ t1 =>
  obtain ⟨ops, hops⟩ := sub_ops (.Slice a b none p) (.str ⟨l.toArray⟩ t1) (.ref sl)
  obtain ⟨q1, rfl, hq1⟩ := q1
  obtain ⟨q2, rfl, hq2⟩ := q2
  obtain ⟨q3, rfl, hq3⟩ := q3
  have h3 : q3 = none := by cases q3 <;> simp_all
  subst h3
  refine tail_any (T := "str") (typeIs_str _ _ _) F.slot_str_getitem.lookup (wpAny_getItem_str_slice (l := q1) (u := q2) (st := none) hsl rfl ?_) hops
  have kk := (k.after (g1.trans g2) (tk1 := tk2))
  have epick : (slicePicked ⟨l.toArray⟩ q1 q2 none).filterMap ((⟨l.toArray⟩ : Str).cps[·]?) = cutL l lo hi := by
    rw [← strPick, ← hq1, ← hq2]
    unfold slicePicked
    simp [Str.length]
  have elen : (slicePicked ⟨l.toArray⟩ q1 q2 none).length = hi.elim l.length (clipAt l.length) - lo.elim 0 (clipAt l.length) := by
    rw [← hq1, ← hq2]
    unfold slicePicked
    rw [show (Option.map (fun x => x.1) (none : Option (Int × Tok))).getD 1 = 1 from rfl, strIdx_len]
    simp [Str.length]
  unfold sliceMade
  split
  · rename_i hc
    have hc' : (slicePicked ⟨l.toArray⟩ q1 q2 none).length = l.length := by simpa [Str.length] using hc
    have : cutL l lo hi = l := by
      refine cutL_all ?_
      rw [elen] at hc'
      unfold cutL
      simp only [List.length_take, List.length_drop]
      have : hi.elim l.length (clipAt l.length) ≤ l.length := by
        cases hi with
        | none => exact Nat.le_refl _
        | some i => show clipAt l.length i ≤ _; have := clipAt_cast l.length i; omega
      omega
    rw [this] at kk
    exact kk.here (s := { s with heap := h2, toks := tk2 }) g2.sub (.str _ _)
  · rw [epick]
    have := cutL_le l lo hi
    unfold lim at hl
    exact ⟨by simp only [Str.length, List.size_toArray]; rw [sizeLine_eq]; omega, kk.tok (s := { s with heap := h2, toks := tk2 }) g2.sub (.str _ _)⟩
end
end Lw

namespace Lw
open PySem PySem.Calls PyProof.Rows
set_option maxRecDepth 10000

/-- an iterator and what it has still to give -/
inductive ItR (C : Cx) (P : Fz) (h : Heap) (I : Addr) : List V → Prop
  | list {l : Addr} {xs : List Value} {n i : Nat} {vs : List V} : P l = some (lobj xs n) → C.VRs P vs (xs.drop i) → h.IsListIter I l i → ItR C P h I vs
  | range {a c : Int} {n : Nat} {left : Int} : left = n → IsRangeIter h I a left c → ItR C P h I ((List.range n).map fun k : Nat => V.int (a + (k : Int) * c))
  | text {x : List Nat} {t : Tok} {i : Nat} : h.IsStrIter I "str_ascii_iterator" ⟨x.toArray⟩ t i → ItR C P h I ((x.drop i).map fun c => .str [c])

theorem ItR.mono {C : Cx} {P P' : Fz} {h h' : Heap} {I : Addr} {vs : List V} (H : ItR C P h I vs) (hp : ∀ b o, P b = some o → P' b = some o) (hI : ∀ o, h.get? I = some o → h'.get? I = some o) : ItR C P' h' I vs := by
  cases H with
  | list h1 h2 h3 =>
    obtain ⟨o, a1, a2⟩ := h3
    exact .list (hp _ _ h1) (VRs.mono hp h2) ⟨o, hI _ a1, a2⟩
  | range e h1 => exact .range e (hI _ h1)
  | text h1 =>
    obtain ⟨o, a1, a2⟩ := h1
    exact .text ⟨o, hI _ a1, a2⟩
theorem ItR.obj {C : Cx} {P : Fz} {h : Heap} {I : Addr} {vs : List V} (H : ItR C P h I vs) : ∃ o, h.get? I = some o := by
  cases H with
  | list h1 h2 h3 => obtain ⟨o, a1, a2⟩ := h3; exact ⟨o, a1⟩
  | range e h1 => exact ⟨_, h1⟩
  | text h1 => obtain ⟨o, a1, a2⟩ := h1; exact ⟨o, a1⟩

theorem drop_cons {α : Type} {xs : List α} {i : Nat} {x : α} {r : List α} (h : xs.drop i = x :: r) : xs[i]? = some x ∧ xs.drop (i + 1) = r := by
  have h1 : (xs.drop i)[0]? = some x := by rw [h]; rfl
  rw [List.getElem?_drop] at h1
  refine ⟨by simpa using h1, ?_⟩
  have : (xs.drop i).drop 1 = r := by rw [h]; rfl
  rw [List.drop_drop] at this
  exact this
theorem drop_nil {α : Type} {xs : List α} {i : Nat} (h : xs.drop i = []) : xs[i]? = none := by
  have := List.drop_eq_nil_iff.mp h
  exact List.getElem?_eq_none this

section
variable {C : Cx} {sc : Scope} {nm : List Str} {lv : Nat}

theorem next_cons {A : Around} {E : Value → Shared → Prop} {P : Fz} {s : Shared} {I : Addr} {v : V} {r : List V} {Q : Option Value → Shared → Prop} (hs : ∀ b o, P b = some o → s.heap.get? b = some o) (hI : P I = none)
    (H : ItR C P s.heap I (v :: r)) (k : ∀ h' tk x, Heap.SameBut I s.heap h' → C.VR P v x → ItR C P h' I r → Q (some x) { s with heap := h', toks := tk }) : wpAny C.M A (pyNext (.ref I)) Q E s := by
  generalize hvs : v :: r = vs at H
  cases H with
  | @list l xs n i _ h1 h2 h3 =>
    subst hvs
    have hne : l ≠ I := by rintro rfl; rw [hI] at h1; cases h1
    have h1' := hs _ _ h1
    generalize hd : xs.drop i = ys at h2
    cases h2 with
    | @cons _ x _ xr h4 h5 =>
      obtain ⟨e1, e2⟩ := drop_cons hd
      subst e2
      refine wpAny_pyNext_list_item h3 (items := xs.toArray) ⟨_, h1', rfl, _, rfl⟩ (by simpa using e1) fun h' hi hb => k h' s.toks x hb h4 (.list h1 h5 hi)
  | @range a c n left e h1 =>
    subst e
    cases n with
    | zero => simp at hvs
    | succ n =>
      rw [List.range_succ_eq_map] at hvs
      simp only [List.map_cons, List.map_map, List.cons.injEq] at hvs
      obtain ⟨rfl, rfl⟩ := hvs
      refine wpAny_pyNext_range_item h1 (by omega) fun h' hi hb => ?_
      refine k h' _ _ hb (by simpa using VR.int a s.toks) ?_
      have := ItR.range (C := C) (P := P) (h := h') (I := I) (a := a + c) (c := c) (n := n) (left := ((n + 1 : Nat) : Int) - 1) (by omega) hi
      have e : (List.map ((fun k : Nat => V.int (a + k * c)) ∘ Nat.succ) (List.range n)) = (List.range n).map fun k : Nat => V.int (a + c + (k : Int) * c) := by
        refine List.map_congr_left fun j _ => ?_
        simp only [Function.comp]
        congr 1
        rw [Nat.succ_eq_add_one, Int.natCast_add, Int.add_mul, Int.natCast_one, Int.one_mul]; omega
      rw [e]; exact this
  | @text x t i h1 =>
    generalize hd : x.drop i = ys at hvs
    cases ys with
    | nil => simp at hvs
    | cons c ys =>
      simp only [List.map_cons, List.cons.injEq] at hvs
      obtain ⟨rfl, rfl⟩ := hvs
      obtain ⟨e1, e2⟩ := drop_cons hd
      subst e2
      refine wpAny_pyNext_ascii_item h1 (c := c) (by simpa using e1) fun h' hi hb => ?_
      exact k h' _ _ hb (.str [c] _) (.text hi)

theorem next_nil {A : Around} {E : Value → Shared → Prop} {P : Fz} {s : Shared} {I : Addr} {Q : Option Value → Shared → Prop} (hA : A.handled = none) (hs : ∀ b o, P b = some o → s.heap.get? b = some o) (_hI : P I = none)
    (H : ItR C P s.heap I []) (k : ∀ h', Heap.ExtBut I s.heap h' → Q none { s with heap := h' }) : wpAny C.M A (pyNext (.ref I)) Q E s := by
  generalize hvs : [] = vs at H
  cases H with
  | @list l xs n i _ h1 h2 h3 =>
    subst hvs
    have h1' := hs _ _ h1
    generalize hd : xs.drop i = ys at h2
    cases h2
    exact wpAny_pyNext_list_end hA h3 (items := xs.toArray) ⟨_, h1', rfl, _, rfl⟩ (by simpa using drop_nil hd) k
  | @range a c n left e h1 =>
    subst e
    cases n with
    | zero => exact wpAny_pyNext_range_end hA h1 (by omega) k
    | succ n => rw [List.range_succ_eq_map] at hvs; simp at hvs
  | @text x t i h1 =>
    have hd : x.drop i = [] := by simpa using hvs.symm
    exact wpAny_pyNext_ascii_end hA h1 (by simpa using drop_nil hd) k

theorem iter_self {A : Around} {E : Value → Shared → Prop} {P : Fz} {s : Shared} {I : Addr} {vs : List V} {Q : Value → Shared → Prop} (H : ItR C P s.heap I vs) (k : Q (.ref I) s) : wpAny C.M A (pyIter (.ref I)) Q E s := by
  cases H with
  | list h1 h2 h3 => exact wpAny_pyIter_listiter h3 k
  | range e h1 => exact wpAny_pyIter_rangeiter h1 k
  | text h1 => exact wpAny_pyIter_striter_ascii h1 k

/-- what one can go over -/
noncomputable def DI (C : Cx) (sc : Scope) (nm : List Str) (lv : Nat) (e : PySem.Expr) (f : St → Option (List V)) : Prop :=
  ∀ (A : Around) (E : Value → Shared → Prop) (env : Env) (P : Fz) (σ : St) (s : Shared) (vs : List V) (Q : Value → Shared → Prop),
    AOk A lv → env.scope = sc → RepE C env nm P σ s.heap → f σ = some vs →
    (∀ P' h' tk I, Grow P s.heap P' h' → ItR C P' h' I vs → P' I = none → s.heap.get? I = none → Q (.ref I) { s with heap := h', toks := tk }) →
    wpAny C.M A (eval e env) (fun x s₁ => wpAny C.M A (pyIter x) Q E s₁) E s

noncomputable def iterV : V → Option (List V)
  | .list vs => some vs
  | .str s => if s.all (· < 128) then some (s.map fun c => .str [c]) else none
  | _ => none

theorem grow_push {P : Fz} {s : Heap} {P1 : Fz} {h1 : Heap} (g1 : Grow P s P1 h1) (o : Obj) : Grow P s P1 (h1.push o) ∧ P1 h1.objs.size = none ∧ s.get? h1.objs.size = none := by
  refine ⟨g1.trans (Grow.of_keep g1.sub fun b o e => Heap.get?_push_of_some _ e), ?_, ?_⟩
  · cases hq : P1 h1.objs.size with
    | none => rfl
    | some o => have := g1.sub _ _ hq; rw [fresh_none] at this; cases this
  · cases hq : s.get? h1.objs.size with
    | none => rfl
    | some o => have := g1.keep _ _ hq; rw [fresh_none] at this; cases this

theorem DI_of {e : PySem.Expr} {f : St → Option V} (h : DE C sc nm lv e f) : DI C sc nm lv e (fun σ => (f σ).bind iterV) := by
  intro A E env P σ s vs Q hA hs R hf k
  obtain ⟨v, hv, hf⟩ := bind_some hf
  refine h A E env P σ s v _ hA hs R hv fun P1 h1 tk1 x g1 hx => ?_
  unfold iterV at hf
  split at hf
  · cases hf
    obtain ⟨l, xs, n, rfl, h3, h4⟩ := hx.list_inv
    refine wpAny_pyIter_list (items := xs.toArray) ⟨_, g1.sub _ _ h3, rfl, _, rfl⟩ ?_
    obtain ⟨a1, a2, a3⟩ := grow_push g1 { cls := .type "list_iterator", data := .fields #[.ref l, .int 0 0] }
    exact k P1 _ tk1 _ a1 (.list (i := 0) h3 (by simpa using h4) ⟨_, Heap.get?_push_size _ rfl, rfl, rfl⟩) a2 a3
  · split at hf
    · rename_i x ha
      cases hf
      cases hx with
      | str _ t =>
      refine wpAny_pyIter_ascii (by simpa using ha) ?_
      obtain ⟨a1, a2, a3⟩ := grow_push g1 { cls := .type "str_ascii_iterator", data := .fields #[.str ⟨x.toArray⟩ t, .int 0 0] }
      exact k P1 _ tk1 _ a1 (.text (i := 0) (x := x) (t := t) ⟨_, Heap.get?_push_size _ rfl, rfl, rfl⟩) a2 a3
    · cases hf
  · cases hf

noncomputable def rangeN (a b c : Int) : Nat := (Builtin.Range.rangeSize a b c).toNat
noncomputable def rangeI (a b c : Int) : List Int := (List.range (rangeN a b c)).map fun k : Nat => a + (k : Int) * c
noncomputable def rangeV : List V → Option (List V)
  | [.int b] => if b.natAbs ≤ lim then some ((rangeI 0 b 1).map .int) else none
  | [.int a, .int b] => if a.natAbs ≤ lim ∧ b.natAbs ≤ lim then some ((rangeI a b 1).map .int) else none
  | [.int a, .int b, .int c] => if a.natAbs ≤ lim ∧ b.natAbs ≤ lim ∧ c.natAbs ≤ lim ∧ 0 < c then some ((rangeI a b c).map .int) else none
  | _ => none

theorem range_le {a b c : Int} (ha : a.natAbs ≤ lim) (hb : b.natAbs ≤ lim) (hc : 0 < c) : 0 ≤ Builtin.Range.rangeSize a b c ∧ Builtin.Range.rangeSize a b c ≤ 200001 := by
  unfold lim at ha hb
  unfold Builtin.Range.rangeSize
  rw [if_pos hc]
  split
  · have h1 : 0 ≤ (b - a - 1) / c := Int.ediv_nonneg (by omega) (by omega)
    have h2 : (b - a - 1) / c ≤ b - a - 1 := Int.ediv_le_self _ (by omega)
    omega
  · omega
theorem range_small {a b c : Int} (ha : a.natAbs ≤ lim) (hb : b.natAbs ≤ lim) (hc0 : 0 < c) (hc : c.natAbs ≤ lim) : Builtin.Range.small a b c = true := by
  have := range_le ha hb hc0
  unfold lim at ha hb hc
  unfold Builtin.Range.small
  have f : ∀ x : Int, x.natAbs ≤ 1000000 → Builtin.Range.rangeFitsLong x = true := fun x hx => by
    unfold Builtin.Range.rangeFitsLong
    simp only [Bool.and_eq_true, decide_eq_true_eq]
    constructor <;> omega
  rw [f a (by omega), f b (by omega), f c (by omega), f _ (by omega), if_pos hc0, f (b + (c - 1)) (by omega)]
  simp

theorem wp_callG {A : Around} {E : Value → Shared → Prop} {env : Env} {P : Fz} {σ : St} {s : Shared} {vs : List V} {Q : Value → Shared → Prop} {n : Str} {np pos : Pos} {args : List PySem.Expr} {fv : Value} {f : St → Option (List V)}
    (hg : C.glob n fv) (hk : sc.names.lookup n = some .globalImplicit) (hd : (n == ("__debug__" : Str)) = false)
    (hcal : Callee C fv) (hne : args ≠ []) (ha : DEs C sc nm lv args f) (hA : AOk A lv) (hs : env.scope = sc) (R : RepE C env nm P σ s.heap) (hvs : f σ = some vs)
    (k : ∀ P1 h1 tk1 xs, Grow P s.heap P1 h1 → C.VRs P1 vs xs → wpAny C.M A (call fv xs) Q E { s with heap := h1, toks := tk1 }) : wpAny C.M A (eval (.Call (.Name n np) args [] pos) env) Q E s := by
  refine wpAny_Call_NameR (wp_glob hg hs R hk hd ?_)
  obtain ⟨h1, h2, h3⟩ := ha A E env P σ s vs pos (fun xs s₁ => (∀ b o, C.h₀.get? b = some o → s₁.heap.get? b = some o) ∧ wpAny C.M A (call fv xs) Q E s₁) hA hs R hvs fun P1 h1 tk1 xs g1 hxs =>
    ⟨(R.grow g1).base, k P1 h1 tk1 xs g1 hxs⟩
  obtain ⟨t, r, e⟩ := h3 hne
  rw [e] at h1 h2 ⊢
  cases fv with
  | builtin id => exact callWith_builtin h2 (evalArgs_plain (wpAny_mono h1 (fun _ _ x => by simpa using x.2) fun _ _ x => x))
  | type T => exact PySem.callWith_type h2 (evalArgs_plain (wpAny_mono h1 (fun _ _ x => by simpa using x.2) fun _ _ x => x))
  | ref a =>
    obtain ⟨o, fd, ho, hd⟩ := hcal
    exact callWith_function (o := o) (fd := fd) (evalArgs_plain (wpAny_mono h1 (fun _ s₁ x => ⟨⟨x.1 _ _ ho, hd⟩, by simpa using x.2⟩) fun _ _ x => x))
  | _ => exact hcal.elim

theorem wp_range_iter {A : Around} {E : Value → Shared → Prop} {P P1 : Fz} {s : Shared} {h1 : Heap} {tk1 : Nat} {a b c : Int} {t u v : Tok} {Q : Value → Shared → Prop} (ha : a.natAbs ≤ lim) (hb : b.natAbs ≤ lim) (hc0 : 0 < c) (hc : c.natAbs ≤ lim) (g1 : Grow P s.heap P1 h1)
    (k : ∀ P' h' tk I, Grow P s.heap P' h' → ItR C P' h' I ((rangeI a b c).map .int) → P' I = none → s.heap.get? I = none → Q (.ref I) { s with heap := h', toks := tk }) :
    wpAny C.M A (pyIter (.ref h1.objs.size)) Q E { s with heap := h1.push { cls := .type "range", data := .fields #[.int a t, .int b u, .int c v] }, toks := tk1 } := by
  obtain ⟨a1, a2, a3⟩ := grow_push g1 { cls := .type "range", data := .fields #[.int a t, .int b u, .int c v] }
  refine wpAny_pyIter_range (a := a) (b := b) (c := c) (t := t) (u := u) (v := v) (Heap.get?_push_size _ rfl) (range_small ha hb hc0 hc) ?_
  obtain ⟨b1, b2, b3⟩ := grow_push a1 { cls := .type "range_iterator", data := .fields #[rawInt a, rawInt (Builtin.Range.rangeSize a b c), rawInt c] }
  refine k P1 _ tk1 _ b1 ?_ b2 b3
  have e := ItR.range (C := C) (P := P1) (h := (h1.push { cls := .type "range", data := .fields #[.int a t, .int b u, .int c v] }).push { cls := .type "range_iterator", data := .fields #[rawInt a, rawInt (Builtin.Range.rangeSize a b c), rawInt c] })
    (I := (h1.push { cls := .type "range", data := .fields #[.int a t, .int b u, .int c v] }).objs.size) (a := a) (c := c) (n := rangeN a b c) (left := Builtin.Range.rangeSize a b c)
    (by have := (range_le ha hb hc0).1; unfold rangeN; omega) (Heap.get?_push_size _ rfl)
  unfold rangeI
  rw [List.map_map]
  exact e

theorem DI_range {np pos : Pos} {args : List PySem.Expr} {f : St → Option (List V)} (hg : C.glob (Str.ofString "range") (.type "range")) (hk : sc.names.lookup (Str.ofString "range") = some .globalImplicit) (hne : args ≠ [])
    (ha : DEs C sc nm lv args f) : DI C sc nm lv (.Call (.Name (Str.ofString "range") np) args [] pos) (fun σ => (f σ).bind rangeV) := by
  intro A E env P σ s vs Q hA hs R hf k
  obtain ⟨us, hus, hf⟩ := bind_some hf
  refine wp_callG hg hk (by decide +kernel) trivial hne ha hA hs R hus fun P1 h1 tk1 xs g1 hx => ?_
  have l0 : (0 : Int).natAbs ≤ lim := by decide
  have l1 : (1 : Int).natAbs ≤ lim := by decide
  unfold rangeV at hf
  split at hf
  · split at hf
    · rename_i hl
      cases hf
      obtain ⟨x, rfl, h3⟩ := hx.one
      cases h3
      exact call_range_1 (wp_range_iter (s := s) (tk1 := tk1 + 1 + 1) l0 hl (by decide) l1 g1 k)
    · cases hf
  · split at hf
    · rename_i hl
      cases hf
      obtain ⟨x, y, rfl, h3, h4⟩ := hx.two
      cases h3; cases h4
      exact call_range_2 (wp_range_iter (s := s) (tk1 := tk1 + 1) hl.1 hl.2 (by decide) l1 g1 k)
    · cases hf
  · split at hf
    · rename_i a b c hl
      cases hf
      cases hx with
      | cons h2 h3 =>
        obtain ⟨y, z, rfl, h4, h5⟩ := h3.two
        cases h2; cases h4; cases h5
        exact call_range_3 (by omega) (wp_range_iter (s := s) (tk1 := tk1) hl.1 hl.2.1 hl.2.2.2 hl.2.2.1 g1 k) (.inl (PyProof.noPylong_small (by unfold lim at hl; omega)))
    · cases hf
  · cases hf
end
end Lw

namespace Lw
open PySem PySem.Calls PyProof.Rows
set_option maxRecDepth 10000

section
variable {prog : Program} {w : World} {A : Around} {E : Value → Shared → Prop} {R : Result → Shared → Prop} {s : Shared}

end
end Lw

namespace Lw
open PySem PySem.Calls PyProof.Rows
set_option maxRecDepth 10000

structure GrowB (B P P' : Fz) (h' : Heap) : Prop where
  le : ∀ b o, P b = some o → P' b = some o
  sub : ∀ b o, P' b = some o → h'.get? b = some o
  keep : ∀ b o, B b = some o → h'.get? b = some o
  new : ∀ b o, P' b = some o → P b = some o ∨ B b = none

theorem GrowB.refl {B P : Fz} {h : Heap} (hs : ∀ b o, P b = some o → h.get? b = some o) (hb : ∀ b o, B b = some o → h.get? b = some o) : GrowB B P P h :=
  ⟨fun _ _ e => e, hs, hb, fun _ _ e => .inl e⟩
theorem GrowB.trans {B P P1 P2 : Fz} {h1 h2 : Heap} (g : GrowB B P P1 h1) (g' : GrowB B P1 P2 h2) : GrowB B P P2 h2 :=
  ⟨fun b o e => g'.le _ _ (g.le _ _ e), g'.sub, g'.keep, fun b o e => by
    rcases g'.new b o e with e | e
    · exact g.new b o e
    · exact .inr e⟩
theorem GrowB.grow {B P P1 P2 : Fz} {h1 h2 : Heap} (g : GrowB B P P1 h1) (g' : Grow P1 h1 P2 h2) : GrowB B P P2 h2 :=
  ⟨fun b o e => g'.le _ _ (g.le _ _ e), g'.sub, fun b o e => g'.keep _ _ (g.keep _ _ e), fun b o e => by
    rcases g'.new b o e with e | e
    · exact g.new b o e
    · right
      cases hq : B b with
      | none => rfl
      | some o' => rw [g.keep _ _ hq] at e; cases e⟩
theorem Grow.toB {P P' : Fz} {h h' : Heap} (g : Grow P h P' h') : GrowB h.get? P P' h' := ⟨g.le, g.sub, g.keep, g.new⟩
theorem GrowB.ofB {P P' : Fz} {h h' : Heap} (g : GrowB h.get? P P' h') : Grow P h P' h' := ⟨g.le, g.sub, g.keep, g.new⟩
/-- a heap changed at places out of hand -/
theorem GrowB.set {B P P1 : Fz} {h1 h2 : Heap} (g : GrowB B P P1 h1) (hk : ∀ b o, h1.get? b = some o → (∃ o', P1 b = some o') ∨ (∃ o', B b = some o') → h2.get? b = some o) : GrowB B P P1 h2 :=
  ⟨g.le, fun b o e => hk b o (g.sub b o e) (.inl ⟨o, e⟩), fun b o e => hk b o (g.keep b o e) (.inr ⟨o, e⟩), g.new⟩

noncomputable def LocOk (C : Cx) (P : Fz) (m : Str → Option Value) : List Str → List V → Prop
  | [], [] => True
  | n :: ns, v :: vs => (∃ y, m n = some y ∧ C.VR P v y) ∧ LocOk C P m ns vs
  | _, _ => False
theorem LocOk.mono {C : Cx} {P P' : Fz} {m m' : Str → Option Value} (hp : ∀ b o, P b = some o → P' b = some o) : ∀ {ns : List Str} {vs : List V}, (∀ n ∈ ns, m' n = m n) → LocOk C P m ns vs → LocOk C P' m' ns vs
  | [], [], _, _ => trivial
  | n :: ns, v :: vs, hm, ⟨⟨y, h1, h2⟩, h3⟩ => ⟨⟨y, by rw [hm n List.mem_cons_self]; exact h1, VR.mono hp h2⟩, LocOk.mono hp (fun k hk => hm k (List.mem_cons_of_mem _ hk)) h3⟩
  | [], _ :: _, _, h => h.elim
  | _ :: _, [], _, h => h.elim

abbrev frzs (vs : List V) : St := vs.map fun v => some (.frz v)

theorem RepE.locs {C : Cx} {env : Env} {nm : List Str} {P : Fz} {σ : St} {h : Heap} {m : Str → Option Value} (R : RepE C env nm P σ h) (hn : h.Ns env.locals m) :
    ∀ {locs : List Str} {lvs : List V}, LocOk C P m locs lvs → (∀ n ∈ locs, env.kindOf n = some .local) → RepE C env (locs ++ nm) P (frzs lvs ++ σ) h
  | [], [], _, _ => R
  | n :: ns, v :: vs, ⟨⟨y, h1, h2⟩, h3⟩, hk => by
    have ih := RepE.locs R hn h3 fun k hk' => hk k (List.mem_cons_of_mem _ hk')
    refine ⟨ih.base, ih.sub, ih.fn, ih.gl, ih.bl, fun i n' sl e1 e2 => ?_, ih.cells⟩
    cases i with
    | zero =>
      simp at e1 e2
      subst e1 e2
      exact ⟨y, .inl ⟨hk _ List.mem_cons_self, m, hn, h1⟩, h2⟩
    | succ i =>
      simp only [List.cons_append, List.getElem?_cons_succ, List.map_cons] at e1 e2
      exact ih.vars i n' sl e1 e2
  | [], _ :: _, h, _ => h.elim
  | _ :: _, [], h, _ => h.elim

abbrev testsOf (ifs : List PySem.Expr) (env : Env) : Sem Bool := forIn ifs true fun c r => if r = true then do let ok ← isTrue c env (eval c env); pure (ForInStep.yield ok) else pure (ForInStep.yield r)

noncomputable def DIfs (C : Cx) (sc : Scope) (nm : List Str) (lv : Nat) (ifs : List PySem.Expr) (f : St → Option Bool) : Prop :=
  ∀ (A : Around) (E : Value → Shared → Prop) (env : Env) (P : Fz) (σ : St) (s : Shared) (b : Bool) (Q : Bool → Shared → Prop),
    AOk A lv → env.scope = sc → RepE C env nm P σ s.heap → f σ = some b →
    (∀ P' h' tk, Grow P s.heap P' h' → Q b { s with heap := h', toks := tk }) → wpAny C.M A (testsOf ifs env) Q E s
theorem DIfs_nil {C : Cx} {sc : Scope} {nm : List Str} {lv : Nat} : DIfs C sc nm lv [] (fun _ => some true) := by
  intro A E env P σ s b Q hA hs R hf k
  cases hf
  exact wpAny_tests_nil (k P s.heap s.toks (Grow.refl R.sub))
theorem DIfs_one {C : Cx} {sc : Scope} {nm : List Str} {lv : Nat} {c : PySem.Expr} {f : St → Option Bool} (h : DT C sc nm lv c f) : DIfs C sc nm lv [c] f := by
  intro A E env P σ s b Q hA hs R hf k
  exact wpAny_tests_one (h A E env P σ s b Q hA hs R hf k)

abbrev BodyW := Around → Env → Value → (Shared → Prop) → (Value → Shared → Prop) → Shared → Prop

noncomputable def LastW (C : Cx) (elt : PySem.Expr) : BodyW := fun A env acc Q E s => wpAny C.M A (eval elt env) (fun x s₄ => wpAny C.M A (call (.builtin "list.append") [acc, x]) (fun _ s₅ => Q s₅) E s₄) E s
noncomputable def NestW (C : Cx) (e iter' : PySem.Expr) : BodyW := fun A env acc Q E s => wpAny C.M A (eval iter' env) (fun x s₄ =>
  wpAny C.M A (pyIter x) (fun it' s₅ => codeAny C.M (A.mark none) (.compStart e 1 it' acc env) (fun r s₆ => match r with
    | .ok _ => Q s₆
    | .error x => cameBackBy C.M A env E x s₆) s₅) E s₄) E s

/-- the abode of a comprehension: its own names, its list -/
structure Abode (C : Cx) (cenv : Env) (D : Addr) (B P : Fz) (locs : List Str) (lvs : List V) (us : List V) (h : Heap) (m : Str → Option Value) (ys : List Value) (n : Nat) : Prop where
  pc : P cenv.locals = none
  pd : P D = none
  ns : h.Ns cenv.locals m
  loc : LocOk C P m locs lvs
  acc : h.get? D = some (lobj ys n)
  its : C.VRs P us ys

noncomputable def DY (C : Cx) (sc : Scope) (nm locs : List Str) (lv : Nat) (W : BodyW) (g : St → Option (List V)) : Prop :=
  ∀ (A : Around) (E : Value → Shared → Prop) (cenv : Env) (B P : Fz) (σ : St) (lvs : List V) (s : Shared) (m : Str → Option Value) (D : Addr) (ys : List Value) (n : Nat) (us vs : List V) (Q : Shared → Prop),
    AOk A lv → cenv.scope = sc → (∀ P' h', GrowB B P P' h' → RepE C cenv nm P' σ h') → GrowB B P P s.heap → B cenv.locals = none → B D = none → D ≠ cenv.locals →
    Abode C cenv D B P locs lvs us s.heap m ys n → us.length + vs.length ≤ lim → g (frzs lvs ++ σ) = some vs →
    (∀ P' h' tk m' ys' n', GrowB B P P' h' → Abode C cenv D B P' locs lvs (us ++ vs) h' m' ys' n' → Q { s with heap := h', toks := tk }) → W A cenv (.ref D) Q E s

noncomputable def LoopRule (C : Cx) (e : PySem.Expr) (d : Nat) (target : PySem.Expr) (ifs : List PySem.Expr) (W : BodyW) : Prop :=
  ∀ (A : Around) (R : Result → Shared → Prop) (s : Shared) (it acc : Value) (env : Env) (I : Nat → Shared → Prop),
    (∀ n s, I n s → wpAny C.M A (pyNext it) (fun r s₁ => match r with
      | none => R (.ok .next) s₁
      | some v => wpAny C.M A (assign target env v) (fun _ s₂ => wpAny C.M A (testsOf ifs env) (fun ok s₃ =>
            if ok = true then W A env acc (fun s₅ => ∃ m, m < n ∧ I m s₅) (notedBy C.M A env fun e s' => R (.error e) s') s₃
            else ∃ m, m < n ∧ I m s₃) (notedBy C.M A env fun e s' => R (.error e) s') s₂) (notedBy C.M A env fun e s' => R (.error e) s') s₁) (notedBy C.M A env fun e s' => R (.error e) s') s) →
    (∀ v, letOwnedTupleGo target it v = pure ()) → ∀ n, I n s → codeAny C.M A (.compLoop e d it acc env) R s

section
variable {C : Cx} {sc : Scope} {nm locs : List Str} {lv : Nat}

theorem rule_one {elt target iter : PySem.Expr} {ifs : List PySem.Expr} {scope : Scope} {pos : Pos} : LoopRule C (.ListComp elt [⟨target, iter, ifs, 0⟩] scope pos) 0 target ifs (LastW C elt) :=
  fun A R s it acc env I turn ht n hn => codeAny_compLoop_tests I turn n hn ht
noncomputable def loopL (t : V → Option Bool) (g : V → Option (List V)) : List V → Option (List V)
  | [] => some []
  | v :: r => (t v).bind fun b => (if b = true then g v else some []).bind fun a => (loopL t g r).map (a ++ ·)

theorem loop_ok {e : PySem.Expr} {d : Nat} {x : Str} {px : Pos} {ifs : List PySem.Expr} {W : BodyW} {t : St → Option Bool} {g : St → Option (List V)} (L : LoopRule C e d (.Name x px) ifs W) (hx : sc.names.lookup x = some .local) (hl : ∀ n ∈ locs, sc.names.lookup n = some .local)
    (hxl : ∀ n ∈ locs, n ≠ x) (ht : DIfs C sc ((x :: locs) ++ nm) lv ifs t) (hg : DY C sc nm (x :: locs) lv W g)
    {A : Around} {R : Result → Shared → Prop} {cenv : Env} {B P : Fz} {σ : St} {lvs : List V} {s : Shared} {m : Str → Option Value} {D I : Addr} {ys : List Value} {n : Nat} {us vs items : List V}
    (hA : AOk A lv) (hsc : cenv.scope = sc) (hk : (sc.kind == .class || (sc.kind == .module && cenv.locals != cenv.globals)) = false) (hR : ∀ P' h', GrowB B P P' h' → RepE C cenv nm P' σ h') (g0 : GrowB B P P s.heap) (bc : B cenv.locals = none) (bd : B D = none) (hDC : D ≠ cenv.locals)
    (H : Abode C cenv D B P locs lvs us s.heap m ys n) (hlen : us.length + vs.length ≤ lim)
    (hI : ItR C P s.heap I items) (pI : P I = none) (bI : B I = none) (hIC : I ≠ cenv.locals) (hID : I ≠ D)
    (hv : loopL (fun v => t (frzs (v :: lvs) ++ σ)) (fun v => g (frzs (v :: lvs) ++ σ)) items = some vs)
    (k : ∀ P' h' tk m' ys' n', GrowB B P P' h' → Abode C cenv D B P' locs lvs (us ++ vs) h' m' ys' n' → R (.ok .next) { s with heap := h', toks := tk }) :
    codeAny C.M A (.compLoop e d (.ref I) (.ref D) cenv) R s := by
  refine L A R s _ _ _ (fun q s' => ∃ P' h' tk m' ys' n' us' vs' its, s' = { s with heap := h', toks := tk } ∧ q = its.length ∧ GrowB B P P' h' ∧ Abode C cenv D B P' locs lvs us' h' m' ys' n' ∧ P' I = none ∧ ItR C P' h' I its ∧
    us' ++ vs' = us ++ vs ∧ loopL (fun v => t (frzs (v :: lvs) ++ σ)) (fun v => g (frzs (v :: lvs) ++ σ)) its = some vs') ?_ (by intro _; rfl) items.length
    ⟨P, s.heap, s.toks, m, ys, n, us, vs, items, rfl, rfl, g0, H, pI, hI, rfl, hv⟩
  rintro q s' ⟨P1, h1, tk1, m1, ys1, n1, us1, vs1, its, rfl, rfl, g1, H1, pI1, hI1, huv, hv1⟩
  cases its with
  | nil =>
    cases hv1
    rw [List.append_nil] at huv
    subst huv
    refine next_nil hA.handled g1.sub pI1 hI1 fun h2 hb => ?_
    have up : ∀ b o, b ≠ I → h1.get? b = some o → h2.get? b = some o := fun b o hne e => hb b o hne e
    refine k P1 h2 tk1 m1 ys1 n1 (g1.set fun b o e1 e2 => up b o ?_ e1) ⟨H1.pc, H1.pd, H1.ns.at' fun o e => up _ o (Ne.symm hIC) e, H1.loc, up _ _ (Ne.symm hID) H1.acc, H1.its⟩
    rintro rfl
    rcases e2 with ⟨o', e2⟩ | ⟨o', e2⟩
    · rw [pI1] at e2; cases e2
    · rw [bI] at e2; cases e2
  | cons v its =>
    obtain ⟨bt, htv, hv1⟩ := bind_some hv1
    obtain ⟨a, hga, hv1⟩ := bind_some hv1
    obtain ⟨vs2, hv2, rfl⟩ := Option.map_eq_some_iff.mp hv1
    refine next_cons g1.sub pI1 hI1 fun h2 tk2 xv hb hxv hI2 => ?_
    have up : ∀ b o, b ≠ I → h1.get? b = some o → h2.get? b = some o := fun b o hne e => hb.extBut b o hne e
    have g2 : GrowB B P P1 h2 := g1.set fun b o e1 e2 => up b o (by
      rintro rfl
      rcases e2 with ⟨o', e2⟩ | ⟨o', e2⟩
      · rw [pI1] at e2; cases e2
      · rw [bI] at e2; cases e2) e1
    have ns2 : h2.Ns cenv.locals m1 := H1.ns.at' fun o e => up _ o (Ne.symm hIC) e
    have acc2 := up _ _ (Ne.symm hID) H1.acc
    refine wpAny_assign_Name (wpAny_storeName_local (by unfold Env.kindOf; rw [hsc]; exact hx) ns2 (fun h3 ns3 hb3 => ?_) (by rw [hsc]; exact hk))
    have up3 : ∀ b o, b ≠ cenv.locals → h2.get? b = some o → h3.get? b = some o := fun b o hne e => hb3.extBut b o hne e
    have g3 : GrowB B P P1 h3 := g2.set fun b o e1 e2 => up3 b o (by
      rintro rfl
      rcases e2 with ⟨o', e2⟩ | ⟨o', e2⟩
      · rw [H1.pc] at e2; cases e2
      · rw [bc] at e2; cases e2) e1
    have acc3 := up3 _ _ hDC acc2
    have hI3 : ItR C P1 h3 I its := hI2.mono (fun _ _ e => e) fun o e => up3 _ _ hIC e
    have loc3 : LocOk C P1 (fun x_1 => if x_1 = x then some xv else m1 x_1) (x :: locs) (v :: lvs) :=
      ⟨⟨xv, by simp, hxv⟩, H1.loc.mono (fun _ _ e => e) fun n hn => by simp [hxl n hn]⟩
    have hloc : ∀ n ∈ x :: locs, cenv.kindOf n = some .local := fun n hn => by
      unfold Env.kindOf; rw [hsc]
      rcases List.mem_cons.mp hn with rfl | hn
      · exact hx
      · exact hl n hn
    have R3 : RepE C cenv ((x :: locs) ++ nm) P1 (frzs (v :: lvs) ++ σ) h3 := (hR P1 h3 g3).locs ns3 loc3 hloc
    refine ht A _ cenv P1 (frzs (v :: lvs) ++ σ) _ bt _ hA hsc R3 htv fun P4 h4 tk4 g4' => ?_
    have g4 := g3.grow g4'
    have up4 := g4'.keep
    have none4 : ∀ b o, h3.get? b = some o → P1 b = none → P4 b = none := fun b o e e' => by
      cases hq : P4 b with
      | none => rfl
      | some o' =>
        rcases g4'.new _ _ hq with e2 | e2
        · rw [e'] at e2; cases e2
        · rw [e] at e2; cases e2
    obtain ⟨oc, hoc⟩ : ∃ o, h3.get? cenv.locals = some o := by obtain ⟨o, _, _, ho, _⟩ := ns3; exact ⟨o, ho⟩
    obtain ⟨oi, hoi⟩ := hI3.obj
    have pc4 := none4 _ _ hoc H1.pc
    have pd4 := none4 _ _ acc3 H1.pd
    have pi4 := none4 _ _ hoi pI1
    have ns4 := ns3.keeps up4
    have loc4 := loc3.mono g4'.le fun n _ => rfl
    have its4 := VRs.mono g4'.le H1.its
    cases bt with
    | false =>
      cases hga
      simp only [Bool.false_eq_true, if_false]
      refine ⟨its.length, by simp, P4, h4, tk4, _, ys1, n1, us1, vs2, its, rfl, rfl, g4, ⟨pc4, pd4, ns4, loc4.2, up4 _ _ acc3, its4⟩, pi4, hI3.mono g4'.le fun o e => up4 _ _ e, by simpa using huv, hv2⟩
    | true =>
      simp only [if_true] at hga ⊢
      have hoi4 := up4 _ _ hoi
      have toB : ∀ {P5 : Fz} {h5 : Heap}, GrowB (fun b => if b = I then h4.get? I else B b) P4 P5 h5 → GrowB B P P5 h5 := fun g5 =>
        g4.trans ⟨g5.le, g5.sub, fun b o e => g5.keep b o (by
          by_cases hbI : b = I
          · subst hbI; rw [bI] at e; cases e
          · simpa [hbI] using e), fun b o e => by
          rcases g5.new b o e with e | e
          · exact .inl e
          · right
            by_cases hbI : b = I
            · subst hbI; exact bI
            · simpa [hbI] using e⟩
      have hlen2 : us1.length + a.length ≤ lim := by
        have : (us1 ++ (a ++ vs2)).length = (us ++ vs).length := by rw [huv]
        simp only [List.length_append] at this
        omega
      refine hg A _ cenv (fun b => if b = I then h4.get? I else B b) P4 σ (v :: lvs) { s with heap := h4, toks := tk4 } _ D ys1 n1 us1 a _ hA hsc (fun P5 h5 g5 => hR P5 h5 (toB g5)) ?_ (by simp [Ne.symm hIC, bc]) (by simp [Ne.symm hID, bd]) hDC
        ⟨pc4, pd4, ns4, loc4, up4 _ _ acc3, its4⟩ hlen2 hga fun P5 h5 tk5 m5 ys5 n5 g5 H5 => ?_
      · refine ⟨fun _ _ e => e, g4.sub, fun b o e => ?_, fun _ _ e => .inl e⟩
        by_cases hbI : b = I
        · subst hbI; simpa using e
        · exact g4.keep b o (by simpa [hbI] using e)
      · have keepI : h5.get? I = some oi := g5.keep I oi (by simpa using hoi4)
        have pi5 : P5 I = none := by
          cases hq : P5 I with
          | none => rfl
          | some o' =>
            rcases g5.new _ _ hq with e2 | e2
            · rw [pi4] at e2; cases e2
            · simp [hoi4] at e2
        refine ⟨its.length, by simp, P5, h5, tk5, m5, ys5, n5, us1 ++ a, vs2, its, rfl, rfl, toB g5, ⟨H5.pc, H5.pd, H5.ns, H5.loc.2, H5.acc, H5.its⟩, pi5, ?_, by rw [List.append_assoc]; exact huv, hv2⟩
        exact hI3.mono (fun b o e => g5.le _ _ (g4'.le _ _ e)) fun o e => by rw [hoi] at e; cases e; exact keepI

theorem DY_last {elt : PySem.Expr} {f : St → Option V} (hl : ∀ n ∈ locs, sc.names.lookup n = some .local) (he : DE C sc (locs ++ nm) lv elt f) : DY C sc nm locs lv (LastW C elt) (fun σ => (f σ).map fun v => [v]) := by
  intro A E cenv B P σ lvs s m D ys n us vs Q hA hsc hR g0 bc bd hDC H hlen hf k
  obtain ⟨v, hv, rfl⟩ := Option.map_eq_some_iff.mp hf
  have hloc : ∀ n ∈ locs, cenv.kindOf n = some .local := fun n hn => by unfold Env.kindOf; rw [hsc]; exact hl n hn
  refine he A E cenv P _ s v _ hA hsc ((hR P s.heap g0).locs H.ns H.loc hloc) hv fun P1 h1 tk1 x g1 hx => ?_
  have g1' := g0.grow g1
  have none1 : ∀ b o, s.heap.get? b = some o → P b = none → P1 b = none := fun b o e e' => by
    cases hq : P1 b with
    | none => rfl
    | some o' =>
      rcases g1.new _ _ hq with e2 | e2
      · rw [e'] at e2; cases e2
      · rw [e] at e2; cases e2
  obtain ⟨oc, hoc⟩ : ∃ o, s.heap.get? cenv.locals = some o := by obtain ⟨o, _, _, ho, _⟩ := H.ns; exact ⟨o, ho⟩
  have pc1 := none1 _ _ hoc H.pc
  have pd1 := none1 _ _ H.acc H.pd
  have hylen := H.its.length
  unfold lim at hlen
  refine wpAny_list_append_plain (items := ys.toArray) ⟨n, g1.keep _ _ H.acc⟩ (fun h2 hp hb => ?_) (by simp only [List.size_toArray]; rw [sizeLine_eq]; simp at hlen; omega)
  obtain ⟨n2, hp⟩ := hp
  have g2 : GrowB B P P1 h2 := g1'.set fun b o e1 e2 => hb.extBut b o (by
    rintro rfl
    rcases e2 with ⟨o', e2⟩ | ⟨o', e2⟩
    · rw [pd1] at e2; cases e2
    · rw [bd] at e2; cases e2) e1
  refine k P1 h2 tk1 m (ys ++ [x]) n2 g2 ⟨pc1, pd1, (H.ns.keeps g1.keep).at' fun o e => hb.extBut _ o (Ne.symm hDC) e, H.loc.mono g1.le fun _ _ => rfl, ?_, (VRs.mono g1.le H.its).snoc hx⟩
  simpa using hp

end
end Lw

namespace Lw
open PySem PySem.Calls PyProof.Rows
set_option maxRecDepth 10000

noncomputable def relab (scope sc : Scope) : Scope :=
  { scope with names := scope.names.map fun (n, k) => if (k == .free && sc.kind == .function && sc.names.lookup n == some .cell) then (n, .cell) else (n, k) }
theorem relab_eq {scope sc : Scope} {env : Env} (h : env.scope = sc) : relabel scope env = relab scope sc := by
  subst h; rfl

theorem closure_ok {env : Env} : ∀ (names : List (Str × NameKind)) (acc : List (Str × Addr)), (∀ n, (n, NameKind.free) ∈ names → ∃ c, env.cells.lookup n = some c) → (∀ n c, acc.lookup n = some c → env.cells.lookup n = some c) →
    ∃ cl : List (Str × Addr), (forIn names acc (fun (p : Str × NameKind) cs => do
        if p.2 == .free then do
          let c ← cellOf env p.1
          pure (ForInStep.yield ((p.1, c) :: cs))
        else pure (ForInStep.yield cs)) : Sem (List (Str × Addr))) = pure cl ∧ (∀ n c, cl.lookup n = some c → env.cells.lookup n = some c) ∧ (∀ n, ((n, NameKind.free) ∈ names ∨ ∃ c, acc.lookup n = some c) → ∃ c, cl.lookup n = some c)
  | [], acc, _, ha => ⟨acc, by simp, ha, fun n h => by
      rcases h with h | h
      · cases h
      · exact h⟩
  | (n, k) :: r, acc, hn, ha => by
    by_cases hk : k = .free
    · subst hk
      obtain ⟨c, hc⟩ := hn n (by simp)
      have ha' : ∀ n' c', List.lookup n' ((n, c) :: acc) = some c' → env.cells.lookup n' = some c' := fun n' c' h => by
        simp only [List.lookup_cons] at h
        split at h
        · rename_i hb
          have : n' = n := by simpa using hb
          subst this; cases h; exact hc
        · exact ha _ _ h
      obtain ⟨cl, e1, e2, e3⟩ := closure_ok r ((n, c) :: acc) (fun n' h => hn n' (List.mem_cons_of_mem _ h)) ha'
      refine ⟨cl, ?_, e2, fun n' h => e3 n' ?_⟩
      · rw [← e1]
        simp only [List.forIn_cons, cellOf, hc]
        simp
      · by_cases hnn : n' = n
        · subst hnn; exact .inr ⟨c, by simp⟩
        · rcases h with h | ⟨c', h⟩
          · rcases List.mem_cons.mp h with h | h
            · cases h; exact absurd rfl hnn
            · exact .inl h
          · have hb : (n' == n) = false := by simpa using hnn
            exact .inr ⟨c', by simp only [List.lookup_cons, hb]; exact h⟩
    · obtain ⟨cl, e1, e2, e3⟩ := closure_ok r acc (fun n' h => hn n' (List.mem_cons_of_mem _ h)) ha
      refine ⟨cl, ?_, e2, fun n' h => e3 n' ?_⟩
      · rw [← e1]
        simp [hk]
      · rcases h with h | h
        · rcases List.mem_cons.mp h with h | h
          · cases h; exact absurd rfl hk
          · exact .inl h
        · exact .inr h

noncomputable def capsOK (scope sc : Scope) : List Str → List Bool → Bool
  | n :: r, c :: cs => (!c || (decide ((relab scope sc).names.lookup n = some .cell) && decide (sc.names.lookup n = some .cell) && decide ((n, NameKind.free) ∈ scope.names))) && capsOK scope sc r cs
  | _, _ => true
theorem capsOK_get {scope sc : Scope} : ∀ {nm : List Str} {cap : List Bool}, capsOK scope sc nm cap = true → ∀ (i : Nat) (n : Str), nm[i]? = some n → cap[i]? = some true →
    (relab scope sc).names.lookup n = some .cell ∧ sc.names.lookup n = some .cell ∧ (n, NameKind.free) ∈ scope.names
  | [], _, _, i, n, h1, _ => by simp at h1
  | _ :: _, [], _, i, n, _, h2 => by simp at h2
  | k :: r, c :: cs, h, i, n, h1, h2 => by
    simp only [capsOK, Bool.and_eq_true] at h
    cases i with
    | zero =>
      simp at h1 h2
      subst h1 h2
      simpa [and_assoc] using h.1
    | succ i => exact capsOK_get h.2 i n (by simpa using h1) (by simpa using h2)

noncomputable def maskS (cap : List Bool) (σ : St) : St := List.zipWith (fun c x => if c = true then x else none) cap σ
theorem maskS_get {cap : List Bool} {σ : St} {i : Nat} {sl : Slot} (h : (maskS cap σ)[i]? = some (some sl)) : cap[i]? = some true ∧ σ[i]? = some (some sl) := by
  unfold maskS at h
  rw [List.getElem?_zipWith] at h
  cases hc : cap[i]? with
  | none => rw [hc] at h; simp at h
  | some c =>
    cases hs : σ[i]? with
    | none => rw [hc, hs] at h; simp at h
    | some x =>
      rw [hc, hs] at h
      simp only [Option.some.injEq] at h
      cases c with
      | false => simp at h
      | true => simp at h; simp [h]

section
variable {C : Cx} {sc : Scope} {nm : List Str} {lv : Nat}

structure CompOK (sc scope : Scope) (nm : List Str) (cap : List Bool) (x : Str) : Prop where
  caps : capsOK scope sc nm cap = true
  free : ∀ p ∈ scope.names, p.2 = .free → sc.names.lookup p.1 = some .cell
  cell : ∀ p ∈ scope.names, p.2 ≠ .cell
  clook : ∀ p ∈ (relab scope sc).names, (relab scope sc).names.lookup p.1 = some .cell → (p.1, NameKind.free) ∈ scope.names
  kind : scope.kind = .function
  locals : ∀ p ∈ scope.names, p.2 = .local → scope.names.lookup p.1 = some .local
  x : (relab scope sc).names.lookup x = some .local

theorem lookup_mem {α : Type} {n : Str} {k : α} : ∀ {l : List (Str × α)}, l.lookup n = some k → ∃ p ∈ l, p.1 = n ∧ p.2 = k
  | [], h => by simp at h
  | (a, b) :: r, h => by
    simp only [List.lookup_cons] at h
    split at h
    · rename_i hb
      have : n = a := by simpa using hb
      cases h; exact ⟨_, List.mem_cons_self, this.symm, rfl⟩
    · obtain ⟨p, h1, h2⟩ := lookup_mem h
      exact ⟨p, List.mem_cons_of_mem _ h1, h2⟩

theorem closure_of {env : Env} {scope : Scope} (hcells : ∀ n, env.kindOf n = some .cell → ∃ c, env.cells.lookup n = some c) (hfree : ∀ p ∈ scope.names, p.2 = .free → env.scope.names.lookup p.1 = some .cell) :
    ∃ cl, closureFor scope env = pure cl ∧ (∀ n c, cl.lookup n = some c → env.cells.lookup n = some c) ∧ ∀ n, (n, NameKind.free) ∈ scope.names → ∃ c, cl.lookup n = some c := by
  obtain ⟨cl, e1, e2, e3⟩ := closure_ok (env := env) scope.names [] (fun n h => hcells n (hfree _ h rfl)) (fun n c h => by simp at h)
  refine ⟨cl, ?_, e2, fun n h => e3 n (.inl h)⟩
  rw [← e1]
  unfold closureFor
  simp only [bind_pure]

theorem RepE.inner {env : Env} {P : Fz} {σ : St} {h : Heap} {scope : Scope} {cap : List Bool} {x : Str} {cl : List (Str × Addr)} {L : Addr} (R : RepE C env nm P σ h) (hs : env.scope = sc) (O : CompOK sc scope nm cap x)
    (c1 : ∀ n c, cl.lookup n = some c → env.cells.lookup n = some c) (c2 : ∀ n, (n, NameKind.free) ∈ scope.names → ∃ c, cl.lookup n = some c) :
    RepE C (compEnvC scope cl L env) nm P (maskS cap σ) h := by
  refine ⟨R.base, R.sub, O.kind, R.gl, R.bl, fun i n sl e1 e2 => ?_, fun n hn => ?_⟩
  · obtain ⟨e3, e4⟩ := maskS_get e2
    obtain ⟨a1, a2, a3⟩ := capsOK_get O.caps i n e1 e3
    obtain ⟨y, h1, h2⟩ := R.vars i n sl e1 e4
    refine ⟨y, ?_, h2⟩
    rcases h1 with ⟨h1, _⟩ | ⟨h1, c, h3, h4⟩
    · unfold Env.kindOf at h1; rw [hs, a2] at h1; cases h1
    · obtain ⟨c', hc'⟩ := c2 n a3
      have := c1 _ _ hc'
      rw [h3] at this; cases this
      refine .inr ⟨.inl ?_, c, hc', h4⟩
      show (relabel scope env).names.lookup n = some .cell
      rw [relab_eq hs]; exact a1
  · have hn' : (relabel scope env).names.lookup n = some .cell := hn
    rw [relab_eq hs] at hn'
    obtain ⟨p, p1, p2, _⟩ := lookup_mem hn'
    subst p2
    exact c2 _ (O.clook p p1 hn')

theorem comp_core {elt iter : PySem.Expr} {x : Str} {px pos : Pos} {ifs : List PySem.Expr} {rest : List Comprehension} {scope : Scope} {cap : List Bool} {W : BodyW} {t : St → Option Bool} {g : St → Option (List V)}
    (O : CompOK sc scope nm cap x) (L : LoopRule C (.ListComp elt (⟨.Name x px, iter, ifs, 0⟩ :: rest) scope pos) 0 (.Name x px) ifs W)
    (ht : DIfs C (relab scope sc) (x :: nm) lv ifs t) (hg : DY C (relab scope sc) nm [x] lv W g)
    {A : Around} {E : Value → Shared → Prop} {env : Env} {P P1 : Fz} {σ : St} {s : Shared} {h1 : Heap} {tk1 : Nat} {I : Addr} {vs items : List V} {cl : List (Str × Addr)} {RR : Value → Addr → Result → Shared → Prop}
    (hA : AOk A lv) (hs : env.scope = sc) (R : RepE C env nm P σ s.heap) (g1 : Grow P s.heap P1 h1) (hI : ItR C P1 h1 I items) (pI : P1 I = none) (sI : s.heap.get? I = none)
    (c1 : ∀ n c, cl.lookup n = some c → env.cells.lookup n = some c) (c2 : ∀ n, (n, NameKind.free) ∈ scope.names → ∃ c, cl.lookup n = some c)
    (hv : loopL (fun v => t (some (.frz v) :: maskS cap σ)) (fun v => g (some (.frz v) :: maskS cap σ)) items = some vs) (hlen : vs.length ≤ lim)
    (k : ∀ P' h' tk m' D L ys n, Grow P s.heap P' h' → P' L = none → P' D = none → s.heap.get? D = none → s.heap.get? L = none → D ≠ L → h'.Ns L m' → h'.get? D = some (lobj ys n) → C.VRs P' vs ys → RR (.ref D) L (.ok .next) { s with heap := h', toks := tk }) :
    wpAny C.M A (newList []) (fun acc s₃ => wpAny C.M A (newFunctionEnv scope env.globals cl [] env.qual none .none (some env)) (fun cenv s₄ =>
      codeAny C.M A (.compStart (.ListComp elt (⟨.Name x px, iter, ifs, 0⟩ :: rest) scope pos) 0 (.ref I) acc { cenv with scope := relabel scope env }) (RR acc cenv.locals) s₄) E s₃) E { s with heap := h1, toks := tk1 } := by
  refine wpAny_newObj_type (wpAny_newFunctionEnv O.cell (by intro y hy; simp at hy) (fun h₁ hns₁ hsb₁ => ?_) O.kind)
  dsimp only at hns₁ hsb₁ ⊢
  generalize hH2 : h1.push { cls := .type "list", dict := none, data := .seq ([] : List Value).toArray } = H2 at hns₁ hsb₁ ⊢
  have hC : H2.objs.size = h1.objs.size + 1 := by rw [← hH2, Heap.size_push]
  have hDC : h1.objs.size ≠ H2.objs.size := by rw [hC]; exact Nat.ne_of_lt (Nat.lt_succ_self _)
  have below : ∀ b, b < h1.objs.size → b ≠ H2.objs.size := fun b hb => by rw [hC]; exact Nat.ne_of_lt (Nat.lt_succ_of_lt hb)
  have old : ∀ b o, h1.get? b = some o → h₁.get? b = some o := fun b o e => hsb₁.extBut b o (below b (Heap.lt_size e)) (Heap.get?_push_of_some _ (hH2 ▸ Heap.get?_push_of_some _ e))
  have hacc : h₁.get? h1.objs.size = some (lobj [] 0) := hsb₁.extBut _ _ hDC (Heap.get?_push_of_some _ (hH2 ▸ Heap.get?_push_size _ rfl))
  have freshS : ∀ b, h1.get? b = none → s.heap.get? b = none := fun b e => by
    cases hq : s.heap.get? b with
    | none => rfl
    | some o => have := g1.keep _ _ hq; rw [e] at this; cases this
  have freshP : ∀ b, h1.get? b = none → P1 b = none := fun b e => by
    cases hq : P1 b with
    | none => rfl
    | some o => have := g1.sub _ _ hq; rw [e] at this; cases this
  have nD : h1.get? h1.objs.size = none := fresh_none _
  have nC : h1.get? H2.objs.size = none := fresh_ge (by rw [hC]; exact Nat.le_succ _)
  have g2 : Grow P s.heap P1 h₁ := ⟨g1.le, fun b o e => old _ _ (g1.sub _ _ e), fun b o e => old _ _ (g1.keep _ _ e), g1.new⟩
  obtain ⟨oi, hoi⟩ := hI.obj
  have Rin : ∀ P' h', GrowB s.heap.get? P P' h' → RepE C (compEnvC scope cl H2.objs.size env) nm P' (maskS cap σ) h' := fun P' h' g' => (R.grow g'.ofB).inner hs O c1 c2
  have loop : codeAny C.M A (.compLoop (.ListComp elt (⟨.Name x px, iter, ifs, 0⟩ :: rest) scope pos) 0 (.ref I) (.ref h1.objs.size) (compEnvC scope cl H2.objs.size env)) (RR (.ref h1.objs.size) H2.objs.size)
      { s with heap := h₁, toks := tk1 + ([] : List (Str × Value)).length } := by
    refine loop_ok (locs := []) (lvs := []) (us := []) (B := s.heap.get?) (P := P1) (σ := maskS cap σ) L O.x (by simp) (by simp) ht hg hA (relab_eq hs) (by rw [show (relab scope sc).kind = .function from O.kind]; rfl)
      (fun P' h' g' => Rin P' h' (g2.toB.trans g')) ⟨fun _ _ e => e, g2.sub, g2.keep, fun _ _ e => .inl e⟩ (freshS _ nC) (freshS _ nD) hDC ⟨freshP _ nC, freshP _ nD, hns₁, trivial, hacc, .nil⟩ (by simpa using hlen)
      (hI.mono (fun _ _ e => e) fun o e => old _ _ e) pI sI (fun e => by replace e : I = H2.objs.size := e; rw [e, nC] at hoi; cases hoi) (fun e => by rw [e, nD] at hoi; cases hoi) hv fun P' h' tk m' ys' n' g' H => ?_
    exact k P' h' tk m' _ _ ys' n' (g2.toB.trans g').ofB H.pc H.pd (freshS _ nD) (freshS _ nC) hDC H.ns H.acc (by simpa using H.its)
  exact codeAny_compStart_list loop (iter_self (C := C) (P := P1) (hI.mono (fun _ _ e => e) fun o e => old _ _ e) loop)

theorem DF_comp {elt iter : PySem.Expr} {x : Str} {px pos : Pos} {ifs : List PySem.Expr} {rest : List Comprehension} {scope : Scope} {cap : List Bool} {W : BodyW} {fi : St → Option (List V)} {t : St → Option Bool} {g : St → Option (List V)}
    (O : CompOK sc scope nm cap x) (hfold : ∀ env x, foldedSetIterable iter env x = pure x) (L : LoopRule C (.ListComp elt (⟨.Name x px, iter, ifs, 0⟩ :: rest) scope pos) 0 (.Name x px) ifs W)
    (hi : DI C sc nm lv iter fi) (ht : DIfs C (relab scope sc) (x :: nm) lv ifs t) (hg : DY C (relab scope sc) nm [x] lv W g) :
    DF C sc nm lv (.ListComp elt (⟨.Name x px, iter, ifs, 0⟩ :: rest) scope pos) (fun σ => (fi σ).bind fun items =>
      (loopL (fun v => t (some (.frz v) :: maskS cap σ)) (fun v => g (some (.frz v) :: maskS cap σ)) items).bind fun vs => if vs.length ≤ lim then some vs else none) := by
  intro A E env P σ s vs Q hA hs R hf k
  obtain ⟨items, hit, hf⟩ := bind_some hf
  obtain ⟨vs', hv, hf⟩ := bind_some hf
  split at hf
  · rename_i hlen
    cases hf
    obtain ⟨cl, ecl, c1, c2⟩ := closure_of (env := env) (scope := scope) R.cells (by rw [hs]; exact O.free)
    rw [eval_ListComp]
    refine wpAny_comprehension_free (use := none) rfl (hfold env) ecl O.kind O.locals (hi A E env P σ s items _ hA hs R hit fun P1 h1 tk1 I g1 hI pI sI => ?_)
    refine comp_core (RR := fun acc C' => compPost C.M A E none Q acc C') O L ht hg hA hs R g1 hI pI sI c1 c2 hv hlen fun P' h' tk m' D L ys n g' pL pD sD sL hDL hn hacc hx => ?_
    refine ⟨m', hn, fun h'' hb => ?_⟩
    have up : ∀ b o, b ≠ L → h'.get? b = some o → h''.get? b = some o := fun b o hne e => hb.extBut b o hne e
    refine k P' h'' tk D ys n ⟨g'.le, fun b o e => up b o (by rintro rfl; rw [pL] at e; cases e) (g'.sub _ _ e), fun b o e => up b o (by rintro rfl; rw [sL] at e; cases e) (g'.keep _ _ e), g'.new⟩ pD sD (up _ _ hDL hacc) hx
  · cases hf
end
end Lw

namespace Lw
open PySem PySem.Calls PyProof.Rows
set_option maxRecDepth 10000

noncomputable def Slot.isOwn : Slot → Bool
  | .frz _ => false
  | _ => true
noncomputable def OwnR (C : Cx) (P : Fz) (h : Heap) : Slot → Addr → Prop
  | .frz _, _ => False
  | .ownL vs, a => ∃ xs n, h.get? a = some (lobj xs n) ∧ C.VRs P vs xs
  | .ownD kvs, a => (a == sysModules) = false ∧ ∃ o kxs, h.get? a = some o ∧ o.IsDictOf (intKind C.prog C.w) kxs ∧ C.DRs P kvs kxs
theorem OwnR.slot {C : Cx} {P : Fz} {h : Heap} {sl : Slot} {a : Addr} (H : OwnR C P h sl a) : SlotR C P h sl (.ref a) := by
  cases sl with
  | frz v => exact H.elim
  | ownL vs => obtain ⟨xs, n, h1, h2⟩ := H; exact ⟨a, xs, n, rfl, h1, h2⟩
  | ownD kvs => obtain ⟨h0, o, kxs, h1, h2, h3⟩ := H; exact ⟨a, o, kxs, rfl, h0, h1, h2, h3⟩
theorem OwnR.mono {C : Cx} {P P' : Fz} {h h' : Heap} {sl : Slot} {a : Addr} (H : OwnR C P h sl a) (hp : ∀ b o, P b = some o → P' b = some o) (hk : ∀ o, h.get? a = some o → h'.get? a = some o) : OwnR C P' h' sl a := by
  cases sl with
  | frz v => exact H.elim
  | ownL vs => obtain ⟨xs, n, h1, h2⟩ := H; exact ⟨xs, n, hk _ h1, VRs.mono hp h2⟩
  | ownD kvs => obtain ⟨h0, o, kxs, h1, h2, h3⟩ := H; exact ⟨h0, o, kxs, hk _ h1, h2, DRs.mono hp h3⟩
theorem OwnR.obj {C : Cx} {P : Fz} {h : Heap} {sl : Slot} {a : Addr} (H : OwnR C P h sl a) : ∃ o, h.get? a = some o := by
  cases sl with
  | frz v => exact H.elim
  | ownL vs => obtain ⟨xs, n, h1, h2⟩ := H; exact ⟨_, h1⟩
  | ownD kvs => obtain ⟨h0, o, kxs, h1, h2, h3⟩ := H; exact ⟨_, h1⟩

structure EnvOk (env : Env) (nm : List Str) : Prop where
  fn : env.scope.kind = .function
  gl : env.globals = mainGlobals
  bl : env.builtins = builtinsNs
  cells : ∀ n, env.kindOf n = some .cell → ∃ c, env.cells.lookup n = some c
  inj : ∀ n n' c, env.cells.lookup n = some c → env.cells.lookup n' = some c → n = n'
  cloc : ∀ n c, env.cells.lookup n = some c → c ≠ env.locals
  kinds : ∀ n ∈ nm, env.kindOf n = some .local ∨ env.kindOf n = some .cell
  nd : nm.Nodup

structure RepW (C : Cx) (env : Env) (nm : List Str) (B P : Fz) (σ : St) (h : Heap) (ow : Nat → Addr) : Prop where
  st : EnvOk env nm
  h0 : ∀ b o, C.h₀.get? b = some o → B b = some o
  bsub : ∀ b o, B b = some o → h.get? b = some o
  sub : ∀ b o, P b = some o → h.get? b = some o
  ns : ∃ m, h.Ns env.locals m
  bl : B env.locals = none
  pl : P env.locals = none
  cell : ∀ n c, env.cells.lookup n = some c → (∃ v, h.IsCell c v) ∧ B c = none ∧ P c = none
  frz : ∀ (i : Nat) (n : Str) (v : V), nm[i]? = some n → σ[i]? = some (some (.frz v)) → ∃ x, At env h n x ∧ C.VR P v x
  own : ∀ (i : Nat) (n : Str) (sl : Slot), nm[i]? = some n → σ[i]? = some (some sl) → sl.isOwn = true → At env h n (.ref (ow i)) ∧ OwnR C P h sl (ow i)
  apart : ∀ (i : Nat) (n : Str) (sl : Slot), nm[i]? = some n → σ[i]? = some (some sl) → sl.isOwn = true → B (ow i) = none ∧ P (ow i) = none ∧ ow i ≠ env.locals ∧ (∀ n c, env.cells.lookup n = some c → ow i ≠ c) ∧
    ∀ (j : Nat) (n' : Str) (sl' : Slot), nm[j]? = some n' → σ[j]? = some (some sl') → sl'.isOwn = true → i ≠ j → ow i ≠ ow j

section
variable {C : Cx} {env : Env} {nm : List Str} {B B' P P' : Fz} {σ : St} {h h' : Heap} {ow : Nat → Addr}

theorem RepW.toE (R : RepW C env nm B P σ h ow) : RepE C env nm P σ h :=
  ⟨fun b o e => R.bsub _ _ (R.h0 _ _ e), R.sub, R.st.fn, R.st.gl, R.st.bl, fun i n sl e1 e2 => by
    by_cases hs : sl.isOwn = true
    · obtain ⟨a1, a2⟩ := R.own i n sl e1 e2 hs
      exact ⟨_, a1, a2.slot⟩
    · cases sl with
      | frz v => exact R.frz i n v e1 e2
      | ownL vs => exact absurd rfl hs
      | ownD vs => exact absurd rfl hs, R.st.cells⟩

theorem none_of_grow {P P' : Fz} {h h' : Heap} (g : Grow P h P' h') {b : Addr} {o : Obj} (e : h.get? b = some o) (e' : P b = none) : P' b = none := by
  cases hq : P' b with
  | none => rfl
  | some o' =>
    rcases g.new _ _ hq with e2 | e2
    · rw [e'] at e2; cases e2
    · rw [e] at e2; cases e2

theorem RepW.locObj (R : RepW C env nm B P σ h ow) : ∃ o, h.get? env.locals = some o := by
  obtain ⟨m, o, _, _, ho, _⟩ := R.ns; exact ⟨o, ho⟩
theorem RepW.cellObj (R : RepW C env nm B P σ h ow) {n : Str} {c : Addr} (hc : env.cells.lookup n = some c) : ∃ o, h.get? c = some o := by
  obtain ⟨v, o, ho, _⟩ := (R.cell n c hc).1; exact ⟨o, ho⟩

theorem RepW.grow (R : RepW C env nm B P σ h ow) (g : Grow P h P' h') : RepW C env nm B P' σ h' ow := by
  obtain ⟨lo, hlo⟩ := R.locObj
  refine ⟨R.st, R.h0, fun b o e => g.keep _ _ (R.bsub _ _ e), g.sub, ?_, R.bl, none_of_grow g hlo R.pl, fun n c hc => ?_, fun i n v e1 e2 => ?_, fun i n sl e1 e2 e3 => ?_, fun i n sl e1 e2 e3 => ?_⟩
  · obtain ⟨m, hm⟩ := R.ns; exact ⟨m, hm.keeps g.keep⟩
  · obtain ⟨⟨v, hv⟩, a2, a3⟩ := R.cell n c hc
    obtain ⟨o, ho⟩ := R.cellObj hc
    exact ⟨⟨v, hv.keeps g.keep⟩, a2, none_of_grow g ho a3⟩
  · obtain ⟨x, a1, a2⟩ := R.frz i n v e1 e2
    exact ⟨x, a1.keeps g.keep, VR.mono g.le a2⟩
  · obtain ⟨a1, a2⟩ := R.own i n sl e1 e2 e3
    exact ⟨a1.keeps g.keep, a2.mono g.le fun o e => g.keep _ _ e⟩
  · obtain ⟨a1, a2, a3, a4, a5⟩ := R.apart i n sl e1 e2 e3
    obtain ⟨o, ho⟩ := (R.own i n sl e1 e2 e3).2.obj
    exact ⟨a1, none_of_grow g ho a2, a3, a4, a5⟩

theorem set_get {σ : St} {i j : Nat} {x : Option Slot} {sl : Slot} (h : (σ.set i x)[j]? = some (some sl)) : (j = i ∧ x = some sl) ∨ (j ≠ i ∧ σ[j]? = some (some sl)) := by
  rw [List.getElem?_set] at h
  by_cases hij : i = j
  · subst hij
    simp only [if_true] at h
    split at h
    · exact .inl ⟨rfl, by simpa using h⟩
    · cases h
  · rw [if_neg hij] at h
    exact .inr ⟨fun e => hij e.symm, h⟩

/-- what a variable newly takes -/
inductive NewIn (C : Cx) (env : Env) (nm : List Str) (B P : Fz) (σ : St) (h : Heap) (ow : Nat → Addr) (i : Nat) : Slot → Value → Prop
  | frz {v : V} {x : Value} : C.VR P v x → NewIn C env nm B P σ h ow i (.frz v) x
  | own {sl : Slot} {a : Addr} : sl.isOwn = true → OwnR C P h sl a → B a = none → P a = none → a ≠ env.locals → (∀ n c, env.cells.lookup n = some c → a ≠ c) →
      (∀ (j : Nat) (n' : Str) (sl' : Slot), nm[j]? = some n' → σ[j]? = some (some sl') → sl'.isOwn = true → i ≠ j → a ≠ ow j) → NewIn C env nm B P σ h ow i sl (.ref a)

theorem RepW.put (R : RepW C env nm B P σ h ow) {i : Nat} {n : Str} {sl : Slot} {x : Value} (hn : nm[i]? = some n) (N : NewIn C env nm B P σ h ow i sl x)
    (k1 : At env h' n x) (k2 : ∀ n' y, n' ≠ n → At env h n' y → At env h' n' y) (k3 : ∀ b o, b ≠ env.locals → (∀ n c, env.cells.lookup n = some c → b ≠ c) → h.get? b = some o → h'.get? b = some o)
    (k4 : ∃ m, h'.Ns env.locals m) (k5 : ∀ n c, env.cells.lookup n = some c → ∃ v, h'.IsCell c v) : ∃ ow', RepW C env nm B P (σ.set i (some sl)) h' ow' := by
  have hne : ∀ (j : Nat) (n' : Str), nm[j]? = some n' → j ≠ i → n' ≠ n := fun j n' e1 hji e => by
    subst e
    have h1 : j < nm.length := (List.getElem?_eq_some_iff.mp e1).1
    have h2 : i < nm.length := (List.getElem?_eq_some_iff.mp hn).1
    exact hji ((List.getElem?_inj h1 R.st.nd).mp (e1.trans hn.symm))
  have upP : ∀ b o, P b = some o → h'.get? b = some o := fun b o e => k3 b o (by rintro rfl; rw [R.pl] at e; cases e) (fun n c hc => by rintro rfl; rw [(R.cell n _ hc).2.2] at e; cases e) (R.sub _ _ e)
  have upB : ∀ b o, B b = some o → h'.get? b = some o := fun b o e => k3 b o (by rintro rfl; rw [R.bl] at e; cases e) (fun n c hc => by rintro rfl; rw [(R.cell n _ hc).2.1] at e; cases e) (R.bsub _ _ e)
  have cellk : ∀ n c, env.cells.lookup n = some c → (∃ v, h'.IsCell c v) ∧ B c = none ∧ P c = none := fun n c hc => ⟨k5 n c hc, (R.cell n c hc).2⟩
  have frzk : ∀ (j : Nat) (n' : Str) (v : V), nm[j]? = some n' → (σ.set i (some sl))[j]? = some (some (.frz v)) → ∃ x, At env h' n' x ∧ C.VR P v x := fun j n' v e1 e2 => by
    rcases set_get e2 with ⟨rfl, e⟩ | ⟨hji, e⟩
    · cases e
      rw [hn] at e1; cases e1
      cases N with
      | frz hx => exact ⟨x, k1, hx⟩
      | own h1 => cases h1
    · obtain ⟨y, a1, a2⟩ := R.frz j n' v e1 e
      exact ⟨y, k2 _ _ (hne j n' e1 hji) a1, a2⟩
  have oldown : ∀ (j : Nat) (n' : Str) (sl' : Slot), nm[j]? = some n' → σ[j]? = some (some sl') → sl'.isOwn = true → j ≠ i → At env h' n' (.ref (ow j)) ∧ OwnR C P h' sl' (ow j) := fun j n' sl' e1 e e3 hji => by
    obtain ⟨a1, a2⟩ := R.own j n' sl' e1 e e3
    obtain ⟨_, _, b1, b2, _⟩ := R.apart j n' sl' e1 e e3
    exact ⟨k2 _ _ (hne j n' e1 hji) a1, a2.mono (fun _ _ e => e) fun o e => k3 _ o b1 b2 e⟩
  cases N with
  | @frz v x hx =>
    refine ⟨ow, R.st, R.h0, upB, upP, k4, R.bl, R.pl, cellk, frzk, fun j n' sl' e1 e2 e3 => ?_, fun j n' sl' e1 e2 e3 => ?_⟩
    · rcases set_get e2 with ⟨rfl, e⟩ | ⟨hji, e⟩
      · cases e; cases e3
      · exact oldown j n' sl' e1 e e3 hji
    · rcases set_get e2 with ⟨rfl, e⟩ | ⟨hji, e⟩
      · cases e; cases e3
      · obtain ⟨c1, c2, c3, c4, c5⟩ := R.apart j n' sl' e1 e e3
        refine ⟨c1, c2, c3, c4, fun q n'' sl'' f1 f2 f3 hq => ?_⟩
        rcases set_get f2 with ⟨rfl, f⟩ | ⟨hqi, f⟩
        · cases f; cases f3
        · exact c5 q n'' sl'' f1 f f3 hq
  | @own sl a h1 h2 h3 h4 h5 h6 h7 =>
    refine ⟨fun j => if j = i then a else ow j, R.st, R.h0, upB, upP, k4, R.bl, R.pl, cellk, frzk, fun j n' sl' e1 e2 e3 => ?_, fun j n' sl' e1 e2 e3 => ?_⟩
    · rcases set_get e2 with ⟨rfl, e⟩ | ⟨hji, e⟩
      · cases e
        rw [hn] at e1; cases e1
        simp only [if_true]
        exact ⟨k1, h2.mono (fun _ _ e => e) fun o e => k3 _ o h5 h6 e⟩
      · simp only [if_neg hji]
        exact oldown j n' sl' e1 e e3 hji
    · rcases set_get e2 with ⟨rfl, e⟩ | ⟨hji, e⟩
      · cases e
        simp only [if_true]
        refine ⟨h3, h4, h5, h6, fun q n'' sl'' f1 f2 f3 hq => ?_⟩
        rcases set_get f2 with ⟨rfl, f⟩ | ⟨hqi, f⟩
        · exact absurd rfl hq
        · simp only [if_neg hqi]
          exact h7 q n'' sl'' f1 f f3 hq
      · simp only [if_neg hji]
        obtain ⟨c1, c2, c3, c4, c5⟩ := R.apart j n' sl' e1 e e3
        refine ⟨c1, c2, c3, c4, fun q n'' sl'' f1 f2 f3 hq => ?_⟩
        rcases set_get f2 with ⟨rfl, f⟩ | ⟨hqi, f⟩
        · simp only [if_true]
          exact (h7 j n' sl' e1 e e3 (Ne.symm hji)).symm
        · simp only [if_neg hqi]
          exact c5 q n'' sl'' f1 f f3 hq

/-- an owned object changed -/
theorem RepW.change (R : RepW C env nm B P σ h ow) {i : Nat} {n : Str} {sl sl' : Slot} (hn : nm[i]? = some n) (hi : σ[i]? = some (some sl)) (hs : sl.isOwn = true) (hs' : sl'.isOwn = true) (hb : ∀ b o, b ≠ ow i → h.get? b = some o → h'.get? b = some o)
    (ho : OwnR C P h' sl' (ow i)) : RepW C env nm B P (σ.set i (some sl')) h' ow := by
  obtain ⟨b1, b2, b3, b4, b5⟩ := R.apart i n sl hn hi hs
  have atk : ∀ n y, At env h n y → At env h' n y := fun n y H => by
    rcases H with ⟨h1, m, h2, h3⟩ | ⟨h1, c, h2, h3⟩
    · exact .inl ⟨h1, m, h2.at' fun o e => hb _ o (Ne.symm b3) e, h3⟩
    · exact .inr ⟨h1, c, h2, by obtain ⟨o, e1, e2⟩ := h3; exact ⟨o, hb _ o (Ne.symm (b4 n c h2)) e1, e2⟩⟩
  refine ⟨R.st, R.h0, fun b o e => hb _ _ (by rintro rfl; rw [b1] at e; cases e) (R.bsub _ _ e), fun b o e => hb _ _ (by rintro rfl; rw [b2] at e; cases e) (R.sub _ _ e), ?_, R.bl, R.pl, fun n c hc => ?_, fun j n' v e1 e2 => ?_, fun j n' sl₂ e1 e2 e3 => ?_, fun j n' sl₂ e1 e2 e3 => ?_⟩
  · obtain ⟨m, hm⟩ := R.ns; exact ⟨m, hm.at' fun o e => hb _ o (Ne.symm b3) e⟩
  · obtain ⟨⟨v, o, e1, e2⟩, a2⟩ := R.cell n c hc
    exact ⟨⟨v, o, hb _ o (Ne.symm (b4 n c hc)) e1, e2⟩, a2⟩
  · rcases set_get e2 with ⟨rfl, e⟩ | ⟨hji, e⟩
    · cases e; cases hs'
    · obtain ⟨y, a1, a2⟩ := R.frz j n' v e1 e
      exact ⟨y, atk _ _ a1, a2⟩
  · rcases set_get e2 with ⟨rfl, e⟩ | ⟨hji, e⟩
    · cases e
      rw [hn] at e1; cases e1
      exact ⟨atk _ _ (R.own j n sl hn hi hs).1, ho⟩
    · obtain ⟨a1, a2⟩ := R.own j n' sl₂ e1 e e3
      exact ⟨atk _ _ a1, a2.mono (fun _ _ e => e) fun o e' => hb _ o (Ne.symm (b5 j n' sl₂ e1 e e3 (Ne.symm hji))) e'⟩
  · have key : ∀ (q : Nat) (n'' : Str) (sl'' : Slot), nm[q]? = some n'' → (σ.set i (some sl'))[q]? = some (some sl'') → sl''.isOwn = true → ∃ s3, σ[q]? = some (some s3) ∧ s3.isOwn = true := fun q n'' sl'' f1 f2 f3 => by
      rcases set_get f2 with ⟨rfl, f⟩ | ⟨hqi, f⟩
      · exact ⟨sl, hi, hs⟩
      · exact ⟨sl'', f, f3⟩
    obtain ⟨s3, g1, g2⟩ := key j n' sl₂ e1 e2 e3
    obtain ⟨c1, c2, c3, c4, c5⟩ := R.apart j n' s3 e1 g1 g2
    refine ⟨c1, c2, c3, c4, fun q n'' sl'' f1 f2 f3 hq => ?_⟩
    obtain ⟨s4, g3, g4⟩ := key q n'' sl'' f1 f2 f3
    exact c5 q n'' s4 f1 g3 g4 hq

/-- an object out of hand changed, or newly kept -/
theorem RepW.reB (R : RepW C env nm B P σ h ow) {I : Addr} (pI : P I = none) (hL : I ≠ env.locals) (hc : ∀ n c, env.cells.lookup n = some c → I ≠ c) (ho : ∀ (i : Nat) (n : Str) (sl : Slot), nm[i]? = some n → σ[i]? = some (some sl) → sl.isOwn = true → ow i ≠ I)
    (hb : ∀ b o, b ≠ I → h.get? b = some o → h'.get? b = some o) (hB : ∀ b, b ≠ I → B' b = B b) (hBI : ∀ o, B' I = some o → h'.get? I = some o) (h0 : C.h₀.get? I = none) : RepW C env nm B' P σ h' ow := by
  have atk : ∀ n y, At env h n y → At env h' n y := fun n y H => by
    rcases H with ⟨h1, m, h2, h3⟩ | ⟨h1, c, h2, h3⟩
    · exact .inl ⟨h1, m, h2.at' fun o e => hb _ o (Ne.symm hL) e, h3⟩
    · exact .inr ⟨h1, c, h2, by obtain ⟨o, e1, e2⟩ := h3; exact ⟨o, hb _ o (Ne.symm (hc n c h2)) e1, e2⟩⟩
  refine ⟨R.st, fun b o e => ?_, fun b o e => ?_, fun b o e => hb _ _ (by rintro rfl; rw [pI] at e; cases e) (R.sub _ _ e), ?_, by rw [hB _ (Ne.symm hL)]; exact R.bl, R.pl, fun n c hcl => ?_, fun j n' v e1 e2 => ?_, fun j n' sl₂ e1 e2 e3 => ?_, fun j n' sl₂ e1 e2 e3 => ?_⟩
  · rw [hB _ (by rintro rfl; rw [h0] at e; cases e)]; exact R.h0 _ _ e
  · by_cases hbI : b = I
    · subst hbI; exact hBI _ e
    · rw [hB _ hbI] at e; exact hb _ _ hbI (R.bsub _ _ e)
  · obtain ⟨m, hm⟩ := R.ns; exact ⟨m, hm.at' fun o e => hb _ o (Ne.symm hL) e⟩
  · obtain ⟨⟨v, o, e1, e2⟩, a2, a3⟩ := R.cell n c hcl
    exact ⟨⟨v, o, hb _ o (Ne.symm (hc n c hcl)) e1, e2⟩, by rw [hB _ (Ne.symm (hc n c hcl))]; exact a2, a3⟩
  · obtain ⟨y, a1, a2⟩ := R.frz j n' v e1 e2
    exact ⟨y, atk _ _ a1, a2⟩
  · obtain ⟨a1, a2⟩ := R.own j n' sl₂ e1 e2 e3
    exact ⟨atk _ _ a1, a2.mono (fun _ _ e => e) fun o e' => hb _ o (ho j n' sl₂ e1 e2 e3) e'⟩
  · obtain ⟨c1, c2, c3, c4, c5⟩ := R.apart j n' sl₂ e1 e2 e3
    exact ⟨by rw [hB _ (ho j n' sl₂ e1 e2 e3)]; exact c1, c2, c3, c4, c5⟩

noncomputable def frozenS : Slot → V
  | .frz v => v
  | .ownL vs => .list vs
  | .ownD kvs => .dict kvs
/-- an owned object let be for good -/
theorem RepW.freeze (R : RepW C env nm B P σ h ow) {i : Nat} {n : Str} {sl : Slot} (hn : nm[i]? = some n) (hi : σ[i]? = some (some sl)) (hs : sl.isOwn = true) :
    ∃ P', GrowB B P P' h ∧ RepW C env nm B P' (σ.set i (some (.frz (frozenS sl)))) h ow := by
  obtain ⟨b1, b2, b3, b4, b5⟩ := R.apart i n sl hn hi hs
  obtain ⟨a1, a2⟩ := R.own i n sl hn hi hs
  obtain ⟨o, ho⟩ := a2.obj
  have le : ∀ b o', P b = some o' → (if b = ow i then some o else P b) = some o' := fun b o' e => by
    have : b ≠ ow i := by rintro rfl; rw [b2] at e; cases e
    rw [if_neg this]; exact e
  have sub : ∀ b o', (if b = ow i then some o else P b) = some o' → h.get? b = some o' := fun b o' e => by
    by_cases hb : b = ow i
    · subst hb; simp only [if_true] at e; cases e; exact ho
    · rw [if_neg hb] at e; exact R.sub _ _ e
  refine ⟨fun b => if b = ow i then some o else P b, ⟨le, sub, R.bsub, fun b o' e => ?_⟩, R.st, R.h0, R.bsub, sub, R.ns, R.bl, ?_, fun n c hc => ?_, fun j n' v e1 e2 => ?_, fun j n' sl₂ e1 e2 e3 => ?_, fun j n' sl₂ e1 e2 e3 => ?_⟩
  · by_cases hb : b = ow i
    · subst hb; exact .inr b1
    · rw [if_neg hb] at e; exact .inl e
  · rw [if_neg (Ne.symm b3)]; exact R.pl
  · obtain ⟨c1, c2, c3⟩ := R.cell n c hc
    exact ⟨c1, c2, by rw [if_neg (Ne.symm (b4 n c hc))]; exact c3⟩
  · rcases set_get e2 with ⟨rfl, e⟩ | ⟨hji, e⟩
    · cases e
      rw [hn] at e1; cases e1
      refine ⟨_, a1, ?_⟩
      cases sl with
      | frz v => cases hs
      | ownL vs =>
        obtain ⟨xs, m, h1, h2⟩ := a2
        rw [ho] at h1; cases h1
        exact .list (xs := xs) (n := m) (if_pos rfl) (VRs.mono le h2)
      | ownD vs =>
        obtain ⟨h0, o', xs, h1, h2, h3⟩ := a2
        rw [ho] at h1; cases h1
        exact .dict h0 (if_pos rfl) h2 (DRs.mono le h3)
    · obtain ⟨y, c1, c2⟩ := R.frz j n' v e1 e
      exact ⟨y, c1, VR.mono le c2⟩
  · rcases set_get e2 with ⟨rfl, e⟩ | ⟨hji, e⟩
    · cases e; cases e3
    · obtain ⟨c1, c2⟩ := R.own j n' sl₂ e1 e e3
      exact ⟨c1, c2.mono le fun o e => e⟩
  · rcases set_get e2 with ⟨rfl, e⟩ | ⟨hji, e⟩
    · cases e; cases e3
    · obtain ⟨c1, c2, c3, c4, c5⟩ := R.apart j n' sl₂ e1 e e3
      refine ⟨c1, by rw [if_neg (Ne.symm (b5 j n' sl₂ e1 e e3 (Ne.symm hji)))]; exact c2, c3, c4, fun q n'' sl'' f1 f2 f3 hq => ?_⟩
      rcases set_get f2 with ⟨rfl, f⟩ | ⟨hqi, f⟩
      · cases f; cases f3
      · exact c5 q n'' sl'' f1 f f3 hq
end
end Lw

namespace Lw
open PySem PySem.Calls PyProof.Rows
set_option maxRecDepth 10000

inductive Fl where
  | next | brk | cont
  | ret (v : V)
noncomputable def FlR (C : Cx) (P : Fz) : Fl → Flow → Prop
  | .next, f => f = .next
  | .brk, f => f = .brk
  | .cont, f => f = .cont
  | .ret v, f => ∃ x, f = .ret x ∧ C.VR P v x

abbrev KS (C : Cx) (env : Env) (nm : List Str) (B P : Fz) (s : Shared) (σ' : St) (fl : Fl) (Q : Flow → Shared → Prop) : Prop :=
  ∀ P' h' tk ow' w, GrowB B P P' h' → RepW C env nm B P' σ' h' ow' → FlR C P' fl w → Q w { s with heap := h', toks := tk }

noncomputable def DX (C : Cx) (sc : Scope) (nm : List Str) (lv : Nat) (st : Stmt) (f : St → Option (St × Fl)) : Prop :=
  ∀ (A : Around) (E : Value → Shared → Prop) (env : Env) (B P : Fz) (σ : St) (s : Shared) (ow : Nat → Addr) (σ' : St) (fl : Fl) (Q : Flow → Shared → Prop),
    AOk A lv → env.scope = sc → RepW C env nm B P σ s.heap ow → f σ = some (σ', fl) → KS C env nm B P s σ' fl Q → wpAny C.M A (exec st env) Q E s

noncomputable def DS (C : Cx) (sc : Scope) (nm : List Str) (lv : Nat) (ss : List Stmt) (f : St → Option (St × Fl)) : Prop :=
  ∀ (A : Around) (E : Value → Shared → Prop) (env : Env) (B P : Fz) (σ : St) (s : Shared) (ow : Nat → Addr) (σ' : St) (fl : Fl) (Q : Flow → Shared → Prop),
    AOk A lv → env.scope = sc → RepW C env nm B P σ s.heap ow → f σ = some (σ', fl) → KS C env nm B P s σ' fl Q → wpAny C.M A (execs ss env) Q E s

theorem ns_uniq {h : Heap} {a : Addr} {m m' : Str → Option Value} (h1 : h.Ns a m) (h2 : h.Ns a m') (x : Str) : m x = m' x := by
  obtain ⟨o, es, ep, e1, e2, e3, e4⟩ := h1
  obtain ⟨o', es', ep', f1, f2, f3, f4⟩ := h2
  rw [e1] at f1; cases f1
  rw [e2] at f2; cases f2
  rw [← e4, ← f4]

section
variable {C : Cx} {sc : Scope} {nm : List Str} {lv : Nat}

theorem wp_store {A : Around} {E : Value → Shared → Prop} {env : Env} {B P : Fz} {σ : St} {s : Shared} {ow : Nat → Addr} {i : Nat} {n : Str} {sl : Slot} {x : Value} {Q : Unit → Shared → Prop}
    (R : RepW C env nm B P σ s.heap ow) (hn : nm[i]? = some n) (N : NewIn C env nm B P σ s.heap ow i sl x)
    (k : ∀ h' tk ow', GrowB B P P h' → RepW C env nm B P (σ.set i (some sl)) h' ow' → (∀ b o, b ≠ env.locals → (∀ n c, env.cells.lookup n = some c → b ≠ c) → s.heap.get? b = some o → h'.get? b = some o) → Q () { s with heap := h', toks := tk }) : wpAny C.M A (storeName env n x) Q E s := by
  have fin : ∀ h' tk, At env h' n x → (∀ n' y, n' ≠ n → At env s.heap n' y → At env h' n' y) → (∀ b o, b ≠ env.locals → (∀ n c, env.cells.lookup n = some c → b ≠ c) → s.heap.get? b = some o → h'.get? b = some o) →
      (∃ m, h'.Ns env.locals m) → (∀ n c, env.cells.lookup n = some c → ∃ v, h'.IsCell c v) → Q () { s with heap := h', toks := tk } := fun h' tk k1 k2 k3 k4 k5 => by
    obtain ⟨ow', R'⟩ := R.put hn N k1 k2 k3 k4 k5
    exact k h' tk ow' ⟨fun _ _ e => e, R'.sub, R'.bsub, fun _ _ e => .inl e⟩ R' k3
  obtain ⟨m, hm⟩ := R.ns
  have hnm : n ∈ nm := List.mem_of_getElem? hn
  rcases R.st.kinds n hnm with hk | hk
  · refine wpAny_storeName_local hk hm (fun h' hn' hb => fin h' _ (.inl ⟨hk, _, hn', by simp⟩) (fun n' y hne H => ?_) (fun b o hb1 _ e => hb.extBut b o hb1 e) ⟨_, hn'⟩ fun n' c hc => ?_) (by rw [R.st.fn]; rfl)
    · rcases H with ⟨h1, m0, h2, h3⟩ | ⟨h1, c, h2, h3⟩
      · refine .inl ⟨h1, _, hn', ?_⟩
        rw [if_neg hne, ns_uniq hm h2]; exact h3
      · exact .inr ⟨h1, c, h2, h3.sameBut hb (R.st.cloc n' c h2)⟩
    · obtain ⟨v, hv⟩ := (R.cell n' c hc).1
      exact ⟨v, hv.sameBut hb (R.st.cloc n' c hc)⟩
  · obtain ⟨c, hc⟩ := R.st.cells n hk
    obtain ⟨v0, hv0⟩ := (R.cell n c hc).1
    refine wpAny_storeName_cell R.st.fn hk hc hv0 fun h' hc' hb => fin h' _ (.inr ⟨.inl hk, c, hc, hc'⟩) (fun n' y hne H => ?_) (fun b o _ hb2 e => hb.extBut b o (hb2 n c hc) e) ⟨m, hm.sameBut hb (Ne.symm (R.st.cloc n c hc))⟩ fun n' c' hc2 => ?_
    · rcases H with ⟨h1, m0, h2, h3⟩ | ⟨h1, c', h2, h3⟩
      · exact .inl ⟨h1, m0, h2.sameBut hb (Ne.symm (R.st.cloc n c hc)), h3⟩
      · refine .inr ⟨h1, c', h2, h3.sameBut hb ?_⟩
        rintro rfl
        exact hne (R.st.inj _ _ _ h2 hc)
    · by_cases hcc : c' = c
      · subst hcc; exact ⟨_, hc'⟩
      · obtain ⟨v, hv⟩ := (R.cell n' c' hc2).1
        exact ⟨v, hv.sameBut hb hcc⟩

theorem DS_nil : DS C sc nm lv [] (fun σ => some (σ, .next)) := by
  intro A E env B P σ s ow σ' fl Q hA hs R hf k
  cases hf
  exact wpAny_execs_nil (k P s.heap s.toks ow _ ⟨fun _ _ e => e, R.sub, R.bsub, fun _ _ e => .inl e⟩ R rfl)

noncomputable def seqF (f g : St → Option (St × Fl)) : St → Option (St × Fl) := fun σ => (f σ).bind fun r => match r.2 with
  | .next => g r.1
  | fl => some (r.1, fl)
theorem DS_cons {st : Stmt} {ss : List Stmt} {f g : St → Option (St × Fl)} (h : DX C sc nm lv st f) (h' : DS C sc nm lv ss g) : DS C sc nm lv (st :: ss) (seqF f g) := by
  intro A E env B P σ s ow σ' fl Q hA hs R hf k
  obtain ⟨⟨σ1, fl1⟩, e1, hf⟩ := bind_some hf
  refine wpAny_execs_cons (h A E env B P σ s ow σ1 fl1 _ hA hs R e1 fun P1 h1 tk1 ow1 w g1 R1 hw => ?_)
  cases fl1 with
  | next =>
    cases hw
    exact h' A E env B P1 σ1 { s with heap := h1, toks := tk1 } ow1 σ' fl Q hA hs R1 hf fun P2 h2 tk2 ow2 w2 g2 R2 hw2 => k P2 h2 tk2 ow2 w2 (g1.trans g2) R2 hw2
  | brk => cases hf; cases hw; exact k P1 h1 tk1 ow1 _ g1 R1 rfl
  | cont => cases hf; cases hw; exact k P1 h1 tk1 ow1 _ g1 R1 rfl
  | ret v =>
    cases hf
    obtain ⟨x, rfl, hx⟩ := hw
    exact k P1 h1 tk1 ow1 _ g1 R1 ⟨x, rfl, hx⟩

noncomputable def freezeS (i : Nat) (σ : St) : St := match σ[i]? with
  | some (some sl) => σ.set i (some (.frz (frozenS sl)))
  | _ => σ
theorem freeze_ok {env : Env} {B P : Fz} {σ : St} {h : Heap} {ow : Nat → Addr} (R : RepW C env nm B P σ h ow) (i : Nat) (n : Str) (hn : nm[i]? = some n) : ∃ P', GrowB B P P' h ∧ RepW C env nm B P' (freezeS i σ) h ow := by
  have self : GrowB B P P h := ⟨fun _ _ e => e, R.sub, R.bsub, fun _ _ e => .inl e⟩
  unfold freezeS
  split
  · rename_i sl hi
    cases hs : sl.isOwn with
    | true => exact R.freeze hn hi hs
    | false =>
      cases sl with
      | frz v =>
        refine ⟨P, self, ?_⟩
        have : σ.set i (some (.frz (frozenS (.frz v)))) = σ := by
          refine List.ext_getElem? fun j => ?_
          rw [List.getElem?_set]
          split
          · rename_i e; subst e
            split
            · rw [hi]; rfl
            · rename_i hl; rw [hi]; exact absurd (List.getElem?_eq_some_iff.mp hi).1 hl
          · rfl
        rw [this]; exact R
      | ownL vs => cases hs
      | ownD vs => cases hs
  · exact ⟨P, self, R⟩
theorem DS_freeze {ss : List Stmt} {f : St → Option (St × Fl)} (i : Nat) (n : Str) (hn : nm[i]? = some n) (h : DS C sc nm lv ss f) : DS C sc nm lv ss (fun σ => f (freezeS i σ)) := by
  intro A E env B P σ s ow σ' fl Q hA hs R hf k
  obtain ⟨P1, g1, R1⟩ := freeze_ok R i n hn
  exact h A E env B P1 _ s ow σ' fl Q hA hs R1 hf fun P2 h2 tk2 ow2 w2 g2 R2 hw2 => k P2 h2 tk2 ow2 w2 (g1.trans g2) R2 hw2

theorem GrowB.ofGrow {B P P' : Fz} {h h' : Heap} (hb : ∀ b o, B b = some o → h.get? b = some o) (g : Grow P h P' h') : GrowB B P P' h' :=
  ⟨g.le, g.sub, fun b o e => g.keep _ _ (hb _ _ e), fun b o e => by
    rcases g.new b o e with e | e
    · exact .inl e
    · right
      cases hq : B b with
      | none => rfl
      | some o' => rw [hb _ _ hq] at e; cases e⟩

noncomputable def setF (i : Nat) (v : V) (σ : St) : St := σ.set i (some (.frz v))

theorem DX_assign {n : Str} {px pos : Pos} {value : PySem.Expr} {f : St → Option V} (i : Nat) (hn : nm[i]? = some n) (he : DE C sc nm lv value f) (hsw : ∀ env, env.scope = sc → swapsWith value (some (.Name n px)) pos.line env = pure false) :
    DX C sc nm lv (.Assign [.Name n px] value pos) (fun σ => (f σ).map fun v => (setF i v σ, .next)) := by
  intro A E env B P σ s ow σ' fl Q hA hs R hf k
  obtain ⟨v, hv, e⟩ := Option.map_eq_some_iff.mp hf
  cases e
  refine wpAny_Assign_Name (he A E env P σ s v _ hA hs R.toE hv fun P1 h1 tk1 x g1 hx => ?_) (hsw env hs)
  refine wp_store (s := { s with heap := h1, toks := tk1 }) (R.grow g1) hn (.frz hx) fun h2 tk2 ow2 g2 R2 _ => ?_
  exact k P1 h2 tk2 ow2 _ ((GrowB.ofGrow R.bsub g1).trans g2) R2 rfl

/-- a list of one's own -/
theorem new_own {env : Env} {B P P1 : Fz} {σ : St} {h h1 : Heap} {ow : Nat → Addr} {a : Addr} {sl : Slot} {i : Nat} (R : RepW C env nm B P σ h ow) (_g1 : Grow P h P1 h1) (pa : P1 a = none) (ha : h.get? a = none) (hs : sl.isOwn = true) (ho : OwnR C P1 h1 sl a) :
    NewIn C env nm B P1 σ h1 ow i sl (.ref a) := by
  refine .own hs ho ?_ pa ?_ (fun n c hc => ?_) fun j n' sl' e1 e2 e3 _ => ?_
  · cases hq : B a with
    | none => rfl
    | some o => rw [R.bsub _ _ hq] at ha; cases ha
  · rintro rfl
    obtain ⟨o, ho⟩ := R.locObj
    rw [ho] at ha; cases ha
  · rintro rfl
    obtain ⟨o, ho⟩ := R.cellObj hc
    rw [ho] at ha; cases ha
  · rintro rfl
    obtain ⟨o, ho⟩ := (R.own j n' sl' e1 e2 e3).2.obj
    rw [ho] at ha; cases ha
theorem DX_assignL {n : Str} {px pos : Pos} {value : PySem.Expr} {f : St → Option (List V)} (i : Nat) (hn : nm[i]? = some n) (he : DF C sc nm lv value f) (hsw : ∀ env, env.scope = sc → swapsWith value (some (.Name n px)) pos.line env = pure false) :
    DX C sc nm lv (.Assign [.Name n px] value pos) (fun σ => (f σ).map fun v => (σ.set i (some (.ownL v)), .next)) := by
  intro A E env B P σ s ow σ' fl Q hA hs R hf k
  obtain ⟨v, hv, e⟩ := Option.map_eq_some_iff.mp hf
  cases e
  refine wpAny_Assign_Name (he A E env P σ s v _ hA hs R.toE hv fun P1 h1 tk1 a xs m g1 pa sa ho hx => ?_) (hsw env hs)
  refine wp_store (s := { s with heap := h1, toks := tk1 }) (R.grow g1) hn (new_own (sl := .ownL v) R g1 pa sa rfl ⟨xs, m, ho, hx⟩) fun h2 tk2 ow2 g2 R2 _ => ?_
  exact k P1 h2 tk2 ow2 _ ((GrowB.ofGrow R.bsub g1).trans g2) R2 rfl

theorem DX_assign2 {n n' : Str} {px px' pos : Pos} {value : PySem.Expr} {f : St → Option V} (i j : Nat) (hn : nm[i]? = some n) (hn' : nm[j]? = some n') (he : DE C sc nm lv value f) (hw : ∀ env, swappedStores [.Name n px, .Name n' px'] value env = pure none) :
    DX C sc nm lv (.Assign [.Name n px, .Name n' px'] value pos) (fun σ => (f σ).map fun v => (setF j v (setF i v σ), .next)) := by
  intro A E env B P σ s ow σ' fl Q hA hs R hf k
  obtain ⟨v, hv, e⟩ := Option.map_eq_some_iff.mp hf
  cases e
  refine wpAny_Assign_two (he A E env P σ s v _ hA hs R.toE hv fun P1 h1 tk1 x g1 hx => ?_) (hw := hw env)
  refine wpAny_assign_Name (wp_store (s := { s with heap := h1, toks := tk1 }) (R.grow g1) hn (.frz hx) fun h2 tk2 ow2 g2 R2 _ => ?_)
  refine wpAny_assign_Name (wp_store (s := { s with heap := h2, toks := tk2 }) R2 hn' (.frz hx) fun h3 tk3 ow3 g3 R3 _ => ?_)
  exact k P1 h3 tk3 ow3 _ (((GrowB.ofGrow R.bsub g1).trans g2).trans g3) R3 rfl

/-- an operation in place, of ints -/
noncomputable def augV : Operator → V → V → Option V
  | .Add, .int a, .int b => some (.int (a + b))
  | .Sub, .int a, .int b => some (.int (a - b))
  | _, _, _ => none

theorem DX_aug {n : Str} {px pos : Pos} {op : Operator} {value : PySem.Expr} {f : St → Option V} (i : Nat) (hn : nm[i]? = some n) (he : DE C sc nm lv value f)
    (hop : ∀ (A : Around) (E : Value → Shared → Prop) (s : Shared) (a b : Int) (t u : Tok) (v : V) (Q : Value → Shared → Prop), augV op (.int a) (.int b) = some v → (∀ tk x, (∀ P, C.VR P v x) → Q x { s with toks := tk }) → wpAny C.M A (inplaceOp op (.int a t) (.int b u)) Q E s) :
    DX C sc nm lv (.AugAssign (.Name n px) op value pos) (fun σ => (getF σ i).bind fun a => (f σ).bind fun b => (augV op a b).map fun v => (setF i v σ, .next)) := by
  intro A E env B P σ s ow σ' fl Q hA hs R hf k
  obtain ⟨a, ha, hf⟩ := bind_some hf
  obtain ⟨b, hb, hf⟩ := bind_some hf
  obtain ⟨v, hv, e⟩ := Option.map_eq_some_iff.mp hf
  cases e
  obtain ⟨x, hx1, hx2⟩ := at_frz R.toE hn (getF_some ha)
  refine wpAny_AugAssign_Name (wp_at R.st.fn hx1 (he A E env P σ s b _ hA hs R.toE hb fun P1 h1 tk1 y g1 hy => ?_))
  have : ∃ p q, a = .int p ∧ b = .int q := by
    unfold augV at hv
    split at hv
    · exact ⟨_, _, rfl, rfl⟩
    · exact ⟨_, _, rfl, rfl⟩
    · cases hv
  obtain ⟨p, q, rfl, rfl⟩ := this
  cases hx2; cases hy
  refine hop A E _ p q _ _ v _ hv fun tk2 z hz => ?_
  refine wp_store (s := { s with heap := h1, toks := tk2 }) (R.grow g1) hn (.frz (hz P1)) fun h2 tk2 ow2 g2 R2 _ => ?_
  exact k P1 h2 tk2 ow2 _ ((GrowB.ofGrow R.bsub g1).trans g2) R2 rfl

theorem DX_if {t : PySem.Expr} {b o : List Stmt} {pos : Pos} {f : St → Option Bool} {g g' : St → Option (St × Fl)} (ht : DT C sc nm lv t f) (hb : DS C sc nm lv b g) (ho : DS C sc nm lv o g') :
    DX C sc nm lv (.If t b o pos) (fun σ => (f σ).bind fun c => if c = true then g σ else g' σ) := by
  intro A E env B P σ s ow σ' fl Q hA hs R hf k
  obtain ⟨c, hc, hf⟩ := bind_some hf
  refine wpAny_If (ht A E env P σ s c _ hA hs R.toE hc fun P1 h1 tk1 g1 => ?_)
  have g1' := GrowB.ofGrow R.bsub g1
  cases c with
  | true => exact hb A E env B P1 σ { s with heap := h1, toks := tk1 } ow σ' fl Q hA hs (R.grow g1) hf fun P2 h2 tk2 ow2 w2 g2 R2 hw2 => k P2 h2 tk2 ow2 w2 (g1'.trans g2) R2 hw2
  | false => exact ho A E env B P1 σ { s with heap := h1, toks := tk1 } ow σ' fl Q hA hs (R.grow g1) hf fun P2 h2 tk2 ow2 w2 g2 R2 hw2 => k P2 h2 tk2 ow2 w2 (g1'.trans g2) R2 hw2

theorem DX_ret {e : PySem.Expr} {pos : Pos} {f : St → Option V} (he : DE C sc nm lv e f) : DX C sc nm lv (.Return (some e) pos) (fun σ => (f σ).map fun v => (σ, .ret v)) := by
  intro A E env B P σ s ow σ' fl Q hA hs R hf k
  obtain ⟨v, hv, e⟩ := Option.map_eq_some_iff.mp hf
  cases e
  refine wpAny_Return_some (he A E env P σ s v _ hA hs R.toE hv fun P1 h1 tk1 x g1 hx => ?_)
  exact k P1 h1 tk1 ow _ (GrowB.ofGrow R.bsub g1) (R.grow g1) ⟨x, rfl, hx⟩
noncomputable def whileF (t : St → Option Bool) (b : St → Option (St × Fl)) : Nat → St → Option (St × Fl)
  | 0, _ => none
  | n + 1, σ => (t σ).bind fun c => if c = true then (b σ).bind fun r => match r.2 with
      | .next => whileF t b n r.1
      | .cont => whileF t b n r.1
      | .brk => some (r.1, .next)
      | .ret v => some (r.1, .ret v)
    else some (σ, .next)

theorem DX_while {t : PySem.Expr} {b : List Stmt} {pos : Pos} {f : St → Option Bool} {g : St → Option (St × Fl)} (fuel : Nat) (ht : DT C sc nm lv t f) (hb : DS C sc nm lv b g) :
    DX C sc nm lv (.While t b [] pos) (whileF f g fuel) := by
  intro A E env B P σ s ow σ' fl Q hA hs R hf k
  refine wpAny_While (codeAny_whileLoop (fun q s' => ∃ P' h' tk ow' σ1, s' = { s with heap := h', toks := tk } ∧ GrowB B P P' h' ∧ RepW C env nm B P' σ1 h' ow' ∧ whileF f g q σ1 = some (σ', fl)) ?_ fuel ⟨P, s.heap, s.toks, ow, σ, rfl, ⟨fun _ _ e => e, R.sub, R.bsub, fun _ _ e => .inl e⟩, R, hf⟩)
  rintro q s' ⟨P1, h1, tk1, ow1, σ1, rfl, g1, R1, hf1⟩
  cases q with
  | zero => cases hf1
  | succ q =>
    obtain ⟨c, hc, hf1⟩ := bind_some hf1
    refine ht A _ env P1 σ1 { s with heap := h1, toks := tk1 } c _ hA hs R1.toE hc fun P2 h2 tk2 g2 => ?_
    have g2' := g1.trans (GrowB.ofGrow R1.bsub g2)
    cases c with
    | false =>
      cases hf1
      exact wpAny_execs_nil (k P2 h2 tk2 ow1 _ g2' (R1.grow g2) rfl)
    | true =>
      simp only [if_true] at hf1
      obtain ⟨⟨σ3, fl3⟩, e3, hf1⟩ := bind_some hf1
      refine hb A _ env B P2 σ1 { s with heap := h2, toks := tk2 } ow1 σ3 fl3 _ hA hs (R1.grow g2) e3 fun P3 h3 tk3 ow3 w3 g3 R3 hw3 => ?_
      have g3' := g2'.trans g3
      cases fl3 with
      | next => cases hw3; exact ⟨q, by omega, P3, h3, tk3, ow3, σ3, rfl, g3', R3, hf1⟩
      | cont => cases hw3; exact ⟨q, by omega, P3, h3, tk3, ow3, σ3, rfl, g3', R3, hf1⟩
      | brk => cases hw3; cases hf1; exact k P3 h3 tk3 ow3 _ g3' R3 rfl
      | ret v =>
        obtain ⟨x, rfl, hx⟩ := hw3
        cases hf1
        exact k P3 h3 tk3 ow3 _ g3' R3 ⟨x, rfl, hx⟩

/-- the target of a for -/
noncomputable def DTg (C : Cx) (sc : Scope) (nm : List Str) (lv : Nat) (target : PySem.Expr) (st : V → St → Option St) : Prop :=
  ∀ (A : Around) (E : Value → Shared → Prop) (env : Env) (B P : Fz) (σ : St) (s : Shared) (ow : Nat → Addr) (σ' : St) (v : V) (x : Value) (I : Addr) (Q : Unit → Shared → Prop),
    AOk A lv → env.scope = sc → RepW C env nm B P σ s.heap ow → C.VR P v x → st v σ = some σ' → (∃ vs, ItR C P s.heap I vs) → (∀ o, s.heap.get? I = some o → B I = some o) →
    (∀ h' tk ow', GrowB B P P h' → RepW C env nm B P σ' h' ow' → Q () { s with heap := h', toks := tk }) →
    wpAny C.M A (letOwnedTupleGo target (.ref I) x) (fun _ s₁ => wpAny C.M A (assign target env x) Q E s₁) E s

theorem DTg_name {n : Str} {px : Pos} (i : Nat) (hn : nm[i]? = some n) : DTg C sc nm lv (.Name n px) (fun v σ => some (setF i v σ)) := by
  intro A E env B P σ s ow σ' v x I Q hA hs R hx hf hI hB k
  cases hf
  refine wpAny_pure (wpAny_assign_Name (wp_store R hn (.frz hx) fun h2 tk2 ow2 g2 R2 _ => k h2 tk2 ow2 g2 R2))

noncomputable def forF (st : V → St → Option St) (b : St → Option (St × Fl)) : List V → St → Option (St × Fl)
  | [], σ => some (σ, .next)
  | v :: r, σ => (st v σ).bind fun σ1 => (b σ1).bind fun q => match q.2 with
      | .next => forF st b r q.1
      | .cont => forF st b r q.1
      | .brk => some (q.1, .next)
      | .ret v => some (q.1, .ret v)

theorem apartI {env : Env} {B P : Fz} {σ : St} {h : Heap} {ow : Nat → Addr} (R : RepW C env nm B P σ h ow) {I : Addr} {o : Obj} (hI : B I = some o) :
    I ≠ env.locals ∧ (∀ n c, env.cells.lookup n = some c → I ≠ c) ∧ ∀ (i : Nat) (n : Str) (sl : Slot), nm[i]? = some n → σ[i]? = some (some sl) → sl.isOwn = true → ow i ≠ I := by
  refine ⟨fun e => ?_, fun n c hc e => ?_, fun i n sl e1 e2 e3 e => ?_⟩
  · rw [e, R.bl] at hI; cases hI
  · rw [e, (R.cell n c hc).2.1] at hI; cases hI
  · rw [← e, (R.apart i n sl e1 e2 e3).1] at hI; cases hI

theorem DX_for {target iter : PySem.Expr} {body : List Stmt} {pos : Pos} {fi : St → Option (List V)} {st : V → St → Option St} {g : St → Option (St × Fl)} (hfold : ∀ env x, foldedSetIterable iter env x = pure x)
    (hi : DI C sc nm lv iter fi) (ht : DTg C sc nm lv target st) (hb : DS C sc nm lv body g) :
    DX C sc nm lv (.For target iter body [] pos) (fun σ => (fi σ).bind fun items => forF st g items σ) := by
  intro A E env B P σ s ow σ' fl Q hA hs R hf k
  obtain ⟨items, hit, hf⟩ := bind_some hf
  refine wpAny_For (hi A E env P σ s items _ hA hs R.toE hit fun P1 h1 tk1 I g1 hI1 pI1 sI => ?_) (hfold env)
  have g1' := GrowB.ofGrow R.bsub g1
  have bI : B I = none := by
    cases hq : B I with
    | none => rfl
    | some o => rw [R.bsub _ _ hq] at sI; cases sI
  have h0I : C.h₀.get? I = none := by
    cases hq : C.h₀.get? I with
    | none => rfl
    | some o => rw [R.h0 _ _ hq] at bI; cases bI
  have aL : I ≠ env.locals := by rintro rfl; obtain ⟨o, ho⟩ := R.locObj; rw [ho] at sI; cases sI
  have aC : ∀ n c, env.cells.lookup n = some c → I ≠ c := fun n c hc => by rintro rfl; obtain ⟨o, ho⟩ := R.cellObj hc; rw [ho] at sI; cases sI
  have aO : ∀ (i : Nat) (n : Str) (sl : Slot), nm[i]? = some n → σ[i]? = some (some sl) → sl.isOwn = true → ow i ≠ I := fun i n sl e1 e2 e3 => by
    rintro rfl; obtain ⟨o, ho⟩ := (R.own i n sl e1 e2 e3).2.obj; rw [ho] at sI; cases sI
  have R1 : RepW C env nm (fun b => if b = I then h1.get? I else B b) P1 σ h1 ow := (R.grow g1).reB pI1 aL aC aO (fun b o _ e => e) (fun b hb => by simp [hb]) (fun o e => by simpa using e) h0I
  refine codeAny_forLoop_any (fun q s' => ∃ P' h' tk ow' σ1 its, s' = { s with heap := h', toks := tk } ∧ q = its.length ∧ GrowB B P P' h' ∧ RepW C env nm (fun b => if b = I then h'.get? I else B b) P' σ1 h' ow' ∧ P' I = none ∧ ItR C P' h' I its ∧ forF st g its σ1 = some (σ', fl)) ?_ items.length
    ⟨P1, h1, tk1, ow, σ, items, rfl, rfl, g1', R1, pI1, hI1, hf⟩
  rintro q s' ⟨P2, h2, tk2, ow2, σ2, its, rfl, rfl, g2, R2, pI2, hI2, hf2⟩
  obtain ⟨oi, hoi⟩ := hI2.obj
  have hBI : (fun b => if b = I then h2.get? I else B b) I = some oi := by simpa using hoi
  obtain ⟨bL, bC, bO⟩ := apartI R2 hBI
  cases its with
  | nil =>
    cases hf2
    refine next_nil hA.handled R2.sub pI2 hI2 fun h3 hb3 => wpAny_execs_nil ?_
    have R3 : RepW C env nm B P2 _ h3 ow2 := R2.reB pI2 bL bC bO (fun b o hb e => hb3 b o hb e) (fun b hb => by simp [hb]) (fun o e => by rw [bI] at e; cases e) h0I
    exact k P2 h3 tk2 ow2 _ ⟨g2.le, R3.sub, R3.bsub, g2.new⟩ R3 rfl
  | cons v its =>
    obtain ⟨σ3, hst, hf2⟩ := bind_some hf2
    obtain ⟨⟨σ4, fl4⟩, e4, hf2⟩ := bind_some hf2
    refine next_cons R2.sub pI2 hI2 fun h3 tk3 x hb3 hx hI3 => ?_
    have up3 : ∀ b o, b ≠ I → h2.get? b = some o → h3.get? b = some o := fun b o hne e => hb3.extBut b o hne e
    have R3 : RepW C env nm (fun b => if b = I then h3.get? I else B b) P2 σ2 h3 ow2 := R2.reB pI2 bL bC bO up3 (fun b hb => by simp [hb]) (fun o e => by simpa using e) h0I
    refine ht A _ env _ P2 σ2 { s with heap := h3, toks := tk3 } ow2 σ3 v x I _ hA hs R3 hx hst ⟨_, hI3⟩ (fun o e => by simpa using e) fun h4 tk4 ow4 g4 R4 => ?_
    obtain ⟨oi3, hoi3⟩ := hI3.obj
    refine hb A _ env _ P2 σ3 { s with heap := h4, toks := tk4 } ow4 σ4 fl4 _ hA hs R4 e4 fun P5 h5 tk5 ow5 w5 g5 R5 hw5 => ?_
    have keepI : h5.get? I = some oi3 := R5.bsub I oi3 (by simpa using hoi3)
    have pI5 : P5 I = none := by
      cases hq : P5 I with
      | none => rfl
      | some o' =>
        rcases g5.new _ _ hq with e2 | e2
        · rw [pI2] at e2; cases e2
        · simp [hoi3] at e2
    have hBI5 : (fun b => if b = I then h3.get? I else B b) I = some oi3 := by simpa using hoi3
    obtain ⟨cL, cC, cO⟩ := apartI R5 hBI5
    have g5' : GrowB B P P5 h5 := ⟨fun b o e => g5.le _ _ (g2.le _ _ e), g5.sub, fun b o e => R5.bsub b o (by
        by_cases hbI : b = I
        · subst hbI; rw [bI] at e; cases e
        · simpa [hbI] using e), fun b o e => by
        rcases g5.new b o e with e | e
        · exact g2.new b o e
        · right
          by_cases hbI : b = I
          · subst hbI; exact bI
          · simpa [hbI] using e⟩
    have R6 : RepW C env nm B P5 σ4 h5 ow5 := R5.reB pI5 cL cC cO (fun b o _ e => e) (fun b hb => by simp [hb]) (fun o e => by rw [bI] at e; cases e) h0I
    have R6' : RepW C env nm (fun b => if b = I then h5.get? I else B b) P5 σ4 h5 ow5 := R5.reB pI5 cL cC cO (fun b o _ e => e) (fun b hb => by simp [hb]) (fun o e => by simpa using e) h0I
    have hI5 : ItR C P5 h5 I its := hI3.mono g5.le fun o e => by rw [hoi3] at e; cases e; exact keepI
    cases fl4 with
    | next => cases hw5; exact ⟨its.length, by simp, P5, h5, tk5, ow5, σ4, its, rfl, rfl, g5', R6', pI5, hI5, hf2⟩
    | cont => cases hw5; exact ⟨its.length, by simp, P5, h5, tk5, ow5, σ4, its, rfl, rfl, g5', R6', pI5, hI5, hf2⟩
    | brk => cases hw5; cases hf2; exact k P5 h5 tk5 ow5 _ g5' R6 rfl
    | ret v =>
      obtain ⟨y, rfl, hy⟩ := hw5
      cases hf2
      exact k P5 h5 tk5 ow5 _ g5' R6 ⟨y, rfl, hy⟩
end
end Lw

namespace Lw
open PySem PySem.Calls PyProof.Rows
set_option maxRecDepth 10000

section
variable {C : Cx} {sc : Scope} {nm : List Str} {lv : Nat}

theorem DX_assignC {elt iter : PySem.Expr} {x y : Str} {px py pos spos : Pos} {ifs : List PySem.Expr} {rest : List Comprehension} {scope : Scope} {cap : List Bool} {W : BodyW} {fi : St → Option (List V)} {t : St → Option Bool} {g : St → Option (List V)}
    (i : Nat) (hn : nm[i]? = some y)
    (O : CompOK sc scope nm cap x) (hfold : ∀ env x, foldedSetIterable iter env x = pure x) (L : LoopRule C (.ListComp elt (⟨.Name x px, iter, ifs, 0⟩ :: rest) scope pos) 0 (.Name x px) ifs W)
    (hsw : ∀ env, env.scope = sc → swapsWith (.ListComp elt (⟨.Name x px, iter, ifs, 0⟩ :: rest) scope pos) (some (.Name y py)) spos.line env = pure true)
    (hi : DI C sc nm lv iter fi) (ht : DIfs C (relab scope sc) (x :: nm) lv ifs t) (hg : DY C (relab scope sc) nm [x] lv W g) :
    DX C sc nm lv (.Assign [.Name y py] (.ListComp elt (⟨.Name x px, iter, ifs, 0⟩ :: rest) scope pos) spos) (fun σ => (fi σ).bind fun items =>
      (loopL (fun v => t (some (.frz v) :: maskS cap σ)) (fun v => g (some (.frz v) :: maskS cap σ)) items).bind fun vs => if vs.length ≤ lim then some (σ.set i (some (.ownL vs)), .next) else none) := by
  intro A E env B P σ s ow σ' fl Q hA hs R hf k
  obtain ⟨items, hit, hf⟩ := bind_some hf
  obtain ⟨vs', hv, hf⟩ := bind_some hf
  split at hf
  · rename_i hlen
    cases hf
    obtain ⟨cl, ecl, c1, c2⟩ := closure_of (env := env) (scope := scope) R.st.cells (by rw [hs]; exact O.free)
    rw [exec_Assign_Name_used _ _ _ _ (hsw env hs)]
    refine wpAny_bind (wpAny_standAt (wpAny_bind ?_))
    show wpAny _ A (do let _ ← comprehension (.ListComp elt (⟨.Name x px, iter, ifs, 0⟩ :: rest) scope pos) scope env _ (newList []) false (eval iter env) (some (assign (.Name y py) env))) _ _ s
    refine wpAny_bind (wpAny_mono (wpAny_comprehension_free (use := some (assign (.Name y py) env)) (Q := fun _ s' => Q .next s') rfl (hfold env) ecl O.kind O.locals (hi A E env P σ s items _ hA hs R.toE hit fun P1 h1 tk1 I g1 hI pI sI => ?_))
      (fun _ s' hq => wpAny_pure (wpAny_pure hq)) fun _ _ e => e)
    refine comp_core (RR := fun acc C' => compPost C.M A E (some (assign (.Name y py) env)) (fun _ s' => Q .next s') acc C') O L ht hg hA hs R.toE g1 hI pI sI c1 c2 hv hlen fun P' h' tk m' D L ys n g' pL pD sD sL hDL hnL hacc hx => ?_
    show wpAny _ A (assign (.Name y py) env (.ref D)) _ _ _
    have LN : L ≠ env.locals := by rintro rfl; obtain ⟨o, ho⟩ := R.locObj; rw [ho] at sL; cases sL
    have LC : ∀ n c, env.cells.lookup n = some c → L ≠ c := fun n c hc => by rintro rfl; obtain ⟨o, ho⟩ := R.cellObj hc; rw [ho] at sL; cases sL
    have bL : B L = none := by
      cases hq : B L with
      | none => rfl
      | some o => rw [R.bsub _ _ hq] at sL; cases sL
    have h0L : C.h₀.get? L = none := by
      cases hq : C.h₀.get? L with
      | none => rfl
      | some o => rw [R.h0 _ _ hq] at bL; cases bL
    obtain ⟨oL, hoL⟩ : ∃ o, h'.get? L = some o := by obtain ⟨o, _, _, ho, _⟩ := hnL; exact ⟨o, ho⟩
    have R1 : RepW C env nm (fun b => if b = L then h'.get? L else B b) P' σ h' ow := (R.grow g').reB pL LN LC
      (fun j n' sl e1 e2 e3 e => by obtain ⟨o, ho⟩ := (R.own j n' sl e1 e2 e3).2.obj; rw [e, sL] at ho; cases ho) (fun b o _ e => e) (fun b hb => by simp [hb]) (fun o e => by simpa using e) h0L
    have N := new_own (sl := .ownL vs') (i := i) R g' pD sD rfl ⟨ys, n, hacc, hx⟩
    have N' : NewIn C env nm (fun b => if b = L then h'.get? L else B b) P' σ h' ow i (.ownL vs') (.ref D) := by
      cases N with
      | own a1 a2 a3 a4 a5 a6 a7 => exact .own a1 a2 (by simp [hDL, a3]) a4 a5 a6 a7
    refine wpAny_assign_Name (wp_store (s := { s with heap := h', toks := tk }) R1 hn N' fun h2 tk2 ow2 g2 R2 _ => ?_)
    have hoL2 : h2.get? L = some oL := R2.bsub L oL (by simpa using hoL)
    refine ⟨m', hnL.at' fun o e => by rw [hoL] at e; cases e; exact hoL2, fun h3 hb3 => ?_⟩
    have up3 : ∀ b o, b ≠ L → h2.get? b = some o → h3.get? b = some o := fun b o hne e => hb3.extBut b o hne e
    have hBL : (fun b => if b = L then h'.get? L else B b) L = some oL := by simpa using hoL
    obtain ⟨cL, cC, cO⟩ := apartI R2 hBL
    have R3 : RepW C env nm B P' (σ.set i (some (.ownL vs'))) h3 ow2 := R2.reB pL cL cC cO up3 (fun b hb => by simp [hb]) (fun o e => by rw [bL] at e; cases e) h0L
    exact k P' h3 tk2 ow2 _ ⟨g'.le, R3.sub, R3.bsub, fun b o e => by
      rcases g'.new b o e with e | e
      · exact .inl e
      · right
        cases hq : B b with
        | none => rfl
        | some o' => rw [R.bsub _ _ hq] at e; cases e⟩ R3 rfl
  · cases hf
end
end Lw

namespace Lw
open PySem PySem.Calls PyProof.Rows
set_option maxRecDepth 10000

theorem VRs.set {prog : Program} {w : World} {P : Fz} {vs : List V} {xs : List Value} {v : V} {x : Value} (h : VRs prog w P vs xs) (hx : VR prog w P v x) : ∀ i : Nat, VRs prog w P (vs.set i v) (xs.set i x) := by
  induction vs generalizing xs with
  | nil => cases h; intro i; exact .nil
  | cons u r ih =>
    cases h with
    | cons h1 h2 =>
      intro i
      cases i with
      | zero => exact .cons hx h2
      | succ i => exact .cons h1 (ih h2 i)

section
variable {C : Cx} {sc : Scope} {nm : List Str} {lv : Nat}

/-- two names take two values, in order -/
theorem two_stores {A : Around} {E : Value → Shared → Prop} {env : Env} {B P : Fz} {σ : St} {s : Shared} {ow : Nat → Addr} {i j : Nat} {n n' : Str} {v v' : V} {x x' : Value} {Q : Unit → Shared → Prop}
    (f g : Value → Sem Unit) (hf : ∀ (s : Shared) (x : Value) (Q : Unit → Shared → Prop), wpAny C.M A (storeName env n x) Q E s → wpAny C.M A (f x) Q E s) (hg : ∀ (s : Shared) (x : Value) (Q : Unit → Shared → Prop), wpAny C.M A (storeName env n' x) Q E s → wpAny C.M A (g x) Q E s)
    (R : RepW C env nm B P σ s.heap ow) (hn : nm[i]? = some n) (hn' : nm[j]? = some n') (hx : C.VR P v x) (hx' : C.VR P v' x')
    (k : ∀ h' tk ow', GrowB B P P h' → RepW C env nm B P (setF j v' (setF i v σ)) h' ow' → Q () { s with heap := h', toks := tk }) : wpAny C.M A (assignInOrder [f, g] [x, x']) Q E s := by
  show wpAny C.M A (do holding [x'] (f x); assignInOrder [g] [x']) Q E s
  refine wpAny_bind (wpAny_holding (hf _ _ _ (wp_store R hn (.frz hx) fun h2 tk2 ow2 g2 R2 _ => ?_)))
  show wpAny C.M A (do holding [] (g x'); assignInOrder [] []) Q E _
  refine wpAny_bind (wpAny_holding (hg _ _ _ (wp_store (s := { s with heap := h2, toks := tk2 }) R2 hn' (.frz hx') fun h3 tk3 ow3 g3 R3 _ => ?_)))
  exact wpAny_pure (k h3 tk3 ow3 (g2.trans g3) R3)

theorem grow_extBut {P P1 : Fz} {s h1 h3 : Heap} {o : Obj} (g1 : Grow P s P1 h1) (hb : Heap.ExtBut (h1.push o).objs.size (h1.push o) h3) : Grow P s P1 h3 := by
  have ne : ∀ b o', h1.get? b = some o' → b ≠ (h1.push o).objs.size := fun b o' e => by
    rintro rfl
    have := Heap.lt_size e
    rw [Heap.size_push] at this
    exact Nat.lt_irrefl _ (Nat.lt_of_succ_lt this)
  exact ⟨g1.le, fun b o' e => hb b o' (ne b o' (g1.sub _ _ e)) (Heap.get?_push_of_some _ (g1.sub _ _ e)), fun b o' e => hb b o' (ne b o' (g1.keep _ _ e)) (Heap.get?_push_of_some _ (g1.keep _ _ e)), g1.new⟩
noncomputable def pairF (i j : Nat) : V → St → Option St
  | .list [a, b], σ => some (setF j b (setF i a σ))
  | _, _ => none
theorem isTup_push {h : Heap} {xs : Array Value} : IsTup (h.push { cls := .type "tuple", data := .seq xs }) h.objs.size xs := ⟨_, Heap.get?_push_size _ rfl, rfl, _, rfl⟩

noncomputable def divmodV : V → V → Option (Int × Int)
  | .int a, .int b => if 0 ≤ a ∧ a.toNat < 1000000000 ∧ 0 < b ∧ b < 1000 then some (a / b, a % b) else none
  | _, _ => none

theorem DX_divmod {n n' : Str} {p1 p2 tp np cp pos : Pos} {kk : Nat} {e1 e2 : PySem.Expr} {f g : St → Option V} (i j : Nat) (hn : nm[i]? = some n) (hn' : nm[j]? = some n') (hgl : C.glob (Str.ofString "divmod") (.builtin "divmod")) (hk : sc.names.lookup (Str.ofString "divmod") = some .globalImplicit)
    (h1 : DE C sc nm lv e1 f) (h2 : DE C sc nm lv e2 g) (s1 : PySem.W.isStarred e1 = false) (s2 : PySem.W.isStarred e2 = false) :
    DX C sc nm lv (.Assign [.Tuple [.Name n p1, .Name n' p2] kk tp] (.Call (.Name (Str.ofString "divmod") np) [e1, e2] [] cp) pos) (fun σ => (f σ).bind fun a => (g σ).bind fun b => (divmodV a b).map fun q => (setF j (.int q.2) (setF i (.int q.1) σ), .next)) := by
  intro A E env B P σ s ow σ' fl Q hA hs R hf k
  obtain ⟨a, ha, hf⟩ := bind_some hf
  obtain ⟨b, hb, hf⟩ := bind_some hf
  obtain ⟨q, hq, e⟩ := Option.map_eq_some_iff.mp hf
  cases e
  have hq' : ∃ a' b', a = .int a' ∧ b = .int b' := by
    unfold divmodV at hq
    split at hq
    · exact ⟨_, _, rfl, rfl⟩
    · cases hq
  obtain ⟨a, b, rfl, rfl⟩ := hq'
  simp only [divmodV] at hq
  · split at hq
    · rename_i hab
      cases hq
      have hargs : DEs C sc nm lv [e1, e2] _ := DEs_cons h1 (DEs_cons h2 DEs_nil s2) s1
      refine PyProof.Rows.Assign_Tuple (wp_callG hgl hk (by decide +kernel) trivial (by simp) hargs hA hs R.toE (vs := [.int a, .int b]) (by simp [ha, hb]) fun P1 h1 tk1 xs g1 hx => ?_)
      obtain ⟨x, y, rfl, hx1, hx2⟩ := hx.two
      cases hx1; cases hx2
      refine divmod_int (by omega) ?_ (.inl ?_)
      · have ⟨g2, _, _⟩ := grow_push g1 { cls := .type "tuple", data := .seq #[.int (a.fdiv b) tk1, .int (a.fmod b) (tk1 + 1)] }
        refine assign_Tuple_tuple hA.handled isTup_push rfl rfl fun h3 hb3 => ?_
        have g3 : Grow P s.heap P1 h3 := grow_extBut g1 hb3
        refine two_stores (s := { s with heap := h3, toks := tk1 + 1 + 1 }) (assign (.Name n p1) env) (assign (.Name n' p2) env) (fun _ _ _ h => wpAny_assign_Name h) (fun _ _ _ h => wpAny_assign_Name h) (R.grow g3) hn hn' (v := .int (a / b)) (v' := .int (a % b)) ?_ ?_ fun h4 tk4 ow4 g4 R4 => ?_
        · rw [Int.fdiv_eq_ediv_of_nonneg _ (by omega)]; exact .int _ _
        · rw [Int.fmod_eq_emod_of_nonneg _ (by omega)]; exact .int _ _
        · exact k P1 h4 tk4 ow4 _ ((GrowB.ofGrow R.bsub g3).trans g4) R4 rfl
      · exact PyProof.noPylong_small (by omega)
    · cases hq

theorem DX_swap {n n' : Str} {p1 p2 p3 p4 tp vp pos : Pos} {kk kk' : Nat} (i j : Nat) (hn : nm[i]? = some n) (hn' : nm[j]? = some n') (hd : (n == ("__debug__" : Str)) = false) (hd' : (n' == ("__debug__" : Str)) = false)
    (hw : ∀ env, env.scope = sc → swappedStores [.Tuple [.Name n p1, .Name n' p2] kk tp] (.Tuple [.Name n' p3, .Name n p4] kk' vp) env = pure (some [n, n'])) :
    DX C sc nm lv (.Assign [.Tuple [.Name n p1, .Name n' p2] kk tp] (.Tuple [.Name n' p3, .Name n p4] kk' vp) pos) (fun σ => (getF σ j).bind fun a => (getF σ i).map fun b => (setF i a (setF j b σ), .next)) := by
  intro A E env B P σ s ow σ' fl Q hA hs R hf k
  obtain ⟨a, ha, hf⟩ := bind_some hf
  obtain ⟨b, hb, e⟩ := Option.map_eq_some_iff.mp hf
  cases e
  have hargs : DEs C sc nm lv [.Name n' p3, .Name n p4] _ := DEs_cons (DE_var j hn' hd') (DEs_cons (DE_var i hn hd) DEs_nil rfl) rfl
  refine PyProof.Rows.Assign_Tuple_swapped (wpAny_Tuple_spliced ((hargs A E env P σ s [a, b] vp _ hA hs R.toE (by simp [ha, hb]) fun P1 h1 tk1 xs g1 hx => ?_).1)) rfl (hw env hs)
  obtain ⟨x, y, rfl, hx1, hx2⟩ := hx.two
  refine ⟨by rw [sizeLine_eq]; simp, ?_⟩
  have ⟨g2, _, _⟩ := grow_push g1 { cls := .type "tuple", data := .seq #[x, y] }
  refine unpackItems_tuple (items := #[x, y]) hA.handled isTup_push fun h3 hb3 => ?_
  have g3 : Grow P s.heap P1 h3 := grow_extBut g1 hb3
  refine two_stores (s := { s with heap := h3, toks := tk1 }) (bindName env n') (bindName env n) (fun _ _ _ h => bindName_ h) (fun _ _ _ h => bindName_ h) (R.grow g3) hn' hn (x := y) (x' := x) (v := b) (v' := a) hx2 hx1 fun h4 tk4 ow4 g4 R4 => ?_
  exact k P1 h4 tk4 ow4 _ ((GrowB.ofGrow R.bsub g3).trans g4) R4 rfl

theorem same_keep {a : Addr} {h h' : Heap} (hb : Heap.SameBut a h h') : ∀ b o, b ≠ a → h.get? b = some o → h'.get? b = some o := fun b o hne e => hb.extBut b o hne e

theorem RepW.ownL {env : Env} {B P : Fz} {σ : St} {h : Heap} {ow : Nat → Addr} (R : RepW C env nm B P σ h ow) {i : Nat} {n : Str} {vs : List V} (hn : nm[i]? = some n) (hv : getO σ i = some vs) :
    At env h n (.ref (ow i)) ∧ ∃ xs m, h.get? (ow i) = some (lobj xs m) ∧ C.VRs P vs xs :=
  R.own i n (.ownL vs) hn (getO_some hv) rfl

theorem setItem_own {A : Around} {E : Value → Shared → Prop} {s : Shared} {l : Addr} {xs : List Value} {m : Nat} {q : Int} {t : Tok} {v : Value} {Q : Unit → Shared → Prop} (ho : s.heap.get? l = some (lobj xs m)) (h0 : 0 ≤ q) (hq : q < 1000000) (hn : q < xs.length)
    (k : ∀ h' m', h'.get? l = some (lobj (xs.set q.toNat v) m') → Heap.SameBut l s.heap h' → Q () { s with heap := h' }) : wpAny C.M A (setItem (.ref l) (.int q t) v) Q E s := by
  have hT : s.TypeIs (.ref l) "list" := ⟨_, ho, rfl⟩
  unfold setItem
  try with_reducible refine wpAny_holding ?_
  first | refine wpAny_bind (wpAny_pure ?_) | skip
  refine wpAny_bind (wpAny_sequenceKey hT (by decide) ?_)
  refine wpAny_bind (wpAny_callSpecial?_slot (name := Str.ofString "__setitem__") hT slot_list_setitem (wpAny_call_entry slot_list_setitem hT entry_list_setitem ?_ (args_list_setitem _ _ _)))
  show wpAny _ _ (Builtin.List.listSubscript? (.int q t) >>= _) _ _ s
  refine wpAny_bind (wpAny_listSubscript_int (fitsIndex_of h0 (by omega)) ?_)
  obtain ⟨j, rfl⟩ := Int.eq_ofNat_of_zero_le h0
  have hj : xs.toArray[j]? = some (xs.toArray[j]'(by simp; omega)) := Array.getElem?_eq_getElem _
  show wpAny _ _ ((seqItemAt l j >>= fun r => pure (r.map (j, ·))) >>= _) _ _ s
  refine wpAny_bind (wpAny_bind (wpAny_seqItemAt ho rfl (wpAny_pure ?_)))
  rw [hj]
  show wpAny _ _ (setSeqItemAt l j v >>= _) _ _ s
  have fin : (s.heap.update l (Obj.mapSeq (·.setIfInBounds j v))).get? l = some (lobj (xs.set j v) m) := by
    rw [Heap.get?_update_self _ ho (by rfl)]
    simp [Obj.mapSeq]
  refine wpAny_bind (wpAny_setSeqItemAt ho rfl ?_)
  have kk := k _ _ fin (Heap.SameBut.update ..)
  first
    | exact wpAny_bind (wpAny_pure (wpAny_pure ⟨.none, rfl, wpAny_pure kk⟩))
    | exact wpAny_pure ⟨.none, rfl, wpAny_pure kk⟩

noncomputable def setLV : List V → V → V → Option (List V)
  | xs, .int q, v => if 0 ≤ q ∧ q.toNat < xs.length ∧ q.toNat < 1000000 then some (xs.set q.toNat v) else none
  | _, _, _ => none
theorem setLV_inv {xs ys : List V} {i v : V} (h : setLV xs i v = some ys) : ∃ q, i = .int q ∧ 0 ≤ q ∧ q.toNat < xs.length ∧ q.toNat < 1000000 ∧ ys = xs.set q.toNat v := by
  unfold setLV at h
  split at h
  · split at h
    · rename_i hq; cases h; exact ⟨_, rfl, hq.1, hq.2.1, hq.2.2, rfl⟩
    · cases h
  · cases h
/-- x[i] = v, of a list of one's own -/
theorem DX_setL {n : Str} {np tp pos : Pos} {ix value : PySem.Expr} {f g : St → Option V} (i : Nat) (hn : nm[i]? = some n) (hd : (n == ("__debug__" : Str)) = false) (hv : DE C sc nm lv value f) (hix : DE C sc nm lv ix g)
    (hsw : ∀ env, swapsWith value (some (.Subscript (.Name n np) ix tp)) pos.line env = pure false) :
    DX C sc nm lv (.Assign [.Subscript (.Name n np) ix tp] value pos) (fun σ => (f σ).bind fun v => (g σ).bind fun iv => (getO σ i).bind fun xs => (setLV xs iv v).map fun ys => (σ.set i (some (.ownL ys)), .next)) := by
  intro A E env B P σ s ow σ' fl Q hA hs R hf k
  obtain ⟨v, hfv, hf⟩ := bind_some hf
  obtain ⟨iv, hiv, hf⟩ := bind_some hf
  obtain ⟨us, hus, hf⟩ := bind_some hf
  obtain ⟨ys, hys, e⟩ := Option.map_eq_some_iff.mp hf
  obtain ⟨q, rfl, hq1, hq2, hq3, rfl⟩ := setLV_inv hys
  cases e
  · ·
      refine wpAny_Assign_Subscript (hv A E env P σ s v _ hA hs R.toE hfv fun P1 h1 tk1 x g1 hx => ?_) (hsw env)
      have R1 := R.grow g1
      obtain ⟨a1, xs, m, a2, a3⟩ := R1.ownL hn hus
      refine wpAny_Name (wp_at (s := { s with heap := h1, toks := tk1 }) R.st.fn a1 ?_) hd
      refine hix A E env P1 σ { s with heap := h1, toks := tk1 } _ _ hA hs R1.toE hiv fun P2 h2 tk2 y g2 hy => ?_
      cases hy
      have R2 := R1.grow g2
      obtain ⟨_, xs2, m2, a4, a5⟩ := R2.ownL hn hus
      have hlen := a5.length
      refine setItem_own a4 hq1 (by omega) (by omega) fun h3 m3 ho3 hb3 => ?_
      have hx2 := VR.mono g2.le hx
      have g12 := GrowB.ofGrow R.bsub (g1.trans g2)
      have R3 : RepW C env nm B P2 (σ.set i (some (.ownL (us.set q.toNat v)))) h3 ow := R2.change hn (getO_some hus) rfl rfl (same_keep hb3) ⟨_, _, ho3, VRs.set a5 hx2 _⟩
      exact k P2 h3 tk2 ow _ ⟨g12.le, R3.sub, R3.bsub, g12.new⟩ R3 rfl
end
end Lw

namespace Lw
open PySem PySem.Calls PyProof.Rows
set_option maxRecDepth 10000

section
variable {C : Cx} {sc : Scope} {nm : List Str} {lv : Nat}

theorem wp_method {o : PySem.Expr} {name : Str} {apos pos : Pos} {args : List PySem.Expr} {T id : String} {f : St → Option (List V)} {O : Fz → Heap → Value → Prop} {A : Around} {E : Value → Shared → Prop} {env : Env} {P : Fz} {σ : St} {s : Shared} {vs : List V} {Q : Value → Shared → Prop}
    (hbase : attributeBase o name env (eval o env) = eval o env) (hfew : ((backTo pos (starEach args env)).all (fun x => !x.1) && (backToKw pos (keywordEach [] env)).all (fun x => x.1.isSome) && decide (args.length + ([] : List Keyword).length + (if ([] : List Keyword).isEmpty then 0 else 1) < 30)) = true)
    (hline : (apos.endLine == pos.line) = true) (pa : PlainAttrs T) (slot : PySem.Slot T name id) (hty : typeOf (.builtin id) = pure (.type "method_descriptor")) (hne : args ≠ []) (ha : DEs C sc nm lv args f) (hA : AOk A lv) (hs : env.scope = sc) (R : RepE C env nm P σ s.heap) (hvs : f σ = some vs)
    (hobj : ∀ Q' : Value → Shared → Prop, (∀ P1 h1 tk1 ov, Grow P s.heap P1 h1 → Shared.TypeIs { s with heap := h1, toks := tk1 } ov T → (∀ a, ov = .ref a → ∃ ob, h1.get? a = some ob ∧ ob.dict = none) → O P1 h1 ov → Q' ov { s with heap := h1, toks := tk1 }) → wpAny C.M A (eval o env) Q' E s)
    (k : ∀ P1 h1 ov P2 h2 tk2 xs, O P1 h1 ov → Grow P s.heap P1 h1 → Grow P1 h1 P2 h2 → C.VRs P2 vs xs → wpAny C.M A (call (.builtin id) (ov :: xs)) Q E { s with heap := h2, toks := tk2 }) :
    wpAny C.M A (eval (.Call (.Attribute o name apos) args [] pos) env) Q E s := by
  refine wpAny_Call_method hbase hfew hline pa slot hty (hobj _ fun P1 h1 tk1 ov g1 hT hd hO => ⟨hT, hd, ?_⟩)
  obtain ⟨q1, q2, q3⟩ := ha A E env P1 σ { s with heap := h1, toks := tk1 } vs pos (fun xs s₁ => wpAny C.M A (call (.builtin id) (ov :: xs)) Q E s₁) hA hs (R.grow g1) hvs fun P2 h2 tk2 xs g2 hxs => k P1 h1 ov P2 h2 tk2 xs hO g1 g2 hxs
  obtain ⟨t, r, e⟩ := q3 hne
  rw [e] at q1 q2 ⊢
  exact callWith_builtin q2 (evalArgs_plain (wpAny_mono q1 (fun _ _ x => by simpa using x) fun _ _ x => x))

theorem wp_method0 {o : PySem.Expr} {name : Str} {apos pos : Pos} {T id : String} {O : Fz → Heap → Value → Prop} {A : Around} {E : Value → Shared → Prop} {env : Env} {P : Fz} {s : Shared} {Q : Value → Shared → Prop}
    (hbase : attributeBase o name env (eval o env) = eval o env)
    (hline : (apos.endLine == pos.line) = true) (pa : PlainAttrs T) (slot : PySem.Slot T name id) (hty : typeOf (.builtin id) = pure (.type "method_descriptor"))
    (hobj : ∀ Q' : Value → Shared → Prop, (∀ P1 h1 tk1 ov, Grow P s.heap P1 h1 → Shared.TypeIs { s with heap := h1, toks := tk1 } ov T → (∀ a, ov = .ref a → ∃ ob, h1.get? a = some ob ∧ ob.dict = none) → O P1 h1 ov → Q' ov { s with heap := h1, toks := tk1 }) → wpAny C.M A (eval o env) Q' E s)
    (k : ∀ P1 h1 tk1 ov, O P1 h1 ov → Grow P s.heap P1 h1 → wpAny C.M A (call (.builtin id) [ov]) Q E { s with heap := h1, toks := tk1 }) :
    wpAny C.M A (eval (.Call (.Attribute o name apos) [] [] pos) env) Q E s := by
  refine wpAny_Call_method hbase (by rfl) hline pa slot hty (hobj _ fun P1 h1 tk1 ov g1 hT hd hO => ⟨hT, hd, ?_⟩)
  show wpAny C.M A (callWith pos (.builtin id) [ov] [] []) Q E _
  exact callWith_builtin rfl (PySem.evalArgs_none (k P1 h1 tk1 ov hO g1))

theorem not_interactive {env : Env} (h : env.scope.kind = .function) : interactive env = false := by unfold interactive; rw [h]; rfl

/-- x.append(v), of a list of one's own -/
theorem DX_append {n : Str} {np apos cpos pos : Pos} {e : PySem.Expr} {f : St → Option V} (i : Nat) (hn : nm[i]? = some n) (hd : (n == ("__debug__" : Str)) = false) (he : DE C sc nm lv e f) (hst : PySem.W.isStarred e = false) (hline : (apos.endLine == cpos.line) = true) :
    DX C sc nm lv (.Expr (.Call (.Attribute (.Name n np) (Str.ofString "append") apos) [e] [] cpos) pos) (fun σ => (getO σ i).bind fun xs => (f σ).bind fun v => if xs.length < lim then some (σ.set i (some (.ownL (xs ++ [v]))), .next) else none) := by
  intro A E env B P σ s ow σ' fl Q hA hs R hf k
  obtain ⟨us, hus, hf⟩ := bind_some hf
  obtain ⟨v, hv, hf⟩ := bind_some hf
  split at hf
  · rename_i hlen
    cases hf
    obtain ⟨a1, xs0, m0, a2, a3⟩ := R.ownL hn hus
    refine wpAny_Expr (wp_method (O := fun P1 h1 ov => P1 = P ∧ h1 = s.heap ∧ ov = .ref (ow i)) rfl (by rw [star_plain hst]; rfl) hline F.plainAttrs_list F.slot_list_append F.type_list_append (by simp) (DEs_cons he DEs_nil hst) hA hs R.toE (vs := [v]) (by simp [hv])
      (fun Q' kq => wpAny_Name (wp_at R.st.fn a1 (kq P s.heap s.toks _ (Grow.refl R.sub) ⟨_, a2, rfl⟩ (fun a e => by cases e; exact ⟨_, a2, rfl⟩) ⟨rfl, rfl, rfl⟩)) hd) ?_) (not_interactive R.st.fn)
    rintro P1 h1 ov P2 h2 tk2 ys ⟨rfl, rfl, rfl⟩ _ g2 hx
    obtain ⟨x, rfl, hx1⟩ := hx.one
    have R2 := R.grow g2
    obtain ⟨_, xs, m, a4, a5⟩ := R2.ownL hn hus
    have hl := a5.length
    unfold lim at hlen
    refine wpAny_list_append_plain (items := xs.toArray) ⟨m, a4⟩ (fun h3 hp hb => ?_) (by simp only [List.size_toArray]; rw [sizeLine_eq]; omega)
    obtain ⟨m3, hp⟩ := hp
    have g12 := GrowB.ofGrow R.bsub g2
    have R3 : RepW C env nm B P2 (σ.set i (some (.ownL (us ++ [v])))) h3 ow := R2.change hn (getO_some hus) rfl rfl (same_keep hb) ⟨xs ++ [x], m3, by simpa using hp, a5.snoc hx1⟩
    exact k P2 h3 tk2 ow _ ⟨g12.le, R3.sub, R3.bsub, g12.new⟩ R3 rfl
  · cases hf

/-- the dict of ints -/
noncomputable def getD (σ : St) (i : Nat) : Option (List (Int × V)) := match σ[i]? with
  | some (some (.ownD vs)) => some vs
  | _ => none
theorem getD_some {σ : St} {i : Nat} {v : List (Int × V)} (h : getD σ i = some v) : σ[i]? = some (some (.ownD v)) := by
  unfold getD at h
  split at h
  · cases h; assumption
  · cases h
theorem RepW.ownD {env : Env} {B P : Fz} {σ : St} {h : Heap} {ow : Nat → Addr} (R : RepW C env nm B P σ h ow) {i : Nat} {n : Str} {vs : List (Int × V)} (hn : nm[i]? = some n) (hv : getD σ i = some vs) :
    At env h n (.ref (ow i)) ∧ (ow i == sysModules) = false ∧ ∃ o kxs, h.get? (ow i) = some o ∧ o.IsDictOf (intKind C.prog C.w) kxs ∧ C.DRs P vs kxs :=
  R.own i n (.ownD vs) hn (getD_some hv) rfl

theorem fresh_notSys {h : Heap} (hb : ∀ b o, C.h₀.get? b = some o → h.get? b = some o) : (h.objs.size == sysModules) = false := by
  have h1 : mainGlobals < C.h₀.objs.size := C.g.lt
  have h2 : h.get? mainGlobals ≠ none := by
    obtain ⟨o, _, _, ho, _⟩ := C.g
    rw [hb _ _ ho]; simp
  have h3 : mainGlobals < h.objs.size := by
    cases hq : h.get? mainGlobals with
    | none => exact absurd hq h2
    | some o => exact Heap.lt_size hq
  have h4 : h.objs.size ≠ sysModules := by
    intro e
    rw [e] at h3
    exact absurd h3 (by decide)
  simpa using h4

theorem DX_newD {n : Str} {px dp pos : Pos} (i : Nat) (hn : nm[i]? = some n) : DX C sc nm lv (.Assign [.Name n px] (.Dict [] [] dp) pos) (fun σ => some (σ.set i (some (.ownD [])), .next)) := by
  intro A E env B P σ s ow σ' fl Q hA hs R hf k
  cases hf
  obtain ⟨g1, p1, s1⟩ := grow_push (Grow.refl (P := P) (h := s.heap) R.sub) { cls := .type "dict", data := .dict #[] }
  refine wpAny_Assign_Name (wpAny_Dict_empty ?_)
  obtain ⟨o, ho, hd⟩ := Heap.dictOf_iff.mp (Heap.DictOf.new (knd := intKind C.prog C.w) s.heap)
  refine wp_store (s := { s with heap := s.heap.push { cls := .type "dict", data := .dict #[] } }) (R.grow g1) hn (new_own (sl := .ownD []) R g1 p1 s1 rfl ⟨fresh_notSys R.toE.base, o, [], ho, hd, .nil⟩) fun h2 tk2 ow2 g2 R2 _ => ?_
  exact k P h2 tk2 ow2 _ ((GrowB.ofGrow R.bsub g1).trans g2) R2 rfl

/-- a dict's store -/
noncomputable def storeD : List (Int × V) → Int → V → List (Int × V)
  | [], k, v => [(k, v)]
  | (k', u) :: r, k, v => if k' = k then (k', v) :: r else (k', u) :: storeD r k v
noncomputable def lookD : List (Int × V) → Int → Option V
  | [], _ => none
  | (k', u) :: r, k => if k' = k then some u else lookD r k

theorem DRs.length {prog : Program} {w : World} {P : Fz} : ∀ {vs : List (Int × V)} {xs : List (Int × Value)}, DRs prog w P vs xs → vs.length = xs.length
  | _, _, .nil => rfl
  | _, _, .cons h1 h2 => by simp [DRs.length h2]
theorem DRs.keys {prog : Program} {w : World} {P : Fz} : ∀ {vs : List (Int × V)} {xs : List (Int × Value)}, DRs prog w P vs xs → xs.map (·.1) = vs.map (·.1)
  | _, _, .nil => rfl
  | _, _, .cons h1 h2 => by simp [DRs.keys h2]
theorem map_absent {K : Type} [DecidableEq K] {r : List (K × Value)} {k : K} {x : Value} (h : k ∉ r.map (·.1)) : r.map (fun kv => if kv.1 = k then (kv.1, x) else kv) = r := by
  induction r with
  | nil => rfl
  | cons p r ih =>
    simp only [List.map_cons, List.mem_cons, not_or] at h ⊢
    rw [ih h.2, if_neg (Ne.symm h.1)]
theorem DRs.store {prog : Program} {w : World} {P : Fz} {k : Int} {v : V} {x : Value} (hx : VR prog w P v x) : ∀ {vs : List (Int × V)} {xs : List (Int × Value)}, (vs.map (·.1)).Nodup → DRs prog w P vs xs → DRs prog w P (storeD vs k v) (stored xs k x)
  | _, _, _, .nil => .cons hx .nil
  | (k', u) :: r, (_, y) :: r', hnd, .cons h1 h2 => by
    have hk := DRs.keys h2
    simp only [List.map_cons, List.nodup_cons] at hnd
    unfold storeD stored
    by_cases e : k' = k
    · subst e
      simp only [if_true, List.any_cons, decide_true, Bool.true_or, List.map_cons]
      rw [map_absent (by rw [hk]; exact hnd.1)]
      exact .cons hx h2
    · have ih := DRs.store (k := k) hx hnd.2 h2
      unfold stored at ih
      simp only [e, if_false, List.any_cons, decide_false, Bool.false_or, List.map_cons]
      by_cases hany : r'.any (fun kv => decide (kv.1 = k)) = true
      · rw [if_pos hany] at ih ⊢
        exact .cons h1 ih
      · rw [if_neg hany] at ih ⊢
        exact .cons h1 ih
theorem DRs.look {prog : Program} {w : World} {P : Fz} {k : Int} {v : V} : ∀ {vs : List (Int × V)} {xs : List (Int × Value)}, DRs prog w P vs xs → lookD vs k = some v → ∃ x, valueAt xs k = some x ∧ VR prog w P v x
  | _, _, .nil, h => by cases h
  | (k', u) :: r, (_, y) :: r', .cons h1 h2, h => by
    unfold lookD at h
    unfold valueAt
    by_cases e : k' = k
    · subst e
      simp at h; subst h
      exact ⟨y, by simp, h1⟩
    · rw [if_neg e] at h
      obtain ⟨x, a1, a2⟩ := DRs.look h2 h
      exact ⟨x, by unfold valueAt at a1; simpa [e] using a1, a2⟩

noncomputable def storeDV : List (Int × V) → V → V → Option (List (Int × V))
  | xs, .int q, v => if xs.length < lim then some (storeD xs q v) else none
  | _, _, _ => none
theorem storeDV_inv {xs ys : List (Int × V)} {i v : V} (h : storeDV xs i v = some ys) : ∃ q, i = .int q ∧ xs.length < lim ∧ ys = storeD xs q v := by
  unfold storeDV at h
  split at h
  · split at h
    · rename_i hq; cases h; exact ⟨_, rfl, hq, rfl⟩
    · cases h
  · cases h
/-- d[k] = v, of a dict of one's own -/
theorem DX_setD {n : Str} {np tp pos : Pos} {ix value : PySem.Expr} {f g : St → Option V} (i : Nat) (hn : nm[i]? = some n) (hd : (n == ("__debug__" : Str)) = false) (hv : DE C sc nm lv value f) (hix : DE C sc nm lv ix g)
    (hsw : ∀ env, swapsWith value (some (.Subscript (.Name n np) ix tp)) pos.line env = pure false) :
    DX C sc nm lv (.Assign [.Subscript (.Name n np) ix tp] value pos) (fun σ => (f σ).bind fun v => (g σ).bind fun iv => (getD σ i).bind fun xs => (storeDV xs iv v).map fun ys => (σ.set i (some (.ownD ys)), .next)) := by
  intro A E env B P σ s ow σ' fl Q hA hs R hf k
  obtain ⟨v, hfv, hf⟩ := bind_some hf
  obtain ⟨iv, hiv, hf⟩ := bind_some hf
  obtain ⟨us, hus, hf⟩ := bind_some hf
  obtain ⟨ys, hys, e⟩ := Option.map_eq_some_iff.mp hf
  obtain ⟨q, rfl, hq, rfl⟩ := storeDV_inv hys
  cases e
  · ·
      refine wpAny_Assign_Subscript (hv A E env P σ s v _ hA hs R.toE hfv fun P1 h1 tk1 x g1 hx => ?_) (hsw env)
      have R1 := R.grow g1
      obtain ⟨a1, _⟩ := R1.ownD hn hus
      refine wpAny_Name (wp_at (s := { s with heap := h1, toks := tk1 }) R.st.fn a1 ?_) hd
      refine hix A E env P1 σ { s with heap := h1, toks := tk1 } _ _ hA hs R1.toE hiv fun P2 h2 tk2 y g2 hy => ?_
      cases hy with
      | int _ t =>
      have R2 := R1.grow g2
      obtain ⟨_, nsys, o, kxs, a4, a5, a6⟩ := R2.ownD hn hus
      have hlen := a6.length
      have hnd : (us.map (·.1)).Nodup := by rw [← a6.keys]; obtain ⟨_, _, _, _, _, _, h⟩ := a5; exact h
      unfold lim at hq
      refine wpAny_setItem_pairs (knd := intKind C.prog C.w) (k := q) (key := .int q t) (intKind_is _ _ _ _) (Heap.dictOf_iff.mpr ⟨o, a4, a5⟩) (fun h3 hm3 hb3 => ?_) (by rw [sizeLine_eq]; omega)
      obtain ⟨o3, ho3, hd3⟩ := Heap.dictOf_iff.mp hm3
      have hx2 := VR.mono g2.le hx
      have g12 := GrowB.ofGrow R.bsub (g1.trans g2)
      have R3 : RepW C env nm B P2 (σ.set i (some (.ownD (storeD us q v)))) h3 ow := R2.change hn (getD_some hus) rfl rfl (same_keep hb3) ⟨nsys, o3, _, ho3, hd3, DRs.store hx2 hnd a6⟩
      exact k P2 h3 _ ow _ ⟨g12.le, R3.sub, R3.bsub, g12.new⟩ R3 rfl

/-- a dict at hand, kept or one's own -/
noncomputable def DBD (C : Cx) (sc : Scope) (nm : List Str) (lv : Nat) (e : PySem.Expr) (f : St → Option (List (Int × V))) : Prop :=
  ∀ (A : Around) (E : Value → Shared → Prop) (env : Env) (P : Fz) (σ : St) (s : Shared) (vs : List (Int × V)) (Q : Value → Shared → Prop),
    AOk A lv → env.scope = sc → RepE C env nm P σ s.heap → f σ = some vs →
    (∀ P' h' tk a o kxs, Grow P s.heap P' h' → (a == sysModules) = false → h'.get? a = some o → o.IsDictOf (intKind C.prog C.w) kxs → C.DRs P' vs kxs → Q (.ref a) { s with heap := h', toks := tk }) → wpAny C.M A (eval e env) Q E s
noncomputable def asDict : V → Option (List (Int × V))
  | .dict xs => some xs
  | _ => none
theorem DBD_of {e : PySem.Expr} {f : St → Option V} (h : DE C sc nm lv e f) : DBD C sc nm lv e (fun σ => (f σ).bind asDict) := by
  intro A E env P σ s vs Q hA hs R hf k
  obtain ⟨v, hv, hf⟩ := bind_some hf
  cases v with
  | dict xs =>
    cases hf
    refine h A E env P σ s _ Q hA hs R hv fun P1 h1 tk1 x g1 hx => ?_
    cases hx with
    | dict h0 h3 h4 h5 => exact k P1 h1 tk1 _ _ _ g1 h0 (g1.sub _ _ h3) h4 h5
  | _ => cases hf

noncomputable def lookDV : List (Int × V) → V → Option V
  | xs, .int k => lookD xs k
  | _, _ => none
theorem lookDV_inv {xs : List (Int × V)} {v u : V} (h : lookDV xs v = some u) : ∃ k, v = .int k ∧ lookD xs k = some u := by
  unfold lookDV at h
  split at h
  · exact ⟨_, rfl, h⟩
  · cases h
theorem DE_idxD {e i : PySem.Expr} {pos : Pos} {f : St → Option (List (Int × V))} {g : St → Option V} (he : DBD C sc nm lv e f) (hi : DE C sc nm lv i g) :
    DE C sc nm lv (.Subscript e i pos) (fun σ => (f σ).bind fun xs => (g σ).bind fun v => lookDV xs v) := by
  intro A E env P σ s v Q hA hs R hf k
  obtain ⟨vs, hvs, hf⟩ := bind_some hf
  obtain ⟨iv, hiv, hf⟩ := bind_some hf
  obtain ⟨j, rfl, hf⟩ := lookDV_inv hf
  · refine Subscript_ (he A E env P σ s vs _ hA hs R hvs fun P1 h1 tk1 a o kxs g1 nsys ho hd hx => ?_)
    refine hi A E env P1 σ { s with heap := h1, toks := tk1 } _ _ hA hs (R.grow g1) hiv fun P2 h2 tk2 y g2 hy => ?_
    cases hy with
    | int _ t =>
    obtain ⟨x, hx1, hx2⟩ := DRs.look (DRs.mono g2.le hx) hf
    obtain ⟨ops, hops⟩ := sub_ops i (.ref a) (.int j t)
    have ho2 := g2.keep _ _ ho
    have hD : h2.DictOf (intKind C.prog C.w) a kxs := Heap.dictOf_iff.mpr ⟨o, ho2, hd⟩
    refine tail_any (T := "dict") (Heap.DictOf.typeIs (s := { s with heap := h2, toks := tk2 }) hD) slot_dict_getitem.lookup (wpAny_getItem_of (s := { s with heap := h2, toks := tk2 }) (knd := intKind C.prog C.w) (k := j) (intKind_is _ _ _ _) hD.mapOf hx1 ?_) hops
    exact (k.after (g1.trans g2) (tk1 := tk2)).tok (s := { s with heap := h2, toks := tk2 }) g2.sub hx2
end
end Lw

namespace Lw
open PySem PySem.Calls PyProof.Rows
set_option maxRecDepth 10000

theorem intsAre_of {P : Nat → Value → Prop} {val : Nat → Int} (hval : ∀ i v, P i v → ∃ t : Tok, v = .int (val i) t) : ∀ (xs : List Value) (k : Nat), (∀ j v, xs[j]? = some v → P (k + j) v) → IntsAre xs ((List.range xs.length).map fun j => val (k + j))
  | [], _, _ => .nil
  | x :: r, k, h => by
    obtain ⟨t, rfl⟩ := hval _ _ (h 0 x rfl)
    have ih := intsAre_of hval r (k + 1) fun j v e => by
      have := h (j + 1) v (by simpa using e)
      rw [show k + 1 + j = k + (j + 1) by omega]; exact this
    simp only [List.length_cons, List.range_succ_eq_map, List.map_cons, List.map_map]
    refine .cons _ _ ?_
    have e : ((fun j => val (k + j)) ∘ Nat.succ) = fun j => val (k + 1 + j) := by
      funext j; simp only [Function.comp]; congr 1; omega
    rw [e]; exact ih

section
variable {C : Cx} {lv : Nat}

theorem sorted_src {A : Around} {E : Value → Shared → Prop} {s : Shared} {T : String} {r d : Addr} {n : Nat} {Pv : Nat → Value → Prop} {OK : Heap → Prop} {Q : Value → Shared → Prop} (K : PySem.W.KdlSrc C.prog C.w T r d n Pv OK) (hh : A.handled = none) (hok : OK s.heap) (hn : n < 64)
    (val : Nat → Int) (hval : ∀ i v, Pv i v → ∃ t : Tok, v = .int (val i) t)
    (k : ∀ h' tk D ys m, (∀ b o, s.heap.get? b = some o → h'.get? b = some o) → s.heap.get? D = none → h'.get? D = some (lobj ys m) → IntsAre ys (isort ((List.range n).map val)) → Q (.ref D) { s with heap := h', toks := tk }) :
    wpAny C.M A (call (.builtin "sorted") [.ref r]) Q E s := by
  refine call_function_entry kind_sorted plain_sorted entry_sorted (args_sorted1 _) ?_
  unfold Builtin.«sorted»
  refine wpAny_bind (m := checkCount "sorted" 1 1 _) (wpAny_pure ?_)
  refine wpAny_bind (PySem.W.kdu_collect (A := A.in1) K hh hok (by rw [sizeLine_eq]; omega) fun h' tk acc hk hacc => ?_)
  have hl : acc.toList.length = n := by rw [Array.length_toList]; exact hacc.1
  refine wpAny_bind (wpAny_newList ?_ (by rw [hl, sizeLine_eq]; omega))
  have hI0 := intsAre_of hval acc.toList 0 fun j v e => by
    rw [Nat.zero_add]
    exact hacc.2 j v (by rw [← Array.getElem?_toList]; exact e)
  have hI : IntsAre acc.toList ((List.range n).map val) := by
    rw [hl] at hI0
    simpa using hI0
  have hoD : (h'.push { cls := .type "list", data := .seq acc.toList.toArray }).get? h'.objs.size = some (seqObj "list" acc.toList.toArray 0) := Heap.get?_push_size _ rfl
  refine wpAny_bind (wpAny_holding (wpAny_call_entry slot_list_sort ⟨_, hoD, rfl⟩ entry_list_sort (list_sort_tree hoD hI (by rw [hl]; exact hn) fun out ns' a1 a2 a3 => ⟨_, rfl, ?_⟩) (args_list_sort _)))
  obtain ⟨e, he⟩ := sortedHeap_at (out := out) hoD
  refine wpAny_pure ⟨_, rfl, ?_⟩
  rw [isort_eq a2 a3] at a1
  refine k _ tk h'.objs.size out.toList e (fun b o e' => ?_) ?_ (by simpa using he) a1
  · have hb := hk b o e'
    have hlt := Heap.lt_size hb
    rw [sortedHeap_old (Nat.ne_of_lt hlt) (by rw [Heap.size_push]; exact Nat.lt_succ_of_lt hlt)]
    exact Heap.get?_push_of_some _ hb
  · cases hq : s.heap.get? h'.objs.size with
    | none => rfl
    | some o => exact absurd (Heap.lt_size (hk _ _ hq)) (Nat.lt_irrefl _)

noncomputable def sortedV2 : List V → Option V
  | [.list xs] => sortedV [.list xs]
  | [.dict kvs] => if kvs.length < 64 then some (.list ((isort (kvs.map (·.1))).map .int)) else none
  | _ => none
theorem sorted_ok2 : CallOk C lv (.builtin "sorted") sortedV2 := by
  intro A E P s vs v xs Q hA hb hs hx hf k
  unfold sortedV2 at hf
  split at hf
  · exact sorted_ok A E P s _ v xs Q hA hb hs hx hf k
  · split at hf
    · rename_i kvs hl
      cases hf
      obtain ⟨x, rfl, h1⟩ := hx.one
      cases h1 with
      | @dict a o _ kxs nsys ho hd hdr =>
        have hks := hdr.keys
        have hlen := hdr.length
        obtain ⟨es, ep, q1, q2, q3, q4, q5⟩ := hd
        have hD : s.heap.DictAt (intKind C.prog C.w) a kxs ep := ⟨o, es, hs _ _ ho, q1, q2, q3, q4, q5⟩
        refine sorted_src (PySem.W.kdl_dict nsys) hA.handled hD (by omega) (fun i => ((kxs[i]?).map (·.1)).getD 0) (fun i v hv => ?_) fun h' tk D ys m hk hD0 hoD hI => ?_
        · obtain ⟨kk, x, e1, e2⟩ := hv
          obtain ⟨t, rfl⟩ := Value.isInt_shape e2
          exact ⟨t, by rw [e1]; rfl⟩
        · have e : ((List.range kxs.length).map fun i => ((kxs[i]?).map (·.1)).getD 0) = kvs.map (·.1) := by
            rw [← hks]
            refine List.ext_getElem? fun i => ?_
            by_cases hi : i < kxs.length
            · simp [hi]
            · simp [hi]
          rw [e] at hI
          have hPD : P D = none := by
            cases hq : P D with
            | none => rfl
            | some o => rw [hs _ _ hq] at hD0; cases hD0
          exact KF.of k P h' tk D ys m (Grow.of_keep hs hk) hPD hD0 hoD (VRs.of_ints hI)
    · cases hf
  · cases hf
end
end Lw

namespace Lw
open PySem PySem.Calls PyProof.Rows
set_option maxRecDepth 10000

theorem bindL_not {kd : Str → Option NameKind} : ∀ {binds : List (Str × Value)} {m : Str → Option Value} {n : Str}, n ∉ binds.map (·.1) → bindL kd binds m n = m n
  | [], _, _, _ => rfl
  | (k, v) :: r, m, n, h => by
    simp only [List.map_cons, List.mem_cons, not_or] at h
    unfold bindL
    rw [bindL_not h.2]
    split
    · simp [h.1]
    · rfl
theorem bindC_not {kd : Str → Option NameKind} : ∀ {binds : List (Str × Value)} {m : Str → Option Value} {n : Str}, n ∉ binds.map (·.1) → bindC kd binds m n = m n
  | [], _, _, _ => rfl
  | (k, v) :: r, m, n, h => by
    simp only [List.map_cons, List.mem_cons, not_or] at h
    unfold bindC
    rw [bindC_not h.2]
    split
    · rfl
    · simp [h.1]
theorem bindL_get {kd : Str → Option NameKind} : ∀ {ns : List Str} {xs : List Value} {m : Str → Option Value} {i : Nat} {n : Str} {x : Value}, ns.Nodup → ns[i]? = some n → xs[i]? = some x → kd n = some .local → bindL kd (ns.zip xs) m n = some x
  | [], _, _, i, _, _, _, h, _, _ => by simp at h
  | _ :: _, [], _, i, _, _, _, _, h, _ => by simp at h
  | k :: r, y :: ys, m, i, n, x, nd, h1, h2, h3 => by
    simp only [List.nodup_cons] at nd
    cases i with
    | zero =>
      simp at h1 h2
      subst h1 h2
      rw [List.zip_cons_cons]; unfold bindL
      rw [bindL_not (fun h => nd.1 (by obtain ⟨p, hp, e⟩ := List.mem_map.mp h; rw [← e]; exact (List.of_mem_zip hp).1)), if_pos h3]
      simp
    | succ i =>
      rw [List.zip_cons_cons]; unfold bindL
      exact bindL_get nd.2 (by simpa using h1) (by simpa using h2) h3
theorem bindC_get {kd : Str → Option NameKind} : ∀ {ns : List Str} {xs : List Value} {m : Str → Option Value} {i : Nat} {n : Str} {x : Value}, ns.Nodup → ns[i]? = some n → xs[i]? = some x → kd n = some .cell → bindC kd (ns.zip xs) m n = some x
  | [], _, _, i, _, _, _, h, _, _ => by simp at h
  | _ :: _, [], _, i, _, _, _, _, h, _ => by simp at h
  | k :: r, y :: ys, m, i, n, x, nd, h1, h2, h3 => by
    simp only [List.nodup_cons] at nd
    cases i with
    | zero =>
      simp at h1 h2
      subst h1 h2
      rw [List.zip_cons_cons]; unfold bindC
      rw [bindC_not (fun h => nd.1 (by obtain ⟨p, hp, e⟩ := List.mem_map.mp h; rw [← e]; exact (List.of_mem_zip hp).1)), if_neg (by rw [h3]; simp)]
      simp
    | succ i =>
      rw [List.zip_cons_cons]; unfold bindC
      exact bindC_get nd.2 (by simpa using h1) (by simpa using h2) h3

theorem lookup_memC {n : Str} {c : Addr} {cs : List (Str × Addr)} (h : cs.lookup n = some c) : (n, c) ∈ cs := by
  obtain ⟨⟨a, b⟩, h1, h2, h3⟩ := lookup_mem h
  subst h2 h3; exact h1

theorem pair_inj {cs : List (Str × Addr)} (hp : cs.Pairwise fun x y => x.2 ≠ y.2) {n n' : Str} {c : Addr} (h1 : (n, c) ∈ cs) (h2 : (n', c) ∈ cs) : n = n' := by
  induction cs with
  | nil => cases h1
  | cons p r ih =>
    rw [List.pairwise_cons] at hp
    rcases List.mem_cons.mp h1 with e1 | h1'
    · rcases List.mem_cons.mp h2 with e2 | h2'
      · rw [← e1] at e2; cases e2; rfl
      · subst e1; exact absurd rfl (hp.1 (n', c) h2')
    · rcases List.mem_cons.mp h2 with e2 | h2
      · subst e2; exact absurd rfl (hp.1 (n, c) h1')
      · exact ih hp.2 h1' h2

/-- what is so of a function's text -/
structure FnOK (name : Str) (params : Arguments) (scope : Scope) (pn nm : List Str) : Prop where
  bind : ∀ body pm cd doc (xs : List Value), xs.length = pn.length → bindArgs (Calls.docDef name params body scope pm cd doc) ⟨xs, []⟩ = pure (pn.zip xs)
  kind : scope.kind = .function
  co : scope.isCoroutine = false
  gen : scope.isGenerator = false
  pre : ∃ rest, nm = pn ++ rest
  nd : nm.Nodup
  kinds : ∀ n ∈ nm, scope.names.lookup n = some .local ∨ scope.names.lookup n = some .cell

noncomputable def startS (nm : List Str) (vs : List V) : St := frzs vs ++ List.replicate (nm.length - vs.length) none
noncomputable def giveF : Option (St × Fl) → Option V
  | some (_, .ret v) => some v
  | some (_, .next) => some .none
  | _ => none

section
variable {C : Cx} {lv : Nat}

theorem start_rep {name : Str} {params : Arguments} {scope : Scope} {pn nm : List Str} (F : FnOK name params scope pn nm) {s : Shared} {P : Fz} {h₁ : Heap} {a : Addr} {cd : Value} {xs : List Value} {vs : List V} (hb : ∀ b o, C.h₀.get? b = some o → s.heap.get? b = some o) (hs : ∀ b o, P b = some o → s.heap.get? b = some o)
    (hx : C.VRs P vs xs) (hlen : xs.length = pn.length)
    (Fr1 : Fr s.heap s.heap.objs.size h₁ (bindL (envOfC name scope s.heap.objs.size a cd).kindOf (pn.zip xs) fun _ => none))
    (Cl1 : Cl s.heap.objs.size (cellsFrom (s.heap.objs.size + 1) scope.names []) h₁ (bindC (envOfC name scope s.heap.objs.size a cd).kindOf (pn.zip xs) fun _ => none)) :
    RepW C (envOfC name scope s.heap.objs.size a cd) nm s.heap.get? P (startS nm vs) h₁ (fun _ => 0) := by
  have kindOf : ∀ n, (envOfC name scope s.heap.objs.size a cd).kindOf n = scope.names.lookup n := fun n => rfl
  have cl : (envOfC name scope s.heap.objs.size a cd).cells = cellsFrom (s.heap.objs.size + 1) scope.names [] := rfl
  have freshP : ∀ b, s.heap.get? b = none → P b = none := fun b e => by
    cases hq : P b with
    | none => rfl
    | some o => rw [hs _ _ hq] at e; cases e
  have above : ∀ n c, (envOfC name scope s.heap.objs.size a cd).cells.lookup n = some c → s.heap.objs.size < c := fun n c h => Cl1.above n c (lookup_memC (by rw [← cl]; exact h))
  have noOwn : ∀ (i : Nat) (sl : Slot), (startS nm vs)[i]? = some (some sl) → ∃ v, sl = .frz v ∧ vs[i]? = some v := fun i sl h => by
    unfold startS at h
    rw [List.getElem?_append] at h
    split at h
    · simp only [List.getElem?_map, Option.map_eq_some_iff] at h
      obtain ⟨v, h1, h2⟩ := h
      cases h2
      exact ⟨v, rfl, h1⟩
    · rw [List.getElem?_replicate] at h
      split at h <;> simp at h
  have hcell : ∀ n, scope.names.lookup n = some .cell → ∃ c, (envOfC name scope s.heap.objs.size a cd).cells.lookup n = some c := fun n h => by
    have := PySem.W.cellsFrom_some scope.names (s.heap.objs.size + 1) [] (.inl h)
    rw [cl]
    exact Option.isSome_iff_exists.mp this
  refine ⟨⟨F.kind, rfl, rfl, fun n h => hcell n h, fun n n' c h1 h2 => ?_, fun n c h => Ne.symm (Nat.ne_of_lt (above n c h)), F.kinds, F.nd⟩, hb, fun b o e => Fr1.keep _ _ e, fun b o e => Fr1.keep _ _ (hs _ _ e), ⟨_, Fr1.ns⟩, fresh_none _, freshP _ (fresh_none _), fun n c h => ⟨⟨_, Cl1.cell n c h⟩, ?_, ?_⟩, fun i n v h1 h2 => ?_, fun i n sl h1 h2 h3 => ?_, fun i n sl h1 h2 h3 => ?_⟩
  · exact pair_inj Cl1.apart (lookup_memC h1) (lookup_memC h2)
  · exact fresh_ge (Nat.le_of_lt (above n c h))
  · exact freshP _ (fresh_ge (Nat.le_of_lt (above n c h)))
  · obtain ⟨v', e1, e2⟩ := noOwn i _ h2
    cases e1
    obtain ⟨x, hx1, hx2⟩ := hx.get e2
    obtain ⟨rest, hpre⟩ := F.pre
    have hi : i < pn.length := by rw [← hlen]; exact (List.getElem?_eq_some_iff.mp hx1).1
    have hpn : pn[i]? = some n := by rw [hpre, List.getElem?_append_left hi] at h1; exact h1
    have hnd : pn.Nodup := by have := F.nd; rw [hpre] at this; exact (List.nodup_append.mp this).1
    refine ⟨x, ?_, hx2⟩
    rcases F.kinds n (List.mem_of_getElem? h1) with hk | hk
    · exact .inl ⟨hk, _, Fr1.ns, bindL_get hnd hpn hx1 hk⟩
    · obtain ⟨c, hc⟩ := hcell n hk
      refine .inr ⟨.inl hk, c, hc, ?_⟩
      have := Cl1.cell n c hc
      rw [bindC_get hnd hpn hx1 hk] at this
      exact this
  · obtain ⟨v, rfl, _⟩ := noOwn i _ h2; cases h3
  · obtain ⟨v, rfl, _⟩ := noOwn i _ h2; cases h3

theorem call_code {name : Str} {params : Arguments} {body : List Stmt} {scope : Scope} {pn nm : List Str} {a : Addr} {o : Obj} {pm cd doc : Value} {f : St → Option (St × Fl)} (F : FnOK name params scope pn nm)
    (ho : C.h₀.get? a = some o) (hd : o.data = .func (Calls.docDef name params body scope pm cd doc)) (hcd : C.h₀.CodeRec cd name) (hD : DS C scope nm lv body f)
    {A : Around} {P : Fz} {s : Shared} {vs : List V} {v : V} {xs : List Value} {R : Result → Shared → Prop} (hA : AOk A (lv + 1)) (hb : ∀ b o, C.h₀.get? b = some o → s.heap.get? b = some o) (hs : ∀ b o, P b = some o → s.heap.get? b = some o)
    (hx : C.VRs P vs xs) (hf : (if vs.length = pn.length then giveF (f (startS nm vs)) else none) = some v) (k : ∀ P' h' tk x, Grow P s.heap P' h' → C.VR P' v x → R (.ok (.ret x)) { s with heap := h', toks := tk }) : codeAny C.M A (.call (.ref a) ⟨xs, []⟩) R s := by
  split at hf
  · rename_i hl
    have hlen : xs.length = pn.length := by rw [← hx.length]; exact hl
    obtain ⟨rest, hpre⟩ := F.pre
    refine call_cells_ret (by have := hA.depth; omega) (hb _ _ ho) hd (C.nolimit.keeps hb) (hcd.keeps hb) (F.bind _ _ _ _ _ hlen) (fun p hp => ?_) (fun h₁ tk Fr1 Cl1 => ?_) F.co F.gen F.kind
    · have : p.1 ∈ pn := (List.of_mem_zip (by simpa using hp)).1
      rcases F.kinds p.1 (by rw [hpre]; exact List.mem_append_left _ this) with hk | hk
      · exact .inl hk
      · exact .inr ⟨hk, PySem.W.cellsFrom_some _ _ _ (.inl hk)⟩
    · have R := start_rep F hb hs hx hlen Fr1 Cl1
      have hA' : AOk (A.deeper (envOfC name scope s.heap.objs.size a cd)) lv := ⟨hA.handled, by have := hA.depth; show A.depth + 1 + lv < _; omega, by have := hA.units; show A.units + 3 + 8 * lv + 120 < _; omega⟩
      cases hq : f (startS nm vs) with
      | none => rw [hq] at hf; cases hf
      | some r =>
        obtain ⟨σ', fl⟩ := r
        rw [hq] at hf
        refine hD _ _ _ _ P _ { s with heap := h₁, toks := tk } _ σ' fl _ hA' rfl R hq fun P' h' tk' ow' w g R' hw => ?_
        cases fl with
        | next => cases hf; cases hw; exact k P' h' tk' _ g.ofB .none
        | brk => cases hf
        | cont => cases hf
        | ret u =>
          cases hf
          obtain ⟨x, rfl, hx'⟩ := hw
          exact k P' h' tk' _ g.ofB hx'
  · cases hf

theorem call_fn {name : Str} {params : Arguments} {body : List Stmt} {scope : Scope} {pn nm : List Str} {a : Addr} {o : Obj} {pm cd doc : Value} {f : St → Option (St × Fl)} (F : FnOK name params scope pn nm)
    (ho : C.h₀.get? a = some o) (hd : o.data = .func (Calls.docDef name params body scope pm cd doc)) (hcd : C.h₀.CodeRec cd name) (hD : DS C scope nm lv body f) :
    CallOk C (lv + 1) (.ref a) (fun vs => if vs.length = pn.length then giveF (f (startS nm vs)) else none) :=
  fun A E P s vs v xs Q hA hb hs hx hf k => wpAny_call (call_code F ho hd hcd hD hA hb hs hx hf fun P' h' tk x g hx' => k P' h' tk x g hx')
end
end Lw

namespace Lw
open PySem PySem.Calls PyProof.Rows Builtin
set_option maxRecDepth 100000

noncomputable def ascii : PySem.Str := PySem.Str.ofString "ascii"
section
variable {b : Array UInt8} {c : UInt8} {cs : List UInt8} {t t2 : Tok}
theorem road_ascii {id : String} : _codecs.decodeRoad id b ascii none [] = (_codecs.runDecoder id _codecs.asciiDecoder none true b 0 [] >>= fun r => mkStr ⟨r.1⟩) := by kernel_rfl
theorem entry_ascii : «bytes.decode» ⟨[.bytes (c :: cs).toArray t, .str ascii t2], []⟩ = (mkStr (PySem.Str.ofString "utf-8") >>= fun _ => mkStr ascii >>= fun e => mkStr (PySem.Str.ofString "bytes.decode") >>= fun d =>
    call (.builtin "_codecs.decode.text") [.bytes (c :: cs).toArray t, e, .none, d] >>= fun v => ret v) := by kernel_rfl
theorem args_decode2 (a b : Value) : argsOk "bytes.decode" ⟨[a, b], []⟩ := by unfold argsOk; kernel_rfl
theorem forIn_steps {n : Nat} {β : Type} (f : Nat → β → Sem (ForInStep β)) (st : Nat → β) (h : ∀ i k, k < n → f i (st k) = pure (.yield (st (k + 1)))) : ∀ (is : List Nat) (k : Nat), k + is.length ≤ n → forIn is (st k) f = pure (st (k + is.length))
  | [], k, _ => rfl
  | i :: r, k, hk => by
    simp only [List.length_cons] at hk
    rw [List.forIn_cons, h i k (by omega)]
    show forIn r (st (k + 1)) f = _
    rw [forIn_steps f st h r (k + 1) (by omega)]
    simp only [List.length_cons]
    congr 2; omega
theorem run_ascii {id : String} {b : List UInt8} (h : ∀ x ∈ b, x.toNat < 128) (hsz : b.length ≤ 1000) : _codecs.runDecoder id _codecs.asciiDecoder none true b.toArray 0 [] = pure ((b.map (·.toNat)).toArray, b.length) := by
  unfold _codecs.runDecoder
  simp only [Std.Legacy.Range.forIn_eq_forIn_range', Std.Legacy.Range.size]
  refine Eq.trans (congrArg (fun m => m >>= fun (s : Nat × Array Nat × _codecs.Faults) => pure (s.2.1, s.1)) (forIn_steps (n := b.length) _ (fun k => ((k, ((b.take k).map (·.toNat)).toArray, ({} : _codecs.Faults)) : Nat × Array Nat × _codecs.Faults)) (fun i k hk => ?_) (List.range' 0 ((b.toArray.size - 0 + 1 - 1) / 1)) 0 (by simp))) ?_
  · have h1 : ¬ (((b.take k).map (·.toNat)).toArray.size > sizeLine) := by
      rw [sizeLine_eq]
      simp only [List.size_toArray, List.length_map, List.length_take]
      omega
    have h2 : ¬ (k ≥ b.toArray.size) := by simp; omega
    have h3 : _codecs.asciiDecoder.find true b.toArray k = .text [(b[k]).toNat] (k + 1) := by
      show (if (b.toArray.getD k 0).toNat < 128 then _codecs.Found.char _ _ else _) = _
      have e : b.toArray.getD k 0 = b[k] := by simp [hk]
      rw [e, if_pos (h _ (List.getElem_mem _))]
      rfl
    simp only [h1, h2, if_false, h3]
    congr 3
    simp only [List.map_take, List.append_toArray]
    congr 1
    rw [List.take_add_one (l := b.map (·.toNat))]
    simp [hk]
  · simp
theorem meets_text {b : List UInt8} {t1 t2 : Tok} {d : PySem.Str} (h : ∀ x ∈ b, x.toNat < 128) (hsz : b.length ≤ 1000) :
    Meets («_codecs.decode.text» ⟨[.bytes b.toArray t, .str ascii t1, .none, .str d t2], []⟩) (fun _ R s => R (.ok (.ret (.str ⟨(b.map (·.toNat)).toArray⟩ s.toks))) { s with toks := s.toks + 1 }) := by
  refine .of_wp fun prog w A R s hS => ?_
  show wpAny _ _ (Bytes.bytesLike _ (.bytes b.toArray t) >>= fun r => _) _ _ s
  refine wpAny_bind (wpAny_of_eq PySem.W.KBd.like_eq ?_)
  refine wpAny_bind (wpAny_of_eq PySem.W.KBd.held_eq ?_)
  show wpAny _ _ (_codecs.decodeRoad _ b.toArray ascii none [] >>= fun v => _) _ _ s
  rw [road_ascii, run_ascii h hsz]
  refine wpAny_bind (wpAny_bind (wpAny_pure ?_))
  exact wpAny_mkStr (wpAny_pure ⟨_, rfl, hS⟩) (by simp only [PySem.Str.length, List.size_toArray, List.length_map]; rw [sizeLine_eq]; omega)
theorem meets_decode (h : ∀ x ∈ (c :: cs), x.toNat < 128) (hsz : (c :: cs).length ≤ 1000) :
    Meets («bytes.decode» ⟨[.bytes (c :: cs).toArray t, .str ascii t2], []⟩) (fun _ R s => ∀ t' k, R (.ok (.ret (.str ⟨((c :: cs).map (·.toNat)).toArray⟩ t'))) { s with toks := k }) := by
  refine .of_wp fun prog w A R s hS => ?_
  rw [entry_ascii]
  refine wpAny_bind (wpAny_mkStr ?_ (by decide))
  refine wpAny_bind (wpAny_mkStr ?_ (by decide))
  refine wpAny_bind (wpAny_mkStr ?_ (by decide))
  exact wpAny_bind (call_function_meets PySem.W.KBd.kind_text PySem.W.KBd.plain_text PySem.W.KBd.entry_text (PySem.W.KBd.args_text _ _ _ _) (meets_text h hsz) (wpAny_pure ⟨_, rfl, hS _ _⟩))
end
theorem call_decode {prog : Program} {w : World} {A : Around} {E : Value → Shared → Prop} {s : Shared} {c : UInt8} {cs : List UInt8} {t t2 : Tok} {Q : Value → Shared → Prop} (h : ∀ x ∈ (c :: cs), x.toNat < 128) (hsz : (c :: cs).length ≤ 1000)
    (k : ∀ t' k, Q (.str ⟨((c :: cs).map (·.toNat)).toArray⟩ t') { s with toks := k }) : wpAny (model prog w) A (call (.builtin "bytes.decode") [.bytes (c :: cs).toArray t, .str ascii t2]) Q E s :=
  call_meets PySem.W.FB.slot_bytes_decode (PySem.W.typeIs_bytes _ _ _) PySem.W.FB.entry_bytes_decode (args_decode2 _ _) (meets_decode h hsz) k
end Lw

namespace Lw
open PySem PySem.Calls PyProof.Rows
set_option maxRecDepth 100000

noncomputable def isStrV : V → Bool
  | .str _ => true
  | _ => false
noncomputable def isBytesV : V → Bool
  | .bytes _ => true
  | _ => false
noncomputable def isListV : V → Bool
  | .list _ => true
  | _ => false

section
variable {C : Cx} {sc : Scope} {nm : List Str} {lv : Nat}

/-- values of a type, at hand -/
noncomputable def OfType (C : Cx) (T : String) (isT : V → Bool) : Prop :=
  ∀ (P : Fz) (s : Shared) (v : V) (x : Value), isT v = true → C.VR P v x → (∀ b o, P b = some o → s.heap.get? b = some o) → s.TypeIs x T ∧ ∀ a, x = .ref a → ∃ ob, s.heap.get? a = some ob ∧ ob.dict = none
theorem ofStr : OfType C "str" isStrV := by
  intro P s v x hv hx hs
  cases hx with
  | str l t => exact ⟨typeIs_str _ _ _, fun a e => nomatch e⟩
  | _ => cases hv
theorem ofBytes : OfType C "bytes" isBytesV := by
  intro P s v x hv hx hs
  cases hx with
  | bytes l t => exact ⟨PySem.W.typeIs_bytes _ _ _, fun a e => nomatch e⟩
  | _ => cases hv
theorem DE_method {o : PySem.Expr} {name : Str} {apos pos : Pos} {args : List PySem.Expr} {T id : String} {isT : V → Bool} {f : St → Option V} {fa : St → Option (List V)} {g : List V → Option V} (hT : OfType C T isT)
    (hbase : ∀ env, attributeBase o name env (eval o env) = eval o env) (hfew : ∀ env, ((backTo pos (starEach args env)).all (fun x => !x.1) && (backToKw pos (keywordEach [] env)).all (fun x => x.1.isSome) && decide (args.length + ([] : List Keyword).length + (if ([] : List Keyword).isEmpty then 0 else 1) < 30)) = true)
    (hline : (apos.endLine == pos.line) = true) (pa : PlainAttrs T) (slot : PySem.Slot T name id) (hty : typeOf (.builtin id) = pure (.type "method_descriptor")) (hne : args ≠ []) (ho : DE C sc nm lv o f) (ha : DEs C sc nm lv args fa) (hg : CallOk C lv (.builtin id) g) :
    DE C sc nm lv (.Call (.Attribute o name apos) args [] pos) (fun σ => (f σ).bind fun ov => (fa σ).bind fun vs => if isT ov = true then g (ov :: vs) else none) := by
  intro A E env P σ s v Q hA hs R hf k
  obtain ⟨ov, hov, hf⟩ := bind_some hf
  obtain ⟨vs, hvs, hf⟩ := bind_some hf
  split at hf
  · rename_i hov2
    refine wp_method (O := fun P1 h1 x => C.VR P1 ov x ∧ ∀ b o, P1 b = some o → h1.get? b = some o) (hbase env) (hfew env) hline pa slot hty hne ha hA hs R hvs (fun Q' kq => ho A E env P σ s ov Q' hA hs R hov fun P1 h1 tk1 x g1 hx => ?_) ?_
    · obtain ⟨q1, q2⟩ := hT P1 { s with heap := h1, toks := tk1 } ov x hov2 hx g1.sub
      exact kq P1 h1 tk1 x g1 q1 q2 ⟨hx, g1.sub⟩
    · rintro P1 h1 x P2 h2 tk2 xs ⟨hx, _⟩ g1 g2 hxs
      exact hg A E P2 { s with heap := h2, toks := tk2 } (ov :: vs) v (x :: xs) Q hA ((R.grow g1).grow g2).base g2.sub (.cons (VR.mono g2.le hx) hxs) hf (k.after (g1.trans g2))
  · cases hf
theorem DE_method0 {o : PySem.Expr} {name : Str} {apos pos : Pos} {T id : String} {isT : V → Bool} {f : St → Option V} {g : List V → Option V} (hT : OfType C T isT) (hbase : ∀ env, attributeBase o name env (eval o env) = eval o env)
    (hline : (apos.endLine == pos.line) = true) (pa : PlainAttrs T) (slot : PySem.Slot T name id) (hty : typeOf (.builtin id) = pure (.type "method_descriptor")) (ho : DE C sc nm lv o f) (hg : CallOk C lv (.builtin id) g) :
    DE C sc nm lv (.Call (.Attribute o name apos) [] [] pos) (fun σ => (f σ).bind fun ov => if isT ov = true then g [ov] else none) := by
  intro A E env P σ s v Q hA hs R hf k
  obtain ⟨ov, hov, hf⟩ := bind_some hf
  split at hf
  · rename_i hov2
    refine wp_method0 (P := P) (O := fun P1 h1 x => C.VR P1 ov x ∧ ∀ b o, P1 b = some o → h1.get? b = some o) (hbase env) hline pa slot hty (fun Q' kq => ho A E env P σ s ov Q' hA hs R hov fun P1 h1 tk1 x g1 hx => ?_) ?_
    · obtain ⟨q1, q2⟩ := hT P1 { s with heap := h1, toks := tk1 } ov x hov2 hx g1.sub
      exact kq P1 h1 tk1 x g1 q1 q2 ⟨hx, g1.sub⟩
    · rintro P1 h1 tk1 x ⟨hx, _⟩ g1
      exact hg A E P1 { s with heap := h1, toks := tk1 } [ov] v [x] Q hA (R.grow g1).base g1.sub (.cons hx .nil) hf (k.after g1)
  · cases hf

noncomputable def lowC (c : Nat) : Nat := if 65 ≤ c ∧ c ≤ 90 then c + 32 else c
noncomputable def lowerV : List V → Option V
  | [.str [c]] => if c < 128 then some (.str [lowC c]) else none
  | _ => none
theorem lower_one : ∀ c : Fin 128, Txt.lower ⟨#[c.val]⟩ = ⟨#[lowC c.val]⟩ := by decide +kernel
theorem lower_ok : CallOk C lv (.builtin "str.lower") lowerV := by
  intro A E P s vs v xs Q hA hb hs hx hf k
  unfold lowerV at hf
  split at hf
  · split at hf
    · rename_i c hc
      cases hf
      obtain ⟨x, rfl, h1⟩ := hx.one
      cases h1 with
      | str _ t =>
      refine SCL.lower (x := ⟨#[c]⟩) (by show 1 ≤ _; decide) fun _ => ?_
      have e := lower_one ⟨c, hc⟩
      rw [e]
      exact k.tok hs (.str [lowC c] _)
    · cases hf
  · cases hf

noncomputable def joinV : List V → Option V
  | [.str [], .list xs] => (strs? xs).bind fun ss => if (ss.map List.length).sum ≤ lim then some (.str ss.flatten) else none
  | _ => none
noncomputable def decodeV : List V → Option V
  | [.bytes (c :: cs), .str [97, 115, 99, 105, 105]] => if ((c :: cs).all fun x => decide (x.toNat < 128)) = true ∧ (c :: cs).length ≤ 1000 then some (.str ((c :: cs).map (·.toNat))) else none
  | _ => none
theorem ascii_eq : (⟨([97, 115, 99, 105, 105] : List Nat).toArray⟩ : Str) = ascii := by decide +kernel
theorem decode_ok : CallOk C lv (.builtin "bytes.decode") decodeV := by
  intro A E P s vs v xs Q hA hb hs hx hf k
  unfold decodeV at hf
  split at hf
  · split at hf
    · rename_i c cs hc
      cases hf
      obtain ⟨x, y, rfl, h1, h2⟩ := hx.two
      cases h1; cases h2
      rw [ascii_eq]
      refine call_decode (fun x hx => ?_) hc.2 fun t' kk => k.tok hs (.str _ _)
      have := List.all_eq_true.mp hc.1 x hx
      simpa using this
    · cases hf
  · cases hf

/-- a slice of bytes -/
noncomputable def cutBV : V → Option Int → Option Int → Option V
  | .bytes s, lo, hi => if s.length ≤ lim then some (.bytes (cutL s lo hi)) else none
  | _, _, _ => none
theorem cutBV_inv {x v : V} {lo hi : Option Int} (h : cutBV x lo hi = some v) : ∃ l, x = .bytes l ∧ l.length ≤ lim ∧ v = .bytes (cutL l lo hi) := by
  unfold cutBV at h
  split at h
  · split at h
    · cases h; exact ⟨_, rfl, by assumption, rfl⟩
    · cases h
  · cases h
theorem DE_sliceB {e : PySem.Expr} {a b : Option PySem.Expr} {p pos : Pos} {f : St → Option V} {f1 f2 : St → Option (Option Int)} (he : DE C sc nm lv e f) (ha : DP C sc nm lv a f1) (hb : DP C sc nm lv b f2) :
    DE C sc nm lv (.Subscript e (.Slice a b none p) pos) (fun σ => (f σ).bind fun x => (f1 σ).bind fun lo => (f2 σ).bind fun hi => cutBV x lo hi) := by
  intro A E env P σ s v Q hA hs R hf k
  obtain ⟨u, hu, hf⟩ := bind_some hf
  obtain ⟨lo, e1, hf⟩ := bind_some hf
  obtain ⟨hi, e2, hf⟩ := bind_some hf
  obtain ⟨l, rfl, hl, rfl⟩ := cutBV_inv hf
  refine Subscript_ (he A E env P σ s _ _ hA hs R hu fun P1 h1 tk1 x g1 hx => ?_)
  refine wp_slice ha hb DP_none hA hs (R.grow g1) e1 e2 rfl fun P2 h2 tk2 sl x y z g2 hsl q1 q2 q3 p1 p2 p3 => ?_
  cases hx with
  | bytes _ t1 =>
  obtain ⟨ops, hops⟩ := sub_ops (.Slice a b none p) (.bytes l.toArray t1) (.ref sl)
  obtain ⟨q3, rfl, hq3⟩ := q3
  have h3 : q3 = none := by cases q3 <;> simp_all
  subst h3
  have hpk : PySem.W.KBy.picked l.toArray lo hi = (cutL l lo hi).toArray := by
    rw [PySem.W.KBc.picked_eq]
    unfold cutL
    simp
  have kk := (k.after (g1.trans g2) (tk1 := tk2))
  refine tail_any (T := "bytes") (PySem.W.typeIs_bytes _ _ _) PySem.W.FB.slot_bytes_getitem.lookup (getItem_meets (PySem.W.typeIs_bytes _ _ _) (by decide +kernel) PySem.W.FB.slot_bytes_getitem PySem.W.FB.entry_bytes_getitem (PySem.W.FB.args_bytes_getitem_2 _ _) (PySem.W.KBc.meets_slice2 _ t1 sl p1 p2) ⟨hsl, ?_, fun t' q => ?_⟩) hops
  · rw [hpk]
    have := cutL_le l lo hi
    unfold lim at hl
    rw [sizeLine_eq]; simp only [List.size_toArray]; omega
  · rw [hpk]
    exact kk.tok (s := { s with heap := h2, toks := tk2 }) g2.sub (.bytes _ _)
end
end Lw

namespace Lw
open PySem PySem.Calls PyProof.Rows
set_option maxRecDepth 100000

theorem AOk.down {A : Around} {lv lv' : Nat} (h : lv ≤ lv') (hA : AOk A lv') : AOk A lv := ⟨hA.handled, by have := hA.depth; omega, by have := hA.units; omega⟩
theorem CallOk.up {C : Cx} {lv lv' : Nat} {fv : Value} {g : List V → Option V} (h : lv ≤ lv') (H : CallOk C lv fv g) : CallOk C lv' fv g :=
  fun A E P s vs v xs Q hA => H A E P s vs v xs Q (hA.down h)

section
variable {C : Cx} {sc : Scope} {nm : List Str} {lv : Nat}

theorem DE_globE {n : Str} {pos : Pos} {i : Int} (hg : ∃ t, C.glob n (.int i t)) (hk : sc.names.lookup n = some .globalImplicit) (hd : (n == ("__debug__" : Str)) = false) : DE C sc nm lv (.Name n pos) (fun _ => some (.int i)) := by
  obtain ⟨t, h⟩ := hg
  exact DE_glob h hk hd

theorem swaps_eq {elt : PySem.Expr} {gens : List Comprehension} {scope : Scope} {pos p : Pos} {t : Str} {line : Nat} (b : Bool) (hk : sc.kind = .function)
    (hb : (sc.names.lookup t == some .local && p.line == pos.line && !(scope.names.any fun (n, k) => n == t && (k == .local || k == .cell))) = b) :
    ∀ env : Env, env.scope = sc → swapsWith (.ListComp elt gens scope pos) (some (.Name t p)) line env = pure b := by
  intro env h
  subst h
  subst hb
  have b1 : env.blockKind = .function := by unfold Env.blockKind; rw [hk]; rfl
  unfold swapsWith
  simp only [b1]
  rfl

theorem stores_eq {n n' : Str} {p1 p2 p3 p4 tp vp : Pos} {kk kk' : Nat} (h1 : sc.kind = .function) (h2 : sc.names.lookup n = some .local) (h3 : sc.names.lookup n' = some .local) (h4 : (p1.line == p1.line && p2.line == p1.line) = true) (h5 : ([n, n'].eraseDups.length != 2) = false) (h7 : (n' == ("__debug__" : Str)) = false) :
    ∀ env : Env, env.scope = sc → swappedStores [.Tuple [.Name n p1, .Name n' p2] kk tp] (.Tuple [.Name n' p3, .Name n p4] kk' vp) env = pure (some [n, n']) := by
  intro env h
  subst h
  unfold swappedStores
  have k1 : env.kindOf n = some .local := h2
  have k2 : env.kindOf n' = some .local := h3
  have b1 : env.blockKind = .function := by unfold Env.blockKind; rw [h1]; rfl
  simp only [Bool.and_eq_true] at h4
  simp [b1]
  have e1 : p1.line = (PySem.Expr.Name n p1).pos.line := rfl
  have hl : p2.line = (PySem.Expr.Name n p1).pos.line := e1 ▸ (by simpa using h4.2)
  generalize hL : List.filterMap _ [PySem.Expr.Name n p1, PySem.Expr.Name n' p2] = L
  have key : L = [n, n'] := by
    rw [← hL]
    simp [k1, k2, hl, ← e1]
  have f1 : foldedForSure 8 (PySem.Expr.Name n' p3) = false := rfl
  have f2 : constantsAlone 8 (PySem.Expr.Name n' p3) = false := h7
  have h6 : [n, n'].eraseDups.length = 2 := by simpa using h5
  rw [key, f1, f2, h6]
  simp
end
end Lw

namespace Lw
open PySem PySem.Calls PyProof.Rows
set_option maxRecDepth 100000

structure Globs (C : Cx) : Prop where
  len : C.glob (Str.ofString "len") (.builtin "len")
  chr : C.glob (Str.ofString "chr") (.builtin "chr")
  ord : C.glob (Str.ofString "ord") (.builtin "ord")
  abs : C.glob (Str.ofString "abs") (.builtin "abs")
  min : C.glob (Str.ofString "min") (.builtin "min")
  max : C.glob (Str.ofString "max") (.builtin "max")
  sum : C.glob (Str.ofString "sum") (.builtin "sum")
  sorted : C.glob (Str.ofString "sorted") (.builtin "sorted")
  divmod : C.glob (Str.ofString "divmod") (.builtin "divmod")
  int : C.glob (Str.ofString "int") (.type "int")
  range : C.glob (Str.ofString "range") (.type "range")
  list : C.glob (Str.ofString "list") (.type "list")
  set : C.glob (Str.ofString "set") (.type "set")

/-- a function of the text, and what it gives -/
noncomputable def Fun (C : Cx) (lv : Nat) (n : Str) (g : List V → Option V) : Prop := ∃ a, C.glob n (.ref a) ∧ Callee C (.ref a) ∧ CallOk C lv (.ref a) g
theorem Fun.up {C : Cx} {lv lv' : Nat} {n : Str} {g : List V → Option V} (h : lv ≤ lv') (H : Fun C lv n g) : Fun C lv' n g := by
  obtain ⟨a, h1, h2, h3⟩ := H
  exact ⟨a, h1, h2, h3.up h⟩

noncomputable def bodyN (p : Program) (k : Nat) : List Stmt := match (recsOf p)[k]? with
  | some d => d.body
  | none => []
noncomputable def scopeN (p : Program) (k : Nat) : Scope := match (recsOf p)[k]? with
  | some d => d.scope
  | none => default
noncomputable def specOf (pn nm : List Str) (f : St → Option (St × Fl)) (vs : List V) : Option V := if vs.length = pn.length then giveF (f (startS nm vs)) else none

section
variable {C : Cx} {sc : Scope} {nm : List Str} {lv : Nat}

theorem DE_user {n : Str} {np pos : Pos} {args : List PySem.Expr} {f : St → Option (List V)} {g : List V → Option V} (H : Fun C lv n g) (hk : sc.names.lookup n = some .globalImplicit) (hd : (n == ("__debug__" : Str)) = false)
    (hne : args ≠ []) (ha : DEs C sc nm lv args f) : DE C sc nm lv (.Call (.Name n np) args [] pos) (fun σ => (f σ).bind g) := by
  obtain ⟨a, h1, h2, h3⟩ := H
  exact DE_call h1 hk hd h2 hne ha h3

theorem aug_add : ∀ (A : Around) (E : Value → Shared → Prop) (s : Shared) (a b : Int) (t u : Tok) (v : V) (Q : Value → Shared → Prop), augV .Add (.int a) (.int b) = some v → (∀ tk x, (∀ P, C.VR P v x) → Q x { s with toks := tk }) → wpAny C.M A (inplaceOp .Add (.int a t) (.int b u)) Q E s := by
  intro A E s a b t u v Q hv k
  cases hv
  exact P.iadd_int (k _ _ fun P => .int _ _)
theorem aug_sub : ∀ (A : Around) (E : Value → Shared → Prop) (s : Shared) (a b : Int) (t u : Tok) (v : V) (Q : Value → Shared → Prop), augV .Sub (.int a) (.int b) = some v → (∀ tk x, (∀ P, C.VR P v x) → Q x { s with toks := tk }) → wpAny C.M A (inplaceOp .Sub (.int a t) (.int b u)) Q E s := by
  intro A E s a b t u v Q hv k
  cases hv
  exact P.isub_int (k _ _ fun P => .int _ _)

/-- list(range(..)), new -/
theorem DF_listRange {np rp pos rpos : Pos} {args : List PySem.Expr} {f : St → Option (List V)} (hl : C.glob (Str.ofString "list") (.type "list")) (hr : C.glob (Str.ofString "range") (.type "range")) (hkl : sc.names.lookup (Str.ofString "list") = some .globalImplicit) (hkr : sc.names.lookup (Str.ofString "range") = some .globalImplicit) (hne : args ≠ [])
    (ha : DEs C sc nm lv args f) : DF C sc nm lv (.Call (.Name (Str.ofString "list") np) [.Call (.Name (Str.ofString "range") rp) args [] rpos] [] pos) (fun σ => (f σ).bind fun vs => (rangeV vs).bind fun us => if us.length ≤ lim then some us else none) := by
  intro A E env P σ s us Q hA hs R hf k
  obtain ⟨vs, hvs, hf⟩ := bind_some hf
  obtain ⟨us', hus, hf⟩ := bind_some hf
  split at hf
  · rename_i hlen
    cases hf
    refine wpAny_Call_NameR (wp_glob hl hs R hkl (by decide +kernel) ?_)
    show wpAny C.M A (callWith pos (.type "list") [] [(false, eval (.Call (.Name (Str.ofString "range") rp) args [] rpos) env)] []) Q E s
    refine PySem.callWith_type rfl (evalArgs_plain (spliced_cons (wp_callG hr hkr (by decide +kernel) trivial hne ha hA hs R hvs fun P1 h1 tk1 xs g1 hx => ?_)))
    have l0 : (0 : Int).natAbs ≤ lim := by decide
    have l1 : (1 : Int).natAbs ≤ lim := by decide
    have fin : ∀ (a b c : Int) (t u v : Tok) (tk2 : Nat), a.natAbs ≤ lim → b.natAbs ≤ lim → 0 < c → c.natAbs ≤ lim → us = (rangeI a b c).map .int →
        wpAny C.M A (spliced []) (fun vs s' => wpAny C.M A (call (.type "list") ([] ++ (Value.ref h1.objs.size :: vs))) Q E s') E { s with heap := h1.push { cls := .type "range", data := .fields #[.int a t, .int b u, .int c v] }, toks := tk2 } := by
      intro a b c t u v tk2 ha hb hc0 hc e
      refine spliced_nil ?_
      obtain ⟨g2, p2, s2⟩ := grow_push g1 { cls := .type "range", data := .fields #[.int a t, .int b u, .int c v] }
      have hn : Builtin.Range.rangeSize a b c = (rangeN a b c : Int) := by have := (range_le ha hb hc0).1; unfold rangeN; omega
      have hln : rangeN a b c = us.length := by rw [e]; simp [rangeI]
      unfold lim at hlen
      refine call_list_range (s := { s with heap := h1.push { cls := .type "range", data := .fields #[.int a t, .int b u, .int c v] }, toks := tk2 }) (a := a) (b := b) (c := c) (t := t) (u := u) (v := v) (n := rangeN a b c) hA.handled (Heap.get?_push_size _ rfl) (range_small ha hb hc0 hc) hn (by omega) fun h' tk' acc c' hk ho hacc => ?_
      have g3 : Grow P s.heap P1 h' := g2.trans (Grow.of_keep g2.sub hk)
      have n1 : (h1.push { cls := .type "range", data := .fields #[.int a t, .int b u, .int c v] }).get? (h1.push { cls := .type "range", data := .fields #[.int a t, .int b u, .int c v] }).objs.size = none := fresh_none _
      refine k P1 h' tk' _ acc.toList c' g3 ?_ ?_ (by simpa using ho) ?_
      · cases hq : P1 (h1.push { cls := .type "range", data := .fields #[.int a t, .int b u, .int c v] }).objs.size with
        | none => rfl
        | some o => rw [g2.sub _ _ hq] at n1; cases n1
      · cases hq : s.heap.get? (h1.push { cls := .type "range", data := .fields #[.int a t, .int b u, .int c v] }).objs.size with
        | none => rfl
        | some o => rw [g2.keep _ _ hq] at n1; cases n1
      · have hI := intsAre_of (P := fun (i : Nat) (v : Value) => ∃ t, v = .int (a + i * c) t) (val := fun i => a + i * c) (fun i v h => h) acc.toList 0 fun j v e => by
          rw [Nat.zero_add]; exact hacc.2 j v (by rw [← Array.getElem?_toList]; exact e)
        have hl2 : acc.toList.length = rangeN a b c := by rw [Array.length_toList]; exact hacc.1
        rw [hl2] at hI
        rw [e]
        exact VRs.of_ints (by simpa [rangeI] using hI)
    unfold rangeV at hus
    split at hus
    · split at hus
      · rename_i hl
        cases hus
        obtain ⟨x, rfl, h3⟩ := hx.one
        cases h3
        exact call_range_1 (fin _ _ _ _ _ _ _ l0 hl (by decide) l1 rfl)
      · cases hus
    · split at hus
      · rename_i hl
        cases hus
        obtain ⟨x, y, rfl, h3, h4⟩ := hx.two
        cases h3; cases h4
        exact call_range_2 (fin _ _ _ _ _ _ _ hl.1 hl.2 (by decide) l1 rfl)
      · cases hus
    · split at hus
      · rename_i a b c hl
        cases hus
        cases hx with
        | cons h2 h3 =>
          obtain ⟨y, z, rfl, h4, h5⟩ := h3.two
          cases h2; cases h4; cases h5
          exact call_range_3 (by omega) (fin _ _ _ _ _ _ _ hl.1 hl.2.1 hl.2.2.2 hl.2.2.1 rfl) (.inl (PyProof.noPylong_small (by unfold lim at hl; omega)))
      · cases hus
    · cases hus
  · cases hf
end
end Lw

namespace Lw
open PySem PySem.Calls PyProof.Rows
set_option maxRecDepth 100000

section
variable {C : Cx} {lv : Nat}

theorem Fun.of {name : Str} {params : Arguments} {body : List Stmt} {scope : Scope} {mg : Str → Option Value} {h : Heap} (pn nm : List Str) (f : St → Option (St × Fl)) (em : C.mg = mg) (eh : C.h₀ = h)
    (t : ∃ a o pm code doc, mg name = some (.ref a) ∧ h.get? a = some o ∧ o.data = .func (Calls.docDef name params body scope pm code doc) ∧ h.CodeRec code name) (F : FnOK name params scope pn nm) (hD : DS C scope nm lv body f) : Fun C (lv + 1) name (specOf pn nm f) := by
  obtain ⟨a, o, pm, code, doc, h1, h2, h3, h4⟩ := t
  subst em eh
  exact ⟨a, .inl h1, ⟨o, _, h2, h3⟩, call_fn F h2 h3 h4 hD⟩

theorem glob_builtin {x : Str} {v : Value} (h1 : C.mg x = none) (h2 : C.mb x = some v) : C.glob x v := .inr ⟨h1, h2⟩

theorem const_int {x : Str} {i : Int} (h : ∃ v, C.mg x = some v ∧ ∀ h' : Heap, Reads h' v (.int i) []) : ∃ t, C.glob x (.int i t) := by
  obtain ⟨v, h1, h2⟩ := h
  have := h2 C.h₀
  cases this with
  | int _ t => exact ⟨t, .inl h1⟩

theorem callerA_ok {lv : Nat} (h : lv ≤ 12) : AOk callerA lv := by
  refine ⟨rfl, ?_, ?_⟩
  · have : callerA.depth + 12 < recursionLimit := by decide +kernel
    omega
  · have : callerA.units + 8 * 12 + 120 < cLine := by decide +kernel
    omega
end

noncomputable def builtinNames : List Str := ["len", "chr", "ord", "abs", "min", "max", "sum", "sorted", "divmod", "int", "range", "list", "set"].map Str.ofString
theorem all_not {L N : List Str} {x : Str} (h : ∀ y ∈ N, y ∉ L) (hx : x ∈ N) : x ∉ L := h x hx
theorem all_ne {N : List Str} {x y : Str} (h : ∀ z ∈ N, z ≠ y) (hx : x ∈ N) : x ≠ y := h x hx

theorem well_list {P : PySem.Params} {h : Heap} {l : Addr} {vs : List Value} {ns : List Int} (hw : PySem.W.Well P h (.ref l) (PySem.W.ofPy (.list (ns.map .int)))) (hl : h.IsList l vs.toArray) : h.get? l = some (lobj vs 0) := by
  have e : PySem.W.ofPy (.list (ns.map .int)) = .list (PySem.W.ofPys (ns.map .int)) := rfl
  rw [e] at hw
  cases hw with
  | @list _ vs' _ h1 h2 =>
    obtain ⟨o, ho, _, _, hd⟩ := hl
    rw [h1] at ho; cases ho
    simp only [Data.seq.injEq] at hd
    have e2 : vs' = vs := by simpa using hd.1
    rw [← e2]
    exact h1
end Lw

namespace Lw
open PySem PySem.Calls PyProof.Rows
set_option maxRecDepth 10000

/-! # the table of a small set of ints -/
noncomputable def Rise (xs : Array Nat) : Prop := xs.toList.Pairwise (· < ·)

theorem Rise.lt {xs : Array Nat} (h : Rise xs) {i k : Nat} (hik : i < k) (hk : k < xs.size) : xs.getD i 0 < xs.getD k 0 := by
  have hi : i < xs.size := by omega
  have := List.pairwise_iff_getElem.mp h i k (by simpa using hi) (by simpa using hk) hik
  simp only [Array.getD, hi, hk, dif_pos]
  simpa using this

theorem below_go {xs : Array Nat} (h : Rise xs) (j : Nat) : ∀ (fuel lo hi : Nat), hi - lo ≤ fuel → lo ≤ hi → hi ≤ xs.size → (∀ i < lo, xs.getD i 0 < j) → (∀ i, hi ≤ i → i < xs.size → j ≤ xs.getD i 0) →
    SetTable.below.go xs j fuel lo hi ≤ xs.size ∧ (∀ i < SetTable.below.go xs j fuel lo hi, xs.getD i 0 < j) ∧ (∀ i, SetTable.below.go xs j fuel lo hi ≤ i → i < xs.size → j ≤ xs.getD i 0)
  | 0, lo, hi, h1, h2, h3, h4, h5 => by
    have : lo = hi := by omega
    subst this
    exact ⟨h3, h4, h5⟩
  | fuel + 1, lo, hi, h1, h2, h3, h4, h5 => by
    unfold SetTable.below.go
    by_cases hlt : lo < hi
    · simp only [hlt, if_true]
      have hm : (lo + hi) / 2 < xs.size := by omega
      have e : xs.getD ((lo + hi) / 2) j = xs.getD ((lo + hi) / 2) 0 := by simp only [Array.getD, hm, dif_pos]
      rw [e]
      by_cases hc : xs.getD ((lo + hi) / 2) 0 < j
      · simp only [hc, if_true]
        refine below_go h j fuel _ _ (by omega) (by omega) h3 (fun i hi' => ?_) h5
        rcases Nat.lt_or_ge i ((lo + hi) / 2) with q | q
        · exact Nat.lt_trans (h.lt q hm) hc
        · have : i = (lo + hi) / 2 := by omega
          rw [this]; exact hc
      · simp only [hc, if_false]
        refine below_go h j fuel _ _ (by omega) (by omega) (by omega) h4 (fun i hi' hs => ?_)
        rcases Nat.lt_or_ge ((lo + hi) / 2) i with q | q
        · have := h.lt q hs; omega
        · have : i = (lo + hi) / 2 := by omega
          rw [this]; omega
    · simp only [hlt, if_false]
      have : lo = hi := by omega
      subst this
      exact ⟨h3, h4, h5⟩

theorem below_spec {xs : Array Nat} (h : Rise xs) (j : Nat) :
    SetTable.below xs j ≤ xs.size ∧ (∀ i < SetTable.below xs j, xs.getD i 0 < j) ∧ (∀ i, SetTable.below xs j ≤ i → i < xs.size → j ≤ xs.getD i 0) :=
  below_go h j xs.size 0 xs.size (by omega) (by omega) (by omega) (fun i hi => by omega) (fun i h1 h2 => by omega)

theorem getD_mem {xs : Array Nat} {i : Nat} (h : i < xs.size) : xs.getD i 0 ∈ xs.toList := by
  simp only [Array.getD, h, dif_pos]; simp

theorem mem_below {xs : Array Nat} (h : Rise xs) {j : Nat} (hj : j ∈ xs.toList) : xs[SetTable.below xs j]? = some j := by
  obtain ⟨i, hi, e⟩ := List.getElem_of_mem hj
  have hi' : i < xs.size := by simpa using hi
  have e' : xs.getD i 0 = j := by simp only [Array.getD, hi', dif_pos]; simpa using e
  obtain ⟨h1, h2, h3⟩ := below_spec h j
  have hb : SetTable.below xs j = i := by
    rcases Nat.lt_trichotomy i (SetTable.below xs j) with q | q | q
    · have := h2 i q; omega
    · exact q.symm
    · have a := h3 _ (Nat.le_refl _) (by omega)
      have b := h.lt q hi'
      omega
  rw [hb, Array.getElem?_eq_getElem hi']
  simp only [Array.getD, hi', dif_pos] at e'
  simpa using e'

theorem insertAt_toList {α : Type} (xs : Array α) (p : Nat) (x : α) (hp : p ≤ xs.size) : (SetTable.insertAt xs p x).toList = xs.toList.take p ++ x :: xs.toList.drop p := by
  unfold SetTable.insertAt
  simp
  rw [List.take_of_length_le (by simp)]

theorem rise_insert {xs : Array Nat} (h : Rise xs) {j : Nat} (hj : j ∉ xs.toList) : Rise (SetTable.insertAt xs (SetTable.below xs j) j) := by
  obtain ⟨h1, h2, h3⟩ := below_spec h j
  unfold Rise
  rw [insertAt_toList _ _ _ h1]
  have ht : ∀ a ∈ xs.toList.take (SetTable.below xs j), a < j := fun a ha => by
    obtain ⟨i, hi, e⟩ := List.getElem_of_mem ha
    simp only [List.length_take, Array.length_toList] at hi
    have := h2 i (by omega)
    have hi' : i < xs.size := by omega
    simp only [Array.getD, hi', dif_pos] at this
    simp at e
    rw [← e]; simpa using this
  have hd : ∀ b ∈ xs.toList.drop (SetTable.below xs j), j < b := fun b hb => by
    obtain ⟨i, hi, e⟩ := List.getElem_of_mem hb
    simp only [List.length_drop, Array.length_toList] at hi
    have hi' : SetTable.below xs j + i < xs.size := by omega
    have := h3 (SetTable.below xs j + i) (by omega) hi'
    simp only [Array.getD, hi', dif_pos] at this
    simp at e
    have q : j ≤ b := by rw [← e]; simpa using this
    have q2 : j ≠ b := by rintro rfl; exact hj (List.mem_of_mem_drop hb)
    omega
  refine List.pairwise_append.mpr ⟨h.sublist (List.take_sublist _ _), List.pairwise_cons.mpr ⟨hd, h.sublist (List.drop_sublist _ _)⟩, fun a ha b hb => ?_⟩
  have := ht a ha
  rcases List.mem_cons.mp hb with rfl | hb
  · exact this
  · have := hd b hb; omega

/-- a table of at most four small ints -/
structure Small (b : Bool) (t : SetTable) : Prop where
  led : t.led = b
  plain : t.plain = true
  rise : Rise t.place
  mask : t.mask = 7
  dum : t.dummies = #[]
  le : ∀ j ∈ t.place.toList, j < 8

theorem Small.slot {b : Bool} {t : SetTable} (H : Small b t) (j : Nat) : (t.slot j = .empty ∧ j ∉ t.place.toList) ∨ (∃ i, t.slot j = .live i ∧ j ∈ t.place.toList) := by
  unfold SetTable.slot
  have hd : SetTable.has t.dummies j = false := by rw [H.dum]; unfold SetTable.has; simp
  rw [hd]
  by_cases hj : j ∈ t.place.toList
  · right
    have := mem_below H.rise hj
    exact ⟨SetTable.below t.place j, by simp [this], hj⟩
  · left
    refine ⟨?_, hj⟩
    have : (t.place[SetTable.below t.place j]? == some j) = false := by
      refine beq_eq_false_iff_ne.mpr fun e => hj ?_
      obtain ⟨h1, h2⟩ := Array.getElem?_eq_some_iff.mp e
      rw [← h2]; simp
    simp [this]

/-- the chain of the slots -/
noncomputable def chain : Nat → Nat → Nat
  | 0, i => i
  | k + 1, i => chain k ((i * 5 + 1) % 8)
theorem chain_all : ∀ i < 8, ∀ j < 8, ∃ k < 8, chain k i = j := by decide +kernel

theorem probe_go {b : Bool} {t : SetTable} (H : Small b t) (h : Int) : ∀ (k f i pert : Nat), i < 8 → pert < 32 → k < f → chain k i ∉ t.place.toList →
    ∃ j, j < 8 ∧ SetTable.probe.go t (fun _ => h + 1) h f ⟨i, 0, i, pert, none⟩ = some (.empty j none) ∧ j ∉ t.place.toList
  | k, 0, i, pert, _, _, hk, _ => by omega
  | k, f + 1, i, pert, hi, hp, hk, hc => by
    unfold SetTable.probe.go
    rcases H.slot i with ⟨e, hn⟩ | ⟨l, e, hm⟩
    · exact ⟨i, hi, by simp [e], hn⟩
    · cases k with
      | zero => exact absurd hm hc
      | succ k =>
        have hne : ((h + 1 : Int) == h) = false := beq_eq_false_iff_ne.mpr (by omega)
        have hadv : t.advance ⟨i, 0, i, pert, none⟩ = ⟨(i * 5 + 1) % 8, 0, (i * 5 + 1) % 8, 0, none⟩ := by
          unfold SetTable.advance SetTable.leap SetTable.runEnd
          rw [H.mask]
          have e0 : pert / 32 = 0 := by omega
          have e1 : ¬ ((i * 5 + 1) % 8 + 9 ≤ 7) := by omega
          simp [e0, e1]
        simp only [e, hne, hadv, Bool.false_eq_true, if_false]
        exact probe_go H h k f _ 0 (by omega) (by omega) (by omega) hc

theorem pigeon {xs : List Nat} (h : xs.length < 8) : ∃ j < 8, j ∉ xs := by
  refine Classical.byContradiction fun hn => ?_
  have hall : ∀ j ∈ List.range 8, j ∈ xs := fun j hj => Classical.byContradiction fun q => hn ⟨j, by simpa using hj, q⟩
  have := List.Nodup.length_le_of_subset (List.nodup_range (n := 8)) hall
  simp at this; omega

theorem free_small {b : Bool} {t : SetTable} (H : Small b t) (hs : t.place.size < 8) {h : Nat} (hh : h < 32) : ∃ j, j < 8 ∧ t.freeSlot (h : Int) = some (j, false) ∧ j ∉ t.place.toList := by
  have hbits : SetTable.bits (h : Int) = h := by unfold SetTable.bits; omega
  obtain ⟨j0, hj0, hn⟩ := pigeon (xs := t.place.toList) (by simpa using hs)
  obtain ⟨k, hk, e⟩ := chain_all (h % 8) (by omega) j0 hj0
  obtain ⟨j, q1, q2, q3⟩ := probe_go H (h : Int) k 220 (h % 8) h (by omega) hh (by omega) (by rw [e]; exact hn)
  refine ⟨j, q1, ?_, q3⟩
  have ep : t.probeStart (h : Int) = ⟨h % 8, 0, h % 8, h, none⟩ := by
    unfold SetTable.probeStart SetTable.runEnd
    rw [hbits, H.mask]
    have e1 : ¬ (h % 8 + 9 ≤ 7) := by omega
    simp [e1]
  have e2 : 10 * SetTable.turns t.mask = 220 := by rw [H.mask]; rfl
  unfold SetTable.freeSlot SetTable.probe
  rw [ep, e2, q2]
  rfl

theorem layNew_small {b : Bool} {t : SetTable} (H : Small b t) {es : Array (Int × Value)} (hs : t.place.size = es.size) (h4 : es.size ≤ 4) {h : Nat} (hh : h < 32) (x : Value) :
    ∃ p t', p ≤ es.size ∧ layNew t es (h : Int) x = (SetTable.insertAt es p (h, x), t', false, false) ∧ Small b t' ∧ t'.place.size = es.size + 1 := by
  obtain ⟨j, hj, e, hn⟩ := free_small H (by omega) hh
  obtain ⟨h1, _, _⟩ := below_spec H.rise j
  have hd : SetTable.has t.dummies j = false := by rw [H.dum]; unfold SetTable.has; simp
  let t' : SetTable := { t with place := SetTable.insertAt t.place (SetTable.below t.place j) j }
  have hsz : t'.place.size = es.size + 1 := by
    show (SetTable.insertAt t.place (SetTable.below t.place j) j).size = _
    rw [← Array.length_toList, insertAt_toList _ _ _ h1]
    simp; omega
  have hsz2 : (SetTable.insertAt es (SetTable.below t.place j) ((h : Int), x)).size = es.size + 1 := by
    rw [← Array.length_toList, insertAt_toList _ _ _ (by omega)]
    simp; omega
  have hput : t.put j = (t', SetTable.below t.place j) := by
    unfold SetTable.put
    simp [hd, t']
  have hf : t'.fits (es.size + 1) = true := by
    unfold SetTable.fits SetTable.fill
    rw [hsz]
    have : t'.dummies = #[] := H.dum
    rw [this, show t'.mask = 7 from H.mask]
    simp; omega
  refine ⟨SetTable.below t.place j, t', by omega, ?_, ⟨H.led, H.plain, rise_insert H.rise hn, H.mask, H.dum, fun i hi => ?_⟩, hsz⟩
  · unfold layNew
    rw [e]
    simp only [hput]
    rw [hsz2]
    unfold SetTable.orStandIn
    simp [hf]
  · have hi' : i ∈ t.place.toList.take (SetTable.below t.place j) ++ j :: t.place.toList.drop (SetTable.below t.place j) := by
      rw [← insertAt_toList _ _ _ h1]; exact hi
    rcases List.mem_append.mp hi' with q | q
    · exact H.le i (List.mem_of_mem_take q)
    · rcases List.mem_cons.mp q with rfl | q
      · exact hj
      · exact H.le i (List.mem_of_mem_drop q)
end Lw

namespace Lw
open PySem PySem.Calls PyProof.Rows
set_option maxRecDepth 10000

theorem fm_congr {α β : Type} {f g : α → Option β} {l : List α} (h : ∀ a ∈ l, f a = g a) : l.filterMap f = l.filterMap g := by
  induction l with
  | nil => rfl
  | cons a l ih => rw [List.filterMap_cons, List.filterMap_cons, h a (by simp), ih fun b hb => h b (by simp [hb])]

/-- who owns a slot of a table newly laid -/
noncomputable def ownF : List Nat → Nat → (Nat → Option Nat) → (Nat → Option Nat)
  | [], _, F => F
  | h :: r, k, F => ownF r (k + 1) fun j => if j = h then some k else F j

theorem free_at {F : Nat → Option Nat} {h : Nat} (hh : h < 32) (hF : F h = none) :
    SetTable.layClean.free 31 ((List.range 32).map F).toArray 46 h h = some h := by
  unfold SetTable.layClean.free
  have hm : SetTable.runEnd 31 h + 1 - h = (SetTable.runEnd 31 h - h) + 1 := by unfold SetTable.runEnd; split <;> omega
  rw [hm, List.range_succ_eq_map (n := SetTable.runEnd 31 h - h), List.find?_cons]
  have : (Array.getD ((List.range 32).map F).toArray (h + 0) (some 0)).isNone = true := by
    simp [Array.getD, hh, hF]
  simp only [this]
  rfl

theorem clean_go : ∀ (hs : List Nat) (k : Nat) (F : Nat → Option Nat), (∀ h ∈ hs, h < 32 ∧ F h = none) → hs.Nodup →
    (hs.map Int.ofNat).foldl (fun (acc : Option (Array (Option Nat) × Nat)) h => acc.bind fun p => (SetTable.layClean.free 31 p.1 (SetTable.turns 31) (SetTable.bits h % (31 + 1)) (SetTable.bits h)).bind fun j => some (p.1.setIfInBounds j (some p.2), p.2 + 1)) (some (((List.range 32).map F).toArray, k))
      = some (((List.range 32).map (ownF hs k F)).toArray, k + hs.length)
  | [], k, F, _, _ => rfl
  | h :: r, k, F, hF, hn => by
    obtain ⟨h1, h2⟩ := hF h (by simp)
    have hb : SetTable.bits (Int.ofNat h) = h := by unfold SetTable.bits; simp only [Int.ofNat_eq_natCast]; omega
    have hb2 : h % (31 + 1) = h := by omega
    simp only [List.map_cons, List.foldl_cons, Option.bind_some, hb, hb2]
    have e0 : SetTable.turns 31 = 46 := rfl
    rw [e0, free_at h1 h2]
    simp only [Option.bind_some]
    have e : (Array.setIfInBounds ((List.range 32).map F).toArray h (some k)) = ((List.range 32).map fun j => if j = h then some k else F j).toArray := by
      apply Array.ext'
      simp only [Array.toList_setIfInBounds]
      refine List.ext_getElem? fun i => ?_
      rw [List.getElem?_set]
      by_cases hi : h = i
      · subst hi
        simp [h1]
      · have hi' : ¬ i = h := fun q => hi q.symm
        by_cases h32 : i < 32
        · simp [hi, hi', h32]
        · simp [hi, h32]
    rw [e]
    have hn' := List.nodup_cons.mp hn
    have ih := clean_go r (k + 1) (fun j => if j = h then some k else F j) (fun x hx => ⟨(hF x (by simp [hx])).1, by
      have : x ≠ h := by rintro rfl; exact hn'.1 hx
      simp only [this, if_false]; exact (hF x (by simp [hx])).2⟩) hn'.2
    have e1 := ih
    rw [e0] at e1
    rw [e1]
    simp only [ownF, List.length_cons]
    congr 2
    omega

theorem ownF_spec : ∀ (hs : List Nat) (k : Nat) (F : Nat → Option Nat), hs.Nodup → (∀ j i, F j = some i → i < k ∧ j ∉ hs) → ∀ j i, ownF hs k F j = some i ↔ (F j = some i ∨ ∃ m, hs[m]? = some j ∧ i = k + m)
  | [], k, F, _, _, j, i => by simp [ownF]
  | h :: r, k, F, hn, hF, j, i => by
    have hn' := List.nodup_cons.mp hn
    have ih := ownF_spec r (k + 1) (fun j => if j = h then some k else F j) hn'.2 (fun j i e => by
      by_cases q : j = h
      · subst q; simp at e; subst e; exact ⟨by omega, hn'.1⟩
      · simp only [q, if_false] at e
        have := hF j i e
        exact ⟨by omega, fun x => this.2 (by simp [x])⟩) j i
    show ownF r (k + 1) _ j = some i ↔ _
    rw [ih]
    by_cases q : j = h
    · subst q
      simp only [if_true]
      constructor
      · rintro (e | ⟨m, e1, e2⟩)
        · cases e; exact .inr ⟨0, rfl, rfl⟩
        · exact absurd (List.mem_of_getElem? e1) hn'.1
      · rintro (e | ⟨m, e1, e2⟩)
        · exact absurd (List.mem_cons_self) (hF _ _ e).2
        · cases m with
          | zero => left; rw [e2]; rfl
          | succ m => exact absurd (List.mem_of_getElem? (by simpa using e1)) hn'.1
    · simp only [q, if_false]
      constructor
      · rintro (e | ⟨m, e1, e2⟩)
        · exact .inl e
        · exact .inr ⟨m + 1, by simpa using e1, by omega⟩
      · rintro (e | ⟨m, e1, e2⟩)
        · exact .inl e
        · cases m with
          | zero => simp at e1; exact absurd e1.symm q
          | succ m => exact .inr ⟨m, by simpa using e1, by omega⟩

theorem relay_small {b : Bool} {t : SetTable} (H : Small b t) {es : Array (Int × Value)} {hs : List Nat} (hes : es.toList.map (·.1) = hs.map Int.ofNat) (h5 : hs.length ≤ 5) (hlt : ∀ h ∈ hs, h < 32) (hn : hs.Nodup) :
    ∃ es' t', relayAll t es 20 = (es', t', false) ∧ t'.led = b ∧ t'.plain = true ∧ Rise t'.place ∧ t'.place.size = es'.size ∧ t'.dummies = #[] ∧ t'.mask = 31 := by
  have hF : ∀ j i, ownF hs 0 (fun _ => none) j = some i ↔ hs[i]? = some j := fun j i => by
    rw [ownF_spec hs 0 _ hn (fun _ _ e => by cases e)]
    simp
  have hsz : es.size = hs.length := by
    have := congrArg List.length hes
    simpa using this
  have hclean : SetTable.layClean 31 (es.map (·.1)) = some ((List.range 32).map (ownF hs 0 fun _ => none)).toArray := by
    unfold SetTable.layClean
    have e1 := clean_go hs 0 (fun _ => none) (fun h hh => ⟨hlt h hh, rfl⟩) hn
    rw [← Array.foldl_toList, Array.toList_map, hes]
    have e2 : (Array.replicate (31 + 1) (none : Option Nat)) = ((List.range 32).map fun _ => (none : Option Nat)).toArray := by
      decide +kernel
    rw [e2]
    exact congrArg (Option.map (fun x : Array (Option Nat) × Nat => x.1)) e1
  let own := ownF hs 0 fun _ => none
  let live := (List.range 32).filterMap fun j => (own j).map (j, ·)
  let t' : SetTable := { mask := 31, place := (live.map (·.1)).toArray, dummies := #[], finger := t.finger, led := t.led, moves := t.movedTo 31, plain := t.plain }
  have hlaid : t.relaid (es.map (·.1)) 20 = some (t', (live.map (·.2)).toArray) := by
    unfold SetTable.relaid SetTable.laid
    have e0 : SetTable.sizeAbove 20 - 1 = 31 := by decide +kernel
    rw [e0, hclean]
    have el : (List.range (31 + 1)).filterMap (fun j => (Array.getD ((List.range 32).map (ownF hs 0 fun _ => none)).toArray j none).map (j, ·)) = live := by
      refine fm_congr fun j hj => ?_
      have hj' : j < 32 := by simpa using hj
      simp [Array.getD, hj', own]
    simp only [Option.bind_eq_bind, Option.bind_some, el]
    rfl
  have hsnd : live.map (·.2) = (List.range 32).filterMap own := by
    show (List.filterMap _ _).map _ = _
    rw [List.map_filterMap]
    refine fm_congr fun j _ => ?_
    cases own j <;> rfl
  have hfst : (live.map (·.1)).Sublist (List.range 32) := by
    have : live.map (·.1) = (List.range 32).filter fun j => (own j).isSome := by
      show (List.filterMap _ _).map _ = _
      rw [List.map_filterMap, ← List.filterMap_eq_filter]
      refine fm_congr fun j _ => ?_
      cases q : own j <;> simp [Option.guard, q]
    rw [this]; exact List.filter_sublist
  have hperm : (live.map (·.2)).Perm (List.range hs.length) := by
    rw [hsnd]
    refine (List.perm_ext_iff_of_nodup ?_ List.nodup_range).mpr fun k => ?_
    · refine List.Pairwise.filterMap _ (R := (· ≠ ·)) ?_ (List.nodup_range)
      intro a a' haa x hx y hy hxy
      subst hxy
      have h1 := (hF a x).mp hx
      have h2 := (hF a' x).mp hy
      rw [h1] at h2; exact haa (Option.some.inj h2)
    · simp only [List.mem_filterMap, List.mem_range]
      constructor
      · rintro ⟨j, _, e⟩
        have := (hF j k).mp e
        exact (List.getElem?_eq_some_iff.mp this).1
      · intro hk
        refine ⟨hs[k], hlt _ (List.getElem_mem hk), (hF _ _).mpr ?_⟩
        simp [hk]
  have hlen : (live.map (·.2)).length = hs.length := by rw [hperm.length_eq]; simp
  have hlen1 : (live.map (·.1)).length = hs.length := by rw [← hlen]; simp
  let es' := ((live.map (·.2)).toArray).filterMap (es[·]?)
  have hes' : es'.size = hs.length := by
    show (Array.filterMap _ _).size = _
    rw [← Array.length_toList, Array.toList_filterMap]
    have : ∀ l : List Nat, (∀ k ∈ l, k < es.size) → (l.filterMap (es[·]?)).length = l.length := by
      intro l hl
      induction l with
      | nil => rfl
      | cons a l ih =>
        have ha : es[a]? = some es[a]! := by
          have := hl a (by simp)
          rw [Array.getElem?_eq_getElem this]; simp [this]
        rw [List.filterMap_cons, ha]
        simp [ih fun k hk => hl k (by simp [hk])]
    rw [this]
    · simpa using hlen
    · intro k hk
      have := (hperm.mem_iff (a := k)).mp (by simpa using hk)
      rw [hsz]; simpa using this
  have hcov : coversAll (live.map (·.2)).toArray es.size = true := by
    unfold coversAll
    rw [hsz]
    exact List.isPerm_iff.mpr hperm
  have hfit : t'.fits es'.size = true := by
    unfold SetTable.fits SetTable.fill
    have h1 : t'.place.size = hs.length := by
      show ((live.map (·.1)).toArray).size = _
      simpa using hlen1
    rw [h1, hes']
    have h2 : t'.dummies.size = 0 := rfl
    have h3 : t'.mask = 31 := rfl
    rw [h2, h3]
    simp; omega
  refine ⟨es', t', ?_, H.led, H.plain, ?_, ?_, rfl, rfl⟩
  · unfold relayAll
    rw [hlaid]
    simp only [hcov, Bool.true_and]
    show (if t'.fits es'.size = true then (es', t', false) else _) = _
    rw [if_pos hfit]
  · exact (List.pairwise_lt_range (n := 32)).sublist (by simpa [t'] using hfst)
  · show ((live.map (·.1)).toArray).size = _
    rw [hes']; simpa using hlen1
end Lw

namespace Lw
open PySem PySem.Calls PyProof.Rows
set_option maxRecDepth 10000

noncomputable def byText (w : World) : Bool := w.params.followText "set-order"

structure Tab (b : Bool) (t : SetTable) (n : Nat) : Prop where
  led : t.led = b
  plain : t.plain = true
  rise : Rise t.place
  size : t.place.size = n
  fits : t.fits n = true
  small : n ≤ 4 → Small b t

abbrev setObj (es : Array (Int × Value)) (ep : Nat) (t : SetTable) : Obj := { cls := .type "set", dict := none, data := .set es ep t, slots := #[] }

structure SetR (w : World) (a : Addr) (D : List Int) (es : Array (Int × Value)) (ep : Nat) (t : SetTable) (h : Heap) : Prop where
  obj : h.get? a = some (setObj es ep t)
  tab : Tab (!byText w) t es.size
  vals : ∀ e ∈ es.toList, ∃ k : Nat, k < 32 ∧ ∃ u : Tok, e = ((k : Int), .int k u)
  perm : (es.toList.map (·.1)).Perm D
  nodup : D.Nodup

theorem hashInt_small {k : Nat} (h : k < 32) : hashInt (k : Int) = k := by
  unfold hashInt; revert h; revert k; decide +kernel

section
variable {prog : Program} {w : World} {A : Around} {E : Value → Shared → Prop} {s : Shared} {a : Addr} {D : List Int} {es : Array (Int × Value)} {ep : Nat} {t : SetTable}

theorem SetR.elems {h : Heap} (S : SetR w a D es ep t h) : ElemsOf (intKind prog w) es.toList := fun e he => by
  obtain ⟨k, hk, u, rfl⟩ := S.vals e he
  exact ⟨⟨(k : Int), intKind_is _ _ _ _, (hashInt_small hk).symm⟩, rfl⟩

theorem SetR.size {h : Heap} (S : SetR w a D es ep t h) : es.size = D.length := by
  have := S.perm.length_eq
  simpa using this

theorem SetR.push {h h' : Heap} (S : SetR w a D es ep t h) (e : ∀ o, h.get? a = some o → h'.get? a = some o) : SetR w a D es ep t h' :=
  ⟨e _ S.obj, S.tab, S.vals, S.perm, S.nodup⟩

theorem add_setR {k : Nat} {u : Tok} {Q : Bool → Shared → Prop} (S : SetR w a D es ep t s.heap) (hk : k < 32) (hD : D.length ≤ 4)
    (h : ∀ es' ep' t' h' b, SetR w a (step_dedup D (k : Int)) es' ep' t' h' → Heap.SameBut a s.heap h' → Q b { s with heap := h' }) :
    wpAny (model prog w) A (setAddHashed a (.int k u) (k : Int)) Q E s := by
  have hf := S.tab.fits
  have hsz := S.size
  have hel := S.elems (prog := prog)
  have hb : es.size < scanBound := by rw [hsz]; unfold scanBound; omega
  have hkey : (intKind prog w).is (k : Int) (.int k u) = true := intKind_is _ _ _ _
  have hhash : (intKind prog w).hash (k : Int) = (k : Int) := hashInt_small hk
  unfold setAddHashed setAddHashedIn
  refine wpAny_holding (wpAny_bind (wpAny_setState_of S.obj rfl hf ?_))
  dsimp only
  rw [byScan_of rfl hb hel]
  simp only [↓reduceIte]
  unfold setAddByScan
  refine wpAny_bind ?_
  refine wpAny_bind (wpAny_rule ?_)
  have hscan := fun Q hQ => wpAny_setScan_of (A := A) (E := E) (adding := true) (Q := Q) hkey S.obj rfl hf hel hQ
  rw [hhash] at hscan
  refine wpAny_bind (hscan _ ?_)
  cases hr : List.findIdx? (fun e => (intKind prog w).is (k : Int) e.2) es.toList with
  | some j =>
    dsimp only
    obtain ⟨hj, hpj, _⟩ := List.findIdx?_eq_some_iff_getElem.mp hr
    have hm : (k : Int) ∈ D := by
      refine (S.perm.mem_iff).mp (List.mem_map.mpr ⟨_, List.getElem_mem hj, ?_⟩)
      obtain ⟨k', hk', u', e⟩ := S.vals _ (List.getElem_mem hj)
      rw [e] at hpj ⊢
      simp only [intKind, Value.isInt, beq_iff_eq] at hpj ⊢
      first | exact hpj | exact hpj.symm | omega
    have hst : step_dedup D (k : Int) = D := by
      unfold step_dedup
      rw [if_pos]
      simpa using hm
    refine wpAny_pure (wpAny_pure ?_)
    have := h es ep t s.heap false (by rw [hst]; exact S) (Heap.SameBut.refl a s.heap)
    exact this
  | none =>
    dsimp only
    have hm : (k : Int) ∉ D := fun q => by
      obtain ⟨e, he, e1⟩ := List.mem_map.mp ((S.perm.mem_iff).mpr q)
      have h1 := List.findIdx?_eq_none_iff.mp hr e he
      obtain ⟨k', hk', u', rfl⟩ := S.vals e he
      simp only at e1
      rw [e1] at h1
      simp [intKind, Value.isInt] at h1
    have hst : step_dedup D (k : Int) = D ++ [(k : Int)] := by
      unfold step_dedup
      rw [if_neg]
      simpa using hm
    have H := S.tab.small (by omega)
    obtain ⟨p, t1, hp, hlay, H1, hs1⟩ := layNew_small H S.tab.size (by omega) hk (.int k u)
    rw [hlay]
    let es1 := SetTable.insertAt es p ((k : Int), Value.int k u)
    have hl1 : es1.toList = es.toList.take p ++ ((k : Int), Value.int k u) :: es.toList.drop p := insertAt_toList _ _ _ hp
    have hsz1 : es1.size = es.size + 1 := by
      rw [← Array.length_toList, hl1]; simp; omega
    have hpm : es1.toList.Perm (((k : Int), Value.int k u) :: es.toList) := by
      rw [hl1]
      refine (List.perm_middle).trans (List.Perm.cons _ ?_)
      rw [List.take_append_drop]
    have hv1 : ∀ e ∈ es1.toList, ∃ k : Nat, k < 32 ∧ ∃ u : Tok, e = ((k : Int), .int k u) := fun e he => by
      rcases List.mem_cons.mp ((hpm.mem_iff).mp he) with rfl | he
      · exact ⟨k, hk, u, rfl⟩
      · exact S.vals e he
    have hp1 : (es1.toList.map (·.1)).Perm (D ++ [(k : Int)]) := by
      refine (hpm.map _).trans ?_
      simp only [List.map_cons]
      exact ((S.perm.cons _).trans (List.perm_append_singleton _ _).symm)
    have hn1 : (D ++ [(k : Int)]).Nodup := (List.perm_append_singleton _ _).symm.nodup_iff.mp (List.nodup_cons.mpr ⟨hm, S.nodup⟩)
    have hf1 : t1.fits es1.size = true := by
      unfold SetTable.fits SetTable.fill
      rw [hs1, hsz1, H1.dum, H1.mask]
      simp; omega
    show wpAny _ _ (_ >>= _) _ _ _
    refine wpAny_bind (wpAny_pure ?_)
    dsimp only
    rw [if_pos H1.plain]
    refine wpAny_bind (wpAny_pure ?_)
    simp only [if_true]
    refine wpAny_bind (wpAny_storeSet_of S.obj rfl ?_ (fits_of_scanBound (by rw [hsz1, hsz]; unfold scanBound; omega)))
    have hg1 : (s.heap.update a (Obj.putSet es1 t1)).get? a = some (setObj es1 (ep + 1) t1) := by
      have := Heap.get?_update_self (Obj.putSet es1 t1) S.obj (by rw [putSet_of es1 t1 rfl]; rfl)
      rw [putSet_of es1 t1 rfl] at this; exact this
    have hsb1 := Heap.SameBut.update s.heap a (Obj.putSet es1 t1)
    by_cases h5 : es.size = 4
    · have htf : t1.tooFull = true := by
        unfold SetTable.tooFull SetTable.fill
        rw [hs1, H1.dum, H1.mask, h5]; decide
      rw [htf]
      simp only [Bool.not_false, Bool.and_true, if_true]
      have hgr : SetTable.grown es1.size = 20 := by rw [hsz1, h5]; rfl
      obtain ⟨hs, ehs, hlt⟩ : ∃ hs : List Nat, es1.toList.map (·.1) = hs.map Int.ofNat ∧ ∀ x ∈ hs, x < 32 := by
        have : ∀ l : List (Int × Value), (∀ e ∈ l, ∃ k : Nat, k < 32 ∧ ∃ u : Tok, e = ((k : Int), Value.int k u)) → ∃ hs : List Nat, l.map (·.1) = hs.map Int.ofNat ∧ ∀ x ∈ hs, x < 32 := by
          intro l
          induction l with
          | nil => intro _; exact ⟨[], rfl, by simp⟩
          | cons x l ih =>
            intro hl
            obtain ⟨k', q1, u', rfl⟩ := hl x (by simp)
            obtain ⟨hs, e1, e2⟩ := ih fun e he => hl e (by simp [he])
            exact ⟨k' :: hs, by simp [e1], fun y hy => by
              rcases List.mem_cons.mp hy with rfl | hy
              · exact q1
              · exact e2 y hy⟩
        exact this _ hv1
      have hnd : hs.Nodup := by
        have h1 : (hs.map Int.ofNat).Nodup := by rw [← ehs]; exact hp1.nodup_iff.mpr hn1
        exact List.Pairwise.of_map Int.ofNat (fun a b hab e => hab (by rw [e])) h1
      have hlen : hs.length ≤ 5 := by
        have := congrArg List.length ehs
        simp at this; omega
      obtain ⟨es2, t2, hrel, r1, r2, r3, r4, r5, r6⟩ := relay_small H1 ehs hlen hlt hnd
      have hp2 := relayAll_perm t1 es1 20
      have hf2 := relayAll_fits t1 es1 20
      rw [hrel] at hp2 hf2
      simp only at hp2 hf2
      rw [hgr, hrel]
      have hsz2 : es2.size = es1.size := by rw [← Array.length_toList, hp2.length_eq, Array.length_toList]
      refine wpAny_bind (wpAny_bind (wpAny_pure ?_))
      refine wpAny_pure ?_
      show wpAny _ _ (storeSet a es2 t2 >>= _) _ _ _
      refine wpAny_bind (wpAny_storeSet_of hg1 rfl ?_ (fits_of_scanBound (by rw [hsz2, hsz1, hsz]; unfold scanBound; omega)))
      have hg2 : ((s.heap.update a (Obj.putSet es1 t1)).update a (Obj.putSet es2 t2)).get? a = some (setObj es2 (ep + 1 + 1) t2) := by
        have := Heap.get?_update_self (Obj.putSet es2 t2) hg1 (by rw [putSet_of es2 t2 rfl]; rfl)
        rw [putSet_of es2 t2 rfl] at this; exact this
      refine wpAny_pure (wpAny_pure (h es2 (ep + 1 + 1) t2 _ true ⟨hg2, ⟨r1, r2, r3, r4, hf2, fun q => by omega⟩, fun e he => hv1 e ((hp2.mem_iff).mp he), by rw [hst]; exact (hp2.map _).trans hp1, by rw [hst]; exact hn1⟩ (hsb1.trans (Heap.SameBut.update _ a _))))
    · have htf : t1.tooFull = false := by
        unfold SetTable.tooFull SetTable.fill
        rw [hs1, H1.dum, H1.mask]
        simp; omega
      rw [htf]
      simp only [Bool.not_false, Bool.and_false, Bool.false_eq_true, if_false]
      refine wpAny_pure (wpAny_pure (h es1 (ep + 1) t1 _ true ⟨hg1, ⟨H1.led, H1.plain, H1.rise, by rw [hs1, hsz1], hf1, fun _ => H1⟩, hv1, by rw [hst]; exact hp1, by rw [hst]; exact hn1⟩ hsb1))
end
end Lw

namespace Lw
open PySem PySem.Calls PyProof.Rows PySem.Spec
set_option maxRecDepth 100000

section
variable {prog : Program} {w : World} {A : Around} {E : Value → Shared → Prop}

theorem set_loop {R : Result → Shared → Prop} {I S l : Addr} {items : Array Value} {ns : List Nat} (hh : A.handled = none) (hne : l ≠ I) (hSI : S ≠ I) (hSl : S ≠ l) (hi : IntsAre items.toList (ns.map Int.ofNat)) (h32 : ∀ n ∈ ns, n < 32) (h5 : ns.length ≤ 5) :
    ∀ (k i : Nat) (s : Shared) (es : Array (Int × Value)) (ep : Nat) (t : SetTable), items.size - i = k → i ≤ items.size → s.heap.IsListIter I l i ∧ s.heap.IsList l items →
      SetR w S (((ns.map Int.ofNat).take i).foldl step_dedup []) es ep t s.heap →
      (∀ h' tk es ep t, SetR w S ((ns.map Int.ofNat).foldl step_dedup []) es ep t h' → (∀ b o, b ≠ S → b ≠ I → s.heap.get? b = some o → h'.get? b = some o) → R (.ok (.ret .none)) { s with heap := h', toks := tk }) →
      codeAny (model prog w) A (.builtin "set.update.loop" ⟨[.ref S, .ref I], []⟩) R s := by
  have hlen : items.size = ns.length := by have := hi.length; simpa using this
  have W : Walks prog w A.in1 I [I, l] [I] items.size (fun i v => items[i]? = some v) (fun i h => h.IsListIter I l i ∧ h.IsList l items) := Walks.list (by simpa using hh) I l hne items
  intro k
  induction k with
  | zero =>
    intro i s es ep t hk hile hst hS hR
    have hin : i = items.size := by omega
    subst hin
    refine codeAny_builtin F.entry_set_update_loop ?_
    rw [Around.under_plainId F.plain_set_update_loop _]
    show wpAny _ A.in1 (pyNext (.ref I) >>= _) _ _ s
    refine wpAny_bind (W.done s _ _ hst fun h' tk hk' => ?_)
    show wpAny _ A.in1 (ret Value.none) _ _ _
    rw [List.take_of_length_le (by rw [List.length_map]; omega)] at hS
    exact wpAny_pure (hR h' tk es ep t (hS.push fun o e => hk' S o (by simpa using hSI) e) fun b o _ hb e => hk' b o (by simpa using hb) e)
  | succ k ih =>
    intro i s es ep t hk hile hst hS hR
    have hlt : i < items.size := by omega
    refine codeAny_builtin F.entry_set_update_loop ?_
    rw [Around.under_plainId F.plain_set_update_loop _]
    show wpAny _ A.in1 (pyNext (.ref I) >>= _) _ _ s
    refine wpAny_bind (W.item i s _ _ hlt hst fun v h1 tk1 hv hst1 hk1 => ?_)
    obtain ⟨u, rfl⟩ := IntsAre.int_at hi i v (by rw [Array.getElem?_toList]; exact hv)
    have hin : i < ns.length := by omega
    have hval : (ns.map Int.ofNat).getD i 0 = ((ns[i] : Nat) : Int) := by simp [hin]
    rw [hval]
    have hk32 : ns[i] < 32 := h32 _ (List.getElem_mem hin)
    show wpAny _ A.in1 (holding [Value.int ((ns[i] : Nat) : Int) u] (setAdd S (.int ((ns[i] : Nat) : Int) u)) >>= _) _ _ _
    refine wpAny_bind (wpAny_holding ?_)
    unfold setAdd
    refine wpAny_holding ?_
    refine wpAny_bind ((intKind prog w).pyHash (k := ((ns[i] : Nat) : Int)) (intKind_is _ _ _ _) ?_)
    have hhash : (intKind prog w).hash ((ns[i] : Nat) : Int) = ((ns[i] : Nat) : Int) := hashInt_small hk32
    rw [hhash]
    have hS1 : SetR w S (((ns.map Int.ofNat).take i).foldl step_dedup []) es ep t h1 := hS.push fun o e => hk1 S o (by simpa using hSI) e
    have hDl : (((ns.map Int.ofNat).take i).foldl step_dedup []).length ≤ 4 := by
      have : ∀ (l : List Int) (a : List Int), (l.foldl step_dedup a).length ≤ a.length + l.length := by
        intro l
        induction l with
        | nil => intro a; simp
        | cons x l ih => intro a; have := ih (step_dedup a x); have h2 := step_length a x; simp only [List.foldl_cons, List.length_cons]; split at h2 <;> omega
      have := this ((ns.map Int.ofNat).take i) []
      simp at this; omega
    refine add_setR (s := { s with heap := h1, toks := tk1 + 1 }) hS1 hk32 hDl fun es' ep' t' h2 b hS2 hsb => ?_
    have e2 : ((ns.map Int.ofNat).take (i + 1)).foldl step_dedup [] = step_dedup (((ns.map Int.ofNat).take i).foldl step_dedup []) ((ns[i] : Nat) : Int) := by
      rw [List.take_succ_eq_append_getElem (by simpa using hin), List.foldl_append]
      simp
    rw [← e2] at hS2
    refine wpAny_pure ⟨plainId_quiet F.plain_set_update_loop _, ih (i + 1) _ es' ep' t' (by omega) (by omega) (W.frame _ _ _ hst1 fun b hb o e => ?_) hS2 fun h3 tk3 es3 ep3 t3 hS3 hk3 => ?_⟩
    · rw [hsb.2 b (fun h : b = S => by
        subst h
        simp at hb
        rcases hb with hb | hb
        · exact hSI hb
        · exact hSl hb)]; exact e
    · refine hR h3 tk3 es3 ep3 t3 hS3 fun b o hb1 hb2 e => hk3 b o hb1 hb2 ?_
      rw [hsb.2 b hb1]; exact hk1 b o (by simpa using hb2) e

theorem new_set (a : Value) {s : Shared} {Q₁ : Value → Shared → Prop}
    (h : Q₁ (.ref s.heap.objs.size) { s with heap := s.heap.push (setObj #[] 0 (.fresh 0 0 (!byText w))) }) :
    codeAny (model prog w) A (.call (.builtin "set.__new__") ⟨[.type "set", a], []⟩) (wants Q₁ E) s := by
  refine codeAny_of_tree ?_
  show wpAny _ A.in1 (do checkBuiltinCall "set.__new__" ⟨[.type "set", a], []⟩; again (.builtin "set.__new__" ⟨[.type "set", a], []⟩)) _ _ s
  refine wpAny_bind (wpAny_of_eq (F.newCall_set_1 a) (wpAny_pure ⟨plainId_quiet F.plain_set_new _, codeAny_builtin F.entry_set_new ?_⟩))
  rw [Around.under_plainId F.plain_set_new _]
  unfold Builtin.«set.__new__» Builtin.Frozenset.newClass
  have hsub := sub_set_self
  obtain ⟨hp, g, d, tk, os⟩ := s
  dsimp only
  wp_walk
  refine wpAny_askSetting (wpAny_pure ?_)
  dsimp only
  simp only [newObj]
  refine wpAny_bind (wpAny_alloc (wpAny_pure ?_))
  exact wpAny_pure h

theorem fresh_setR {h : Heap} : SetR w h.objs.size [] #[] 0 (.fresh 0 0 (!byText w)) (h.push (setObj #[] 0 (.fresh 0 0 (!byText w)))) :=
  ⟨Heap.get?_push_size _ rfl, ⟨rfl, rfl, .nil, rfl, by rfl, fun _ => ⟨rfl, rfl, .nil, rfl, rfl, by simp [SetTable.fresh]⟩⟩, by simp, by simp, .nil⟩

set_option maxHeartbeats 3200000 in
theorem set_call {s : Shared} {l : Addr} {items : Array Value} {ns : List Nat} {Q : Value → Shared → Prop} (hh : A.handled = none) (hl : s.heap.IsList l items) (hi : IntsAre items.toList (ns.map Int.ofNat)) (h32 : ∀ n ∈ ns, n < 32) (h5 : ns.length ≤ 5)
    (h : ∀ h' tk es ep t, SetR w s.heap.objs.size ((ns.map Int.ofNat).foldl step_dedup []) es ep t h' → (∀ b o, s.heap.get? b = some o → h'.get? b = some o) → Q (.ref s.heap.objs.size) { s with heap := h', toks := tk }) :
    wpAny (model prog w) A (call (.type "set") [.ref l]) Q E s := by
  obtain ⟨c, tl, hmro⟩ := F.called_set.mro
  have hmade := F.called_set.made
  have hsub := F.called_set.sub
  refine wpAny_call (codeAny_of_tree ?_)
  show wpAny _ _ (callAny (.type "set") _) _ _ _
  refine wpAny_pure ⟨Code.quiet_builtin _ (by decide +kernel), codeAny_builtin F.entry_type_call ?_⟩
  rw [Around.under_plain (weight_type_call_type "set" [.ref l] []) rfl]
  have h1 := F.called_set.notType
  have h2 := F.called_set.canCreate
  have hct := F.typeCall_set_1 (.ref l)
  repeat (any_goals (first | assumption | wp_step))
  refine codeAny_mono (new_set (.ref l) (E := E) (Q₁ := fun obj s₁ => obj = .ref s.heap.objs.size ∧ s₁ = { s with heap := s.heap.push (setObj #[] 0 (.fresh 0 0 (!byText w))) }) ⟨rfl, rfl⟩) fun r s₁ hr => ?_
  cases r with
  | error e => exact hr
  | ok fl =>
    cases fl with
    | ret obj =>
      obtain ⟨rfl, rfl⟩ := hr
      have hS0 := fresh_setR (w := w) (h := s.heap)
      have hT : Shared.TypeIs { s with heap := s.heap.push (setObj #[] 0 (.fresh 0 0 (!byText w))) } (.ref s.heap.objs.size) "set" := ⟨_, hS0.obj, rfl⟩
      have hli := F.called_set.init.lookup
      have hbi := F.called_set.init.bind (.ref s.heap.objs.size)
      repeat (any_goals (first | assumption | wp_step))
      refine codeAny_mono (codeAny_call_builtin (R := wants (fun r s₂ => r = .none ∧ ∃ h' tk es ep t, s₂ = { s with heap := h', toks := tk } ∧
          SetR w s.heap.objs.size ((ns.map Int.ofNat).foldl step_dedup []) es ep t h' ∧ (∀ b o, s.heap.get? b = some o → h'.get? b = some o)) E) F.called_set.init.plain F.entry_set_init (check_set_init_1 hT ?_)) fun r₂ s₂ hr₂ => ?_
      · obtain ⟨ol, hol, hcl, nl, hdl⟩ := id hl
        obtain ⟨ocls, odict, odata, oslots⟩ := ol
        simp only at hcl hdl
        subst hcl; subst hdl
        have hl1 : (s.heap.push (setObj #[] 0 (.fresh 0 0 (!byText w)))).IsList l items := ⟨_, Heap.get?_push_of_some _ hol, rfl, nl, rfl⟩
        have hol' := Heap.get?_push_of_some (setObj #[] 0 (.fresh 0 0 (!byText w))) hol
        have hsls := F.sub_list_set
        have hslf := F.sub_list_frozenset
        have hne : (Value.type "list" == Value.type "dict") = false := by decide
        unfold Builtin.«set.__init__» noKeywords Builtin.Frozenset.updateFrom
        generalize hPI : pyIter = PI
        wp_walk
        subst hPI
        refine wpAny_pyIter_list hl1 ?_
        refine wpAny_bind (wpAny_runValue ?_)
        have hlS : l < s.heap.objs.size := Heap.lt_size hol
        have hsz : (s.heap.push (setObj #[] 0 (.fresh 0 0 (!byText w)))).objs.size = s.heap.objs.size + 1 := Heap.size_push _ _
        refine set_loop (A := A.in1.in1) (by simp [hh]) (Nat.ne_of_lt (by rw [hsz]; exact Nat.lt_succ_of_lt hlS)) (Nat.ne_of_lt (by rw [hsz]; exact Nat.lt_succ_self _)) (Nat.ne_of_gt hlS) hi h32 h5 (items.size - 0) 0 _ #[] 0 (.fresh 0 0 (!byText w)) (by omega) (Nat.zero_le _)
          ⟨⟨_, Heap.get?_push_size _ rfl, rfl, rfl⟩, (hl1.push _)⟩ (hS0.push fun o e => Heap.get?_push_of_some _ e) fun h' tk es ep t hS' hk' => ?_
        refine wpAny_pure ?_
        show wpAny _ _ (ret Value.none) _ _ _
        refine wpAny_pure ⟨rfl, h', tk, es, ep, t, rfl, hS', fun b o e => ?_⟩
        have hb := Heap.lt_size e
        exact hk' b o (Nat.ne_of_lt hb) (Nat.ne_of_lt (by rw [hsz]; exact Nat.lt_succ_of_lt hb)) (Heap.get?_push_of_some _ (Heap.get?_push_of_some _ e))
      · cases r₂ with
        | error e => exact hr₂
        | ok fl₂ =>
          cases fl₂ with
          | ret r =>
            obtain ⟨rfl, h', tk, es, ep, t, rfl, hS', hk'⟩ := hr₂
            repeat (any_goals (first | assumption | wp_step))
            exact h _ _ _ _ _ hS' hk'
          | _ => exact hr₂.elim
    | _ => exact hr.elim
end
end Lw

namespace Lw
open PySem PySem.Calls PyProof.Rows PySem.Spec
set_option maxRecDepth 100000

theorem slot_setit_next : PySem.Slot "set_iterator" "__next__" "set_iterator.__next__" :=
  .of (owner := "set_iterator") (n := "__next__") (by rw [typeLookup_type, builtinLookup_eq_fast]; kernel_rfl) (by decide +kernel) (by decide +kernel) (by decide +kernel)
    (by first | exact .inl (by decide +kernel) | exact .inr (by decide +kernel)) (by rw [isSubtype_type]; kernel_rfl)
theorem slot_setit_iter : PySem.Slot "set_iterator" "__iter__" "set_iterator.__iter__" :=
  .of (owner := "set_iterator") (n := "__iter__") (by rw [typeLookup_type, builtinLookup_eq_fast]; kernel_rfl) (by decide +kernel) (by decide +kernel) (by decide +kernel)
    (by first | exact .inl (by decide +kernel) | exact .inr (by decide +kernel)) (by rw [isSubtype_type]; kernel_rfl)
theorem entry_setit_next : entryFor table "set_iterator.__next__" = some Builtin.«set_iterator.__next__» := entryFor_of_tree (by kernel_rfl)
theorem entry_setit_iter : entryFor table "set_iterator.__iter__" = some Builtin.«dict_keyiterator.__iter__» :=
  entryFor_alias (id' := "dict_keyiterator.__iter__") (by kernel_rfl) rfl (by decide +kernel) (by kernel_rfl)
theorem entry_set_iter : entryFor table "set.__iter__" = some Builtin.«frozenset.__iter__» :=
  entryFor_alias (id' := "frozenset.__iter__") (by kernel_rfl) rfl (by decide +kernel) (by kernel_rfl)
theorem owner_setit : Manifest.owners.lookup (String.ofList ['r', 'o', 't', 'a', 'r', 'e', 't', 'i', '_', 't', 'e', 's'].reverse) = some Manifest.sig_set_iterator := by kernel_rfl
theorem args_setit_next (a : Value) : argsOk "set_iterator.__next__" ⟨[a], []⟩ := by
  unfold argsOk; rw [signature?_of (id := "set_iterator.__next__") (n := ['_', '_', 't', 'x', 'e', 'n', '_', '_']) (o := ['r', 'o', 't', 'a', 'r', 'e', 't', 'i', '_', 't', 'e', 's']) (by kernel_rfl) owner_setit]; kernel_rfl
theorem args_setit_iter (a : Value) : argsOk "set_iterator.__iter__" ⟨[a], []⟩ := by
  unfold argsOk; rw [signature?_of (id := "set_iterator.__iter__") (n := ['_', '_', 'r', 'e', 't', 'i', '_', '_']) (o := ['r', 'o', 't', 'a', 'r', 'e', 't', 'i', '_', 't', 'e', 's']) (by kernel_rfl) owner_setit]; kernel_rfl

section
variable {prog : Program} {w : World} {A : Around} {E : Value → Shared → Prop} {s : Shared} {a I : Addr} {D : List Int} {es : Array (Int × Value)} {ep : Nat} {t : SetTable}

noncomputable def itObj (slot i a n ep : Nat) : Obj := { cls := .type "set_iterator", data := .fields #[.int slot 0, .int i 0, .ref a, .int n 0, .int ep 0] }

/-- the order in which a set is walked -/
noncomputable def ordOf (w : World) (a ep : Nat) (es : Array (Int × Value)) : Array (Int × Value) := if byText w = true then pickOrder (w.params.setOrder a ep) es else es

theorem pick_go {α : Type} (next : Nat → Nat) : ∀ (fuel k : Nat) (left : List α) (out : Array α), fuel = left.length → (pickOrder.go next fuel k left out).toList.Perm (out.toList ++ left)
  | 0, k, left, out, h => by
    have : left = [] := List.length_eq_zero_iff.mp h.symm
    subst this; unfold pickOrder.go; simp
  | fuel + 1, k, left, out, h => by
    unfold pickOrder.go
    have hp : 0 < left.length := by omega
    have hlt : next k % left.length < left.length := Nat.mod_lt _ hp
    rw [List.getElem?_eq_getElem hlt]
    simp only
    refine (pick_go next fuel (k + 1) _ _ (by rw [List.length_eraseIdx]; simp [hlt]; omega)).trans ?_
    rw [Array.toList_push, List.append_assoc]
    refine List.Perm.append_left _ ?_
    rw [List.eraseIdx_eq_take_drop_succ]
    refine ((List.perm_middle (l₁ := left.take (next k % left.length)) (a := left[next k % left.length]) (l₂ := left.drop (next k % left.length + 1))).symm).trans ?_
    rw [← List.drop_eq_getElem_cons hlt, List.take_append_drop]

theorem ord_perm : (ordOf w a ep es).toList.Perm es.toList := by
  unfold ordOf
  split
  · unfold pickOrder
    simpa using pick_go (w.params.setOrder a ep) es.size 0 es.toList #[] (by simp)
  · exact .refl _
theorem ord_size : (ordOf w a ep es).size = es.size := by
  have := (ord_perm (w := w) (a := a) (ep := ep) (es := es)).length_eq
  simpa using this

theorem iter_set {Q : Value → Shared → Prop} (S : SetR w a D es ep t s.heap) (h : Q (.ref s.heap.objs.size) { s with heap := s.heap.push (itObj 0 0 a es.size ep) }) : wpAny (model prog w) A (pyIter (.ref a)) Q E s := by
  have hT : s.TypeIs (.ref a) "set" := ⟨_, S.obj, rfl⟩
  refine wpAny_pyIter_slot hT F.slot_set_iter (wpAny_call_entry F.slot_set_iter hT entry_set_iter ?_ (F.args_set_iter_1 _))
  unfold Builtin.«frozenset.__iter__» Builtin.Frozenset.slot0 slotArgs
  simp only [List.isEmpty_nil, Bool.not_true, Bool.false_eq_true, ↓reduceIte, bind_assoc, List.length_nil, bne_self_eq_false]
  unfold Builtin.Frozenset.addrOf Builtin.Frozenset.sizeOf
  refine wpAny_bind (wpAny_pure ?_)
  try dsimp only
  refine wpAny_bind (wpAny_pure ?_)
  refine wpAny_bind (wpAny_bind (wpAny_setEntries_of S.obj rfl S.tab.fits (wpAny_pure ?_)))
  refine wpAny_bind (m := setDrawn a) ?_
  unfold setDrawn setsByText
  refine wpAny_bind (wpAny_setState_of S.obj rfl S.tab.fits ?_)
  dsimp only
  refine wpAny_bind (wpAny_bind (wpAny_askSetting (wpAny_pure ?_)))
  refine wpAny_pure ?_
  have hdr : (!(w.params.followText "set-order") && (!t.plain && decide (es.size > 1))) = false := by rw [S.tab.plain]; simp
  show wpAny _ _ (if (!(w.params.followText "set-order") && (!t.plain && decide (es.size > 1))) = true then _ else _) _ _ _
  rw [hdr]
  simp only [Bool.false_eq_true, if_false]
  refine wpAny_bind (wpAny_pure ?_)
  refine wpAny_bind (wpAny_setEpoch_of S.obj rfl S.tab.fits ?_)
  refine wpAny_bind (m := newFields _ _) (wpAny_newObj_type ?_)
  exact wpAny_pure ⟨_, rfl, "set_iterator", _, ⟨_, Heap.get?_push_size _ rfl, rfl⟩, slot_setit_next.lookup, h⟩

/-- where the walk stands -/
noncomputable def Stand (w : World) (t : SetTable) (n slot i : Nat) : Prop := i ≤ n ∧ (byText w = true ∨ SetTable.below t.place slot = i)

theorem below_next {xs : Array Nat} (h : Rise xs) {i : Nat} (hi : i < xs.size) : SetTable.below xs (xs[i] + 1) = i + 1 := by
  obtain ⟨h1, h2, h3⟩ := below_spec h (xs[i] + 1)
  have e : xs.getD i 0 = xs[i] := by simp [Array.getD, hi]
  rcases Nat.lt_trichotomy (SetTable.below xs (xs[i] + 1)) (i + 1) with q | q | q
  · have := h3 i (by omega) hi; omega
  · exact q
  · have a1 := h2 (i + 1) q
    have a2 : xs.getD i 0 < xs.getD (i + 1) 0 := h.lt (Nat.lt_succ_self i) (by omega)
    omega

theorem setNext_item {slot i : Nat} {e : Int × Value} {Q : Option (Value × Nat) → Shared → Prop} (S : SetR w a D es ep t s.heap) (hs : Stand w t es.size slot i) (he : (ordOf w a ep es)[i]? = some e)
    (h : ∀ slot', Stand w t es.size slot' (i + 1) → Q (some (e.2, slot')) s) : wpAny (model prog w) A (setNext a slot i ep) Q E s := by
  have hi : i < es.size := by
    have := (Array.getElem?_eq_some_iff.mp he).1
    rwa [ord_size] at this
  unfold setNext
  refine wpAny_bind (wpAny_setState_of S.obj rfl S.tab.fits ?_)
  dsimp only
  refine wpAny_bind (m := setsByText) ?_
  unfold setsByText
  refine wpAny_bind (wpAny_askSetting (wpAny_pure ?_))
  show wpAny _ _ (if byText w = true then _ else _) _ _ _
  by_cases hb : byText w = true
  · rw [if_pos hb]
    simp only [bne_self_eq_false, Bool.false_eq_true, if_false]
    refine wpAny_bind (m := setWalk a) ?_
    unfold setWalk
    refine wpAny_bind (wpAny_setState_of S.obj rfl S.tab.fits ?_)
    dsimp only
    refine wpAny_bind (m := setsByText) ?_
    unfold setsByText
    refine wpAny_bind (wpAny_askSetting (wpAny_pure ?_))
    show wpAny _ _ (if byText w = true then _ else _) _ _ _
    rw [if_pos hb]
    refine wpAny_bind (wpAny_askSetting (wpAny_pure ?_))
    refine wpAny_pure ?_
    have e1 : (pickOrder (w.params.setOrder a ep) es)[i]? = some e := by
      unfold ordOf at he
      rw [if_pos hb] at he; exact he
    show Q (Option.map (fun e => (e.2, slot)) (pickOrder (w.params.setOrder a ep) es)[i]?) s
    rw [e1]
    exact h slot ⟨hi, .inl hb⟩
  · rw [if_neg hb]
    have hbl : SetTable.below t.place slot = i := by
      rcases hs.2 with q | q
      · exact absurd q hb
      · exact q
    have hdr : (!t.plain && decide (es.size > 1)) = false := by rw [S.tab.plain]; simp
    show wpAny _ _ (if (!t.plain && decide (es.size > 1)) = true then _ else _) _ _ _
    rw [hdr]
    simp only [Bool.false_eq_true, if_false]
    refine wpAny_bind ?_
    have hled : (!t.led && !es.isEmpty) = false := by rw [S.tab.led]; simp [hb]
    show wpAny _ _ (if (!t.led && !es.isEmpty) = true then _ else _) _ _ _
    rw [hled]
    simp only [Bool.false_eq_true, if_false]
    refine wpAny_pure ?_
    rw [hbl]
    have e1 : es[i]? = some e := by
      unfold ordOf at he
      rw [if_neg hb] at he; exact he
    have hp : i < t.place.size := by rw [S.tab.size]; exact hi
    obtain ⟨e1a, e1b⟩ := e
    rw [e1, Array.getElem?_eq_getElem hp]
    exact wpAny_pure (h _ ⟨hi, .inr (below_next S.tab.rise hp)⟩)

theorem setNext_end {slot : Nat} {Q : Option (Value × Nat) → Shared → Prop} (S : SetR w a D es ep t s.heap) (hs : Stand w t es.size slot es.size)
    (h : Q none s) : wpAny (model prog w) A (setNext a slot es.size ep) Q E s := by
  unfold setNext
  refine wpAny_bind (wpAny_setState_of S.obj rfl S.tab.fits ?_)
  dsimp only
  refine wpAny_bind (m := setsByText) ?_
  unfold setsByText
  refine wpAny_bind (wpAny_askSetting (wpAny_pure ?_))
  show wpAny _ _ (if byText w = true then _ else _) _ _ _
  by_cases hb : byText w = true
  · rw [if_pos hb]
    simp only [bne_self_eq_false, Bool.false_eq_true, if_false]
    refine wpAny_bind (m := setWalk a) ?_
    unfold setWalk
    refine wpAny_bind (wpAny_setState_of S.obj rfl S.tab.fits ?_)
    dsimp only
    refine wpAny_bind (m := setsByText) ?_
    unfold setsByText
    refine wpAny_bind (wpAny_askSetting (wpAny_pure ?_))
    show wpAny _ _ (if byText w = true then _ else _) _ _ _
    rw [if_pos hb]
    refine wpAny_bind (wpAny_askSetting (wpAny_pure ?_))
    refine wpAny_pure ?_
    have e1 : (pickOrder (w.params.setOrder a ep) es)[es.size]? = none := by
      have := ord_size (w := w) (a := a) (ep := ep) (es := es)
      unfold ordOf at this
      rw [if_pos hb] at this
      exact Array.getElem?_eq_none (by omega)
    show Q (Option.map (fun e => (e.2, slot)) (pickOrder (w.params.setOrder a ep) es)[es.size]?) s
    rw [e1]
    exact h
  · rw [if_neg hb]
    have hbl : SetTable.below t.place slot = es.size := by
      rcases hs.2 with q | q
      · exact absurd q hb
      · exact q
    have hdr : (!t.plain && decide (es.size > 1)) = false := by rw [S.tab.plain]; simp
    show wpAny _ _ (if (!t.plain && decide (es.size > 1)) = true then _ else _) _ _ _
    rw [hdr]
    simp only [Bool.false_eq_true, if_false]
    refine wpAny_bind ?_
    have hled : (!t.led && !es.isEmpty) = false := by rw [S.tab.led]; simp [hb]
    show wpAny _ _ (if (!t.led && !es.isEmpty) = true then _ else _) _ _ _
    rw [hled]
    simp only [Bool.false_eq_true, if_false]
    refine wpAny_pure ?_
    rw [hbl, Array.getElem?_eq_none (Nat.le_refl _)]
    exact wpAny_pure h
end
end Lw

namespace Lw
open PySem PySem.Calls PyProof.Rows PySem.Spec
set_option maxRecDepth 100000

section
variable {prog : Program} {w : World} {A : Around} {E : Value → Shared → Prop} {s : Shared} {a I : Addr} {D : List Int} {es : Array (Int × Value)} {ep : Nat} {t : SetTable}

noncomputable def IsIt (h : Heap) (I slot i a n ep : Nat) : Prop := ∃ o, h.get? I = some o ∧ o.cls = .type "set_iterator" ∧ o.data = .fields #[.int slot 0, .int i 0, .ref a, .int n 0, .int ep 0]
theorem IsIt.typeIs {slot i n : Nat} (x : IsIt s.heap I slot i a n ep) : s.TypeIs (.ref I) "set_iterator" := let ⟨o, ho, hc, _⟩ := x; ⟨o, ho, hc⟩

theorem next_item {slot i : Nat} {e : Int × Value} {Q : Option Value → Shared → Prop} (hit : IsIt s.heap I slot i a es.size ep) (S : SetR w a D es ep t s.heap) (hs : Stand w t es.size slot i) (he : (ordOf w a ep es)[i]? = some e)
    (h : ∀ slot' h', Stand w t es.size slot' (i + 1) → IsIt h' I slot' (i + 1) a es.size ep → (∀ b o, b ≠ I → s.heap.get? b = some o → h'.get? b = some o) → Q (some e.2) { s with heap := h' }) :
    wpAny (model prog w) A (pyNext (.ref I)) Q E s := by
  obtain ⟨o, ho, hc, hd⟩ := id hit
  unfold pyNext
  refine wpAny_bind (wpAny_attempt (wpAny_callSpecial?_slot (name := Str.ofString "__next__") hit.typeIs slot_setit_next
    (wpAny_call_entry slot_setit_next hit.typeIs entry_setit_next ?_ (args_setit_next _))))
  unfold Builtin.«set_iterator.__next__» slotArgs
  simp only [List.isEmpty_nil, Bool.not_true, Bool.false_eq_true, ↓reduceIte, bind_assoc, List.length_nil, bne_self_eq_false]
  refine wpAny_bind (wpAny_pure ?_)
  refine wpAny_bind (wpAny_fieldsOf ho hd ?_)
  show wpAny _ _ (setEntries a >>= _) _ _ _
  refine wpAny_bind (wpAny_setEntries_of S.obj rfl S.tab.fits ?_)
  show wpAny _ _ (if (((es.size : Nat) : Int) != ((es.size : Nat) : Int)) = true then _ else _) _ _ _
  simp only [bne_self_eq_false, Bool.false_eq_true, if_false]
  simp only [Int.toNat_natCast]
  refine wpAny_bind (setNext_item S hs he fun slot' hs' => ?_)
  refine wpAny_bind (wpAny_setField ho hd (by simp) ?_)
  have h1 := Heap.get?_update_self (Obj.mapFields (·.setIfInBounds 0 (rawInt (slot' : Int)))) ho (Obj.isFreed_of_fields (Obj.data_mapFields hd _))
  refine wpAny_bind (wpAny_setField h1 (Obj.data_mapFields hd _) (by simp) ?_)
  have h2 := Heap.get?_update_self (Obj.mapFields (·.setIfInBounds 1 (rawInt ((i : Int) + 1)))) h1 (Obj.isFreed_of_fields (Obj.data_mapFields (Obj.data_mapFields hd _) _))
  refine wpAny_pure ⟨_, rfl, wpAny_pure (h slot' _ hs' ⟨_, h2, ?_, ?_⟩ fun b o hb e => ?_)⟩
  · exact (Obj.cls_mapFields ..).trans ((Obj.cls_mapFields ..).trans hc)
  · rw [Obj.data_mapFields (Obj.data_mapFields hd _)]; simp [rawInt]
  · exact (Heap.get?_update_other _ _ (Ne.symm hb)).trans ((Heap.get?_update_other _ _ (Ne.symm hb)).trans e)

theorem next_end {slot : Nat} {Q : Option Value → Shared → Prop} (hh : A.handled = none) (hit : IsIt s.heap I slot es.size a es.size ep) (S : SetR w a D es ep t s.heap) (hs : Stand w t es.size slot es.size)
    (h : ∀ h', (∀ b o, b ≠ I → s.heap.get? b = some o → h'.get? b = some o) → Q none { s with heap := h' }) :
    wpAny (model prog w) A (pyNext (.ref I)) Q E s := by
  obtain ⟨o, ho, hc, hd⟩ := id hit
  unfold pyNext
  refine wpAny_bind (wpAny_attempt (wpAny_callSpecial?_slot (name := Str.ofString "__next__") hit.typeIs slot_setit_next
    (wpAny_call_entry slot_setit_next hit.typeIs entry_setit_next ?_ (args_setit_next _))))
  unfold Builtin.«set_iterator.__next__» slotArgs
  simp only [List.isEmpty_nil, Bool.not_true, Bool.false_eq_true, ↓reduceIte, bind_assoc, List.length_nil, bne_self_eq_false]
  refine wpAny_bind (wpAny_pure ?_)
  refine wpAny_bind (wpAny_fieldsOf ho hd ?_)
  show wpAny _ _ (setEntries a >>= _) _ _ _
  refine wpAny_bind (wpAny_setEntries_of S.obj rfl S.tab.fits ?_)
  show wpAny _ _ (if (((es.size : Nat) : Int) != ((es.size : Nat) : Int)) = true then _ else _) _ _ _
  simp only [bne_self_eq_false, Bool.false_eq_true, if_false]
  simp only [Int.toNat_natCast]
  refine wpAny_bind (setNext_end S hs ?_)
  refine wpAny_bind (wpAny_setField ho hd (by simp) ?_)
  refine wpAny_bind ?_
  simp only [newExc, newTuple]
  refine wpAny_bind (wpAny_newObj_type ?_ (by size_fits))
  refine wpAny_bind (m := firstArgMember _ _) (wpAny_of_eq (a := Value.none) (by first | rfl | (simp only [firstArgMember]; rfl)) ?_)
  refine wpAny_newObj_type ?_ (by size_fits)
  simp only [raiseNew]
  refine wpAny_bind (wpAny_handled ?_)
  rw [show A.in1.handled = none from hh]
  refine wpAny_bind (wpAny_pure (wpAny_throw ?_))
  refine wpAny_bind (wpAny_isInstance (T := "StopIteration") (b := true) ⟨_, Heap.get?_push_size _ rfl, rfl⟩ isSubtype_stop ?_)
  refine wpAny_pure (h _ fun b o hb e => ?_)
  exact (((Heap.SameBut.update ..).extBut.push _).push _) b o hb e

theorem iter_it {slot i n : Nat} {Q : Value → Shared → Prop} (hit : IsIt s.heap I slot i a n ep) (h : Q (.ref I) s) : wpAny (model prog w) A (pyIter (.ref I)) Q E s := by
  refine wpAny_pyIter_slot hit.typeIs slot_setit_iter (wpAny_call_entry slot_setit_iter hit.typeIs entry_setit_iter ?_ (args_setit_iter _))
  show wpAny _ _ (ret (.ref I)) _ _ s
  exact wpAny_pure ⟨_, rfl, "set_iterator", _, hit.typeIs, slot_setit_next.lookup, h⟩

theorem set_walks (hh : A.handled = none) (hne : a ≠ I) : Walks prog w A I [I, a] [I] es.size (fun i v => ∃ e, (ordOf w a ep es)[i]? = some e ∧ v = e.2)
    (fun i h => ∃ slot, IsIt h I slot i a es.size ep ∧ SetR w a D es ep t h ∧ Stand w t es.size slot i) where
  sub := fun b hb => by simp at hb; simp [hb]
  frame := fun _ _ _ ⟨slot, ⟨o, q1, q2⟩, q3, q4⟩ hk => ⟨slot, ⟨o, hk I (by simp) o q1, q2⟩, q3.push fun o e => hk a (by simp) o e, q4⟩
  item := fun i s Q E hi ⟨slot, q1, q2, q3⟩ hQ => by
    have hi' : i < (ordOf w a ep es).size := by rw [ord_size]; exact hi
    refine next_item q1 q2 q3 (Array.getElem?_eq_getElem hi') fun slot' h' hs' hit' hk => ?_
    exact hQ _ h' s.toks ⟨_, Array.getElem?_eq_getElem hi', rfl⟩ ⟨slot', hit', q2.push fun o e => hk a o hne e, hs'⟩ fun b o hb e => hk b o (by simpa using hb) e
  done := fun s Q E ⟨slot, q1, q2, q3⟩ hQ => next_end hh q1 q2 q3 fun h' hk => hQ h' s.toks fun b o hb e => hk b o (by simpa using hb) e
  self := fun _ _ _ _ ⟨slot, q1, _, _⟩ hQ => iter_it q1 hQ

theorem set_hint {Q : Bool → Shared → Prop} (hT : s.TypeIs (.ref a) "set") (h : Q false s) : wpAny (model prog w) A (Builtin.List.listLengthHint (.ref a)) Q E s := by
  unfold Builtin.List.listLengthHint
  refine wpAny_bind (wpAny_specialOf hT PySem.F.slot_set_len.lookup ?_)
  generalize hid : ("set.__len__" : String) = id0
  wp_delta
  rw [show splitId id0 = some ("set", "__len__") from by subst hid; decide +kernel]
  subst hid
  refine wpAny_bind (wpAny_isInstance (T := "set") (b := true) hT (by rw [isSubtype_type]; kernel_rfl) ?_)
  refine wpAny_ite_split (fun hab => absurd hab (by decide)) (fun _ => ?_)
  refine wpAny_ite_split (fun _ => ?_) (fun hab => absurd (by decide +kernel) hab)
  refine wpAny_bind (wpAny_typeOf hT ?_)
  exact wpAny_pure h

theorem set_src : PySem.W.KdlSrc prog w "set" a a es.size (fun i v => ∃ e, (ordOf w a ep es)[i]? = some e ∧ v = e.2) (fun h => SetR w a D es ep t h) where
  type := fun _ S => ⟨_, S.obj, rfl⟩
  there := fun _ S => ⟨Heap.lt_size S.obj, Heap.lt_size S.obj⟩
  keep := fun _ _ S hk => S.push fun o e => hk a (.inl rfl) o e
  notList := by decide
  notTuple := by decide
  hint := fun _ _ _ _ S hq => set_hint ⟨_, S.obj, rfl⟩ hq
  iter := fun _ s hh S => ⟨_, _, (fun _ _ hq => iter_set S hq), set_walks (D := D) (t := t) hh (Nat.ne_of_lt (Heap.lt_size S.obj)),
    ⟨0, ⟨_, Heap.get?_push_size _ rfl, rfl, rfl⟩, S.push fun o e => Heap.get?_push_of_some _ e, Nat.zero_le _, by
      by_cases hb : byText w = true
      · exact .inl hb
      · right
        obtain ⟨h1, h2, h3⟩ := below_spec S.tab.rise 0
        rcases Nat.eq_zero_or_pos (SetTable.below t.place 0) with q | q
        · exact q
        · have := h2 0 q; omega⟩⟩
end
end Lw

namespace Lw
open PySem PySem.Calls PyProof.Rows PySem.Spec
set_option maxRecDepth 100000

noncomputable def dedup (ns : List Int) : List Int := ns.foldl step_dedup []
noncomputable def sortedSetV : V → Option V
  | .list xs => (ints? xs).bind fun ns => if ns.length ≤ 5 ∧ (ns.all fun n => decide (0 ≤ n ∧ n < 32)) = true then some (.list ((isort (dedup ns)).map .int)) else none
  | _ => none

section
variable {C : Cx} {sc : Scope} {nm : List Str} {lv : Nat}

theorem toNats {ns : List Int} (h : (ns.all fun n => decide (0 ≤ n ∧ n < 32)) = true) : ∃ ms : List Nat, ns = ms.map Int.ofNat ∧ ∀ m ∈ ms, m < 32 := by
  refine ⟨ns.map Int.toNat, ?_, fun m hm => ?_⟩
  · rw [List.map_map]
    refine (List.map_id ns).symm.trans (List.map_congr_left fun n hn => ?_)
    have := List.all_eq_true.mp h n hn
    simp only [decide_eq_true_eq] at this
    simp only [Function.comp, id]
    exact (Int.toNat_of_nonneg this.1).symm
  · obtain ⟨n, hn, rfl⟩ := List.mem_map.mp hm
    have := List.all_eq_true.mp h n hn
    simp only [decide_eq_true_eq] at this
    omega

theorem DE_sortedSet {np sp pos spos : Pos} {e : PySem.Expr} {f : St → Option V} (hl : C.glob (Str.ofString "sorted") (.builtin "sorted")) (hr : C.glob (Str.ofString "set") (.type "set")) (hkl : sc.names.lookup (Str.ofString "sorted") = some .globalImplicit) (hkr : sc.names.lookup (Str.ofString "set") = some .globalImplicit)
    (he : DE C sc nm lv e f) (hst : PySem.W.isStarred e = false) : DE C sc nm lv (.Call (.Name (Str.ofString "sorted") np) [.Call (.Name (Str.ofString "set") sp) [e] [] spos] [] pos) (fun σ => (f σ).bind sortedSetV) := by
  intro A E env P σ s v Q hA hs R hf k
  obtain ⟨u, hu, hf⟩ := bind_some hf
  unfold sortedSetV at hf
  split at hf
  · rename_i xs0
    obtain ⟨ns, hn, hf⟩ := bind_some hf
    split at hf
    · rename_i hc
      cases hf
      obtain ⟨ms, rfl, h32⟩ := toNats hc.2
      refine wpAny_Call_NameR (wp_glob hl hs R hkl (by decide +kernel) ?_)
      show wpAny C.M A (callWith pos (.builtin "sorted") [] [(false, eval (.Call (.Name (Str.ofString "set") sp) [e] [] spos) env)] []) Q E s
      refine callWith_builtin rfl (evalArgs_plain (spliced_cons (wp_callG hr hkr (by decide +kernel) trivial (by simp) (DEs_cons he DEs_nil hst) hA hs R (vs := [.list xs0]) (by simp [hu]) fun P1 h1 tk1 xs g1 hx => ?_)))
      obtain ⟨x, rfl, hx1⟩ := hx.one
      obtain ⟨a, ys, m, rfl, h3, h4⟩ := hx1.list_inv
      have hi := h4.ints hn
      refine set_call (s := { s with heap := h1, toks := tk1 }) hA.handled ⟨_, g1.sub _ _ h3, rfl, _, rfl⟩ (by simpa using hi) h32 (by simpa using hc.1) fun h2 tk2 es ep t S hk2 => ?_
      refine spliced_nil ?_
      have hp := S.perm
      have hsz : (ordOf C.w h1.objs.size ep es).size < 64 := by
        rw [ord_size, S.size]
        have h1 : ∀ (l a : List Int), (l.foldl step_dedup a).length ≤ a.length + l.length := by
          intro l
          induction l with
          | nil => intro a; simp
          | cons x l ih => intro a; have := ih (step_dedup a x); have h2 := step_length a x; simp only [List.foldl_cons, List.length_cons]; split at h2 <;> omega
        have h2 := h1 (ms.map Int.ofNat) []
        have h3 := hc.1
        simp only [List.length_nil] at h2
        omega
      refine sorted_src (s := { s with heap := h2, toks := tk2 }) (set_src (prog := C.prog) (D := dedup (ms.map Int.ofNat)) (t := t)) hA.handled S (by rw [← ord_size (w := C.w) (a := h1.objs.size) (ep := ep) (es := es)]; exact hsz) (fun i => (((ordOf C.w h1.objs.size ep es)[i]?).map (·.1)).getD 0) (fun i v hv => ?_) fun h' tk DD zs mm hk hD0 hoD hI => ?_
      · obtain ⟨e1, q1, rfl⟩ := hv
        have hm1 : e1 ∈ es.toList := (ord_perm.mem_iff).mp (Array.mem_toList_iff.mpr (Array.mem_of_getElem? q1))
        obtain ⟨kk, _, uu, rfl⟩ := S.vals e1 hm1
        exact ⟨uu, by rw [q1]; rfl⟩
      · have e2 : ((List.range es.size).map fun i => (((ordOf C.w h1.objs.size ep es)[i]?).map (·.1)).getD 0) = (ordOf C.w h1.objs.size ep es).toList.map (·.1) := by
          refine List.ext_getElem? fun i => ?_
          have ho := ord_size (w := C.w) (a := h1.objs.size) (ep := ep) (es := es)
          by_cases hi : i < es.size
          · simp [hi, ho]
          · simp [hi, ho]
        rw [e2] at hI
        have e3 : isort ((ordOf C.w h1.objs.size ep es).toList.map (·.1)) = isort (dedup (ms.map Int.ofNat)) :=
          isort_eq ((isort_perm _).trans ((ord_perm.map _).trans hp)) (isort_sorted _)
        rw [e3] at hI
        have hk1 : ∀ b o, h1.get? b = some o → h'.get? b = some o := fun b o e => hk b o (hk2 b o e)
        have hPD : P1 DD = none := by
          cases hq : P1 DD with
          | none => rfl
          | some o =>
            have := hk2 _ _ (g1.sub _ _ hq)
            rw [this] at hD0; cases hD0
        have hsD : s.heap.get? DD = none := by
          cases hq : s.heap.get? DD with
          | none => rfl
          | some o =>
            have := hk2 _ _ (g1.keep _ _ hq)
            rw [this] at hD0; cases hD0
        exact KF.of k P1 h' tk DD zs mm (g1.trans (Grow.of_keep g1.sub hk1)) hPD hsD hoD (VRs.of_ints hI)
    · cases hf
  · cases hf
end
end Lw

namespace Lw
open PySem PySem.Calls PyProof.Rows
set_option maxRecDepth 100000
set_option maxHeartbeats 4000000

/-! ISTERMINAL -/
noncomputable def nm_ISTERMINAL : List Str := [Str.ofString "x"]
noncomputable def pn_ISTERMINAL : List Str := [Str.ofString "x"]
noncomputable def e_ISTERMINAL : { f : St → Option (St × Fl) // ∀ (C : Cx) (lv : Nat) (G : Globs C) (h_NT_OFFSET : ∃ t, C.glob (Str.ofString "NT_OFFSET") (.int 256 t)), DS C (scopeN PySem.Challenge.pw_sw0007_03 0) nm_ISTERMINAL lv (bodyN PySem.Challenge.pw_sw0007_03 0) f } := ⟨_, fun C lv G h_NT_OFFSET =>
  (DS_cons (DX_ret (DE_cmp (DE_var 0 rfl (by decide +kernel)) (DE_globE h_NT_OFFSET (by decide +kernel) (by decide +kernel)) rfl))
   DS_nil)⟩
noncomputable def g_ISTERMINAL : List V → Option V := specOf pn_ISTERMINAL nm_ISTERMINAL e_ISTERMINAL.1

/-! ISNONTERMINAL -/
noncomputable def nm_ISNONTERMINAL : List Str := [Str.ofString "x"]
noncomputable def pn_ISNONTERMINAL : List Str := [Str.ofString "x"]
noncomputable def e_ISNONTERMINAL : { f : St → Option (St × Fl) // ∀ (C : Cx) (lv : Nat) (G : Globs C) (h_NT_OFFSET : ∃ t, C.glob (Str.ofString "NT_OFFSET") (.int 256 t)), DS C (scopeN PySem.Challenge.pw_sw0007_03 1) nm_ISNONTERMINAL lv (bodyN PySem.Challenge.pw_sw0007_03 1) f } := ⟨_, fun C lv G h_NT_OFFSET =>
  (DS_cons (DX_ret (DE_cmp (DE_var 0 rfl (by decide +kernel)) (DE_globE h_NT_OFFSET (by decide +kernel) (by decide +kernel)) rfl))
   DS_nil)⟩
noncomputable def g_ISNONTERMINAL : List V → Option V := specOf pn_ISNONTERMINAL nm_ISNONTERMINAL e_ISNONTERMINAL.1

/-! ISEOF -/
noncomputable def nm_ISEOF : List Str := [Str.ofString "x"]
noncomputable def pn_ISEOF : List Str := [Str.ofString "x"]
noncomputable def e_ISEOF : { f : St → Option (St × Fl) // ∀ (C : Cx) (lv : Nat) (G : Globs C) (h_ENDMARKER : ∃ t, C.glob (Str.ofString "ENDMARKER") (.int 0 t)), DS C (scopeN PySem.Challenge.pw_sw0007_03 2) nm_ISEOF lv (bodyN PySem.Challenge.pw_sw0007_03 2) f } := ⟨_, fun C lv G h_ENDMARKER =>
  (DS_cons (DX_ret (DE_cmp (DE_var 0 rfl (by decide +kernel)) (DE_globE h_ENDMARKER (by decide +kernel) (by decide +kernel)) rfl))
   DS_nil)⟩
noncomputable def g_ISEOF : List V → Option V := specOf pn_ISEOF nm_ISEOF e_ISEOF.1

/-! Int2AP -/
noncomputable def nm_Int2AP : List Str := [Str.ofString "num", Str.ofString "val", Str.ofString "AP", Str.ofString "mod"]
noncomputable def pn_Int2AP : List Str := [Str.ofString "num"]
noncomputable def e_Int2AP : { f : St → Option (St × Fl) // ∀ (C : Cx) (lv : Nat) (G : Globs C) , DS C (scopeN PySem.Challenge.pw_sw0007_03 3) nm_Int2AP lv (bodyN PySem.Challenge.pw_sw0007_03 3) f } := ⟨_, fun C lv G =>
  (DS_cons (DX_assign 1 rfl DE_bytes (fun _ _ => rfl))
   (DS_cons (DX_assign 2 rfl DE_bytes (fun _ _ => rfl))
    (DS_cons (DX_assign 0 rfl (DE_call G.int (by decide +kernel) (by decide +kernel) trivial (by simp) (DEs_cons (DE_call G.abs (by decide +kernel) (by decide +kernel) trivial (by simp) (DEs_cons (DE_var 0 rfl (by decide +kernel)) DEs_nil rfl) abs_ok) DEs_nil rfl) int_ok) (fun _ _ => rfl))
     (DS_cons (DX_while 60 (DT_val (DE_var 0 rfl (by decide +kernel)) (fun _ _ => rfl))
       (DS_cons (DX_divmod 0 3 rfl rfl G.divmod (by decide +kernel) (DE_var 0 rfl (by decide +kernel)) DE_int rfl rfl)
        (DS_cons (DX_assign 1 rfl (DE_bin (add_ok C) (DE_sliceB (DE_var 2 rfl (by decide +kernel)) (DP_some (DE_var 3 rfl (by decide +kernel))) (DP_some (DE_bin (add_ok C) (DE_var 3 rfl (by decide +kernel)) DE_int))) (DE_var 1 rfl (by decide +kernel))) (fun _ _ => rfl))
         DS_nil)))
      (DS_cons (DX_ret (DE_var 1 rfl (by decide +kernel)))
       DS_nil)))))⟩
noncomputable def g_Int2AP : List V → Option V := specOf pn_Int2AP nm_Int2AP e_Int2AP.1

/-! _substitution_cost -/
noncomputable def nm_substitution_cost : List Str := [Str.ofString "ch_a", Str.ofString "ch_b"]
noncomputable def pn_substitution_cost : List Str := [Str.ofString "ch_a", Str.ofString "ch_b"]
noncomputable def e_substitution_cost : { f : St → Option (St × Fl) // ∀ (C : Cx) (lv : Nat) (G : Globs C) (h_CASE_COST : ∃ t, C.glob (Str.ofString "_CASE_COST") (.int 1 t)) (h_MOVE_COST : ∃ t, C.glob (Str.ofString "_MOVE_COST") (.int 2 t)), DS C (scopeN PySem.Challenge.pw_sw0007_03 4) nm_substitution_cost lv (bodyN PySem.Challenge.pw_sw0007_03 4) f } := ⟨_, fun C lv G h_CASE_COST h_MOVE_COST =>
  (DS_cons (DX_if (DT_cmp (DE_var 0 rfl (by decide +kernel)) (DE_var 1 rfl (by decide +kernel)) rfl)
    (DS_cons (DX_ret DE_int)
     DS_nil)
    DS_nil)
   (DS_cons (DX_if (DT_cmp (DE_method0 ofStr (fun _ => rfl) rfl F.plainAttrs_str F.slot_str_lower F.type_str_lower (DE_var 0 rfl (by decide +kernel)) lower_ok) (DE_method0 ofStr (fun _ => rfl) rfl F.plainAttrs_str F.slot_str_lower F.type_str_lower (DE_var 1 rfl (by decide +kernel)) lower_ok) rfl)
     (DS_cons (DX_ret (DE_globE h_CASE_COST (by decide +kernel) (by decide +kernel)))
      DS_nil)
     DS_nil)
    (DS_cons (DX_ret (DE_globE h_MOVE_COST (by decide +kernel) (by decide +kernel)))
     DS_nil)))⟩
noncomputable def g_substitution_cost : List V → Option V := specOf pn_substitution_cost nm_substitution_cost e_substitution_cost.1

/-! _levenshtein_distance -/
noncomputable def nm_levenshtein_distance : List Str := [Str.ofString "a", Str.ofString "b", Str.ofString "max_cost", Str.ofString "pre", Str.ofString "post", Str.ofString "row", Str.ofString "result", Str.ofString "bindex", Str.ofString "bchar", Str.ofString "distance", Str.ofString "minimum", Str.ofString "index", Str.ofString "substitute", Str.ofString "insert_delete"]
noncomputable def pn_levenshtein_distance : List Str := [Str.ofString "a", Str.ofString "b", Str.ofString "max_cost"]
noncomputable def e_levenshtein_distance : { f : St → Option (St × Fl) // ∀ (C : Cx) (lv : Nat) (G : Globs C) (h_MOVE_COST : ∃ t, C.glob (Str.ofString "_MOVE_COST") (.int 2 t)) (h_MAX_STRING_SIZE : ∃ t, C.glob (Str.ofString "_MAX_STRING_SIZE") (.int 40 t)) (h_substitution_cost : Fun C lv (Str.ofString "_substitution_cost") g_substitution_cost), DS C (scopeN PySem.Challenge.pw_sw0007_03 5) nm_levenshtein_distance lv (bodyN PySem.Challenge.pw_sw0007_03 5) f } := ⟨_, fun C lv G h_MOVE_COST h_MAX_STRING_SIZE h_substitution_cost =>
  (DS_cons (DX_if (DT_cmp (DE_var 0 rfl (by decide +kernel)) (DE_var 1 rfl (by decide +kernel)) rfl)
    (DS_cons (DX_ret DE_int)
     DS_nil)
    DS_nil)
   (DS_cons (DX_assign 3 rfl DE_int (fun _ _ => rfl))
    (DS_cons (DX_while 60 (DT_bool (DTs_and (DT_val (DE_sliceS (DE_var 0 rfl (by decide +kernel)) (DP_some (DE_var 3 rfl (by decide +kernel))) DP_none) (fun _ _ => rfl)) (DTs_and (DT_val (DE_sliceS (DE_var 1 rfl (by decide +kernel)) (DP_some (DE_var 3 rfl (by decide +kernel))) DP_none) (fun _ _ => rfl)) (DTs_and (DT_cmp (DE_idxS (DE_var 0 rfl (by decide +kernel)) (DE_var 3 rfl (by decide +kernel))) (DE_idxS (DE_var 1 rfl (by decide +kernel)) (DE_var 3 rfl (by decide +kernel))) rfl) DTs_nil))))
      (DS_cons (DX_aug 3 rfl DE_int aug_add)
       DS_nil))
     (DS_cons (DX_assign 0 rfl (DE_sliceS (DE_var 0 rfl (by decide +kernel)) (DP_some (DE_var 3 rfl (by decide +kernel))) DP_none) (fun _ _ => rfl))
      (DS_cons (DX_assign 1 rfl (DE_sliceS (DE_var 1 rfl (by decide +kernel)) (DP_some (DE_var 3 rfl (by decide +kernel))) DP_none) (fun _ _ => rfl))
       (DS_cons (DX_assign 4 rfl DE_int (fun _ _ => rfl))
        (DS_cons (DX_while 60 (DT_bool (DTs_and (DT_val (DE_sliceS (DE_var 0 rfl (by decide +kernel)) DP_none (DP_some (DE_or2 (DE_var 4 rfl (by decide +kernel)) DE_none))) (fun _ _ => rfl)) (DTs_and (DT_val (DE_sliceS (DE_var 1 rfl (by decide +kernel)) DP_none (DP_some (DE_or2 (DE_var 4 rfl (by decide +kernel)) DE_none))) (fun _ _ => rfl)) (DTs_and (DT_cmp (DE_idxS (DE_var 0 rfl (by decide +kernel)) (DE_bin (sub_ok C) (DE_var 4 rfl (by decide +kernel)) DE_int)) (DE_idxS (DE_var 1 rfl (by decide +kernel)) (DE_bin (sub_ok C) (DE_var 4 rfl (by decide +kernel)) DE_int)) rfl) DTs_nil))))
          (DS_cons (DX_aug 4 rfl DE_int aug_sub)
           DS_nil))
         (DS_cons (DX_assign 0 rfl (DE_sliceS (DE_var 0 rfl (by decide +kernel)) DP_none (DP_some (DE_or2 (DE_var 4 rfl (by decide +kernel)) DE_none))) (fun _ _ => rfl))
          (DS_cons (DX_assign 1 rfl (DE_sliceS (DE_var 1 rfl (by decide +kernel)) DP_none (DP_some (DE_or2 (DE_var 4 rfl (by decide +kernel)) DE_none))) (fun _ _ => rfl))
           (DS_cons (DX_if (DT_bool (DTs_or (DT_not (DT_val (DE_var 0 rfl (by decide +kernel)) (fun _ _ => rfl))) (DTs_or (DT_not (DT_val (DE_var 1 rfl (by decide +kernel)) (fun _ _ => rfl))) DTs_nil)))
             (DS_cons (DX_ret (DE_bin (mul_ok C) (DE_globE h_MOVE_COST (by decide +kernel) (by decide +kernel)) (DE_bin (add_ok C) (DE_call G.len (by decide +kernel) (by decide +kernel) trivial (by simp) (DEs_cons (DE_var 0 rfl (by decide +kernel)) DEs_nil rfl) len_ok) (DE_call G.len (by decide +kernel) (by decide +kernel) trivial (by simp) (DEs_cons (DE_var 1 rfl (by decide +kernel)) DEs_nil rfl) len_ok))))
              DS_nil)
             DS_nil)
            (DS_cons (DX_if (DT_bool (DTs_or (DT_cmp (DE_call G.len (by decide +kernel) (by decide +kernel) trivial (by simp) (DEs_cons (DE_var 0 rfl (by decide +kernel)) DEs_nil rfl) len_ok) (DE_globE h_MAX_STRING_SIZE (by decide +kernel) (by decide +kernel)) rfl) (DTs_or (DT_cmp (DE_call G.len (by decide +kernel) (by decide +kernel) trivial (by simp) (DEs_cons (DE_var 1 rfl (by decide +kernel)) DEs_nil rfl) len_ok) (DE_globE h_MAX_STRING_SIZE (by decide +kernel) (by decide +kernel)) rfl) DTs_nil)))
              (DS_cons (DX_ret (DE_bin (add_ok C) (DE_var 2 rfl (by decide +kernel)) DE_int))
               DS_nil)
              DS_nil)
             (DS_cons (DX_if (DT_cmp (DE_call G.len (by decide +kernel) (by decide +kernel) trivial (by simp) (DEs_cons (DE_var 1 rfl (by decide +kernel)) DEs_nil rfl) len_ok) (DE_call G.len (by decide +kernel) (by decide +kernel) trivial (by simp) (DEs_cons (DE_var 0 rfl (by decide +kernel)) DEs_nil rfl) len_ok) rfl)
               (DS_cons (DX_swap 0 1 rfl rfl (by decide +kernel) (by decide +kernel) (stores_eq rfl (by decide +kernel) (by decide +kernel) rfl (by decide +kernel) (by decide +kernel)))
                DS_nil)
               DS_nil)
              (DS_cons (DX_if (DT_cmp (DE_bin (mul_ok C) (DE_bin (sub_ok C) (DE_call G.len (by decide +kernel) (by decide +kernel) trivial (by simp) (DEs_cons (DE_var 1 rfl (by decide +kernel)) DEs_nil rfl) len_ok) (DE_call G.len (by decide +kernel) (by decide +kernel) trivial (by simp) (DEs_cons (DE_var 0 rfl (by decide +kernel)) DEs_nil rfl) len_ok)) (DE_globE h_MOVE_COST (by decide +kernel) (by decide +kernel))) (DE_var 2 rfl (by decide +kernel)) rfl)
                (DS_cons (DX_ret (DE_bin (add_ok C) (DE_var 2 rfl (by decide +kernel)) DE_int))
                 DS_nil)
                DS_nil)
               (DS_cons (DX_assignL 5 rfl (DF_listRange G.list G.range (by decide +kernel) (by decide +kernel) (by simp) (DEs_cons (DE_globE h_MOVE_COST (by decide +kernel) (by decide +kernel)) (DEs_cons (DE_bin (mul_ok C) (DE_globE h_MOVE_COST (by decide +kernel) (by decide +kernel)) (DE_bin (add_ok C) (DE_call G.len (by decide +kernel) (by decide +kernel) trivial (by simp) (DEs_cons (DE_var 0 rfl (by decide +kernel)) DEs_nil rfl) len_ok) DE_int)) (DEs_cons (DE_globE h_MOVE_COST (by decide +kernel) (by decide +kernel)) DEs_nil rfl) rfl) rfl)) (fun _ _ => rfl))
                (DS_cons (DX_assign 6 rfl DE_int (fun _ _ => rfl))
                 (DS_cons (DX_for (fun _ _ => rfl) (DI_range G.range (by decide +kernel) (by simp) (DEs_cons (DE_call G.len (by decide +kernel) (by decide +kernel) trivial (by simp) (DEs_cons (DE_var 1 rfl (by decide +kernel)) DEs_nil rfl) len_ok) DEs_nil rfl)) (DTg_name 7 rfl)
                   (DS_cons (DX_assign 8 rfl (DE_idxS (DE_var 1 rfl (by decide +kernel)) (DE_var 7 rfl (by decide +kernel))) (fun _ _ => rfl))
                    (DS_cons (DX_assign2 9 6 rfl rfl (DE_bin (mul_ok C) (DE_var 7 rfl (by decide +kernel)) (DE_globE h_MOVE_COST (by decide +kernel) (by decide +kernel))) (fun _ => rfl))
                     (DS_cons (DX_assign 10 rfl DE_int (fun _ _ => rfl))
                      (DS_cons (DX_for (fun _ _ => rfl) (DI_range G.range (by decide +kernel) (by simp) (DEs_cons (DE_call G.len (by decide +kernel) (by decide +kernel) trivial (by simp) (DEs_cons (DE_var 0 rfl (by decide +kernel)) DEs_nil rfl) len_ok) DEs_nil rfl)) (DTg_name 11 rfl)
                        (DS_cons (DX_assign 12 rfl (DE_bin (add_ok C) (DE_var 9 rfl (by decide +kernel)) (DE_user h_substitution_cost (by decide +kernel) (by decide +kernel) (by simp) (DEs_cons (DE_var 8 rfl (by decide +kernel)) (DEs_cons (DE_idxS (DE_var 0 rfl (by decide +kernel)) (DE_var 11 rfl (by decide +kernel))) DEs_nil rfl) rfl))) (fun _ _ => rfl))
                         (DS_cons (DX_assign 9 rfl (DE_idxB (DB_own 5 rfl (by decide +kernel)) (DE_var 11 rfl (by decide +kernel))) (fun _ _ => rfl))
                          (DS_cons (DX_assign 13 rfl (DE_bin (add_ok C) (DE_call G.min (by decide +kernel) (by decide +kernel) trivial (by simp) (DEs_cons (DE_var 6 rfl (by decide +kernel)) (DEs_cons (DE_var 9 rfl (by decide +kernel)) DEs_nil rfl) rfl) min_ok) (DE_globE h_MOVE_COST (by decide +kernel) (by decide +kernel))) (fun _ _ => rfl))
                           (DS_cons (DX_assign 6 rfl (DE_call G.min (by decide +kernel) (by decide +kernel) trivial (by simp) (DEs_cons (DE_var 13 rfl (by decide +kernel)) (DEs_cons (DE_var 12 rfl (by decide +kernel)) DEs_nil rfl) rfl) min_ok) (fun _ _ => rfl))
                            (DS_cons (DX_setL 5 rfl (by decide +kernel) (DE_var 6 rfl (by decide +kernel)) (DE_var 11 rfl (by decide +kernel)) (fun _ => rfl))
                             (DS_cons (DX_if (DT_cmp (DE_var 6 rfl (by decide +kernel)) (DE_var 10 rfl (by decide +kernel)) rfl)
                               (DS_cons (DX_assign 10 rfl (DE_var 6 rfl (by decide +kernel)) (fun _ _ => rfl))
                                DS_nil)
                               DS_nil)
                              DS_nil)))))))
                       (DS_cons (DX_if (DT_cmp (DE_var 10 rfl (by decide +kernel)) (DE_var 2 rfl (by decide +kernel)) rfl)
                         (DS_cons (DX_ret (DE_bin (add_ok C) (DE_var 2 rfl (by decide +kernel)) DE_int))
                          DS_nil)
                         DS_nil)
                        DS_nil))))))
                  (DS_cons (DX_ret (DE_var 6 rfl (by decide +kernel)))
                   DS_nil)))))))))))))))))⟩
noncomputable def g_levenshtein_distance : List V → Option V := specOf pn_levenshtein_distance nm_levenshtein_distance e_levenshtein_distance.1

/-! _law_letters -/
noncomputable def nm_law_letters : List Str := [Str.ofString "number", Str.ofString "text"]
noncomputable def pn_law_letters : List Str := [Str.ofString "number"]
noncomputable def e_law_letters : { f : St → Option (St × Fl) // ∀ (C : Cx) (lv : Nat) (G : Globs C) , DS C (scopeN PySem.Challenge.pw_sw0007_03 6) nm_law_letters lv (bodyN PySem.Challenge.pw_sw0007_03 6) f } := ⟨_, fun C lv G =>
  (DS_cons (DX_assign 1 rfl (DE_str [] (by decide +kernel)) (fun _ _ => rfl))
   (DS_cons (DX_while 60 (DT_cmp (DE_var 0 rfl (by decide +kernel)) DE_int rfl)
     (DS_cons (DX_assign 1 rfl (DE_bin (add_ok C) (DE_call G.chr (by decide +kernel) (by decide +kernel) trivial (by simp) (DEs_cons (DE_bin (add_ok C) DE_int (DE_bin (mod_ok C) (DE_var 0 rfl (by decide +kernel)) DE_int)) DEs_nil rfl) chr_ok) (DE_var 1 rfl (by decide +kernel))) (fun _ _ => rfl))
      (DS_cons (DX_assign 0 rfl (DE_bin (fdiv_ok C) (DE_var 0 rfl (by decide +kernel)) DE_int) (fun _ _ => rfl))
       DS_nil)))
    (DS_cons (DX_ret (DE_var 1 rfl (by decide +kernel)))
     DS_nil)))⟩
noncomputable def g_law_letters : List V → Option V := specOf pn_law_letters nm_law_letters e_law_letters.1

/-! _law_worths -/
noncomputable def nm_law_worths : List Str := [Str.ofString "line", Str.ofString "texts", Str.ofString "worths", Str.ofString "k", Str.ofString "reached", Str.ofString "word", Str.ofString "worth"]
noncomputable def pn_law_worths : List Str := [Str.ofString "line"]
noncomputable def e_law_worths : { f : St → Option (St × Fl) // ∀ (C : Cx) (lv : Nat) (G : Globs C) (h_law_letters : Fun C lv (Str.ofString "_law_letters") g_law_letters) (h_ISNONTERMINAL : Fun C lv (Str.ofString "ISNONTERMINAL") g_ISNONTERMINAL) (h_Int2AP : Fun C lv (Str.ofString "Int2AP") g_Int2AP) (h_levenshtein_distance : Fun C lv (Str.ofString "_levenshtein_distance") g_levenshtein_distance), DS C (scopeN PySem.Challenge.pw_sw0007_03 7) nm_law_worths lv (bodyN PySem.Challenge.pw_sw0007_03 7) f } := ⟨_, fun C lv G h_law_letters h_ISNONTERMINAL h_Int2AP h_levenshtein_distance =>
  (DS_cons (DX_assign 1 rfl (DF.toE (DF_comp (cap := [false, false, false, false, false, false, false]) ⟨(by decide +kernel), (by decide +kernel), (by decide +kernel), (by decide +kernel), rfl, (by decide +kernel), (by decide +kernel)⟩ (fun _ _ => rfl) rule_one (DI_of (DE_var 0 rfl (by decide +kernel))) DIfs_nil (DY_last (by decide +kernel) (DE_user h_law_letters (by decide +kernel) (by decide +kernel) (by simp) (DEs_cons (DE_var 0 rfl (by decide +kernel)) DEs_nil rfl))))) (swaps_eq false rfl (by decide +kernel)))
   (DS_cons (DX_assignL 2 rfl (DF_list DEs_nil) (fun _ _ => rfl))
    (DS_cons (DX_for (fun _ _ => rfl) (DI_range G.range (by decide +kernel) (by simp) (DEs_cons (DE_call G.len (by decide +kernel) (by decide +kernel) trivial (by simp) (DEs_cons (DE_var 0 rfl (by decide +kernel)) DEs_nil rfl) len_ok) DEs_nil rfl)) (DTg_name 3 rfl)
      (DS_cons (DX_assign 4 rfl (DF.toE (DF_list DEs_nil)) (fun _ _ => rfl))
       (DS_cons (DX_if (DT_val (DE_user h_ISNONTERMINAL (by decide +kernel) (by decide +kernel) (by simp) (DEs_cons (DE_idxB (DB_of (DE_var 0 rfl (by decide +kernel))) (DE_var 3 rfl (by decide +kernel))) DEs_nil rfl)) (fun _ _ => rfl))
         (DS_cons (DX_assign 5 rfl (DE_method ofBytes (fun _ => rfl) (fun _ => rfl) rfl PySem.W.FB.plainAttrs_bytes PySem.W.FB.slot_bytes_decode PySem.W.FB.type_bytes_decode (by simp) (DE_user h_Int2AP (by decide +kernel) (by decide +kernel) (by simp) (DEs_cons (DE_bin (mul_ok C) (DE_idxB (DB_of (DE_var 0 rfl (by decide +kernel))) (DE_var 3 rfl (by decide +kernel))) (DE_bin (sub_ok C) DE_int (DE_bin (mul_ok C) DE_int (DE_bin (mod_ok C) (DE_idxB (DB_of (DE_var 0 rfl (by decide +kernel))) (DE_var 3 rfl (by decide +kernel))) DE_int)))) DEs_nil rfl)) (DEs_cons (DE_str [97, 115, 99, 105, 105] (by decide +kernel)) DEs_nil rfl) decode_ok) (fun _ _ => rfl))
          (DS_cons (DX_assignC (cap := [false, true, true, false, false, true, false]) 4 rfl ⟨(by decide +kernel), (by decide +kernel), (by decide +kernel), (by decide +kernel), rfl, (by decide +kernel), (by decide +kernel)⟩ (fun _ _ => rfl) rule_one (swaps_eq true rfl (by decide +kernel)) (DI_range G.range (by decide +kernel) (by simp) (DEs_cons (DE_var 3 rfl (by decide +kernel)) DEs_nil rfl)) (DIfs_one (DT_cmp (DE_user h_levenshtein_distance (by decide +kernel) (by decide +kernel) (by simp) (DEs_cons (DE_idxB (DB_of (DE_var 2 rfl (by decide +kernel))) (DE_var 0 rfl (by decide +kernel))) (DEs_cons (DE_var 6 rfl (by decide +kernel)) (DEs_cons DE_int DEs_nil rfl) rfl) rfl)) DE_int rfl)) (DY_last (by decide +kernel) (DE_idxB (DB_own 3 rfl (by decide +kernel)) (DE_var 0 rfl (by decide +kernel)))))
          (DS_freeze 4 (Str.ofString "reached") rfl
           DS_nil)))
         DS_nil)
        (DS_cons (DX_assign 6 rfl DE_int (fun _ _ => rfl))
         (DS_cons (DX_while 60 (DT_cmp (DE_var 6 rfl (by decide +kernel)) (DE_var 4 rfl (by decide +kernel)) rfl)
           (DS_cons (DX_aug 6 rfl DE_int aug_add)
            DS_nil))
          (DS_cons (DX_append 2 rfl (by decide +kernel) (DE_var 6 rfl (by decide +kernel)) rfl rfl)
           DS_nil))))))
     (DS_freeze 2 (Str.ofString "worths") rfl
     (DS_cons (DX_ret (DE_var 2 rfl (by decide +kernel)))
      DS_nil)))))⟩
noncomputable def g_law_worths : List V → Option V := specOf pn_law_worths nm_law_worths e_law_worths.1

/-! _law_told -/
noncomputable def nm_law_told : List Str := [Str.ofString "head", Str.ofString "middle", Str.ofString "last", Str.ofString "told", Str.ofString "figure", Str.ofString "i", Str.ofString "j"]
noncomputable def pn_law_told : List Str := [Str.ofString "head", Str.ofString "middle", Str.ofString "last"]
noncomputable def e_law_told : { f : St → Option (St × Fl) // ∀ (C : Cx) (lv : Nat) (G : Globs C) , DS C (scopeN PySem.Challenge.pw_sw0007_03 8) nm_law_told lv (bodyN PySem.Challenge.pw_sw0007_03 8) f } := ⟨_, fun C lv G =>
  (DS_cons (DX_newD 3 rfl)
   (DS_cons (DX_for (fun _ _ => rfl) (DI_of (DE_bin (add_ok C) (DE_var 1 rfl (by decide +kernel)) (DE_var 2 rfl (by decide +kernel)))) (DTg_name 4 rfl)
     (DS_cons (DX_setD 3 rfl (by decide +kernel) DE_int (DE_bin (add_ok C) (DE_bin (mul_ok C) DE_int (DE_var 0 rfl (by decide +kernel))) (DE_var 4 rfl (by decide +kernel))) (fun _ => rfl))
      DS_nil))
    (DS_cons (DX_for (fun _ _ => rfl) (DI_range G.range (by decide +kernel) (by simp) (DEs_cons (DE_call G.len (by decide +kernel) (by decide +kernel) trivial (by simp) (DEs_cons (DE_var 1 rfl (by decide +kernel)) DEs_nil rfl) len_ok) DEs_nil rfl)) (DTg_name 5 rfl)
      (DS_cons (DX_for (fun _ _ => rfl) (DI_range G.range (by decide +kernel) (by simp) (DEs_cons (DE_call G.len (by decide +kernel) (by decide +kernel) trivial (by simp) (DEs_cons (DE_var 2 rfl (by decide +kernel)) DEs_nil rfl) len_ok) DEs_nil rfl)) (DTg_name 6 rfl)
        (DS_cons (DX_setD 3 rfl (by decide +kernel) (DE_bin (add_ok C) DE_int (DE_bin (xor_ok C) (DE_var 5 rfl (by decide +kernel)) (DE_var 6 rfl (by decide +kernel)))) (DE_bin (add_ok C) (DE_bin (add_ok C) (DE_bin (mul_ok C) DE_int (DE_var 0 rfl (by decide +kernel))) (DE_bin (mul_ok C) DE_int (DE_idxB (DB_of (DE_var 1 rfl (by decide +kernel))) (DE_var 5 rfl (by decide +kernel))))) (DE_idxB (DB_of (DE_var 2 rfl (by decide +kernel))) (DE_var 6 rfl (by decide +kernel)))) (fun _ => rfl))
         DS_nil))
       DS_nil))
     (DS_freeze 3 (Str.ofString "told") rfl
     (DS_cons (DX_ret (DE_var 3 rfl (by decide +kernel)))
      DS_nil)))))⟩
noncomputable def g_law_told : List V → Option V := specOf pn_law_told nm_law_told e_law_told.1

/-! law -/
noncomputable def nm_law : List Str := [Str.ofString "script", Str.ofString "first", Str.ofString "cells", Str.ofString "middle", Str.ofString "last", Str.ofString "told", Str.ofString "line", Str.ofString "worths"]
noncomputable def pn_law : List Str := [Str.ofString "script"]
noncomputable def e_law : { f : St → Option (St × Fl) // ∀ (C : Cx) (lv : Nat) (G : Globs C) (h_law_told : Fun C lv (Str.ofString "_law_told") g_law_told) (h_law_worths : Fun C lv (Str.ofString "_law_worths") g_law_worths) (h_ISEOF : Fun C lv (Str.ofString "ISEOF") g_ISEOF) (h_ISTERMINAL : Fun C lv (Str.ofString "ISTERMINAL") g_ISTERMINAL), DS C (scopeN PySem.Challenge.pw_sw0007_03 9) nm_law lv (bodyN PySem.Challenge.pw_sw0007_03 9) f } := ⟨_, fun C lv G h_law_told h_law_worths h_ISEOF h_ISTERMINAL =>
  (DS_cons (DX_assign 1 rfl (DF.toE (DF_list (DEs_cons DE_int (DEs_cons DE_int (DEs_cons DE_int (DEs_cons DE_int (DEs_cons DE_int (DEs_cons DE_int (DEs_cons DE_int DEs_nil rfl) rfl) rfl) rfl) rfl) rfl) rfl))) (fun _ _ => rfl))
   (DS_cons (DX_assignC (cap := [true, true, false, false, false, false, false, false]) 2 rfl ⟨(by decide +kernel), (by decide +kernel), (by decide +kernel), (by decide +kernel), rfl, (by decide +kernel), (by decide +kernel)⟩ (fun _ _ => rfl) rule_one (swaps_eq true rfl (by decide +kernel)) (DI_range G.range (by decide +kernel) (by simp) (DEs_cons DE_int DEs_nil rfl)) DIfs_nil (DY_last (by decide +kernel) (DE_bin (add_ok C) (DE_idxB (DB_of (DE_var 2 rfl (by decide +kernel))) (DE_var 0 rfl (by decide +kernel))) (DE_call G.sum (by decide +kernel) (by decide +kernel) trivial (by simp) (DEs_cons (DF.toE (DF_slice (DB_of (DF.toE (DF_slice (DB_of (DE_var 1 rfl (by decide +kernel))) DP_none (DP_some DE_int) DP_none))) (DP_some (DE_var 0 rfl (by decide +kernel))) DP_none (DP_some DE_int))) DEs_nil rfl) sum_ok))))
   (DS_freeze 2 (Str.ofString "cells") rfl
    (DS_cons (DX_assign 3 rfl (DE_sortedSet G.sorted G.set (by decide +kernel) (by decide +kernel) (DF.toE (DF_comp (cap := [false, false, false, false, false, false, false, false]) ⟨(by decide +kernel), (by decide +kernel), (by decide +kernel), (by decide +kernel), rfl, (by decide +kernel), (by decide +kernel)⟩ (fun _ _ => rfl) rule_one (DI_of (DF.toE (DF_slice (DB_of (DE_var 2 rfl (by decide +kernel))) (DP_some DE_int) (DP_some DE_int) DP_none))) DIfs_nil (DY_last (by decide +kernel) (DE_bin (mod_ok C) (DE_var 0 rfl (by decide +kernel)) DE_int)))) rfl) (fun _ _ => rfl))
     (DS_cons (DX_assign 4 rfl (DE_sortedSet G.sorted G.set (by decide +kernel) (by decide +kernel) (DF.toE (DF_comp (cap := [false, false, false, false, false, false, false, false]) ⟨(by decide +kernel), (by decide +kernel), (by decide +kernel), (by decide +kernel), rfl, (by decide +kernel), (by decide +kernel)⟩ (fun _ _ => rfl) rule_one (DI_of (DF.toE (DF_slice (DB_of (DE_var 2 rfl (by decide +kernel))) (DP_some DE_int) DP_none DP_none))) DIfs_nil (DY_last (by decide +kernel) (DE_bin (mod_ok C) (DE_var 0 rfl (by decide +kernel)) DE_int)))) rfl) (fun _ _ => rfl))
      (DS_cons (DX_assign 5 rfl (DE_user h_law_told (by decide +kernel) (by decide +kernel) (by simp) (DEs_cons (DE_bin (add_ok C) DE_int (DE_bin (mod_ok C) (DE_idxB (DB_of (DE_var 2 rfl (by decide +kernel))) DE_int) DE_int)) (DEs_cons (DE_var 3 rfl (by decide +kernel)) (DEs_cons (DE_var 4 rfl (by decide +kernel)) DEs_nil rfl) rfl) rfl)) (fun _ _ => rfl))
       (DS_cons (DX_assign 6 rfl (DE_call G.sorted (by decide +kernel) (by decide +kernel) trivial (by simp) (DEs_cons (DE_var 5 rfl (by decide +kernel)) DEs_nil rfl) sorted_ok2) (fun _ _ => rfl))
        (DS_cons (DX_assign 7 rfl (DE_user h_law_worths (by decide +kernel) (by decide +kernel) (by simp) (DEs_cons (DE_var 6 rfl (by decide +kernel)) DEs_nil rfl)) (fun _ _ => rfl))
         (DS_cons (DX_if (DT_cmp (DF.toE (DF_comp (cap := [false, false, false, false, false, false, false, false]) ⟨(by decide +kernel), (by decide +kernel), (by decide +kernel), (by decide +kernel), rfl, (by decide +kernel), (by decide +kernel)⟩ (fun _ _ => rfl) rule_one (DI_of (DE_var 7 rfl (by decide +kernel))) DIfs_nil (DY_last (by decide +kernel) (DE_user h_ISEOF (by decide +kernel) (by decide +kernel) (by simp) (DEs_cons (DE_var 0 rfl (by decide +kernel)) DEs_nil rfl))))) (DF.toE (DF_comp (cap := [false, false, false, false, false, false, false, false]) ⟨(by decide +kernel), (by decide +kernel), (by decide +kernel), (by decide +kernel), rfl, (by decide +kernel), (by decide +kernel)⟩ (fun _ _ => rfl) rule_one (DI_of (DE_var 6 rfl (by decide +kernel))) DIfs_nil (DY_last (by decide +kernel) (DE_user h_ISTERMINAL (by decide +kernel) (by decide +kernel) (by simp) (DEs_cons (DE_var 0 rfl (by decide +kernel)) DEs_nil rfl))))) rfl)
           (DS_cons (DX_ret DE_bool)
            DS_nil)
           DS_nil)
          (DS_cons (DX_ret (DE_cmp (DE_var 7 rfl (by decide +kernel)) (DF.toE (DF_comp (cap := [false, false, false, false, false, true, false, false]) ⟨(by decide +kernel), (by decide +kernel), (by decide +kernel), (by decide +kernel), rfl, (by decide +kernel), (by decide +kernel)⟩ (fun _ _ => rfl) rule_one (DI_of (DE_var 6 rfl (by decide +kernel))) DIfs_nil (DY_last (by decide +kernel) (DE_idxD (DBD_of (DE_var 6 rfl (by decide +kernel))) (DE_var 0 rfl (by decide +kernel)))))) rfl))
           DS_nil))))))))))⟩
noncomputable def g_law : List V → Option V := specOf pn_law nm_law e_law.1

end Lw

namespace Lw
open PySem
set_option maxRecDepth 100000
noncomputable def lv_preT : St → Option Bool := (fun σ =>
          (((getF σ 0).bind fun x =>
                    ((getF σ 3).bind partV).bind fun lo => (some none).bind fun hi => cutSV x lo hi).bind
                truthyV).bind
            fun b =>
            if b = true then
              (((getF σ 1).bind fun x =>
                        ((getF σ 3).bind partV).bind fun lo => (some none).bind fun hi => cutSV x lo hi).bind
                    truthyV).bind
                fun b =>
                if b = true then
                  (((getF σ 0).bind fun x => (getF σ 3).bind fun v => idxSV x v).bind fun a =>
                        ((getF σ 1).bind fun x => (getF σ 3).bind fun v => idxSV x v).bind fun b =>
                          cmpV CmpOp.Eq a b).bind
                    fun b => if b = true then some (BoolOp.And == BoolOp.And) else some false
                else some false
            else some false)
noncomputable def lv_preB : St → Option (St × Fl) := (seqF
          (fun σ =>
            (getF σ 3).bind fun a =>
              (some (V.int 1)).bind fun b => Option.map (fun v => (setF 3 v σ, Fl.next)) (augV Operator.Add a b))
          fun σ => some (σ, Fl.next))
noncomputable def lv_postT : St → Option Bool := (fun σ =>
                  (((getF σ 0).bind fun x =>
                            (some none).bind fun lo =>
                              (((getF σ 4).bind fun a =>
                                        (truthyV a).bind fun c => if c = true then some a else some V.none).bind
                                    partV).bind
                                fun hi => cutSV x lo hi).bind
                        truthyV).bind
                    fun b =>
                    if b = true then
                      (((getF σ 1).bind fun x =>
                                (some none).bind fun lo =>
                                  (((getF σ 4).bind fun a =>
                                            (truthyV a).bind fun c => if c = true then some a else some V.none).bind
                                        partV).bind
                                    fun hi => cutSV x lo hi).bind
                            truthyV).bind
                        fun b =>
                        if b = true then
                          (((getF σ 0).bind fun x =>
                                    ((getF σ 4).bind fun a => (some (V.int 1)).bind fun b => subV a b).bind fun v =>
                                      idxSV x v).bind
                                fun a =>
                                ((getF σ 1).bind fun x =>
                                      ((getF σ 4).bind fun a => (some (V.int 1)).bind fun b => subV a b).bind fun v =>
                                        idxSV x v).bind
                                  fun b => cmpV CmpOp.Eq a b).bind
                            fun b => if b = true then some (BoolOp.And == BoolOp.And) else some false
                        else some false
                    else some false)
noncomputable def lv_postB : St → Option (St × Fl) := (seqF
                  (fun σ =>
                    (getF σ 4).bind fun a =>
                      (some (V.int 1)).bind fun b =>
                        Option.map (fun v => (setF 4 v σ, Fl.next)) (augV Operator.Sub a b))
                  fun σ => some (σ, Fl.next))
noncomputable def lv_i0 (G : List V → Option V) : St → Option (St × Fl) := fun σ =>
                                                        Option.map (fun v => (setF 12 v σ, Fl.next))
                                                          ((getF σ 9).bind fun a =>
                                                            (((getF σ 8).bind fun v =>
                                                                      Option.map (fun x => v :: x)
                                                                        (((getF σ 0).bind fun x =>
                                                                              (getF σ 11).bind fun v => idxSV x v).bind
                                                                          fun v =>
                                                                          Option.map (fun x => v :: x) (some []))).bind
                                                                  G).bind
                                                              fun b => addV a b)
noncomputable def lv_i1 : St → Option (St × Fl) := fun σ =>
                                                          Option.map (fun v => (setF 9 v σ, Fl.next))
                                                            ((getO σ 5).bind fun xs =>
                                                              (getF σ 11).bind fun v => idxLV xs v)
noncomputable def lv_i2 : St → Option (St × Fl) := fun σ =>
                                                            Option.map (fun v => (setF 13 v σ, Fl.next))
                                                              ((((getF σ 6).bind fun v =>
                                                                        Option.map (fun x => v :: x)
                                                                          ((getF σ 9).bind fun v =>
                                                                            Option.map (fun x => v :: x)
                                                                              (some []))).bind
                                                                    minV).bind
                                                                fun a => (some (V.int 2)).bind fun b => addV a b)
noncomputable def lv_i3 : St → Option (St × Fl) := fun σ =>
                                                              Option.map (fun v => (setF 6 v σ, Fl.next))
                                                                (((getF σ 13).bind fun v =>
                                                                      Option.map (fun x => v :: x)
                                                                        ((getF σ 12).bind fun v =>
                                                                          Option.map (fun x => v :: x) (some []))).bind
                                                                  minV)
noncomputable def lv_i4 : St → Option (St × Fl) := fun σ =>
                                                                (getF σ 6).bind fun v =>
                                                                  (getF σ 11).bind fun iv =>
                                                                    (getO σ 5).bind fun xs =>
                                                                      Option.map
                                                                        (fun ys =>
                                                                          (List.set σ 5 (some (Slot.ownL ys)), Fl.next))
                                                                        (setLV xs iv v)
noncomputable def lv_i5 : St → Option (St × Fl) := fun σ =>
                                                                  ((getF σ 6).bind fun a =>
                                                                        (getF σ 10).bind fun b =>
                                                                          cmpV CmpOp.Lt a b).bind
                                                                    fun c =>
                                                                    if c = true then
                                                                      seqF
                                                                        (fun σ =>
                                                                          Option.map (fun v => (setF 10 v σ, Fl.next))
                                                                            (getF σ 6))
                                                                        (fun σ => some (σ, Fl.next)) σ
                                                                    else some (σ, Fl.next)
noncomputable def lv_inner (G : List V → Option V) : St → Option (St × Fl) := (seqF (lv_i0 G) (seqF lv_i1 (seqF lv_i2 (seqF lv_i3 (seqF lv_i4 (seqF lv_i5 (fun σ => some (σ, Fl.next))))))))
noncomputable def lv_o0 : St → Option (St × Fl) := fun σ =>
                                          Option.map (fun v => (setF 8 v σ, Fl.next))
                                            ((getF σ 1).bind fun x => (getF σ 7).bind fun v => idxSV x v)
noncomputable def lv_o1 : St → Option (St × Fl) := fun σ =>
                                            Option.map (fun v => (setF 6 v (setF 9 v σ), Fl.next))
                                              ((getF σ 7).bind fun a => (some (V.int 2)).bind fun b => mulV a b)
noncomputable def lv_o2 : St → Option (St × Fl) := fun σ =>
                                              Option.map (fun v => (setF 10 v σ, Fl.next))
                                                (some (V.int 9223372036854775807))
noncomputable def lv_o3 (G : List V → Option V) : St → Option (St × Fl) := fun σ =>
                                                (((((getF σ 0).bind fun v =>
                                                                  Option.map (fun x => v :: x) (some [])).bind
                                                              lenV).bind
                                                          fun v => Option.map (fun x => v :: x) (some [])).bind
                                                      rangeV).bind
                                                  fun items =>
                                                  forF (fun v σ => some (setF 11 v σ))
                                                    (lv_inner G)
                                                    items σ
noncomputable def lv_o4 : St → Option (St × Fl) := fun σ =>
                                                  ((getF σ 10).bind fun a =>
                                                        (getF σ 2).bind fun b => cmpV CmpOp.Gt a b).bind
                                                    fun c =>
                                                    if c = true then
                                                      seqF
                                                        (fun σ =>
                                                          Option.map (fun v => (σ, Fl.ret v))
                                                            ((getF σ 2).bind fun a =>
                                                              (some (V.int 1)).bind fun b => addV a b))
                                                        (fun σ => some (σ, Fl.next)) σ
                                                    else some (σ, Fl.next)
noncomputable def lv_outer (G : List V → Option V) : St → Option (St × Fl) := (seqF lv_o0 (seqF lv_o1 (seqF lv_o2 (seqF (lv_o3 G) (seqF lv_o4 (fun σ => some (σ, Fl.next)))))))
noncomputable def lv0 : St → Option (St × Fl) := fun σ =>
    ((getF σ 0).bind fun a => (getF σ 1).bind fun b => cmpV CmpOp.Eq a b).bind fun c =>
      if c = true then
        seqF (fun σ => Option.map (fun v => (σ, Fl.ret v)) (some (V.int 0))) (fun σ => some (σ, Fl.next)) σ
      else some (σ, Fl.next)
noncomputable def lv1 : St → Option (St × Fl) := fun σ => Option.map (fun v => (setF 3 v σ, Fl.next)) (some (V.int 0))
noncomputable def lv3 : St → Option (St × Fl) := fun σ =>
          Option.map (fun v => (setF 0 v σ, Fl.next))
            ((getF σ 0).bind fun x => ((getF σ 3).bind partV).bind fun lo => (some none).bind fun hi => cutSV x lo hi)
noncomputable def lv4 : St → Option (St × Fl) := fun σ =>
            Option.map (fun v => (setF 1 v σ, Fl.next))
              ((getF σ 1).bind fun x =>
                ((getF σ 3).bind partV).bind fun lo => (some none).bind fun hi => cutSV x lo hi)
noncomputable def lv5 : St → Option (St × Fl) := fun σ => Option.map (fun v => (setF 4 v σ, Fl.next)) (some (V.int 0))
noncomputable def lv7 : St → Option (St × Fl) := fun σ =>
                  Option.map (fun v => (setF 0 v σ, Fl.next))
                    ((getF σ 0).bind fun x =>
                      (some none).bind fun lo =>
                        (((getF σ 4).bind fun a =>
                                  (truthyV a).bind fun c => if c = true then some a else some V.none).bind
                              partV).bind
                          fun hi => cutSV x lo hi)
noncomputable def lv8 : St → Option (St × Fl) := fun σ =>
                    Option.map (fun v => (setF 1 v σ, Fl.next))
                      ((getF σ 1).bind fun x =>
                        (some none).bind fun lo =>
                          (((getF σ 4).bind fun a =>
                                    (truthyV a).bind fun c => if c = true then some a else some V.none).bind
                                partV).bind
                            fun hi => cutSV x lo hi)
noncomputable def lv9 : St → Option (St × Fl) := fun σ =>
                      ((Option.map (fun x => !x) ((getF σ 0).bind truthyV)).bind fun b =>
                            if b = true then some true
                            else
                              (Option.map (fun x => !x) ((getF σ 1).bind truthyV)).bind fun b =>
                                if b = true then some true else some (BoolOp.Or == BoolOp.And)).bind
                        fun c =>
                        if c = true then
                          seqF
                            (fun σ =>
                              Option.map (fun v => (σ, Fl.ret v))
                                ((some (V.int 2)).bind fun a =>
                                  ((((getF σ 0).bind fun v => Option.map (fun x => v :: x) (some [])).bind lenV).bind
                                        fun a =>
                                        (((getF σ 1).bind fun v => Option.map (fun x => v :: x) (some [])).bind
                                              lenV).bind
                                          fun b => addV a b).bind
                                    fun b => mulV a b))
                            (fun σ => some (σ, Fl.next)) σ
                        else some (σ, Fl.next)
noncomputable def lv10 : St → Option (St × Fl) := fun σ =>
                        (((((getF σ 0).bind fun v => Option.map (fun x => v :: x) (some [])).bind lenV).bind fun a =>
                                  (some (V.int 40)).bind fun b => cmpV CmpOp.Gt a b).bind
                              fun b =>
                              if b = true then some true
                              else
                                ((((getF σ 1).bind fun v => Option.map (fun x => v :: x) (some [])).bind lenV).bind
                                      fun a => (some (V.int 40)).bind fun b => cmpV CmpOp.Gt a b).bind
                                  fun b => if b = true then some true else some (BoolOp.Or == BoolOp.And)).bind
                          fun c =>
                          if c = true then
                            seqF
                              (fun σ =>
                                Option.map (fun v => (σ, Fl.ret v))
                                  ((getF σ 2).bind fun a => (some (V.int 1)).bind fun b => addV a b))
                              (fun σ => some (σ, Fl.next)) σ
                          else some (σ, Fl.next)
noncomputable def lv11 : St → Option (St × Fl) := fun σ =>
                          ((((getF σ 1).bind fun v => Option.map (fun x => v :: x) (some [])).bind lenV).bind fun a =>
                                (((getF σ 0).bind fun v => Option.map (fun x => v :: x) (some [])).bind lenV).bind
                                  fun b => cmpV CmpOp.Lt a b).bind
                            fun c =>
                            if c = true then
                              seqF
                                (fun σ =>
                                  (getF σ 1).bind fun a =>
                                    Option.map (fun b => (setF 0 a (setF 1 b σ), Fl.next)) (getF σ 0))
                                (fun σ => some (σ, Fl.next)) σ
                            else some (σ, Fl.next)
noncomputable def lv12 : St → Option (St × Fl) := fun σ =>
                            ((((((getF σ 1).bind fun v => Option.map (fun x => v :: x) (some [])).bind lenV).bind
                                          fun a =>
                                          (((getF σ 0).bind fun v => Option.map (fun x => v :: x) (some [])).bind
                                                lenV).bind
                                            fun b => subV a b).bind
                                      fun a => (some (V.int 2)).bind fun b => mulV a b).bind
                                  fun a => (getF σ 2).bind fun b => cmpV CmpOp.Gt a b).bind
                              fun c =>
                              if c = true then
                                seqF
                                  (fun σ =>
                                    Option.map (fun v => (σ, Fl.ret v))
                                      ((getF σ 2).bind fun a => (some (V.int 1)).bind fun b => addV a b))
                                  (fun σ => some (σ, Fl.next)) σ
                              else some (σ, Fl.next)
noncomputable def lv13 : St → Option (St × Fl) := fun σ =>
                              Option.map (fun v => (List.set σ 5 (some (Slot.ownL v)), Fl.next))
                                (((some (V.int 2)).bind fun v =>
                                      Option.map (fun x => v :: x)
                                        (((some (V.int 2)).bind fun a =>
                                              ((((getF σ 0).bind fun v => Option.map (fun x => v :: x) (some [])).bind
                                                        lenV).bind
                                                    fun a => (some (V.int 1)).bind fun b => addV a b).bind
                                                fun b => mulV a b).bind
                                          fun v =>
                                          Option.map (fun x => v :: x)
                                            ((some (V.int 2)).bind fun v =>
                                              Option.map (fun x => v :: x) (some [])))).bind
                                  fun vs => (rangeV vs).bind fun us => if us.length ≤ lim then some us else none)
noncomputable def lv14 : St → Option (St × Fl) := fun σ => Option.map (fun v => (setF 6 v σ, Fl.next)) (some (V.int 0))
noncomputable def lv15 (G : List V → Option V) : St → Option (St × Fl) := fun σ =>
                                  (((((getF σ 1).bind fun v => Option.map (fun x => v :: x) (some [])).bind lenV).bind
                                            fun v => Option.map (fun x => v :: x) (some [])).bind
                                        rangeV).bind
                                    fun items =>
                                    forF (fun v σ => some (setF 7 v σ))
                                      (lv_outer G)
                                      items σ
noncomputable def lv16 : St → Option (St × Fl) := fun σ => Option.map (fun v => (σ, Fl.ret v)) (getF σ 6)
noncomputable def lev_f (G : List V → Option V) : St → Option (St × Fl) := (seqF lv0 (seqF lv1 (seqF (whileF lv_preT lv_preB 60) (seqF lv3 (seqF lv4 (seqF lv5 (seqF (whileF lv_postT lv_postB 60) (seqF lv7 (seqF lv8 (seqF lv9 (seqF lv10 (seqF lv11 (seqF lv12 (seqF lv13 (seqF lv14 (seqF (lv15 G) (seqF lv16 (fun σ => some (σ, Fl.next)))))))))))))))))))
end Lw

namespace Lw
open PySem
set_option maxRecDepth 10000

@[simp] theorem getF_succ (x : Option Slot) (σ : St) (i : Nat) : getF (x :: σ) (i + 1) = getF σ i := rfl
@[simp] theorem getF_zero (v : V) (σ : St) : getF (some (.frz v) :: σ) 0 = some v := rfl
@[simp] theorem getO_succ (x : Option Slot) (σ : St) (i : Nat) : getO (x :: σ) (i + 1) = getO σ i := rfl
@[simp] theorem getO_zero (v : List V) (σ : St) : getO (some (.ownL v) :: σ) 0 = some v := rfl
@[simp] theorem setF_succ (x : Option Slot) (σ : St) (i : Nat) (v : V) : setF (i + 1) v (x :: σ) = x :: setF i v σ := rfl
@[simp] theorem setF_zero (x : Option Slot) (σ : St) (v : V) : setF 0 v (x :: σ) = some (.frz v) :: σ := rfl
theorem seqF_next {f g : St → Option (St × Fl)} {σ σ1 : St} (h : f σ = some (σ1, .next)) : seqF f g σ = g σ1 := by unfold seqF; rw [h]; rfl
theorem seqF_ret {f g : St → Option (St × Fl)} {σ σ1 : St} {v : V} (h : f σ = some (σ1, .ret v)) : seqF f g σ = some (σ1, .ret v) := by unfold seqF; rw [h]; rfl

abbrev F (v : V) : Option Slot := some (.frz v)
abbrev FI (n : Int) : Option Slot := some (.frz (.int n))

noncomputable def subC (c d : Nat) : Nat := if c = d then 0 else if lowC c = lowC d then 1 else 2

/-- what is asked of the substitution cost -/
noncomputable def GOk (G : List V → Option V) : Prop := ∀ c d : Nat, c < 128 → d < 128 → G [.str [c], .str [d]] = some (.int (subC c d))

theorem signAt_nat {s : List Nat} {j c : Nat} (h : s[j]? = some c) (hj : j < 1000000) : signAt s (j : Int) = some (.str [c]) := by
  unfold signAt
  rw [if_pos ⟨by omega, by omega⟩]
  simp [h]
theorem idxL_nat {xs : List V} {j : Nat} {v : V} (h : xs[j]? = some v) (hj : j < 1000000) : idxLV xs (.int (j : Int)) = some v := by
  simp only [idxLV]
  rw [if_pos ⟨by omega, by omega⟩]
  simp [h]
theorem setL_nat {xs : List V} {j : Nat} {v : V} (h : j < xs.length) (hj : j < 1000000) : setLV xs (.int (j : Int)) v = some (xs.set j v) := by
  simp only [setLV]
  rw [if_pos ⟨by omega, by omega, by omega⟩]
  simp
@[simp] theorem add_int (a b : Int) : addV (.int a) (.int b) = some (.int (a + b)) := rfl
@[simp] theorem sub_int (a b : Int) : subV (.int a) (.int b) = some (.int (a - b)) := rfl
theorem mul_int {a b : Int} (h : a.natAbs < 2 ^ 40) : mulV (.int a) (.int b) = some (.int (a * b)) := if_pos h
@[simp] theorem min_int (a b : Int) : minV [.int a, .int b] = some (.int (if b < a then b else a)) := rfl
@[simp] theorem max_int (a b : Int) : maxV [.int a, .int b] = some (.int (if b > a then b else a)) := rfl
theorem min_nat (a b : Nat) : (if (b : Int) < (a : Int) then (b : Int) else a) = ((min a b : Nat) : Int) := by
  split <;> omega

section
variable {G : List V → Option V} {a b mc pre post bi s9 s10 s11 s12 s13 : Option Slot} {x : List Nat} {R : List V} {j c d r : Nat} {result dist mn : Nat}

theorem i0_eq (hG : GOk G) (hx : x[j]? = some c) (hj : j < 1000000) (hc : c < 128) (hd : d < 128) :
    lv_i0 G [F (.str x), b, mc, pre, post, s9, s10, bi, F (.str [d]), FI dist, s11, FI j, s12, s13] = some ([F (.str x), b, mc, pre, post, s9, s10, bi, F (.str [d]), FI dist, s11, FI j, FI ((dist + subC d c : Nat) : Int), s13], .next) := by
  simp [lv_i0, idxSV, signAt_nat hx hj, hG d c hd hc]
theorem i1_eq (hr : R[j]? = some (.int (r : Int))) (hj : j < 1000000) :
    lv_i1 [a, b, mc, pre, post, some (.ownL R), s10, bi, s9, s13, s11, FI j, s12, id0] = some ([a, b, mc, pre, post, some (.ownL R), s10, bi, s9, FI r, s11, FI j, s12, id0], .next) := by
  simp [lv_i1, idxL_nat hr hj]
theorem i2_eq : lv_i2 [a, b, mc, pre, post, s9, FI result, bi, s10, FI r, s11, s12, s13, id0] = some ([a, b, mc, pre, post, s9, FI result, bi, s10, FI r, s11, s12, s13, FI ((min result r + 2 : Nat) : Int)], .next) := by
  simp [lv_i2]
  split <;> omega
theorem i3_eq {u v : Nat} : lv_i3 [a, b, mc, pre, post, s9, s10, bi, s11, s12, s13, ix, FI u, FI v] = some ([a, b, mc, pre, post, s9, FI ((min v u : Nat) : Int), bi, s11, s12, s13, ix, FI u, FI v], .next) := by
  simp [lv_i3]
  split <;> omega
theorem i4_eq {v : V} (hj : j < 1000000) (hR : j < R.length) : lv_i4 [a, b, mc, pre, post, some (.ownL R), F v, bi, s9, s10, s11, FI j, s12, s13] = some ([a, b, mc, pre, post, some (.ownL (R.set j v)), F v, bi, s9, s10, s11, FI j, s12, s13], .next) := by
  simp [lv_i4, setL_nat hR hj]
theorem i5_eq : lv_i5 [a, b, mc, pre, post, s9, FI result, bi, s10, s11, FI mn, ix, s12, s13] = some ([a, b, mc, pre, post, s9, FI result, bi, s10, s11, FI ((min mn result : Nat) : Int), ix, s12, s13], .next) := by
  simp only [lv_i5, getF_succ, getF_zero, Option.bind_some, cmpV]
  by_cases h : (result : Int) < mn
  · simp [h, seqF]
    omega
  · simp [h]
    omega

/-- the inner loop's one turn -/
theorem inner_step (hG : GOk G) (hx : x[j]? = some c) (hj : j < 1000000) (hc : c < 128) (hd : d < 128) (hr : R[j]? = some (.int (r : Int))) :
    lv_inner G [F (.str x), b, mc, pre, post, some (.ownL R), FI result, bi, F (.str [d]), FI dist, FI mn, FI j, s12, s13] =
      some ([F (.str x), b, mc, pre, post, some (.ownL (R.set j (.int ((min (min result r + 2) (dist + subC d c) : Nat) : Int)))), FI ((min (min result r + 2) (dist + subC d c) : Nat) : Int), bi, F (.str [d]), FI r,
        FI ((min mn (min (min result r + 2) (dist + subC d c)) : Nat) : Int), FI j, FI ((dist + subC d c : Nat) : Int), FI ((min result r + 2 : Nat) : Int)], .next) := by
  have hjR : j < R.length := (List.getElem?_eq_some_iff.mp hr).1
  unfold lv_inner
  rw [seqF_next (i0_eq hG hx hj hc hd), seqF_next (i1_eq hr hj), seqF_next i2_eq, seqF_next i3_eq, seqF_next (i4_eq hj hjR), seqF_next i5_eq]

noncomputable def innerP (d : Nat) : List Nat → List Nat → Nat → Nat → Nat → List Nat × Nat × Nat
  | c :: x, r :: row, result, dist, mn =>
    let res := min (min result r + 2) (dist + subC d c)
    let q := innerP d x row res r (min mn res)
    (res :: q.1, q.2.1, q.2.2)
  | _, _, result, _, mn => ([], result, mn)

theorem innerP_len (d : Nat) : ∀ (x row : List Nat) (result dist mn : Nat), x.length = row.length → (innerP d x row result dist mn).1.length = row.length
  | [], [], _, _, _, _ => rfl
  | c :: x, r :: row, result, dist, mn, h => by
    simp only [innerP, List.length_cons]
    rw [innerP_len d x row _ _ _ (by simpa using h)]

theorem inner_loop (hG : GOk G) (hd : d < 128) : ∀ (xs row : List Nat) (x : List Nat) (done : List V) (result dist mn : Nat) (s11 s12 s13 : Option Slot), xs.length = row.length → x.drop done.length = xs → (∀ c ∈ xs, c < 128) → x.length < 1000000 →
    ∃ t9 t11 t12 t13, forF (fun v σ => some (setF 11 v σ)) (lv_inner G) ((List.range' done.length xs.length).map fun k : Nat => V.int (k : Int)) [F (.str x), b, mc, pre, post, some (.ownL (done ++ row.map fun r : Nat => V.int (r : Int))), FI result, bi, F (.str [d]), FI dist, FI mn, s11, s12, s13] =
      some ([F (.str x), b, mc, pre, post, some (.ownL (done ++ (innerP d xs row result dist mn).1.map fun r : Nat => V.int (r : Int))), FI (innerP d xs row result dist mn).2.1, bi, F (.str [d]), t9, FI (innerP d xs row result dist mn).2.2, t11, t12, t13], .next)
  | [], [], x, done, result, dist, mn, s11, s12, s13, _, _, _, _ => ⟨FI dist, s11, s12, s13, rfl⟩
  | c :: xs, r :: row, x, done, result, dist, mn, s11, s12, s13, hl, hx, hc, hxl => by
    have hxj : x[done.length]? = some c := by
      have : (x.drop done.length)[0]? = some c := by rw [hx]; rfl
      simpa using this
    have hjl : done.length < x.length := (List.getElem?_eq_some_iff.mp hxj).1
    have hrow : (done ++ (r :: row).map fun r : Nat => V.int (r : Int))[done.length]? = some (.int (r : Int)) := by simp
    have step := inner_step (b := b) (mc := mc) (pre := pre) (post := post) (bi := bi) (s12 := s12) (s13 := s13) (result := result) (dist := dist) (mn := mn) hG hxj (by omega) (hc c List.mem_cons_self) hd hrow
    have hset : ∀ v : V, (done ++ (r :: row).map fun r : Nat => V.int (r : Int)).set done.length v = (done ++ [v]) ++ row.map fun r : Nat => V.int (r : Int) := fun v => by simp
    rw [hset] at step
    have hdrop : x.drop (done ++ [V.int ((min (min result r + 2) (dist + subC d c) : Nat) : Int)]).length = xs := by
      rw [List.length_append, List.length_singleton, ← List.drop_drop, hx]; rfl
    obtain ⟨t9, t11, t12, t13, ih⟩ := inner_loop hG hd xs row x (done ++ [.int ((min (min result r + 2) (dist + subC d c) : Nat) : Int)]) (min (min result r + 2) (dist + subC d c)) r (min mn (min (min result r + 2) (dist + subC d c))) (FI done.length) (FI ((dist + subC d c : Nat) : Int)) (FI ((min result r + 2 : Nat) : Int))
      (by simpa using hl) hdrop (fun c hc' => hc c (List.mem_cons_of_mem _ hc')) hxl
    refine ⟨t9, t11, t12, t13, ?_⟩
    simp only [List.length_cons, List.range'_succ, List.map_cons, forF]
    simp only [setF_succ, setF_zero, Option.bind_some]
    have step' : lv_inner G [F (.str x), b, mc, pre, post, some (.ownL (done ++ (V.int (r : Int) :: row.map fun r : Nat => V.int (r : Int)))), FI result, bi, F (.str [d]), FI dist, FI mn, some (.frz (.int (done.length : Int))), s12, s13] = _ := step
    rw [step']
    simp only [Option.bind_some]
    simp only [List.length_append, List.length_singleton] at ih
    rw [ih]
    simp only [innerP, List.append_assoc, List.map_cons, List.singleton_append]
end
end Lw

namespace Lw
open PySem
set_option maxRecDepth 10000

noncomputable def BIG : Nat := 9223372036854775807
noncomputable def outerP (x : List Nat) (mc : Nat) : List Nat → Nat → List Nat → Nat → Bool × Nat
  | [], _, _, res => (false, res)
  | d :: ys, k, row, _ =>
    let q := innerP d x row (k * 2) (k * 2) BIG
    if mc < q.2.2 then (true, mc + 1) else outerP x mc ys (k + 1) q.1 q.2.1

theorem rangeI_nat (n : Nat) : (rangeI 0 (n : Int) 1).map V.int = (List.range' 0 n).map fun k : Nat => V.int (k : Int) := by
  unfold rangeI
  have e : rangeN 0 (n : Int) 1 = n := by
    unfold rangeN Builtin.Range.rangeSize
    rw [if_pos (by decide)]
    split <;> omega
  rw [e, List.map_map, List.range_eq_range']
  refine List.map_congr_left fun k _ => ?_
  simp
theorem range_nat {n : Nat} (h : n ≤ lim) : rangeV [.int (n : Int)] = some ((List.range' 0 n).map fun k : Nat => V.int (k : Int)) := by
  simp only [rangeV]
  rw [if_pos (by omega), rangeI_nat]
theorem len_str {l : List Nat} (h : l.length ≤ lim) : lenV [.str l] = some (.int (l.length : Int)) := by
  simp only [lenV]
  rw [if_pos h]
theorem len_list {l : List V} (h : l.length ≤ lim) : lenV [.list l] = some (.int (l.length : Int)) := by
  simp only [lenV]
  rw [if_pos h]

section
variable {G : List V → Option V} {a b mc pre post bi s9 s10 s11 s12 s13 s5 s6 s8 : Option Slot} {x y : List Nat} {R : List V} {j c d r k : Nat} {result dist mn : Nat}

theorem o0_eq (hy : y[k]? = some d) (hk : k < 1000000) : lv_o0 [a, F (.str y), mc, pre, post, s5, s6, FI k, s8, s9, s10, s11, s12, s13] = some ([a, F (.str y), mc, pre, post, s5, s6, FI k, F (.str [d]), s9, s10, s11, s12, s13], .next) := by
  simp [lv_o0, idxSV, signAt_nat hy hk]
theorem o1_eq (hk : k < 1000000) : lv_o1 [a, b, mc, pre, post, s5, s6, FI k, s8, s9, s10, s11, s12, s13] = some ([a, b, mc, pre, post, s5, FI ((k * 2 : Nat) : Int), FI k, s8, FI ((k * 2 : Nat) : Int), s10, s11, s12, s13], .next) := by
  simp [lv_o1, mul_int (show ((k : Int)).natAbs < 2 ^ 40 by omega)]
theorem o2_eq : lv_o2 [a, b, mc, pre, post, s5, s6, bi, s8, s9, s10, s11, s12, s13] = some ([a, b, mc, pre, post, s5, s6, bi, s8, s9, FI (BIG : Nat), s11, s12, s13], .next) := by
  simp [lv_o2, BIG]
theorem o3_eq (hG : GOk G) (hd : d < 128) {row : List Nat} (hl : x.length = row.length) (hc : ∀ c ∈ x, c < 128) (hx : x.length ≤ lim) : ∃ t9 t11 t12 t13,
    lv_o3 G [F (.str x), b, mc, pre, post, some (.ownL (row.map fun r : Nat => V.int (r : Int))), FI result, bi, F (.str [d]), FI dist, FI mn, s11, s12, s13] =
      some ([F (.str x), b, mc, pre, post, some (.ownL ((innerP d x row result dist mn).1.map fun r : Nat => V.int (r : Int))), FI (innerP d x row result dist mn).2.1, bi, F (.str [d]), t9, FI (innerP d x row result dist mn).2.2, t11, t12, t13], .next) := by
  have hx' : x.length < 1000000 := by unfold lim at hx; omega
  obtain ⟨t9, t11, t12, t13, h⟩ := inner_loop (b := b) (mc := mc) (pre := pre) (post := post) (bi := bi) hG hd x row x [] result dist mn s11 s12 s13 hl rfl hc hx'
  refine ⟨t9, t11, t12, t13, ?_⟩
  simp only [List.nil_append, List.length_nil] at h
  simp only [lv_o3, getF_succ, getF_zero, Option.bind_some, Option.map_some, len_str hx, range_nat hx]
  exact h
theorem o4_eq {m : Nat} : lv_o4 [a, b, FI m, pre, post, s5, s6, bi, s8, s9, FI mn, s11, s12, s13] = some ([a, b, FI m, pre, post, s5, s6, bi, s8, s9, FI mn, s11, s12, s13], if m < mn then .ret (.int ((m + 1 : Nat) : Int)) else .next) := by
  simp only [lv_o4, getF_succ, getF_zero, Option.bind_some, cmpV]
  by_cases h : m < mn
  · have h' : (m : Int) < mn := by omega
    simp [h, h', seqF]
  · have h' : ¬ (m : Int) < mn := by omega
    simp [h, h']

noncomputable def outFl (q : Bool × Nat) : Fl := if q.1 = true then .ret (.int (q.2 : Int)) else .next
theorem outer_loop (hG : GOk G) {m : Nat} (hc : ∀ c ∈ x, c < 128) (hx : x.length ≤ lim) : ∀ (ys : List Nat) (k : Nat) (row : List Nat) (res : Nat) (s7 s8 s9 s10 s11 s12 s13 : Option Slot), y.drop k = ys → (∀ c ∈ ys, c < 128) → y.length ≤ lim → x.length = row.length →
    ∃ σ', forF (fun v σ => some (setF 7 v σ)) (lv_outer G) ((List.range' k ys.length).map fun k : Nat => V.int (k : Int)) [F (.str x), F (.str y), FI m, pre, post, some (.ownL (row.map fun r : Nat => V.int (r : Int))), FI res, s7, s8, s9, s10, s11, s12, s13] =
      some (σ', outFl (outerP x m ys k row res)) ∧ ((outerP x m ys k row res).1 = false → getF σ' 6 = some (.int ((outerP x m ys k row res).2 : Int)))
  | [], k, row, res, s7, s8, s9, s10, s11, s12, s13, _, _, _, _ => ⟨_, rfl, fun _ => rfl⟩
  | d :: ys, k, row, res, s7, s8, s9, s10, s11, s12, s13, hy, hcs, hyl, hl => by
    have hyk : y[k]? = some d := by
      have : (y.drop k)[0]? = some d := by rw [hy]; rfl
      simpa using this
    have hkl : k < y.length := (List.getElem?_eq_some_iff.mp hyk).1
    have hk : k < 1000000 := by unfold lim at hyl; omega
    have hd := hcs d List.mem_cons_self
    obtain ⟨t9, t11, t12, t13, h3⟩ := o3_eq (b := F (.str y)) (mc := FI m) (pre := pre) (post := post) (bi := FI k) (s11 := s11) (s12 := s12) (s13 := s13) (result := k * 2) (dist := k * 2) (mn := BIG) hG hd hl hc hx
    have hrow : x.length = (innerP d x row (k * 2) (k * 2) BIG).1.length := by rw [innerP_len d x row _ _ _ hl]; exact hl
    have hdrop : y.drop (k + 1) = ys := by rw [← List.drop_drop, hy]; rfl
    have step : lv_outer G [F (.str x), F (.str y), FI m, pre, post, some (.ownL (row.map fun r : Nat => V.int (r : Int))), FI res, FI k, s8, s9, s10, s11, s12, s13] =
        some ([F (.str x), F (.str y), FI m, pre, post, some (.ownL ((innerP d x row (k * 2) (k * 2) BIG).1.map fun r : Nat => V.int (r : Int))), FI (innerP d x row (k * 2) (k * 2) BIG).2.1, FI k, F (.str [d]), t9, FI (innerP d x row (k * 2) (k * 2) BIG).2.2, t11, t12, t13],
          if m < (innerP d x row (k * 2) (k * 2) BIG).2.2 then .ret (.int ((m + 1 : Nat) : Int)) else .next) := by
      unfold lv_outer
      rw [seqF_next (o0_eq hyk hk), seqF_next (o1_eq hk), seqF_next o2_eq, seqF_next h3]
      by_cases h : m < (innerP d x row (k * 2) (k * 2) BIG).2.2
      · rw [seqF_ret (v := .int ((m + 1 : Nat) : Int)) (by rw [o4_eq, if_pos h]), if_pos h]
      · rw [seqF_next (by rw [o4_eq, if_neg h]), if_neg h]
    simp only [List.length_cons, List.range'_succ, List.map_cons, forF, setF_succ, setF_zero, Option.bind_some]
    have step' : lv_outer G [F (.str x), F (.str y), FI m, pre, post, some (.ownL (row.map fun r : Nat => V.int (r : Int))), FI res, some (.frz (.int (k : Int))), s8, s9, s10, s11, s12, s13] = _ := step
    rw [step']
    simp only [Option.bind_some]
    by_cases h : m < (innerP d x row (k * 2) (k * 2) BIG).2.2
    · have hq : outerP x m (d :: ys) k row res = (true, m + 1) := by simp only [outerP]; rw [if_pos h]
      rw [if_pos h, hq]
      exact ⟨_, rfl, fun e => by cases e⟩
    · have hq : outerP x m (d :: ys) k row res = outerP x m ys (k + 1) (innerP d x row (k * 2) (k * 2) BIG).1 (innerP d x row (k * 2) (k * 2) BIG).2.1 := by simp only [outerP]; rw [if_neg h]
      rw [if_neg h, hq]
      exact outer_loop hG hc hx ys (k + 1) _ _ (FI k) (F (.str [d])) t9 (FI (innerP d x row (k * 2) (k * 2) BIG).2.2) t11 t12 t13 hdrop (fun c hc' => hcs c (List.mem_cons_of_mem _ hc')) hyl hrow
end
end Lw

namespace Lw
open PySem
set_option maxRecDepth 10000

noncomputable def lcp : List Nat → List Nat → Nat
  | a :: x, b :: y => if a = b then lcp x y + 1 else 0
  | _, _ => 0
theorem lcp_le : ∀ x y : List Nat, lcp x y ≤ x.length
  | [], _ => Nat.zero_le _
  | a :: x, [] => Nat.zero_le _
  | a :: x, b :: y => by
    simp only [lcp]
    split
    · have := lcp_le x y; simp; omega
    · omega
noncomputable def hdEq : List Nat → List Nat → Bool
  | a :: _, b :: _ => decide (a = b)
  | _, _ => false

theorem clipAt_nat (n i : Nat) : clipAt n (i : Int) = min i n := by
  unfold clipAt
  rw [if_neg (by omega)]
  omega
theorem clipAt_neg (n i : Nat) (h : 0 < i) : clipAt n (-(i : Int)) = n - i := by
  unfold clipAt
  rw [if_pos (by omega)]
  omega
theorem cut_drop {α : Type} (xs : List α) (i : Nat) : cutL xs (some (i : Int)) none = xs.drop i := by
  unfold cutL
  simp only [Option.elim_some, Option.elim_none, clipAt_nat]
  by_cases h : i ≤ xs.length
  · rw [Nat.min_eq_left h, List.take_of_length_le (by simp)]
  · rw [Nat.min_eq_right (by omega), List.drop_of_length_le (i := i) (by omega)]
    simp
noncomputable def hiOf (j : Nat) : Option Int := if j = 0 then none else some (-(j : Int))
theorem cut_take {α : Type} (xs : List α) (j : Nat) : cutL xs none (hiOf j) = xs.take (xs.length - j) := by
  unfold cutL hiOf
  split
  · rename_i h; subst h; simp
  · rename_i h
    simp only [Option.elim_some, Option.elim_none, clipAt_neg _ _ (Nat.pos_of_ne_zero h), List.drop_zero, Nat.sub_zero]

theorem part_nat {i : Nat} (h : i ≤ 1000000) : partV (.int (i : Int)) = some (some (i : Int)) := by
  simp only [partV]
  rw [if_pos (by omega)]
theorem part_hi {j : Nat} (h : j ≤ 1000000) : ((truthyV (.int (-(j : Int)))).bind fun c => if c = true then some (V.int (-(j : Int))) else some V.none).bind partV = some (hiOf j) := by
  by_cases h0 : j = 0
  · subst h0; rfl
  · have e : truthyV (.int (-(j : Int))) = some true := by
      simp only [truthyV, Option.some.injEq, decide_eq_true_eq]; omega
    rw [e]
    simp only [Option.bind_some, if_true, partV]
    rw [if_pos (by omega)]
    simp [hiOf, h0]
theorem cutS_some {l : List Nat} {lo hi : Option Int} (h : l.length ≤ lim) : cutSV (.str l) lo hi = some (.str (cutL l lo hi)) := by
  simp only [cutSV]
  rw [if_pos h]
theorem truthy_str {l : List Nat} (h : l.length ≤ lim) : truthyV (.str l) = some (decide (l ≠ [])) := by
  simp only [truthyV]
  rw [if_pos h]
theorem signAt_rev {s : List Nat} {j c : Nat} (h : s.reverse[j]? = some c) (hs : s.length < 1000000) : signAt s (-(j : Int) - 1) = some (.str [c]) := by
  have hj : j < s.length := by have := (List.getElem?_eq_some_iff.mp h).1; simpa using this
  unfold signAt
  rw [if_neg (by omega), if_pos ⟨by omega, by omega, hs⟩]
  have e : (-(j : Int) - 1 + s.length).toNat = s.length - 1 - j := by omega
  rw [e]
  rw [List.getElem?_reverse hj] at h
  rw [h]; rfl

section
variable {G : List V → Option V} {a b mc s3 s4 s5 s6 s7 s8 s9 s10 s11 s12 s13 : Option Slot} {x y : List Nat}

theorem preT_eq {i : Nat} (hx : x.length ≤ lim) (hy : y.length ≤ lim) (hi : i ≤ 1000) :
    lv_preT [F (.str x), F (.str y), mc, FI i, s4, s5, s6, s7, s8, s9, s10, s11, s12, s13] = some (hdEq (x.drop i) (y.drop i)) := by
  have lx : (x.drop i).length ≤ lim := by simp; omega
  have ly : (y.drop i).length ≤ lim := by simp; omega
  simp only [lv_preT, getF_succ, getF_zero, Option.bind_some, part_nat (show i ≤ 1000000 by omega), cutS_some hx, cutS_some hy, cut_drop, truthy_str lx, truthy_str ly]
  cases hdx : x.drop i with
  | nil => simp [hdEq]
  | cons c xs =>
    cases hdy : y.drop i with
    | nil => simp [hdEq]
    | cons d ys =>
      have e1 : x[i]? = some c := by
        have : (x.drop i)[0]? = some c := by rw [hdx]; rfl
        simpa using this
      have e2 : y[i]? = some d := by
        have : (y.drop i)[0]? = some d := by rw [hdy]; rfl
        simpa using this
      simp only [idxSV, signAt_nat e1 (show i < 1000000 by omega), signAt_nat e2 (show i < 1000000 by omega), Option.bind_some, cmpV, hdEq]
      by_cases h : c = d
      · simp [h]
      · simp [h]
theorem preB_eq {i : Nat} : lv_preB [a, b, mc, FI i, s4, s5, s6, s7, s8, s9, s10, s11, s12, s13] = some ([a, b, mc, FI ((i + 1 : Nat) : Int), s4, s5, s6, s7, s8, s9, s10, s11, s12, s13], .next) := by
  simp [lv_preB, seqF, augV]
theorem pre_loop (hx : x.length ≤ lim) (hy : y.length ≤ lim) : ∀ (fuel i : Nat) (xs ys : List Nat), x.drop i = xs → y.drop i = ys → lcp xs ys < fuel → i + fuel ≤ 1000 →
    whileF lv_preT lv_preB fuel [F (.str x), F (.str y), mc, FI i, s4, s5, s6, s7, s8, s9, s10, s11, s12, s13] = some ([F (.str x), F (.str y), mc, FI ((i + lcp xs ys : Nat) : Int), s4, s5, s6, s7, s8, s9, s10, s11, s12, s13], .next)
  | 0, i, xs, ys, _, _, h, _ => absurd h (Nat.not_lt_zero _)
  | fuel + 1, i, xs, ys, e1, e2, h, hb => by
    simp only [whileF]
    rw [preT_eq hx hy (by omega), e1, e2]
    simp only [Option.bind_some]
    cases xs with
    | nil => simp [hdEq, lcp]
    | cons c xs =>
      cases ys with
      | nil => simp [hdEq, lcp]
      | cons d ys =>
        by_cases hcd : c = d
        · have e3 : x.drop (i + 1) = xs := by rw [← List.drop_drop, e1]; rfl
          have e4 : y.drop (i + 1) = ys := by rw [← List.drop_drop, e2]; rfl
          have hl : lcp (c :: xs) (d :: ys) = lcp xs ys + 1 := by simp [lcp, hcd]
          rw [hl] at h ⊢
          have ih := pre_loop hx hy fuel (i + 1) xs ys e3 e4 (by omega) (by omega)
          simp only [hdEq, hcd, decide_true, if_true]
          rw [preB_eq]
          simp only [Option.bind_some]
          rw [ih, show i + 1 + lcp xs ys = i + (lcp xs ys + 1) by omega]
        · simp [hdEq, lcp, hcd]

theorem take_ne {xs : List Nat} {j : Nat} : (xs.take (xs.length - j) ≠ []) ↔ xs.reverse.drop j ≠ [] := by
  rw [← List.reverse_ne_nil_iff, List.reverse_take]
  have e : xs.length - (xs.length - j) = min j xs.length := by omega
  rw [e]
  by_cases h : j ≤ xs.length
  · rw [Nat.min_eq_left h]
  · rw [Nat.min_eq_right (by omega), List.drop_of_length_le (i := j) (by simp; omega), List.drop_of_length_le (by simp)]

theorem postT_eq {j : Nat} (hx : x.length ≤ lim) (hy : y.length ≤ lim) (hj : j ≤ 1000) :
    lv_postT [F (.str x), F (.str y), mc, s3, FI (-(j : Int)), s5, s6, s7, s8, s9, s10, s11, s12, s13] = some (hdEq (x.reverse.drop j) (y.reverse.drop j)) := by
  have lx : (x.take (x.length - j)).length ≤ lim := by simp; omega
  have ly : (y.take (y.length - j)).length ≤ lim := by simp; omega
  have hx' : x.length < 1000000 := by unfold lim at hx; omega
  have hy' : y.length < 1000000 := by unfold lim at hy; omega
  simp only [lv_postT, getF_succ, getF_zero, Option.bind_some, part_hi (show j ≤ 1000000 by omega), cutS_some hx, cutS_some hy, cut_take, truthy_str lx, truthy_str ly, sub_int]
  have hnx := take_ne (xs := x) (j := j)
  have hny := take_ne (xs := y) (j := j)
  cases hdx : x.reverse.drop j with
  | nil =>
    rw [hdx] at hnx
    have : x.take (x.length - j) = [] := by
      cases hq : x.take (x.length - j) with
      | nil => rfl
      | cons _ _ => rw [hq] at hnx; simp at hnx
    simp [this, hdEq]
  | cons c xs =>
    rw [hdx] at hnx
    have h1 : decide (x.take (x.length - j) ≠ []) = true := by rw [decide_eq_true_eq, hnx]; simp
    rw [h1]
    cases hdy : y.reverse.drop j with
    | nil =>
      rw [hdy] at hny
      have : y.take (y.length - j) = [] := by
        cases hq : y.take (y.length - j) with
        | nil => rfl
        | cons _ _ => rw [hq] at hny; simp at hny
      simp [this, hdEq]
    | cons d ys =>
      rw [hdy] at hny
      have h2 : decide (y.take (y.length - j) ≠ []) = true := by rw [decide_eq_true_eq, hny]; simp
      rw [h2]
      have e1 : x.reverse[j]? = some c := by
        have : (x.reverse.drop j)[0]? = some c := by rw [hdx]; rfl
        rw [List.getElem?_drop] at this
        simpa using this
      have e2 : y.reverse[j]? = some d := by
        have : (y.reverse.drop j)[0]? = some d := by rw [hdy]; rfl
        rw [List.getElem?_drop] at this
        simpa using this
      simp only [if_true, idxSV, signAt_rev e1 hx', signAt_rev e2 hy', Option.bind_some, cmpV, hdEq]
      by_cases h : c = d
      · simp [h]
      · simp [h]
theorem postB_eq {j : Nat} : lv_postB [a, b, mc, s3, FI (-(j : Int)), s5, s6, s7, s8, s9, s10, s11, s12, s13] = some ([a, b, mc, s3, FI (-((j + 1 : Nat) : Int)), s5, s6, s7, s8, s9, s10, s11, s12, s13], .next) := by
  simp only [lv_postB, seqF, getF_succ, getF_zero, Option.bind_some, augV, Option.map_some, setF_succ, setF_zero]
  rw [show -(j : Int) - 1 = -((j + 1 : Nat) : Int) by omega]
theorem post_loop (hx : x.length ≤ lim) (hy : y.length ≤ lim) : ∀ (fuel j : Nat) (xs ys : List Nat), x.reverse.drop j = xs → y.reverse.drop j = ys → lcp xs ys < fuel → j + fuel ≤ 1000 →
    whileF lv_postT lv_postB fuel [F (.str x), F (.str y), mc, s3, FI (-(j : Int)), s5, s6, s7, s8, s9, s10, s11, s12, s13] = some ([F (.str x), F (.str y), mc, s3, FI (-((j + lcp xs ys : Nat) : Int)), s5, s6, s7, s8, s9, s10, s11, s12, s13], .next)
  | 0, i, xs, ys, _, _, h, _ => absurd h (Nat.not_lt_zero _)
  | fuel + 1, i, xs, ys, e1, e2, h, hb => by
    simp only [whileF]
    rw [postT_eq hx hy (by omega), e1, e2]
    simp only [Option.bind_some]
    cases xs with
    | nil => simp [hdEq, lcp]
    | cons c xs =>
      cases ys with
      | nil => simp [hdEq, lcp]
      | cons d ys =>
        by_cases hcd : c = d
        · have e3 : x.reverse.drop (i + 1) = xs := by rw [← List.drop_drop, e1]; rfl
          have e4 : y.reverse.drop (i + 1) = ys := by rw [← List.drop_drop, e2]; rfl
          have hl : lcp (c :: xs) (d :: ys) = lcp xs ys + 1 := by simp [lcp, hcd]
          rw [hl] at h ⊢
          have ih := post_loop hx hy fuel (i + 1) xs ys e3 e4 (by omega) (by omega)
          simp only [hdEq, hcd, decide_true, if_true]
          rw [postB_eq]
          simp only [Option.bind_some]
          rw [ih, show i + 1 + lcp xs ys = i + (lcp xs ys + 1) by omega]
        · simp [hdEq, lcp, hcd]
end
end Lw

namespace Lw
open PySem
set_option maxRecDepth 10000

noncomputable def row0 (n : Nat) : List Nat := (List.range n).map fun k => 2 + k * 2

noncomputable def levQ (u v : List Nat) (mc : Nat) : Nat := if mc < (v.length - u.length) * 2 then mc + 1 else (outerP u mc v 0 (row0 u.length) 0).2
noncomputable def levT (u v : List Nat) (mc : Nat) : Nat := if u = [] ∨ v = [] then 2 * (u.length + v.length) else if v.length < u.length then levQ v u mc else levQ u v mc
/-- the words' common tail struck -/
noncomputable def levS (a b : List Nat) (mc : Nat) : Nat := levT (a.take (a.length - lcp a.reverse b.reverse)) (b.take (b.length - lcp a.reverse b.reverse)) mc
noncomputable def levP (x y : List Nat) (mc : Nat) : Nat := if x = y then 0 else levS (x.drop (lcp x y)) (y.drop (lcp x y)) mc

section
variable {G : List V → Option V} {a b mc s2 s3 s4 s5 s6 s7 s8 s9 s10 s11 s12 s13 : Option Slot} {x y : List Nat} {m : Nat}

theorem lv0_eq : lv0 [F (.str x), F (.str y), s2, s3, s4, s5, s6, s7, s8, s9, s10, s11, s12, s13] = some ([F (.str x), F (.str y), s2, s3, s4, s5, s6, s7, s8, s9, s10, s11, s12, s13], if x = y then .ret (.int 0) else .next) := by
  simp only [lv0, getF_succ, getF_zero, Option.bind_some, cmpV]
  by_cases h : x = y
  · simp [h, seqF]
  · simp [h]
theorem lv1_eq : lv1 [a, b, s2, s3, s4, s5, s6, s7, s8, s9, s10, s11, s12, s13] = some ([a, b, s2, FI (0 : Nat), s4, s5, s6, s7, s8, s9, s10, s11, s12, s13], .next) := by
  simp [lv1]
theorem lv3_eq {i : Nat} (hx : x.length ≤ lim) (hi : i ≤ 1000) : lv3 [F (.str x), b, s2, FI i, s4, s5, s6, s7, s8, s9, s10, s11, s12, s13] = some ([F (.str (x.drop i)), b, s2, FI i, s4, s5, s6, s7, s8, s9, s10, s11, s12, s13], .next) := by
  simp only [lv3, getF_succ, getF_zero, Option.bind_some, part_nat (show i ≤ 1000000 by omega), cutS_some hx, cut_drop, Option.map_some, setF_zero]
theorem lv4_eq {i : Nat} (hy : y.length ≤ lim) (hi : i ≤ 1000) : lv4 [a, F (.str y), s2, FI i, s4, s5, s6, s7, s8, s9, s10, s11, s12, s13] = some ([a, F (.str (y.drop i)), s2, FI i, s4, s5, s6, s7, s8, s9, s10, s11, s12, s13], .next) := by
  simp only [lv4, getF_succ, getF_zero, Option.bind_some, part_nat (show i ≤ 1000000 by omega), cutS_some hy, cut_drop, Option.map_some, setF_zero, setF_succ]
theorem lv5_eq : lv5 [a, b, s2, s3, s4, s5, s6, s7, s8, s9, s10, s11, s12, s13] = some ([a, b, s2, s3, FI (-((0 : Nat) : Int)), s5, s6, s7, s8, s9, s10, s11, s12, s13], .next) := by
  simp [lv5]
theorem lv7_eq {j : Nat} (hx : x.length ≤ lim) (hj : j ≤ 1000) : lv7 [F (.str x), b, s2, s3, FI (-(j : Int)), s5, s6, s7, s8, s9, s10, s11, s12, s13] = some ([F (.str (x.take (x.length - j))), b, s2, s3, FI (-(j : Int)), s5, s6, s7, s8, s9, s10, s11, s12, s13], .next) := by
  simp only [lv7, getF_succ, getF_zero, Option.bind_some, part_hi (show j ≤ 1000000 by omega), cutS_some hx, cut_take, Option.map_some, setF_zero]
theorem lv8_eq {j : Nat} (hy : y.length ≤ lim) (hj : j ≤ 1000) : lv8 [a, F (.str y), s2, s3, FI (-(j : Int)), s5, s6, s7, s8, s9, s10, s11, s12, s13] = some ([a, F (.str (y.take (y.length - j))), s2, s3, FI (-(j : Int)), s5, s6, s7, s8, s9, s10, s11, s12, s13], .next) := by
  simp only [lv8, getF_succ, getF_zero, Option.bind_some, part_hi (show j ≤ 1000000 by omega), cutS_some hy, cut_take, Option.map_some, setF_zero, setF_succ]
theorem lv9_eq (hx : x.length ≤ lim) (hy : y.length ≤ lim) : lv9 [F (.str x), F (.str y), s2, s3, s4, s5, s6, s7, s8, s9, s10, s11, s12, s13] = some ([F (.str x), F (.str y), s2, s3, s4, s5, s6, s7, s8, s9, s10, s11, s12, s13], if x = [] ∨ y = [] then .ret (.int ((2 * (x.length + y.length) : Nat) : Int)) else .next) := by
  have m2 : mulV (.int 2) (.int ((x.length : Int) + (y.length : Int))) = some (.int (2 * ((x.length : Int) + (y.length : Int)))) := mul_int (by decide)
  have ret : seqF (fun σ => Option.map (fun v => (σ, Fl.ret v)) (((((getF σ 0).bind fun v => some [v]).bind lenV).bind fun a =>
      (((getF σ 1).bind fun v => some [v]).bind lenV).bind fun b => addV a b).bind fun b => mulV (V.int 2) b)) (fun σ => some (σ, Fl.next)) [F (.str x), F (.str y), s2, s3, s4, s5, s6, s7, s8, s9, s10, s11, s12, s13] =
      some ([F (.str x), F (.str y), s2, s3, s4, s5, s6, s7, s8, s9, s10, s11, s12, s13], .ret (.int ((2 * (x.length + y.length) : Nat) : Int))) := by
    simp only [seqF, getF_succ, getF_zero, Option.bind_some, len_str hx, len_str hy, Option.map_some, add_int, m2]
    simp
  simp only [lv9, getF_succ, getF_zero, Option.bind_some, truthy_str hx, truthy_str hy, Option.map_some]
  rw [ret]
  by_cases h1 : x = []
  · simp [h1]
  · by_cases h2 : y = []
    · simp [h1, h2]
    · simp [h1, h2]
theorem lv10_eq (hx : x.length ≤ 40) (hy : y.length ≤ 40) : lv10 [F (.str x), F (.str y), s2, s3, s4, s5, s6, s7, s8, s9, s10, s11, s12, s13] = some ([F (.str x), F (.str y), s2, s3, s4, s5, s6, s7, s8, s9, s10, s11, s12, s13], .next) := by
  have lx : x.length ≤ lim := by unfold lim; omega
  have ly : y.length ≤ lim := by unfold lim; omega
  have h1 : decide ((40 : Int) < (x.length : Int)) = false := by rw [decide_eq_false_iff_not]; omega
  have h2 : decide ((40 : Int) < (y.length : Int)) = false := by rw [decide_eq_false_iff_not]; omega
  simp only [lv10, getF_succ, getF_zero, Option.bind_some, len_str lx, len_str ly, Option.map_some, cmpV, h1, h2]
  simp
theorem lv11_eq (hx : x.length ≤ lim) (hy : y.length ≤ lim) : lv11 [F (.str x), F (.str y), s2, s3, s4, s5, s6, s7, s8, s9, s10, s11, s12, s13] =
    some ([F (.str (if y.length < x.length then y else x)), F (.str (if y.length < x.length then x else y)), s2, s3, s4, s5, s6, s7, s8, s9, s10, s11, s12, s13], .next) := by
  simp only [lv11, getF_succ, getF_zero, Option.bind_some, len_str hx, len_str hy, Option.map_some, cmpV]
  by_cases h : y.length < x.length
  · have h' : (y.length : Int) < x.length := by omega
    simp [h, h', seqF]
  · have h' : ¬ (y.length : Int) < x.length := by omega
    simp [h, h']
theorem lv12_eq (hx : x.length ≤ 40) (hy : y.length ≤ 40) (hxy : x.length ≤ y.length) : lv12 [F (.str x), F (.str y), FI m, s3, s4, s5, s6, s7, s8, s9, s10, s11, s12, s13] =
    some ([F (.str x), F (.str y), FI m, s3, s4, s5, s6, s7, s8, s9, s10, s11, s12, s13], if m < (y.length - x.length) * 2 then .ret (.int ((m + 1 : Nat) : Int)) else .next) := by
  have lx : x.length ≤ lim := by unfold lim; omega
  have ly : y.length ≤ lim := by unfold lim; omega
  have m2 : mulV (.int ((y.length : Int) - (x.length : Int))) (.int 2) = some (.int (((y.length : Int) - (x.length : Int)) * 2)) := mul_int (by omega)
  simp only [lv12, getF_succ, getF_zero, Option.bind_some, len_str lx, len_str ly, Option.map_some, cmpV, sub_int, m2]
  by_cases h : m < (y.length - x.length) * 2
  · have h' : (m : Int) < ((y.length : Int) - (x.length : Int)) * 2 := by omega
    simp [h, h', seqF]
  · have h' : ¬ (m : Int) < ((y.length : Int) - (x.length : Int)) * 2 := by omega
    simp [h, h']
theorem lv13_eq (hx : x.length ≤ 40) (h0 : x ≠ []) : lv13 [F (.str x), b, s2, s3, s4, s5, s6, s7, s8, s9, s10, s11, s12, s13] =
    some ([F (.str x), b, s2, s3, s4, some (.ownL ((row0 x.length).map fun r : Nat => V.int (r : Int))), s6, s7, s8, s9, s10, s11, s12, s13], .next) := by
  have lx : x.length ≤ lim := by unfold lim; omega
  have hpos : 0 < x.length := List.length_pos_iff.mpr h0
  have m2 : mulV (.int 2) (.int ((x.length : Int) + 1)) = some (.int (2 * ((x.length : Int) + 1))) := mul_int (by decide)
  have hr : rangeV [.int 2, .int (2 * ((x.length : Int) + 1)), .int 2] = some ((row0 x.length).map fun r : Nat => V.int (r : Int)) := by
    simp only [rangeV]
    rw [if_pos (by unfold lim; omega)]
    have e : rangeN 2 (2 * ((x.length : Int) + 1)) 2 = x.length := by
      unfold rangeN Builtin.Range.rangeSize
      rw [if_pos (by decide), if_pos (by omega)]
      omega
    unfold rangeI
    rw [e]
    unfold row0
    rw [List.map_map, List.map_map]
    refine congrArg some (List.map_congr_left fun k _ => ?_)
    simp
  have hl : ((row0 x.length).map fun r : Nat => V.int (r : Int)).length ≤ lim := by unfold row0; simp; omega
  simp only [lv13, getF_succ, getF_zero, Option.bind_some, len_str lx, Option.map_some, add_int, m2, hr]
  rw [if_pos hl]
  rfl
theorem lv14_eq : lv14 [a, b, s2, s3, s4, s5, s6, s7, s8, s9, s10, s11, s12, s13] = some ([a, b, s2, s3, s4, s5, FI (0 : Nat), s7, s8, s9, s10, s11, s12, s13], .next) := by
  simp [lv14]
theorem row0_len (n : Nat) : (row0 n).length = n := by simp [row0]
theorem lv15_eq (hG : GOk G) (hx : x.length ≤ 40) (hy : y.length ≤ 40) (hc : ∀ c ∈ x, c < 128) (hd : ∀ c ∈ y, c < 128) : ∃ σ', lv15 G [F (.str x), F (.str y), FI m, s3, s4, some (.ownL ((row0 x.length).map fun r : Nat => V.int (r : Int))), FI (0 : Nat), s7, s8, s9, s10, s11, s12, s13] =
    some (σ', outFl (outerP x m y 0 (row0 x.length) 0)) ∧ ((outerP x m y 0 (row0 x.length) 0).1 = false → getF σ' 6 = some (.int ((outerP x m y 0 (row0 x.length) 0).2 : Int))) := by
  have lx : x.length ≤ lim := by unfold lim; omega
  have ly : y.length ≤ lim := by unfold lim; omega
  obtain ⟨σ', h1, h2⟩ := outer_loop (pre := s3) (post := s4) hG (m := m) hc lx y 0 (row0 x.length) 0 s7 s8 s9 s10 s11 s12 s13 rfl hd ly (row0_len _).symm
  refine ⟨σ', ?_, h2⟩
  simp only [lv15, getF_succ, getF_zero, Option.bind_some, Option.map_some, len_str ly, range_nat ly]
  exact h1

theorem giveF_ret {f : St → Option (St × Fl)} {σ σ' : St} {v : V} (h : f σ = some (σ', .ret v)) : giveF (f σ) = some v := by rw [h]; rfl

theorem lev_eq (hG : GOk G) (hx : x.length ≤ 40) (hy : y.length ≤ 40) (hc : ∀ c ∈ x, c < 128) (hd : ∀ c ∈ y, c < 128) :
    giveF (lev_f G [F (.str x), F (.str y), FI m, none, none, none, none, none, none, none, none, none, none, none]) = some (.int (levP x y m : Int)) := by
  have lx : x.length ≤ lim := by unfold lim; omega
  have ly : y.length ≤ lim := by unfold lim; omega
  unfold lev_f
  by_cases hxy : x = y
  · rw [seqF_ret (v := .int 0) (by rw [lv0_eq, if_pos hxy])]
    simp [giveF, levP, hxy]
  · have hp := lcp_le x y
    rw [seqF_next (by rw [lv0_eq, if_neg hxy]), seqF_next lv1_eq, seqF_next (pre_loop lx ly 60 0 x y rfl rfl (by omega) (by omega))]
    rw [Nat.zero_add, seqF_next (lv3_eq lx (by omega)), seqF_next (lv4_eq ly (by omega)), seqF_next lv5_eq]
    have hla : (x.drop (lcp x y)).length ≤ 40 := by simp; omega
    have hlb : (y.drop (lcp x y)).length ≤ 40 := by simp; omega
    have hca : ∀ c ∈ x.drop (lcp x y), c < 128 := fun c h => hc c (List.mem_of_mem_drop h)
    have hcb : ∀ c ∈ y.drop (lcp x y), c < 128 := fun c h => hd c (List.mem_of_mem_drop h)
    have hlev : levP x y m = levS (x.drop (lcp x y)) (y.drop (lcp x y)) m := by unfold levP; rw [if_neg hxy]
    rw [hlev]
    generalize x.drop (lcp x y) = a at hla hca ⊢
    generalize y.drop (lcp x y) = b at hlb hcb ⊢
    have la : a.length ≤ lim := by unfold lim; omega
    have lb : b.length ≤ lim := by unfold lim; omega
    have hq := lcp_le a.reverse b.reverse
    rw [List.length_reverse] at hq
    rw [seqF_next (post_loop la lb 60 0 a.reverse b.reverse rfl rfl (by omega) (by omega)), Nat.zero_add, seqF_next (lv7_eq la (by omega)), seqF_next (lv8_eq lb (by omega))]
    have hlu : (a.take (a.length - lcp a.reverse b.reverse)).length ≤ 40 := by simp; omega
    have hlv : (b.take (b.length - lcp a.reverse b.reverse)).length ≤ 40 := by simp; omega
    have hcu : ∀ c ∈ a.take (a.length - lcp a.reverse b.reverse), c < 128 := fun c h => hca c (List.mem_of_mem_take h)
    have hcv : ∀ c ∈ b.take (b.length - lcp a.reverse b.reverse), c < 128 := fun c h => hcb c (List.mem_of_mem_take h)
    unfold levS
    generalize lcp a.reverse b.reverse = q at hlu hlv hcu hcv ⊢
    generalize a.take (a.length - q) = u at hlu hcu ⊢
    generalize b.take (b.length - q) = v at hlv hcv ⊢
    have lu : u.length ≤ lim := by unfold lim; omega
    have lv : v.length ≤ lim := by unfold lim; omega
    unfold levT
    by_cases he : u = [] ∨ v = []
    · rw [seqF_ret (v := .int ((2 * (u.length + v.length) : Nat) : Int)) (by rw [lv9_eq lu lv, if_pos he]), if_pos he]
      rfl
    · rw [if_neg he]
      rw [seqF_next (by rw [lv9_eq lu lv, if_neg he]), seqF_next (lv10_eq hlu hlv), seqF_next (lv11_eq lu lv)]
      have fin : ∀ (x y : List Nat), x.length ≤ 40 → y.length ≤ 40 → x ≠ [] → x.length ≤ y.length → (∀ c ∈ x, c < 128) → (∀ c ∈ y, c < 128) → ∀ s3 s4 : Option Slot,
          giveF (seqF lv12 (seqF lv13 (seqF lv14 (seqF (lv15 G) (seqF lv16 fun σ => some (σ, Fl.next))))) [F (.str x), F (.str y), FI m, s3, s4, none, none, none, none, none, none, none, none, none]) = some (.int (levQ x y m : Int)) := by
        intro x y hx hy h0 hxy hc hd s3 s4
        unfold levQ
        by_cases hm : m < (y.length - x.length) * 2
        · rw [seqF_ret (v := .int ((m + 1 : Nat) : Int)) (by rw [lv12_eq hx hy hxy, if_pos hm]), if_pos hm]
          rfl
        · rw [if_neg hm, seqF_next (by rw [lv12_eq hx hy hxy, if_neg hm]), seqF_next (lv13_eq hx h0), seqF_next lv14_eq]
          obtain ⟨σ', h1, h2⟩ := lv15_eq (s3 := s3) (s4 := s4) (s7 := none) (s8 := none) (s9 := none) (s10 := none) (s11 := none) (s12 := none) (s13 := none) (m := m) hG hx hy hc hd
          cases hq : (outerP x m y 0 (row0 x.length) 0).1 with
          | true =>
            rw [seqF_ret (σ1 := σ') (v := .int ((outerP x m y 0 (row0 x.length) 0).2 : Int)) (by rw [h1]; simp [outFl, hq])]
            rfl
          | false =>
            rw [seqF_next (σ1 := σ') (by rw [h1]; simp [outFl, hq])]
            rw [seqF_ret (σ1 := σ') (v := .int ((outerP x m y 0 (row0 x.length) 0).2 : Int)) (by simp [lv16, h2 hq])]
            rfl
      simp only [not_or] at he
      by_cases hlt : v.length < u.length
      · simp only [if_pos hlt]
        exact fin v u hlv hlu he.2 (by omega) hcv hcu _ _
      · simp only [if_neg hlt]
        exact fin u v hlu hlv he.1 (by omega) hcu hcv _ _
end
end Lw

namespace Lw
open PySem
set_option maxRecDepth 10000
noncomputable def substitution_cost_s0 : St → Option (St × Fl) := fun σ =>
    ((getF σ 0).bind fun a => (getF σ 1).bind fun b => cmpV CmpOp.Eq a b).bind fun c =>
      if c = true then
        seqF (fun σ => Option.map (fun v => (σ, Fl.ret v)) (some (V.int 0))) (fun σ => some (σ, Fl.next)) σ
      else some (σ, Fl.next)
noncomputable def substitution_cost_s1 : St → Option (St × Fl) := fun σ =>
      (((getF σ 0).bind fun ov => if isStrV ov = true then lowerV [ov] else none).bind fun a =>
            ((getF σ 1).bind fun ov => if isStrV ov = true then lowerV [ov] else none).bind fun b =>
              cmpV CmpOp.Eq a b).bind
        fun c =>
        if c = true then
          seqF (fun σ => Option.map (fun v => (σ, Fl.ret v)) (some (V.int 1))) (fun σ => some (σ, Fl.next)) σ
        else some (σ, Fl.next)
noncomputable def substitution_cost_s2 : St → Option (St × Fl) := fun σ => Option.map (fun v => (σ, Fl.ret v)) (some (V.int 2))
noncomputable def f_substitution_cost : St → Option (St × Fl) := (seqF substitution_cost_s0 (seqF substitution_cost_s1 (seqF substitution_cost_s2 (fun σ => some (σ, Fl.next)))))
noncomputable def Int2AP_s0 : St → Option (St × Fl) := fun σ => Option.map (fun v => (setF 1 v σ, Fl.next)) (some (V.bytes []))
noncomputable def Int2AP_s1 : St → Option (St × Fl) := fun σ =>
      Option.map (fun v => (setF 2 v σ, Fl.next))
        (some (V.bytes [65, 66, 67, 68, 69, 70, 71, 72, 73, 74, 75, 76, 77, 78, 79, 80]))
noncomputable def Int2AP_s2 : St → Option (St × Fl) := fun σ =>
        Option.map (fun v => (setF 0 v σ, Fl.next))
          (((((getF σ 0).bind fun v => Option.map (fun x => v :: x) (some [])).bind absV).bind fun v =>
                Option.map (fun x => v :: x) (some [])).bind
            intV)
noncomputable def Int2AP_s3_t : St → Option Bool := (fun σ => (getF σ 0).bind truthyV)
noncomputable def Int2AP_s3_b_s0 : St → Option (St × Fl) := fun σ =>
              (getF σ 0).bind fun a =>
                (some (V.int 16)).bind fun b =>
                  Option.map (fun q => (setF 3 (V.int q.snd) (setF 0 (V.int q.fst) σ), Fl.next)) (divmodV a b)
noncomputable def Int2AP_s3_b_s1 : St → Option (St × Fl) := fun σ =>
                Option.map (fun v => (setF 1 v σ, Fl.next))
                  (((getF σ 2).bind fun x =>
                        ((getF σ 3).bind partV).bind fun lo =>
                          (((getF σ 3).bind fun a => (some (V.int 1)).bind fun b => addV a b).bind partV).bind fun hi =>
                            cutBV x lo hi).bind
                    fun a => (getF σ 1).bind fun b => addV a b)
noncomputable def Int2AP_s3_b : St → Option (St × Fl) := (seqF Int2AP_s3_b_s0 (seqF Int2AP_s3_b_s1 (fun σ => some (σ, Fl.next))))
noncomputable def Int2AP_s3 : St → Option (St × Fl) := whileF Int2AP_s3_t Int2AP_s3_b 60
noncomputable def Int2AP_s4 : St → Option (St × Fl) := fun σ => Option.map (fun v => (σ, Fl.ret v)) (getF σ 1)
noncomputable def f_Int2AP : St → Option (St × Fl) := (seqF Int2AP_s0 (seqF Int2AP_s1 (seqF Int2AP_s2 (seqF Int2AP_s3 (seqF Int2AP_s4 (fun σ => some (σ, Fl.next)))))))

theorem startS_1 {nm : List Str} {v : V} {n : Nat} (h : nm.length = n + 1) : startS nm [v] = F v :: List.replicate n none := by
  unfold startS
  rw [h]; rfl

section
variable {a b s2 s3 : Option Slot}
theorem sub0_eq {c d : Nat} : substitution_cost_s0 [F (.str [c]), F (.str [d])] = some ([F (.str [c]), F (.str [d])], if c = d then .ret (.int 0) else .next) := by
  simp only [substitution_cost_s0, getF_succ, getF_zero, Option.bind_some, cmpV]
  by_cases h : c = d
  · simp [h, seqF]
  · simp [h]
theorem sub1_eq {c d : Nat} (hc : c < 128) (hd : d < 128) : substitution_cost_s1 [F (.str [c]), F (.str [d])] = some ([F (.str [c]), F (.str [d])], if lowC c = lowC d then .ret (.int 1) else .next) := by
  have e1 : lowerV [.str [c]] = some (.str [lowC c]) := by simp only [lowerV]; rw [if_pos hc]
  have e2 : lowerV [.str [d]] = some (.str [lowC d]) := by simp only [lowerV]; rw [if_pos hd]
  simp only [substitution_cost_s1, getF_succ, getF_zero, Option.bind_some, isStrV, if_true, e1, e2, cmpV]
  by_cases h : lowC c = lowC d
  · simp [h, seqF]
  · simp [h]
theorem sub_give {c d : Nat} (hc : c < 128) (hd : d < 128) : giveF (f_substitution_cost [F (.str [c]), F (.str [d])]) = some (.int (subC c d : Int)) := by
  unfold f_substitution_cost subC
  by_cases h : c = d
  · rw [seqF_ret (v := .int 0) (by rw [sub0_eq, if_pos h]), if_pos h]; rfl
  · rw [seqF_next (by rw [sub0_eq, if_neg h]), if_neg h]
    by_cases h2 : lowC c = lowC d
    · rw [seqF_ret (v := .int 1) (by rw [sub1_eq hc hd, if_pos h2]), if_pos h2]; rfl
    · rw [seqF_next (by rw [sub1_eq hc hd, if_neg h2]), if_neg h2]; rfl

noncomputable def ltr (d : Nat) : UInt8 := UInt8.ofNat (65 + d)
/-- the letters of a number, ahead of those at hand -/
noncomputable def apF : Nat → Nat → List UInt8 → List UInt8
  | 0, _, val => val
  | fuel + 1, n, val => if n = 0 then val else apF fuel (n / 16) (ltr (n % 16) :: val)
noncomputable def AP : List UInt8 := [65, 66, 67, 68, 69, 70, 71, 72, 73, 74, 75, 76, 77, 78, 79, 80]
theorem ap_cut : ∀ m : Fin 16, cutL AP (some ((m.val : Nat) : Int)) (some (((m.val : Nat) : Int) + 1)) = [ltr m.val] := by decide +kernel

theorem apb0_eq {n : Nat} {v : List UInt8} (hn : n < 1000000) : Int2AP_s3_b_s0 [FI n, a, b, s3] = some ([FI ((n / 16 : Nat) : Int), a, b, FI ((n % 16 : Nat) : Int)], .next) := by
  have e : divmodV (.int (n : Int)) (.int 16) = some (((n / 16 : Nat) : Int), ((n % 16 : Nat) : Int)) := by
    simp only [divmodV]
    rw [if_pos ⟨by omega, by omega, by decide, by decide⟩]
    rfl
  simp only [Int2AP_s3_b_s0, getF_succ, getF_zero, Option.bind_some, e, Option.map_some, setF_succ, setF_zero]
theorem apb1_eq {m : Nat} {v : List UInt8} (hm : m < 16) (hv : v.length ≤ 1000) : Int2AP_s3_b_s1 [a, F (.bytes v), F (.bytes AP), FI m] = some ([a, F (.bytes (ltr m :: v)), F (.bytes AP), FI m], .next) := by
  have e1 : partV (.int ((m : Int) + 1)) = some (some ((m : Int) + 1)) := by
    simp only [partV]
    rw [if_pos (by omega)]
  have e2 : cutBV (.bytes AP) (some (m : Int)) (some ((m : Int) + 1)) = some (.bytes [ltr m]) := by
    simp only [cutBV]
    rw [if_pos (by decide), ap_cut ⟨m, hm⟩]
  have e3 : addV (.bytes [ltr m]) (.bytes v) = some (.bytes (ltr m :: v)) := by
    simp only [addV]
    rw [if_pos (by unfold lim; simp; omega)]
    rfl
  simp only [Int2AP_s3_b_s1, getF_succ, getF_zero, Option.bind_some, part_nat (show m ≤ 1000000 by omega), add_int, e1, e2, e3, Option.map_some, setF_succ, setF_zero]
theorem ap_loop : ∀ (fuel n : Nat) (v : List UInt8) (s3 : Option Slot), n < 16 ^ fuel → n < 1000000 → v.length + fuel ≤ 1000 → ∃ t3,
    whileF Int2AP_s3_t Int2AP_s3_b (fuel + 1) [FI n, F (.bytes v), F (.bytes AP), s3] = some ([FI (0 : Nat), F (.bytes (apF fuel n v)), F (.bytes AP), t3], .next)
  | 0, n, v, s3, h, _, _ => by
    have : n = 0 := by simpa using h
    subst this
    exact ⟨s3, rfl⟩
  | fuel + 1, n, v, s3, h, h2, h3 => by
    by_cases h0 : n = 0
    · subst h0
      refine ⟨s3, ?_⟩
      simp [whileF, Int2AP_s3_t, truthyV, apF]
    · have ht : Int2AP_s3_t [FI n, F (.bytes v), F (.bytes AP), s3] = some true := by
        simp only [Int2AP_s3_t, getF_zero, Option.bind_some, truthyV, Option.some.injEq, decide_eq_true_eq]
        omega
      have hb : Int2AP_s3_b [FI n, F (.bytes v), F (.bytes AP), s3] = some ([FI ((n / 16 : Nat) : Int), F (.bytes (ltr (n % 16) :: v)), F (.bytes AP), FI ((n % 16 : Nat) : Int)], .next) := by
        unfold Int2AP_s3_b
        rw [seqF_next (apb0_eq (v := v) h2), seqF_next (apb1_eq (Nat.mod_lt _ (by decide)) (by omega))]
      obtain ⟨t3, ih⟩ := ap_loop fuel (n / 16) (ltr (n % 16) :: v) (FI ((n % 16 : Nat) : Int)) (by rw [Nat.pow_succ] at h; omega) (by omega) (by simp only [List.length_cons]; omega)
      refine ⟨t3, ?_⟩
      rw [whileF, ht]
      simp only [Option.bind_some, if_true, hb]
      rw [ih]
      simp [apF, h0]
end

theorem ap_give {i : Int} (h : i.natAbs < 1000000) : giveF (f_Int2AP [FI i, none, none, none]) = some (.bytes (apF 59 i.natAbs [])) := by
  have e0 : Int2AP_s0 [FI i, none, none, none] = some ([FI i, F (.bytes []), none, none], .next) := rfl
  have e1 : Int2AP_s1 [FI i, F (.bytes []), none, none] = some ([FI i, F (.bytes []), F (.bytes AP), none], .next) := rfl
  have e2 : Int2AP_s2 [FI i, F (.bytes []), F (.bytes AP), none] = some ([FI (i.natAbs : Int), F (.bytes []), F (.bytes AP), none], .next) := by
    have : (if i < 0 then -i else i) = (i.natAbs : Int) := by split <;> omega
    simp only [Int2AP_s2, getF_zero, Option.bind_some, Option.map_some, absV, intV, setF_zero, this]
  unfold f_Int2AP
  rw [seqF_next e0, seqF_next e1, seqF_next e2]
  obtain ⟨t3, h3⟩ := ap_loop 59 i.natAbs [] none (Nat.lt_of_lt_of_le h (by decide)) h (by simp)
  unfold Int2AP_s3
  rw [seqF_next h3]
  rfl

theorem snocInd {α : Type} {p : List α → Prop} (h0 : p []) (h1 : ∀ r x, p r → p (r ++ [x])) : ∀ l, p l := by
  intro l
  rw [← List.reverse_reverse l]
  induction l.reverse with
  | nil => exact h0
  | cons x r ih => rw [List.reverse_cons]; exact h1 _ _ ih
/-- a number by its figures -/
noncomputable def num (ds : List Nat) : Nat := ds.foldl (fun n d => 16 * n + d) 0
theorem num_snoc (ds : List Nat) (d : Nat) : num (ds ++ [d]) = 16 * num ds + d := by simp [num]
theorem num_pos (r : List Nat) : ∀ d, 0 < d → 0 < num (d :: r) :=
  snocInd (p := fun r => ∀ d, 0 < d → 0 < num (d :: r)) (fun d h => by simpa [num] using h) (fun r x ih d h => by rw [← List.cons_append, num_snoc]; have := ih d h; omega) r
theorem apF_zero (fuel : Nat) (v : List UInt8) : apF fuel 0 v = v := by cases fuel <;> simp [apF]
theorem apF_num (r : List Nat) : ∀ (d fuel : Nat) (v : List UInt8), 0 < d → (∀ x ∈ d :: r, x < 16) → r.length < fuel → apF fuel (num (d :: r)) v = (d :: r).map ltr ++ v := by
  refine snocInd (p := fun r => ∀ (d fuel : Nat) (v : List UInt8), 0 < d → (∀ x ∈ d :: r, x < 16) → r.length < fuel → apF fuel (num (d :: r)) v = (d :: r).map ltr ++ v) ?_ ?_ r
  · intro d fuel v h hx hf
    cases fuel with
    | zero => omega
    | succ fuel =>
      have hd : d < 16 := hx d (by simp)
      simp only [num, List.foldl_cons, List.foldl_nil, Nat.mul_zero, Nat.zero_add, apF]
      rw [if_neg (by omega), Nat.div_eq_of_lt hd, Nat.mod_eq_of_lt hd, apF_zero]; rfl
  · intro r x ih d fuel v h hx hf
    cases fuel with
    | zero => omega
    | succ fuel =>
      have hx16 : x < 16 := hx x (by simp)
      have hp := num_pos r d h
      rw [← List.cons_append, num_snoc]
      simp only [apF]
      rw [if_neg (by omega)]
      have e1 : (16 * num (d :: r) + x) / 16 = num (d :: r) := by omega
      have e2 : (16 * num (d :: r) + x) % 16 = x := by omega
      rw [e1, e2, ih d fuel _ h (fun y hy => hx y (by rw [← List.cons_append]; exact List.mem_append_left _ hy)) (by simp at hf; omega)]
      simp
end Lw

namespace Lw
open PySem
set_option maxRecDepth 100000
noncomputable def law_letters_s0 : St → Option (St × Fl) := fun σ => Option.map (fun v => (setF 1 v σ, Fl.next)) (some (V.str []))
noncomputable def law_letters_s1_t : St → Option Bool := (fun σ => (getF σ 0).bind fun a => (some (V.int 0)).bind fun b => cmpV CmpOp.Gt a b)
noncomputable def law_letters_s1_b_s0 : St → Option (St × Fl) := fun σ =>
          Option.map (fun v => (setF 1 v σ, Fl.next))
            (((((some (V.int 65)).bind fun a =>
                          ((getF σ 0).bind fun a => (some (V.int 16)).bind fun b => modV a b).bind fun b =>
                            addV a b).bind
                      fun v => Option.map (fun x => v :: x) (some [])).bind
                  chrV).bind
              fun a => (getF σ 1).bind fun b => addV a b)
noncomputable def law_letters_s1_b_s1 : St → Option (St × Fl) := fun σ =>
            Option.map (fun v => (setF 0 v σ, Fl.next))
              ((getF σ 0).bind fun a => (some (V.int 16)).bind fun b => fdivV a b)
noncomputable def law_letters_s1_b : St → Option (St × Fl) := (seqF law_letters_s1_b_s0 (seqF law_letters_s1_b_s1 (fun σ => some (σ, Fl.next))))
noncomputable def law_letters_s1 : St → Option (St × Fl) := whileF law_letters_s1_t law_letters_s1_b 60
noncomputable def law_letters_s2 : St → Option (St × Fl) := fun σ => Option.map (fun v => (σ, Fl.ret v)) (getF σ 1)
noncomputable def f_law_letters : St → Option (St × Fl) := (seqF law_letters_s0 (seqF law_letters_s1 (seqF law_letters_s2 (fun σ => some (σ, Fl.next)))))

theorem mod_int {a b : Int} (h : 0 < b ∧ b < 1073741824) : modV (.int a) (.int b) = some (.int (a % b)) := if_pos h
theorem fdiv_int {a b : Int} (h : 0 < b ∧ b < 1073741824) : fdivV (.int a) (.int b) = some (.int (a / b)) := if_pos h
theorem chr_nat {n : Nat} (h : n < 128) : chrV [.int (n : Int)] = some (.str [n]) := by
  simp only [chrV]
  first | (rw [if_pos (by omega)]; simp) | simp [h]
theorem add_str {x y : List Nat} (h : x.length + y.length ≤ lim) : addV (.str x) (.str y) = some (.str (x ++ y)) := if_pos h

/-- the letters of a number, ahead of those at hand -/
noncomputable def ltF : Nat → Nat → List Nat → List Nat
  | 0, _, val => val
  | fuel + 1, n, val => if n = 0 then val else ltF fuel (n / 16) ((65 + n % 16) :: val)
theorem lt_loop : ∀ (fuel n : Nat) (v : List Nat), n < 16 ^ fuel → n < 1000000 → v.length + fuel ≤ 1000 →
    whileF law_letters_s1_t law_letters_s1_b (fuel + 1) [FI n, F (.str v)] = some ([FI (0 : Nat), F (.str (ltF fuel n v))], .next)
  | 0, n, v, h, _, _ => by
    have : n = 0 := by simpa using h
    subst this
    rfl
  | fuel + 1, n, v, h, h2, h3 => by
    by_cases h0 : n = 0
    · subst h0
      simp [whileF, law_letters_s1_t, cmpV, ltF]
    · have ht : law_letters_s1_t [FI n, F (.str v)] = some true := by
        simp [law_letters_s1_t, cmpV]
        omega
      have m1 : modV (.int (n : Int)) (.int 16) = some (.int ((n % 16 : Nat) : Int)) := by
        have h : modV (.int (n : Int)) (.int 16) = some (.int ((n : Int) % 16)) := mod_int ⟨by decide, by decide⟩
        rw [h]; rfl
      have m2 : fdivV (.int (n : Int)) (.int 16) = some (.int ((n / 16 : Nat) : Int)) := by
        have h : fdivV (.int (n : Int)) (.int 16) = some (.int ((n : Int) / 16)) := fdiv_int ⟨by decide, by decide⟩
        rw [h]; rfl
      have m3 : chrV [.int (65 + ((n % 16 : Nat) : Int))] = some (.str [65 + n % 16]) := by
        have := chr_nat (n := 65 + n % 16) (by omega)
        rw [← this]; congr 2
      have m4 : addV (.str [65 + n % 16]) (.str v) = some (.str ((65 + n % 16) :: v)) := add_str (by unfold lim; simp; omega)
      have hb : law_letters_s1_b [FI n, F (.str v)] = some ([FI ((n / 16 : Nat) : Int), F (.str ((65 + n % 16) :: v))], .next) := by
        unfold law_letters_s1_b
        have b0 : law_letters_s1_b_s0 [FI n, F (.str v)] = some ([FI n, F (.str ((65 + n % 16) :: v))], .next) := by
          simp only [law_letters_s1_b_s0, getF_succ, getF_zero, Option.bind_some, Option.map_some, m1, add_int, m3, m4, setF_succ, setF_zero]
        have b1 : law_letters_s1_b_s1 [FI n, F (.str ((65 + n % 16) :: v))] = some ([FI ((n / 16 : Nat) : Int), F (.str ((65 + n % 16) :: v))], .next) := by
          simp only [law_letters_s1_b_s1, getF_succ, getF_zero, Option.bind_some, Option.map_some, m2, setF_succ, setF_zero]
        rw [seqF_next b0, seqF_next b1]
      rw [whileF, ht]
      simp only [Option.bind_some, if_true, hb]
      rw [lt_loop fuel (n / 16) _ (by rw [Nat.pow_succ] at h; omega) (by omega) (by simp only [List.length_cons]; omega)]
      simp [ltF, h0]
theorem ltF_zero (fuel : Nat) (v : List Nat) : ltF fuel 0 v = v := by cases fuel <;> simp [ltF]
theorem ltF_num (r : List Nat) : ∀ (d fuel : Nat) (v : List Nat), 0 < d → (∀ x ∈ d :: r, x < 16) → r.length < fuel → ltF fuel (num (d :: r)) v = (d :: r).map (65 + ·) ++ v := by
  refine snocInd (p := fun r => ∀ (d fuel : Nat) (v : List Nat), 0 < d → (∀ x ∈ d :: r, x < 16) → r.length < fuel → ltF fuel (num (d :: r)) v = (d :: r).map (65 + ·) ++ v) ?_ ?_ r
  · intro d fuel v h hx hf
    cases fuel with
    | zero => omega
    | succ fuel =>
      have hd : d < 16 := hx d (by simp)
      simp only [num, List.foldl_cons, List.foldl_nil, Nat.mul_zero, Nat.zero_add, ltF]
      rw [if_neg (by omega), Nat.div_eq_of_lt hd, Nat.mod_eq_of_lt hd, ltF_zero]; rfl
  · intro r x ih d fuel v h hx hf
    cases fuel with
    | zero => omega
    | succ fuel =>
      have hx16 : x < 16 := hx x (by simp)
      have hp := num_pos r d h
      rw [← List.cons_append, num_snoc]
      simp only [ltF]
      rw [if_neg (by omega)]
      have e1 : (16 * num (d :: r) + x) / 16 = num (d :: r) := by omega
      have e2 : (16 * num (d :: r) + x) % 16 = x := by omega
      rw [e1, e2, ih d fuel _ h (fun y hy => hx y (by rw [← List.cons_append]; exact List.mem_append_left _ hy)) (by simp at hf; omega)]
      simp
theorem lt_give {n : Nat} (h : n < 1000000) : giveF (f_law_letters [FI n, none]) = some (.str (ltF 59 n [])) := by
  have e0 : law_letters_s0 [FI n, none] = some ([FI n, F (.str [])], .next) := rfl
  unfold f_law_letters
  rw [seqF_next e0]
  have h3 := lt_loop 59 n [] (Nat.lt_of_lt_of_le h (by decide)) h (by simp)
  unfold law_letters_s1
  rw [seqF_next h3]
  rfl
end Lw

namespace Lw
open PySem PyProof.Rows
set_option maxRecDepth 10000

abbrev nI (l : List Nat) : List V := l.map fun d : Nat => V.int (d : Int)
abbrev OL (l : List V) : Option Slot := some (.ownL l)
abbrev OD (l : List (Int × V)) : Option Slot := some (.ownD l)

@[simp] theorem getD_succ (x : Option Slot) (σ : St) (i : Nat) : getD (x :: σ) (i + 1) = getD σ i := rfl
@[simp] theorem getD_zero (v : List (Int × V)) (σ : St) : getD (some (.ownD v) :: σ) 0 = some v := rfl

/-- a for loop, by what stays true -/
theorem forF_inv {α β : Type} {st : V → St → Option St} {b : St → Option (St × Fl)} (emb : α → V) (step : β → α → β) (P : List α → β → St → Prop)
    (h : ∀ x r s σ, P (x :: r) s σ → ∃ σ1 σ2, st (emb x) σ = some σ1 ∧ b σ1 = some (σ2, .next) ∧ P r (step s x) σ2) :
    ∀ xs s σ, P xs s σ → ∃ σ', forF st b (xs.map emb) σ = some (σ', .next) ∧ P [] (xs.foldl step s) σ'
  | [], s, σ, hp => ⟨σ, rfl, hp⟩
  | x :: r, s, σ, hp => by
    obtain ⟨σ1, σ2, e1, e2, hp2⟩ := h x r s σ hp
    obtain ⟨σ', e3, hp3⟩ := forF_inv emb step P h r (step s x) σ2 hp2
    refine ⟨σ', ?_, hp3⟩
    simp only [List.map_cons, forF, e1, Option.bind_some, e2, e3]

theorem loopL_map {α : Type} {t : V → Option Bool} {g : V → Option (List V)} : ∀ (xs : List α) (emb w : α → V), (∀ x ∈ xs, t (emb x) = some true) → (∀ x ∈ xs, g (emb x) = some [w x]) → loopL t g (xs.map emb) = some (xs.map w)
  | [], _, _, _, _ => rfl
  | x :: xs, emb, w, ht, hg => by
    have ih := loopL_map xs emb w (fun y h => ht y (List.mem_cons_of_mem _ h)) (fun y h => hg y (List.mem_cons_of_mem _ h))
    simp only [List.map_cons, loopL, ht x List.mem_cons_self, hg x List.mem_cons_self, Option.bind_some, if_true, ih, Option.map_some, List.singleton_append]

/-- the same, with a test -/
theorem loopL_pick {α : Type} {t : V → Option Bool} {g : V → Option (List V)} (p : α → Bool) (emb w : α → V) : ∀ (xs : List α), (∀ x ∈ xs, t (emb x) = some (p x)) → (∀ x ∈ xs, p x = true → g (emb x) = some [w x]) → loopL t g (xs.map emb) = some ((xs.filter p).map w)
  | [], _, _ => rfl
  | x :: xs, ht, hg => by
    have ih := loopL_pick p emb w xs (fun y h => ht y (List.mem_cons_of_mem _ h)) (fun y h => hg y (List.mem_cons_of_mem _ h))
    simp only [List.map_cons, loopL, ht x List.mem_cons_self, Option.bind_some]
    cases hp : p x with
    | true => simp [hg x List.mem_cons_self hp, ih, hp]
    | false => simp [ih, hp]

theorem giveF_ret' {f : St → Option (St × Fl)} {σ σ' : St} {v : V} (h : f σ = some (σ', .ret v)) : giveF (f σ) = some v := by rw [h]; rfl

-- dicts
theorem storeD_fresh : ∀ (d : List (Int × V)) (k : Int) (v : V), k ∉ d.map (·.1) → storeD d k v = d ++ [(k, v)]
  | [], _, _, _ => rfl
  | (k', u) :: r, k, v, h => by
    simp only [List.map_cons, List.mem_cons, not_or] at h
    unfold storeD
    rw [if_neg (fun e => h.1 e.symm), storeD_fresh r k v h.2]; rfl
theorem storeD_same : ∀ (σ : List Int) (k : Int) (v : V), storeD (σ.map fun q => (q, v)) k v = (step_dedup σ k).map fun q => (q, v)
  | σ, k, v => by
    unfold step_dedup
    by_cases h : k ∈ σ
    · rw [if_pos (by simpa using h)]
      induction σ with
      | nil => simp at h
      | cons q r ih =>
        simp only [List.map_cons]
        unfold storeD
        by_cases e : q = k
        · rw [if_pos e]
        · rw [if_neg e]
          simp only [List.mem_cons] at h
          rcases h with h | h
          · exact absurd h.symm e
          · rw [ih h]
    · rw [if_neg (by simpa using h), storeD_fresh]
      · simp
      · simpa using h
theorem lookD_app : ∀ (d e : List (Int × V)) (k : Int), k ∉ d.map (·.1) → lookD (d ++ e) k = lookD e k
  | [], _, _, _ => rfl
  | (k', u) :: r, e, k, h => by
    simp only [List.map_cons, List.mem_cons, not_or] at h
    simp only [List.cons_append]
    unfold lookD
    rw [if_neg (fun q => h.1 q.symm)]
    rw [lookD_app r e k h.2]
    cases e <;> rfl
theorem lookD_same : ∀ (σ : List Int) (e : List (Int × V)) (k : Int) (v : V), k ∈ σ → lookD ((σ.map fun q => (q, v)) ++ e) k = some v
  | [], _, _, _, h => by simp at h
  | q :: r, e, k, v, h => by
    simp only [List.map_cons, List.cons_append]
    unfold lookD
    by_cases hq : q = k
    · rw [if_pos hq]
    · rw [if_neg hq]
      simp only [List.mem_cons] at h
      rcases h with h | h
      · exact absurd h.symm hq
      · exact lookD_same r e k v h
theorem lookD_mem : ∀ (d : List (Int × V)) (k : Int) (v : V), (d.map (·.1)).Nodup → (k, v) ∈ d → lookD d k = some v
  | [], _, _, _, h => by simp at h
  | (k', u) :: r, k, v, hn, h => by
    simp only [List.map_cons, List.nodup_cons] at hn
    unfold lookD
    simp only [List.mem_cons, Prod.mk.injEq] at h
    rcases h with ⟨rfl, rfl⟩ | h
    · rw [if_pos rfl]
    · have : k' ≠ k := by
        rintro rfl
        exact hn.1 (List.mem_map.mpr ⟨_, h, rfl⟩)
      rw [if_neg this]
      exact lookD_mem r k v hn.2 h

-- dedup
theorem step_mem (σ : List Int) (k x : Int) : x ∈ step_dedup σ k ↔ x ∈ σ ∨ x = k := by
  unfold step_dedup
  split
  · rename_i h
    have hk : k ∈ σ := by simpa using h
    constructor
    · exact .inl
    · rintro (h | rfl)
      · exact h
      · exact hk
  · simp
theorem step_nodup (σ : List Int) (k : Int) (h : σ.Nodup) : (step_dedup σ k).Nodup := by
  unfold step_dedup
  split
  · exact h
  · rename_i hk
    have hk : k ∉ σ := by simpa using hk
    exact (List.perm_append_singleton _ _).symm.nodup_iff.mp (List.nodup_cons.mpr ⟨hk, h⟩)
theorem dd_mem : ∀ (ns σ : List Int) (x : Int), x ∈ ns.foldl step_dedup σ ↔ x ∈ σ ∨ x ∈ ns
  | [], _, _ => by simp
  | n :: ns, σ, x => by
    rw [List.foldl_cons, dd_mem ns, step_mem, List.mem_cons]
    constructor
    · rintro ((h | h) | h)
      · exact .inl h
      · exact .inr (.inl h)
      · exact .inr (.inr h)
    · rintro (h | h | h)
      · exact .inl (.inl h)
      · exact .inl (.inr h)
      · exact .inr h
theorem dd_nodup : ∀ (ns σ : List Int), σ.Nodup → (ns.foldl step_dedup σ).Nodup
  | [], _, h => h
  | n :: ns, σ, h => dd_nodup ns _ (step_nodup σ n h)
theorem dd_len : ∀ (ns σ : List Int), (ns.foldl step_dedup σ).length ≤ σ.length + ns.length
  | [], _ => by simp
  | n :: ns, σ => by
    have h1 := dd_len ns (step_dedup σ n)
    have h2 : (step_dedup σ n).length ≤ σ.length + 1 := by unfold step_dedup; split <;> simp
    simp only [List.foldl_cons, List.length_cons]; omega
end Lw

namespace Lw
open PySem PyProof.Rows
set_option maxRecDepth 10000

/-- a word of figures: the first one not nought -/
noncomputable def Wd (o : List Nat) : Prop := (∀ d ∈ o, d < 16) ∧ (∃ d r, o = d :: r ∧ 0 < d) ∧ o.length ≤ 4
theorem num_small {o : List Nat} (h : Wd o) : num o < 65536 := by
  obtain ⟨h1, _, h3⟩ := h
  match o, h3 with
  | [], _ => decide
  | [d], _ => have := h1 d (by simp); simp only [num, List.foldl]; omega
  | [d, x], _ => have := h1 d (by simp); have := h1 x (by simp); simp only [num, List.foldl]; omega
  | [d, x, y], _ => have := h1 d (by simp); have := h1 x (by simp); have := h1 y (by simp); simp only [num, List.foldl]; omega
  | [d, x, y, z], _ => have := h1 d (by simp); have := h1 x (by simp); have := h1 y (by simp); have := h1 z (by simp); simp only [num, List.foldl]; omega
  | _ :: _ :: _ :: _ :: _ :: _, h => simp at h
theorem ap_word {o : List Nat} (h : Wd o) : apF 59 (num o) [] = o.map ltr := by
  obtain ⟨h1, ⟨d, r, rfl, hd⟩, h3⟩ := h
  have := apF_num r d 59 [] hd h1 (by simp at h3; omega)
  simpa using this
theorem lt_word {o : List Nat} (h : Wd o) : ltF 59 (num o) [] = o.map (65 + ·) := by
  obtain ⟨h1, ⟨d, r, rfl, hd⟩, h3⟩ := h
  have := ltF_num r d 59 [] hd h1 (by simp at h3; omega)
  simpa using this
theorem ltr_nat {d : Nat} (h : d < 16) : (ltr d).toNat = 65 + d := by
  unfold ltr
  rw [UInt8.toNat_ofNat']
  omega
theorem decode_word {o : List Nat} (h : Wd o) : decodeV [.bytes (o.map ltr), .str [97, 115, 99, 105, 105]] = some (.str (o.map (65 + ·))) := by
  obtain ⟨h1, ⟨d, r, rfl, hd⟩, h3⟩ := h
  simp only [List.map_cons, decodeV]
  have e : ∀ l : List Nat, (∀ d ∈ l, d < 16) → (l.map ltr).map (·.toNat) = l.map (65 + ·) := by
    intro l hl
    rw [List.map_map]
    exact List.map_congr_left fun x hx => ltr_nat (hl x hx)
  rw [if_pos ?_]
  · have := e (d :: r) h1
    simp only [List.map_cons] at this
    rw [this]
  · refine ⟨List.all_eq_true.mpr fun x hx => ?_, by simp at h3 ⊢; omega⟩
    rw [← List.map_cons] at hx
    obtain ⟨y, hy, rfl⟩ := List.mem_map.mp hx
    have := h1 y hy
    rw [ltr_nat this]
    exact decide_eq_true (by omega)

theorem subC_cap {b m : Nat} (hb : b < 16) (hm : m < 16) : subC (65 + b) (65 + m) = if b = m then 0 else 2 := by
  unfold subC
  have e1 : lowC (65 + b) = 97 + b := by unfold lowC; rw [if_pos (by omega)]; omega
  have e2 : lowC (65 + m) = 97 + m := by unfold lowC; rw [if_pos (by omega)]; omega
  rw [e1, e2]
  by_cases h : b = m
  · simp [h]
  · rw [if_neg (by omega), if_neg (by omega), if_neg h]

theorem lev_same (x : List Nat) (m : Nat) : levP x x m = 0 := by unfold levP; rw [if_pos rfl]

theorem lev_23 {a b m l : Nat} (hb : b < 16) (hm : m < 16) (hl : l < 16) : levP [65 + a, 65 + b] [65 + a, 65 + m, 65 + l] 2 = 2 ↔ (b = m ∨ b = l) := by
  by_cases h1 : b = m
  · subst h1
    simp [levP, lcp, levS, levT]
  · by_cases h2 : b = l
    · subst h2
      simp [levP, lcp, levS, levT, h1]
    · simp [levP, lcp, levS, levT, levQ, outerP, innerP, row0, BIG, subC_cap, h1, h2, hb, hm, hl, Ne.symm h1, Ne.symm h2, List.range_succ]

theorem lev_33 {a b c m l : Nat} (hb : b < 16) (hc : c < 16) (hm : m < 16) (hl : l < 16) : levP [65 + a, 65 + b, 65 + c] [65 + a, 65 + m, 65 + l] 2 = 2 ↔ (b = m ∧ c ≠ l ∨ b ≠ m ∧ c = l) := by
  by_cases h1 : b = m
  · subst h1
    by_cases h2 : c = l
    · subst h2
      simp [levP, lcp, levS, levT]
    · simp [levP, lcp, levS, levT, levQ, outerP, innerP, row0, BIG, subC_cap, h2, hc, hl, Ne.symm h2, List.range_succ]
  · by_cases h2 : c = l
    · subst h2
      simp [levP, lcp, levS, levT, levQ, outerP, innerP, row0, BIG, subC_cap, h1, hb, hm, Ne.symm h1, List.range_succ]
    · by_cases h3 : b = l
      · subst h3
        by_cases h4 : c = m
        · subst h4
          simp [levP, lcp, levS, levT, levQ, outerP, innerP, row0, BIG, subC_cap, h1, h2, hb, hc, Ne.symm h1, List.range_succ]
        · simp [levP, lcp, levS, levT, levQ, outerP, innerP, row0, BIG, subC_cap, h1, h2, h4, hb, hc, hm, Ne.symm h1, Ne.symm h2, Ne.symm h4, List.range_succ]
      · by_cases h4 : c = m
        · subst h4
          simp [levP, lcp, levS, levT, levQ, outerP, innerP, row0, BIG, subC_cap, h1, h2, h3, hb, hc, hl, Ne.symm h1, Ne.symm h2, Ne.symm h3, List.range_succ]
        · simp [levP, lcp, levS, levT, levQ, outerP, innerP, row0, BIG, subC_cap, h1, h2, h3, h4, hb, hc, hm, hl, Ne.symm h1, Ne.symm h2, Ne.symm h3, Ne.symm h4, List.range_succ]
end Lw

namespace Lw
open PySem PyProof.Rows
set_option maxRecDepth 10000

theorem eqB_refl {a : List V} (h : plainVs a = true) : eqB (.list a) (.list a) = true := PySem.SeqAt.eqv_refl _ (plain_canLay (v := .list a) h)
theorem plainVs_map {α : Type} (f : α → V) (hf : ∀ x, plainV (f x) = true) : ∀ l : List α, plainVs (l.map f) = true
  | [] => rfl
  | x :: l => by simp only [List.map_cons, plainVs, hf, plainVs_map f hf l, Bool.and_self]
theorem deepVs_map {α : Type} (f : α → V) (n : Nat) (hf : ∀ x, deepV (f x) ≤ n) : ∀ l : List α, deepVs (l.map f) ≤ n
  | [] => Nat.zero_le _
  | x :: l => by
    have h1 := hf x
    have h2 := deepVs_map f n hf l
    simp only [List.map_cons, deepVs]
    omega
theorem cmp_same {a : List V} (h1 : plainVs a = true) (h2 : deepVs a ≤ 10) : cmpV .Eq (.list a) (.list a) = some true ∧ cmpV .NotEq (.list a) (.list a) = some false := by
  refine ⟨?_, ?_⟩
  · simp only [cmpV]; rw [if_pos ⟨h1, h1, h2, h2⟩, eqB_refl h1]
  · simp only [cmpV]; rw [if_pos ⟨h1, h1, h2, h2⟩, eqB_refl h1]; rfl
theorem pickL_map {α β : Type} (f : α → β) (xs : List α) (lo hi st : Option Int) : pickL (xs.map f) lo hi st = (pickL xs lo hi st).map f := by
  unfold pickL
  rw [List.length_map, List.map_filterMap]
  congr 1
  funext i
  simp
theorem slice_some {xs : List V} {lo hi st : Option Int} (h1 : st ≠ some 0) (h2 : xs.length ≤ lim) : sliceV xs lo hi st = some (pickL xs lo hi st) := by
  unfold sliceV
  rw [if_neg (by rintro (h | h); exact h1 h; omega)]
noncomputable def SSk (q : Int) (ns : List Int) (k : Int) : Int := (pickL (pickL ns none (some 63) none) (some k) none (some q)).sum
theorem ss_eq {q : Int} (hq : q ≠ 0) {ns : List Int} (hn : ns.length ≤ 63) (k : Int) : ∃ l1 l2 : List V, sliceV (ns.map .int) none (some 63) none = some l1 ∧ sliceV l1 (some k) none (some q) = some l2 ∧ sumV [.list l2] = some (.int (SSk q ns k)) := by
  have hle : (pickL ns none (some 63) none).length ≤ ns.length := pickL_le _ _ _ _
  refine ⟨(pickL ns none (some 63) none).map .int, (pickL (pickL ns none (some 63) none) (some k) none (some q)).map .int, ?_, ?_, ?_⟩
  · rw [slice_some (by simp) (by unfold lim; simp; omega), pickL_map]
  · rw [slice_some (by simpa using hq) (by unfold lim; simp; omega), pickL_map]
  · simp only [sumV, ints?_map, Option.map_some, SSk]
end Lw

namespace Lw
open PySem
set_option maxRecDepth 100000
theorem f_substitution_cost_eq : e_substitution_cost.1 = f_substitution_cost := rfl
theorem f_Int2AP_eq : e_Int2AP.1 = f_Int2AP := rfl
theorem f_lev_eq : e_levenshtein_distance.1 = lev_f g_substitution_cost := rfl
theorem f_law_letters_eq : e_law_letters.1 = f_law_letters := rfl
noncomputable def law_worths_s0 : St → Option (St × Fl) := fun σ =>
    Option.map (fun v => (setF 1 v σ, Fl.next))
      (Option.map V.list
        (((getF σ 0).bind iterV).bind fun items =>
          (loopL (fun v => some true)
                (fun v =>
                  Option.map (fun v => [v])
                    (((getF (some (Slot.frz v) :: maskS [false, false, false, false, false, false, false] σ) 0).bind
                          fun v => Option.map (fun x => v :: x) (some [])).bind
                      g_law_letters))
                items).bind
            fun vs => if vs.length ≤ lim then some vs else none))
noncomputable def law_worths_s1 : St → Option (St × Fl) := fun σ =>
      Option.map (fun v => (List.set σ 2 (some (Slot.ownL v)), Fl.next))
        ((some []).bind fun vs => if vs.length ≤ lim then some vs else none)
noncomputable def law_worths_s2_b_s0 : St → Option (St × Fl) := fun σ =>
                Option.map (fun v => (setF 4 v σ, Fl.next))
                  (Option.map V.list ((some []).bind fun vs => if vs.length ≤ lim then some vs else none))
noncomputable def law_worths_wA : St → Option (St × Fl) := (fun σ =>
                          Option.map (fun v => (setF 5 v σ, Fl.next))
                            (((((((getF σ 0).bind asList).bind fun xs => (getF σ 3).bind fun v => idxLV xs v).bind
                                          fun a =>
                                          ((some (V.int 1)).bind fun a =>
                                                ((some (V.int 2)).bind fun a =>
                                                      ((((getF σ 0).bind asList).bind fun xs =>
                                                                (getF σ 3).bind fun v => idxLV xs v).bind
                                                            fun a => (some (V.int 2)).bind fun b => modV a b).bind
                                                        fun b => mulV a b).bind
                                                  fun b => subV a b).bind
                                            fun b => mulV a b).bind
                                      fun v => Option.map (fun x => v :: x) (some [])).bind
                                  g_Int2AP).bind
                              fun ov =>
                              ((some (V.str [97, 115, 99, 105, 105])).bind fun v =>
                                    Option.map (fun x => v :: x) (some [])).bind
                                fun vs => if isBytesV ov = true then decodeV (ov :: vs) else none))
noncomputable def law_worths_wB : St → Option (St × Fl) := (fun σ =>
                            (((getF σ 3).bind fun v => Option.map (fun x => v :: x) (some [])).bind rangeV).bind
                              fun items =>
                              (loopL
                                    (fun v =>
                                      (((((getF
                                                            (some (Slot.frz v) ::
                                                              maskS [false, true, true, false, false, true, false] σ)
                                                            2).bind
                                                        asList).bind
                                                    fun xs =>
                                                    (getF
                                                          (some (Slot.frz v) ::
                                                            maskS [false, true, true, false, false, true, false] σ)
                                                          0).bind
                                                      fun v => idxLV xs v).bind
                                                fun v_1 =>
                                                Option.map (fun x => v_1 :: x)
                                                  ((getF
                                                        (some (Slot.frz v) ::
                                                          maskS [false, true, true, false, false, true, false] σ)
                                                        6).bind
                                                    fun v =>
                                                    Option.map (fun x => v :: x)
                                                      ((some (V.int 2)).bind fun v =>
                                                        Option.map (fun x => v :: x) (some [])))).bind
                                            g_levenshtein_distance).bind
                                        fun a => (some (V.int 2)).bind fun b => cmpV CmpOp.Eq a b)
                                    (fun v =>
                                      Option.map (fun v => [v])
                                        ((getO
                                              (some (Slot.frz v) ::
                                                maskS [false, true, true, false, false, true, false] σ)
                                              3).bind
                                          fun xs =>
                                          (getF
                                                (some (Slot.frz v) ::
                                                  maskS [false, true, true, false, false, true, false] σ)
                                                0).bind
                                            fun v => idxLV xs v))
                                    items).bind
                                fun vs =>
                                if vs.length ≤ lim then some (List.set σ 4 (some (Slot.ownL vs)), Fl.next) else none)
noncomputable def law_worths_s2_b_s1 : St → Option (St × Fl) := fun σ =>
                  ((((((getF σ 0).bind asList).bind fun xs => (getF σ 3).bind fun v => idxLV xs v).bind fun v =>
                                Option.map (fun x => v :: x) (some [])).bind
                            g_ISNONTERMINAL).bind
                        truthyV).bind
                    fun c =>
                    if c = true then
                      seqF law_worths_wA (seqF law_worths_wB fun σ => some (freezeS 4 σ, Fl.next)) σ
                    else some (σ, Fl.next)
noncomputable def law_worths_s2_b_s2 : St → Option (St × Fl) := fun σ => Option.map (fun v => (setF 6 v σ, Fl.next)) (some (V.int 0))
noncomputable def law_worths_s2_b_s3_t : St → Option Bool := (fun σ => (getF σ 6).bind fun a => (getF σ 4).bind fun b => cmpV CmpOp.In a b)
noncomputable def law_worths_s2_b_s3_b_s0 : St → Option (St × Fl) := fun σ =>
                          (getF σ 6).bind fun a =>
                            (some (V.int 1)).bind fun b =>
                              Option.map (fun v => (setF 6 v σ, Fl.next)) (augV Operator.Add a b)
noncomputable def law_worths_s2_b_s3_b : St → Option (St × Fl) := (seqF law_worths_s2_b_s3_b_s0 (fun σ => some (σ, Fl.next)))
noncomputable def law_worths_s2_b_s3 : St → Option (St × Fl) := whileF law_worths_s2_b_s3_t law_worths_s2_b_s3_b 60
noncomputable def law_worths_s2_b_s4 : St → Option (St × Fl) := fun σ =>
                        (getO σ 2).bind fun xs =>
                          (getF σ 6).bind fun v =>
                            if xs.length < lim then some (List.set σ 2 (some (Slot.ownL (xs ++ [v]))), Fl.next)
                            else none
noncomputable def law_worths_s2_b : St → Option (St × Fl) := (seqF law_worths_s2_b_s0 (seqF law_worths_s2_b_s1 (seqF law_worths_s2_b_s2 (seqF law_worths_s2_b_s3 (seqF law_worths_s2_b_s4 (fun σ => some (σ, Fl.next)))))))
noncomputable def law_worths_s2 : St → Option (St × Fl) := fun σ =>
        (((((getF σ 0).bind fun v => Option.map (fun x => v :: x) (some [])).bind lenV).bind fun v =>
                  Option.map (fun x => v :: x) (some [])).bind
              rangeV).bind
          fun items =>
          forF (fun v σ => some (setF 3 v σ))
            law_worths_s2_b
            items σ
noncomputable def law_worths_s3_s0 : St → Option (St × Fl) := fun σ => Option.map (fun v => (σ, Fl.ret v)) (getF σ 2)
noncomputable def law_worths_s3 : St → Option (St × Fl) := fun σ => (seqF law_worths_s3_s0 (fun σ => some (σ, Fl.next))) (freezeS 2 σ)
noncomputable def f_law_worths : St → Option (St × Fl) := (seqF law_worths_s0 (seqF law_worths_s1 (seqF law_worths_s2 law_worths_s3)))
theorem f_law_worths_eq : e_law_worths.1 = f_law_worths := rfl
noncomputable def law_told_s0 : St → Option (St × Fl) := fun σ => some (List.set σ 3 (some (Slot.ownD [])), Fl.next)
noncomputable def law_told_s1_b_s0 : St → Option (St × Fl) := fun σ =>
              (some (V.int 0)).bind fun v =>
                (((some (V.int 16)).bind fun a => (getF σ 0).bind fun b => mulV a b).bind fun a =>
                      (getF σ 4).bind fun b => addV a b).bind
                  fun iv =>
                  (getD σ 3).bind fun xs =>
                    Option.map (fun ys => (List.set σ 3 (some (Slot.ownD ys)), Fl.next)) (storeDV xs iv v)
noncomputable def law_told_s1_b : St → Option (St × Fl) := (seqF law_told_s1_b_s0 (fun σ => some (σ, Fl.next)))
noncomputable def law_told_s1 : St → Option (St × Fl) := fun σ =>
      (((getF σ 1).bind fun a => (getF σ 2).bind fun b => addV a b).bind iterV).bind fun items =>
        forF (fun v σ => some (setF 4 v σ))
          law_told_s1_b
          items σ
noncomputable def law_told_s2_b_s0_b_s0 : St → Option (St × Fl) := fun σ =>
                        ((some (V.int 1)).bind fun a =>
                              ((getF σ 5).bind fun a => (getF σ 6).bind fun b => xorV a b).bind fun b => addV a b).bind
                          fun v =>
                          ((((some (V.int 256)).bind fun a => (getF σ 0).bind fun b => mulV a b).bind fun a =>
                                    ((some (V.int 16)).bind fun a =>
                                          (((getF σ 1).bind asList).bind fun xs =>
                                                (getF σ 5).bind fun v => idxLV xs v).bind
                                            fun b => mulV a b).bind
                                      fun b => addV a b).bind
                                fun a =>
                                (((getF σ 2).bind asList).bind fun xs => (getF σ 6).bind fun v => idxLV xs v).bind
                                  fun b => addV a b).bind
                            fun iv =>
                            (getD σ 3).bind fun xs =>
                              Option.map (fun ys => (List.set σ 3 (some (Slot.ownD ys)), Fl.next)) (storeDV xs iv v)
noncomputable def law_told_s2_b_s0_b : St → Option (St × Fl) := (seqF law_told_s2_b_s0_b_s0 (fun σ => some (σ, Fl.next)))
noncomputable def law_told_s2_b_s0 : St → Option (St × Fl) := fun σ =>
                (((((getF σ 2).bind fun v => Option.map (fun x => v :: x) (some [])).bind lenV).bind fun v =>
                          Option.map (fun x => v :: x) (some [])).bind
                      rangeV).bind
                  fun items =>
                  forF (fun v σ => some (setF 6 v σ))
                    law_told_s2_b_s0_b
                    items σ
noncomputable def law_told_s2_b : St → Option (St × Fl) := (seqF law_told_s2_b_s0 (fun σ => some (σ, Fl.next)))
noncomputable def law_told_s2 : St → Option (St × Fl) := fun σ =>
        (((((getF σ 1).bind fun v => Option.map (fun x => v :: x) (some [])).bind lenV).bind fun v =>
                  Option.map (fun x => v :: x) (some [])).bind
              rangeV).bind
          fun items =>
          forF (fun v σ => some (setF 5 v σ))
            law_told_s2_b
            items σ
noncomputable def law_told_s3_s0 : St → Option (St × Fl) := fun σ => Option.map (fun v => (σ, Fl.ret v)) (getF σ 3)
noncomputable def law_told_s3 : St → Option (St × Fl) := fun σ => (seqF law_told_s3_s0 (fun σ => some (σ, Fl.next))) (freezeS 3 σ)
noncomputable def f_law_told : St → Option (St × Fl) := (seqF law_told_s0 (seqF law_told_s1 (seqF law_told_s2 law_told_s3)))
theorem f_law_told_eq : e_law_told.1 = f_law_told := rfl
noncomputable def law_s0 : St → Option (St × Fl) := fun σ =>
    Option.map (fun v => (setF 1 v σ, Fl.next))
      (Option.map V.list
        (((some (V.int 0)).bind fun v =>
              Option.map (fun x => v :: x)
                ((some (V.int 0)).bind fun v =>
                  Option.map (fun x => v :: x)
                    ((some (V.int 3)).bind fun v =>
                      Option.map (fun x => v :: x)
                        ((some (V.int 5)).bind fun v =>
                          Option.map (fun x => v :: x)
                            ((some (V.int 0)).bind fun v =>
                              Option.map (fun x => v :: x)
                                ((some (V.int 4)).bind fun v =>
                                  Option.map (fun x => v :: x)
                                    ((some (V.int 4)).bind fun v => Option.map (fun x => v :: x) (some [])))))))).bind
          fun vs => if vs.length ≤ lim then some vs else none))
noncomputable def law_s1 : St → Option (St × Fl) := fun σ =>
      (((some (V.int 7)).bind fun v => Option.map (fun x => v :: x) (some [])).bind rangeV).bind fun items =>
        (loopL (fun v => some true)
              (fun v =>
                Option.map (fun v => [v])
                  ((((getF (some (Slot.frz v) :: maskS [true, true, false, false, false, false, false, false] σ) 2).bind
                            asList).bind
                        fun xs =>
                        (getF (some (Slot.frz v) :: maskS [true, true, false, false, false, false, false, false] σ)
                              0).bind
                          fun v => idxLV xs v).bind
                    fun a =>
                    (((Option.map V.list
                                  (((Option.map V.list
                                            (((getF
                                                      (some (Slot.frz v) ::
                                                        maskS [true, true, false, false, false, false, false, false] σ)
                                                      1).bind
                                                  asList).bind
                                              fun xs =>
                                              (some none).bind fun lo =>
                                                ((some (V.int 63)).bind partV).bind fun hi =>
                                                  (some none).bind fun st => sliceV xs lo hi st)).bind
                                        asList).bind
                                    fun xs =>
                                    ((getF
                                              (some (Slot.frz v) ::
                                                maskS [true, true, false, false, false, false, false, false] σ)
                                              0).bind
                                          partV).bind
                                      fun lo =>
                                      (some none).bind fun hi =>
                                        ((some (V.int 7)).bind partV).bind fun st => sliceV xs lo hi st)).bind
                              fun v => Option.map (fun x => v :: x) (some [])).bind
                          sumV).bind
                      fun b => addV a b))
              items).bind
          fun vs => if vs.length ≤ lim then some (List.set σ 2 (some (Slot.ownL vs)), Fl.next) else none
noncomputable def law_s2_s0 : St → Option (St × Fl) := fun σ =>
        Option.map (fun v => (setF 3 v σ, Fl.next))
          ((Option.map V.list
                (((Option.map V.list
                          (((getF σ 2).bind asList).bind fun xs =>
                            ((some (V.int 1)).bind partV).bind fun lo =>
                              ((some (V.int 4)).bind partV).bind fun hi =>
                                (some none).bind fun st => sliceV xs lo hi st)).bind
                      iterV).bind
                  fun items =>
                  (loopL (fun v => some true)
                        (fun v =>
                          Option.map (fun v => [v])
                            ((getF
                                  (some (Slot.frz v) ::
                                    maskS [false, false, false, false, false, false, false, false] σ)
                                  0).bind
                              fun a => (some (V.int 16)).bind fun b => modV a b))
                        items).bind
                    fun vs => if vs.length ≤ lim then some vs else none)).bind
            sortedSetV)
noncomputable def law_s2_s1 : St → Option (St × Fl) := fun σ =>
          Option.map (fun v => (setF 4 v σ, Fl.next))
            ((Option.map V.list
                  (((Option.map V.list
                            (((getF σ 2).bind asList).bind fun xs =>
                              ((some (V.int 4)).bind partV).bind fun lo =>
                                (some none).bind fun hi => (some none).bind fun st => sliceV xs lo hi st)).bind
                        iterV).bind
                    fun items =>
                    (loopL (fun v => some true)
                          (fun v =>
                            Option.map (fun v => [v])
                              ((getF
                                    (some (Slot.frz v) ::
                                      maskS [false, false, false, false, false, false, false, false] σ)
                                    0).bind
                                fun a => (some (V.int 16)).bind fun b => modV a b))
                          items).bind
                      fun vs => if vs.length ≤ lim then some vs else none)).bind
              sortedSetV)
noncomputable def law_s2_s2 : St → Option (St × Fl) := fun σ =>
            Option.map (fun v => (setF 5 v σ, Fl.next))
              ((((some (V.int 1)).bind fun a =>
                        ((((getF σ 2).bind asList).bind fun xs => (some (V.int 0)).bind fun v => idxLV xs v).bind
                              fun a => (some (V.int 15)).bind fun b => modV a b).bind
                          fun b => addV a b).bind
                    fun v =>
                    Option.map (fun x => v :: x)
                      ((getF σ 3).bind fun v =>
                        Option.map (fun x => v :: x)
                          ((getF σ 4).bind fun v => Option.map (fun x => v :: x) (some [])))).bind
                g_law_told)
noncomputable def law_s2_s3 : St → Option (St × Fl) := fun σ =>
              Option.map (fun v => (setF 6 v σ, Fl.next))
                (((getF σ 5).bind fun v => Option.map (fun x => v :: x) (some [])).bind sortedV2)
noncomputable def law_s2_s4 : St → Option (St × Fl) := fun σ =>
                Option.map (fun v => (setF 7 v σ, Fl.next))
                  (((getF σ 6).bind fun v => Option.map (fun x => v :: x) (some [])).bind g_law_worths)
noncomputable def law_s2_s5 : St → Option (St × Fl) := fun σ =>
                  ((Option.map V.list
                            (((getF σ 7).bind iterV).bind fun items =>
                              (loopL (fun v => some true)
                                    (fun v =>
                                      Option.map (fun v => [v])
                                        (((getF
                                                  (some (Slot.frz v) ::
                                                    maskS [false, false, false, false, false, false, false, false] σ)
                                                  0).bind
                                              fun v => Option.map (fun x => v :: x) (some [])).bind
                                          g_ISEOF))
                                    items).bind
                                fun vs => if vs.length ≤ lim then some vs else none)).bind
                        fun a =>
                        (Option.map V.list
                              (((getF σ 6).bind iterV).bind fun items =>
                                (loopL (fun v => some true)
                                      (fun v =>
                                        Option.map (fun v => [v])
                                          (((getF
                                                    (some (Slot.frz v) ::
                                                      maskS [false, false, false, false, false, false, false, false] σ)
                                                    0).bind
                                                fun v => Option.map (fun x => v :: x) (some [])).bind
                                            g_ISTERMINAL))
                                      items).bind
                                  fun vs => if vs.length ≤ lim then some vs else none)).bind
                          fun b => cmpV CmpOp.NotEq a b).bind
                    fun c =>
                    if c = true then
                      seqF (fun σ => Option.map (fun v => (σ, Fl.ret v)) (some (V.bool false)))
                        (fun σ => some (σ, Fl.next)) σ
                    else some (σ, Fl.next)
noncomputable def law_s2_s6 : St → Option (St × Fl) := fun σ =>
                    Option.map (fun v => (σ, Fl.ret v))
                      ((getF σ 7).bind fun a =>
                        (Option.map V.list
                              (((getF σ 6).bind iterV).bind fun items =>
                                (loopL (fun v => some true)
                                      (fun v =>
                                        Option.map (fun v => [v])
                                          (((getF
                                                    (some (Slot.frz v) ::
                                                      maskS [false, false, false, false, false, true, false, false] σ)
                                                    6).bind
                                                asDict).bind
                                            fun xs =>
                                            (getF
                                                  (some (Slot.frz v) ::
                                                    maskS [false, false, false, false, false, true, false, false] σ)
                                                  0).bind
                                              fun v => lookDV xs v))
                                      items).bind
                                  fun vs => if vs.length ≤ lim then some vs else none)).bind
                          fun b => Option.map V.bool (cmpV CmpOp.Eq a b))
noncomputable def law_s2 : St → Option (St × Fl) := fun σ => (seqF law_s2_s0 (seqF law_s2_s1 (seqF law_s2_s2 (seqF law_s2_s3 (seqF law_s2_s4 (seqF law_s2_s5 (seqF law_s2_s6 (fun σ => some (σ, Fl.next))))))))) (freezeS 2 σ)
noncomputable def f_law : St → Option (St × Fl) := (seqF law_s0 (seqF law_s1 law_s2))
theorem f_law_eq : e_law.1 = f_law := rfl
end Lw

namespace Lw
open PySem PyProof.Rows
set_option maxRecDepth 10000

noncomputable def key2 (h f : Nat) : Nat := 16 * h + f
noncomputable def key3 (h m l : Nat) : Nat := 256 * h + 16 * m + l
noncomputable def xr (i j : Nat) : Int := 1 + Builtin.bitXor (i : Int) (j : Int)
noncomputable def rowP (h : Nat) (M L : List Nat) (i : Nat) : List (Int × V) := (List.range L.length).map fun j => (((key3 h (M.getD i 0) (L.getD j 0) : Nat) : Int), V.int (xr i j))
noncomputable def tripP (h : Nat) (M L : List Nat) : List (Int × V) := (List.range M.length).flatMap (rowP h M L)
noncomputable def stP (d : List (Int × V)) (p : Int × V) : List (Int × V) := storeD d p.1 p.2

theorem storeD_len : ∀ (kvs : List (Int × V)) (k : Int) (v : V), (storeD kvs k v).length ≤ kvs.length + 1
  | [], _, _ => by simp [storeD]
  | (k', u) :: r, k, v => by
    have := storeD_len r k v
    unfold storeD
    split
    · simp
    · simp; exact this

theorem nI_get {M : List Nat} {i : Nat} (hi : i < M.length) : (nI M)[i]? = some (V.int ((M.getD i 0 : Nat) : Int)) := by
  simp [nI, hi]

section
variable {h : Nat} {M L : List Nat}

theorem told1 (hh : h < 16) (fs : List Nat) (kvs : List (Int × V)) (s4 s5 s6 : Option Slot) (hl : kvs.length + fs.length < 1000) :
    ∃ t4 kvs', forF (fun v σ => some (setF 4 v σ)) law_told_s1_b (nI fs) [FI h, F (.list (nI M)), F (.list (nI L)), OD kvs, s4, s5, s6] = some ([FI h, F (.list (nI M)), F (.list (nI L)), OD kvs', t4, s5, s6], .next) ∧
      kvs' = fs.foldl (fun d f => storeD d (key2 h f : Nat) (.int 0)) kvs := by
  obtain ⟨σ', e1, e2, t4, e3⟩ := forF_inv (st := fun v σ => some (setF 4 v σ)) (b := law_told_s1_b) (fun d : Nat => V.int (d : Int)) (fun d f => storeD d (key2 h f : Nat) (.int 0))
    (fun r d σ => d.length + r.length < 1000 ∧ ∃ t4, σ = [FI h, F (.list (nI M)), F (.list (nI L)), OD d, t4, s5, s6]) (fun x r d σ => by
      rintro ⟨hd, t4, rfl⟩
      simp only [List.length_cons] at hd
      refine ⟨_, [FI h, F (.list (nI M)), F (.list (nI L)), OD (storeD d (key2 h x : Nat) (.int 0)), FI x, s5, s6], rfl, ?_, ?_, FI x, rfl⟩
      · have m : mulV (.int 16) (.int (h : Int)) = some (.int (16 * (h : Int))) := mul_int (by decide)
        have e : (16 * (h : Int) + (x : Int)) = ((key2 h x : Nat) : Int) := by unfold key2; omega
        have st : storeDV d (.int ((key2 h x : Nat) : Int)) (.int 0) = some (storeD d (key2 h x : Nat) (.int 0)) := if_pos (by unfold lim; omega)
        simp only [setF_succ, setF_zero]
        show law_told_s1_b [FI h, F (.list (nI M)), F (.list (nI L)), OD d, FI x, s5, s6] = _
        simp only [law_told_s1_b, law_told_s1_b_s0, seqF, getF_succ, getF_zero, getD_succ, getD_zero, Option.bind_some, Option.map_some, m, add_int, e, st]
        rfl
      · have := storeD_len d (key2 h x : Nat) (.int 0)
        omega) fs kvs _ ⟨hl, s4, rfl⟩
  subst e3
  exact ⟨t4, _, e1, rfl⟩

theorem told2in (hh : h < 16) (hM : ∀ m ∈ M, m < 16) (hL : ∀ m ∈ L, m < 16) {i : Nat} (hi : i < M.length) (hi3 : M.length ≤ 100) (js : List Nat) (hj : ∀ j ∈ js, j < L.length) (hj3 : L.length ≤ 100) (kvs : List (Int × V)) (s4 s6 : Option Slot) (hl : kvs.length + js.length < 1000) :
    ∃ t6, forF (fun v σ => some (setF 6 v σ)) law_told_s2_b_s0_b (nI js) [FI h, F (.list (nI M)), F (.list (nI L)), OD kvs, s4, FI i, s6] = some ([FI h, F (.list (nI M)), F (.list (nI L)), OD ((js.map fun j => (((key3 h (M.getD i 0) (L.getD j 0) : Nat) : Int), V.int (xr i j))).foldl stP kvs), s4, FI i, t6], .next) := by
  obtain ⟨σ', e1, e2, e2', t6, e3⟩ := forF_inv (st := fun v σ => some (setF 6 v σ)) (b := law_told_s2_b_s0_b) (fun d : Nat => V.int (d : Int)) (fun d j => storeD d (key3 h (M.getD i 0) (L.getD j 0) : Nat) (V.int (xr i j)))
    (fun r d σ => d.length + r.length < 1000 ∧ (∀ j ∈ r, j < L.length) ∧ ∃ t6, σ = [FI h, F (.list (nI M)), F (.list (nI L)), OD d, s4, FI i, t6]) (fun x r d σ => by
      rintro ⟨hd, hjr, t6, rfl⟩
      simp only [List.length_cons] at hd
      have hx : x < L.length := hjr x (by simp)
      refine ⟨_, [FI h, F (.list (nI M)), F (.list (nI L)), OD (storeD d (key3 h (M.getD i 0) (L.getD x 0) : Nat) (V.int (xr i x))), s4, FI i, FI x], rfl, ?_, ?_, fun j hj => hjr j (by simp [hj]), FI x, rfl⟩
      · have m1 : mulV (.int 256) (.int (h : Int)) = some (.int (256 * (h : Int))) := mul_int (by decide)
        have m2 : mulV (.int 16) (.int ((M.getD i 0 : Nat) : Int)) = some (.int (16 * ((M.getD i 0 : Nat) : Int))) := mul_int (by decide)
        have g1 : idxLV (nI M) (.int (i : Int)) = some (.int ((M.getD i 0 : Nat) : Int)) := idxL_nat (nI_get hi) (by omega)
        have g2 : idxLV (nI L) (.int (x : Int)) = some (.int ((L.getD x 0 : Nat) : Int)) := idxL_nat (nI_get hx) (by omega)
        have e : (256 * (h : Int) + 16 * ((M.getD i 0 : Nat) : Int) + ((L.getD x 0 : Nat) : Int)) = ((key3 h (M.getD i 0) (L.getD x 0) : Nat) : Int) := by unfold key3; omega
        have st : storeDV d (.int ((key3 h (M.getD i 0) (L.getD x 0) : Nat) : Int)) (V.int (xr i x)) = some (storeD d (key3 h (M.getD i 0) (L.getD x 0) : Nat) (V.int (xr i x))) := if_pos (by unfold lim; omega)
        have hx1 : (V.int (1 + Builtin.bitXor (i : Int) (x : Int))) = V.int (xr i x) := rfl
        simp only [setF_succ, setF_zero]
        show law_told_s2_b_s0_b [FI h, F (.list (nI M)), F (.list (nI L)), OD d, s4, FI i, FI x] = _
        simp only [law_told_s2_b_s0_b, law_told_s2_b_s0_b_s0, seqF, getF_succ, getF_zero, getD_succ, getD_zero, Option.bind_some, Option.map_some, asList, xorV, m1, m2, g1, g2, add_int, e, hx1, st]
        rfl
      · have := storeD_len d (key3 h (M.getD i 0) (L.getD x 0) : Nat) (V.int (xr i x))
        omega) js kvs _ ⟨hl, hj, s6, rfl⟩
  subst e3
  refine ⟨t6, ?_⟩
  rw [e1]
  congr 2
  rw [List.foldl_map]; rfl

theorem foldl_stP_len : ∀ (ps kvs : List (Int × V)), (ps.foldl stP kvs).length ≤ kvs.length + ps.length
  | [], _ => by simp
  | p :: ps, kvs => by
    have h1 := foldl_stP_len ps (stP kvs p)
    have h2 : (stP kvs p).length ≤ kvs.length + 1 := storeD_len _ _ _
    simp only [List.foldl_cons, List.length_cons]; omega

theorem range'_range (n : Nat) : List.range' 0 n = List.range n := List.range_eq_range'.symm
theorem foldl_flat {α β γ : Type} (f : β → γ → β) (g : α → List γ) : ∀ (l : List α) (b : β), l.foldl (fun b a => (g a).foldl f b) b = (l.flatMap g).foldl f b
  | [], _ => rfl
  | a :: l, b => by rw [List.foldl_cons, foldl_flat f g l, List.flatMap_cons, List.foldl_append]

theorem told2 (hh : h < 16) (hM : ∀ m ∈ M, m < 16) (hL : ∀ m ∈ L, m < 16) (hM3 : M.length ≤ 3) (hL3 : L.length ≤ 3) (kvs : List (Int × V)) (s4 s5 s6 : Option Slot) (hl : kvs.length < 900) :
    ∃ t5 t6, law_told_s2 [FI h, F (.list (nI M)), F (.list (nI L)), OD kvs, s4, s5, s6] = some ([FI h, F (.list (nI M)), F (.list (nI L)), OD ((tripP h M L).foldl stP kvs), s4, t5, t6], .next) := by
  have lM : lenV [.list (nI M)] = some (.int (M.length : Int)) := by
    have := len_list (l := nI M) (by unfold lim; simp; omega)
    simpa using this
  have lL : lenV [.list (nI L)] = some (.int (L.length : Int)) := by
    have := len_list (l := nI L) (by unfold lim; simp; omega)
    simpa using this
  have rM : rangeV [.int (M.length : Int)] = some (nI (List.range M.length)) := by rw [range_nat (by unfold lim; omega), range'_range]
  have rL : rangeV [.int (L.length : Int)] = some (nI (List.range L.length)) := by rw [range_nat (by unfold lim; omega), range'_range]
  have rowl : ∀ i, (rowP h M L i).length ≤ 3 := fun i => by simp [rowP]; exact hL3
  obtain ⟨σ', e1, e2, e2', t5, t6, e3⟩ := forF_inv (st := fun v σ => some (setF 5 v σ)) (b := law_told_s2_b) (fun d : Nat => V.int (d : Int)) (fun d i => (rowP h M L i).foldl stP d)
    (fun r d σ => d.length + 3 * r.length < 950 ∧ (∀ j ∈ r, j < M.length) ∧ ∃ t5 t6, σ = [FI h, F (.list (nI M)), F (.list (nI L)), OD d, s4, t5, t6]) (fun x r d σ => by
      rintro ⟨hd, hjr, t5, t6, rfl⟩
      simp only [List.length_cons] at hd
      have hx : x < M.length := hjr x (by simp)
      obtain ⟨u6, hin⟩ := told2in hh hM hL hx (by omega) (List.range L.length) (fun j hj => by simpa using hj) (by omega) d s4 t6 (by simp; omega)
      refine ⟨_, [FI h, F (.list (nI M)), F (.list (nI L)), OD ((rowP h M L x).foldl stP d), s4, FI x, u6], rfl, ?_, ?_, fun j hj => hjr j (by simp [hj]), FI x, u6, rfl⟩
      · simp only [setF_succ, setF_zero]
        show law_told_s2_b [FI h, F (.list (nI M)), F (.list (nI L)), OD d, s4, FI x, t6] = _
        have b0 : law_told_s2_b_s0 [FI h, F (.list (nI M)), F (.list (nI L)), OD d, s4, FI x, t6] = some ([FI h, F (.list (nI M)), F (.list (nI L)), OD ((rowP h M L x).foldl stP d), s4, FI x, u6], .next) := by
          simp only [law_told_s2_b_s0, getF_succ, getF_zero, Option.bind_some, Option.map_some, lL, rL]
          exact hin
        unfold law_told_s2_b
        rw [seqF_next b0]
      · have h1 := foldl_stP_len (rowP h M L x) d
        have h2 := rowl x
        omega) (List.range M.length) kvs _ ⟨by simp; omega, fun j hj => by simpa using hj, s5, s6, rfl⟩
  subst e3
  refine ⟨t5, t6, ?_⟩
  simp only [law_told_s2, getF_succ, getF_zero, Option.bind_some, Option.map_some, lM, rM]
  rw [e1]
  rw [foldl_flat]; rfl

theorem told_give (hh : h < 16) (hM : ∀ m ∈ M, m < 16) (hL : ∀ m ∈ L, m < 16) (hM3 : M.length ≤ 3) (hL3 : L.length ≤ 3) :
    g_law_told [.int (h : Int), .list (nI M), .list (nI L)] = some (.dict ((tripP h M L).foldl stP ((M ++ L).foldl (fun d f => storeD d (key2 h f : Nat) (.int 0)) []))) := by
  show specOf pn_law_told nm_law_told e_law_told.1 _ = _
  unfold specOf
  rw [if_pos (show [V.int ↑h, V.list (nI M), V.list (nI L)].length = pn_law_told.length from rfl), f_law_told_eq]
  show giveF (f_law_told [FI h, F (.list (nI M)), F (.list (nI L)), none, none, none, none]) = _
  have hadd : addV (.list (nI M)) (.list (nI L)) = some (.list (nI (M ++ L))) := by
    have : nI (M ++ L) = nI M ++ nI L := by simp [nI]
    rw [this]
    exact if_pos (by unfold lim; simp; omega)
  obtain ⟨t4, kvs, e1, ek⟩ := told1 (h := h) (M := M) (L := L) hh (M ++ L) [] none none none (by simp; omega)
  have hk : kvs.length ≤ 6 := by
    have : ∀ (fs : List Nat) (d : List (Int × V)), (fs.foldl (fun d f => storeD d (key2 h f : Nat) (.int 0)) d).length ≤ d.length + fs.length := by
      intro fs
      induction fs with
      | nil => intro d; simp
      | cons f fs ih => intro d; have h1 := ih (storeD d (key2 h f : Nat) (.int 0)); have h2 := storeD_len d (key2 h f : Nat) (.int 0); simp only [List.foldl_cons, List.length_cons]; omega
    have := this (M ++ L) []
    rw [← ek] at this
    simp at this; omega
  obtain ⟨t5, t6, e2⟩ := told2 hh hM hL hM3 hL3 kvs t4 none none (by omega)
  have e0 : law_told_s0 [FI h, F (.list (nI M)), F (.list (nI L)), none, none, none, none] = some ([FI h, F (.list (nI M)), F (.list (nI L)), OD [], none, none, none], .next) := rfl
  have e1' : law_told_s1 [FI h, F (.list (nI M)), F (.list (nI L)), OD [], none, none, none] = some ([FI h, F (.list (nI M)), F (.list (nI L)), OD kvs, t4, none, none], .next) := by
    simp only [law_told_s1, getF_succ, getF_zero, Option.bind_some, hadd, iterV]
    exact e1
  unfold f_law_told
  rw [seqF_next e0, seqF_next e1', seqF_next e2, ← ek]
  rfl
end
end Lw

namespace Lw
open PySem PyProof.Rows
set_option maxRecDepth 10000

inductive Nd where
  | two (f : Nat)
  | three (i j : Nat)

noncomputable def Un (M L : List Nat) : List Nat := (List.range 16).filter fun f => decide (f ∈ M ∨ f ∈ L)
noncomputable def thr (M L : List Nat) : List Nd := (List.range M.length).flatMap fun i => (List.range L.length).map fun j => Nd.three i j
noncomputable def nodes (M L : List Nat) : List Nd := (Un M L).map Nd.two ++ thr M L
noncomputable def numN (h : Nat) (M L : List Nat) : Nd → Nat
  | .two f => key2 h f
  | .three i j => key3 h (M.getD i 0) (L.getD j 0)
noncomputable def wt : Nd → Nat
  | .two _ => 0
  | .three i j => 1 + (i ^^^ j)

structure Rows3 (h : Nat) (M L : List Nat) : Prop where
  h1 : 1 ≤ h
  h2 : h < 16
  mr : M.Pairwise (· < ·)
  lr : L.Pairwise (· < ·)
  m16 : ∀ m ∈ M, m < 16
  l16 : ∀ m ∈ L, m < 16
  m3 : M.length ≤ 3
  l3 : L.length ≤ 3

section
variable {h : Nat} {M L : List Nat}

theorem getD_lt {M : List Nat} (hm : M.Pairwise (· < ·)) {i k : Nat} (hik : i < k) (hk : k < M.length) : M.getD i 0 < M.getD k 0 := by
  have hi : i < M.length := by omega
  have := List.pairwise_iff_getElem.mp hm i k hi hk hik
  simpa [List.getD, hi, hk] using this
theorem getD_mem' {M : List Nat} {i : Nat} (hi : i < M.length) : M.getD i 0 ∈ M := by
  simp [List.getD, hi]

theorem mem_thr {x : Nd} : x ∈ thr M L ↔ ∃ i j, i < M.length ∧ j < L.length ∧ x = .three i j := by
  unfold thr
  simp only [List.mem_flatMap, List.mem_range, List.mem_map]
  constructor
  · rintro ⟨i, hi, j, hj, rfl⟩; exact ⟨i, j, hi, hj, rfl⟩
  · rintro ⟨i, j, hi, hj, rfl⟩; exact ⟨i, hi, j, hj, rfl⟩
theorem mem_Un {f : Nat} (R : Rows3 h M L) : f ∈ Un M L ↔ f ∈ M ∨ f ∈ L := by
  unfold Un
  simp only [List.mem_filter, List.mem_range, decide_eq_true_eq]
  constructor
  · exact fun q => q.2
  · intro q
    refine ⟨?_, q⟩
    rcases q with q | q
    · exact R.m16 f q
    · exact R.l16 f q

/-- the order of the numbers -/
theorem nodes_sorted (R : Rows3 h M L) : (nodes M L).Pairwise fun x y => numN h M L x < numN h M L y := by
  unfold nodes
  have h1 := R.h1
  have h2 := R.h2
  refine List.pairwise_append.mpr ⟨?_, ?_, ?_⟩
  · rw [List.pairwise_map]
    refine ((List.pairwise_lt_range (n := 16)).sublist List.filter_sublist).imp fun {a b} hab => ?_
    simp only [numN, key2]; omega
  · unfold thr
    rw [List.pairwise_flatMap]
    refine ⟨fun i hi => ?_, ?_⟩
    · rw [List.pairwise_map]
      refine List.Pairwise.imp_of_mem (R := (· < ·)) (fun {a b} ha hb hab => ?_) (List.pairwise_lt_range)
      have := getD_lt R.lr hab (by simpa using hb)
      simp only [numN, key3]; omega
    · refine List.Pairwise.imp_of_mem (R := (· < ·)) (fun {a b} ha hb hab x hx y hy => ?_) (List.pairwise_lt_range)
      obtain ⟨j, hj, rfl⟩ := List.mem_map.mp hx
      obtain ⟨j', hj', rfl⟩ := List.mem_map.mp hy
      have h3 := getD_lt R.mr hab (by simpa using hb)
      have h4 := R.l16 _ (getD_mem' (M := L) (i := j) (by simpa using hj))
      simp only [numN, key3]; omega
  · intro x hx y hy
    obtain ⟨f, hf, rfl⟩ := List.mem_map.mp hx
    obtain ⟨i, j, _, _, rfl⟩ := mem_thr.mp hy
    have : f < 16 := by
      rcases (mem_Un R).mp hf with q | q
      · exact R.m16 f q
      · exact R.l16 f q
    simp only [numN, key2, key3]; omega

theorem xr_eq {i j : Nat} (hi : i < 3) (hj : j < 3) : xr i j = ((1 + (i ^^^ j) : Nat) : Int) := by
  have : ∀ i < 3, ∀ j < 3, xr i j = ((1 + (i ^^^ j) : Nat) : Int) := by decide +kernel
  exact this i hi j hj

theorem trip_eq (R : Rows3 h M L) : tripP h M L = (thr M L).map fun x => (((numN h M L x : Nat) : Int), V.int (wt x : Int)) := by
  unfold tripP thr rowP
  rw [List.map_flatMap]
  have e : ∀ (l : List Nat) (f g : Nat → List (Int × V)), (∀ i ∈ l, f i = g i) → l.flatMap f = l.flatMap g := by
    intro l f g hfg
    induction l with
    | nil => rfl
    | cons a l ih => rw [List.flatMap_cons, List.flatMap_cons, hfg a (by simp), ih fun i hi => hfg i (by simp [hi])]
  refine e _ _ _ fun i hi => ?_
  rw [List.map_map]
  refine List.map_congr_left fun j hj => ?_
  have hi' : i < M.length := by simpa using hi
  have hj' : j < L.length := by simpa using hj
  have := R.m3
  have := R.l3
  simp only [Function.comp, numN, wt, xr_eq (show i < 3 by omega) (show j < 3 by omega)]

noncomputable def ks2 (h : Nat) (M L : List Nat) : List Int := (M ++ L).map fun f => ((key2 h f : Nat) : Int)

theorem fold2 (h : Nat) : ∀ (fs : List Nat) (σ : List Int), fs.foldl (fun d f => storeD d (key2 h f : Nat) (.int 0)) (σ.map fun q => (q, V.int 0)) = ((fs.map fun f => ((key2 h f : Nat) : Int)).foldl step_dedup σ).map fun q => (q, V.int 0)
  | [], _ => rfl
  | f :: fs, σ => by
    simp only [List.foldl_cons, List.map_cons]
    rw [storeD_same, fold2 h fs]

theorem fold_fresh : ∀ (ps d : List (Int × V)), (d.map (·.1) ++ ps.map (·.1)).Nodup → ps.foldl stP d = d ++ ps
  | [], d, _ => by simp
  | p :: ps, d, hn => by
    have hp : p.1 ∉ d.map (·.1) := fun q => by
      have := (List.nodup_append.mp hn).2.2 _ q p.1 (by simp)
      exact this rfl
    rw [List.foldl_cons]
    have e : stP d p = d ++ [p] := storeD_fresh d p.1 p.2 hp
    rw [e, fold_fresh ps (d ++ [p]) (by simpa using hn)]
    simp

/-- the told dict -/
noncomputable def toldD (h : Nat) (M L : List Nat) : List (Int × V) := ((dedup (ks2 h M L)).map fun q => (q, V.int 0)) ++ (thr M L).map fun x => (((numN h M L x : Nat) : Int), V.int (wt x : Int))

theorem dd2_mem {k : Int} (R : Rows3 h M L) : k ∈ dedup (ks2 h M L) ↔ ∃ f ∈ Un M L, k = ((key2 h f : Nat) : Int) := by
  unfold dedup
  rw [dd_mem]
  simp only [List.not_mem_nil, false_or, ks2, List.mem_map]
  constructor
  · rintro ⟨f, hf, rfl⟩
    exact ⟨f, (mem_Un R).mpr (by simpa using hf), rfl⟩
  · rintro ⟨f, hf, rfl⟩
    exact ⟨f, by simpa using (mem_Un R).mp hf, rfl⟩
theorem nodup_of_lt {l : List Nd} (hl : l.Pairwise fun x y => numN h M L x < numN h M L y) : (l.map fun x => ((numN h M L x : Nat) : Int)).Nodup := by
  refine List.pairwise_map.mpr (hl.imp fun {a b} hab => ?_)
  omega
theorem keys_nodup (R : Rows3 h M L) : (dedup (ks2 h M L) ++ (thr M L).map fun x => ((numN h M L x : Nat) : Int)).Nodup := by
  have hs := nodes_sorted R
  have ht : (thr M L).Pairwise fun x y => numN h M L x < numN h M L y := (List.pairwise_append.mp hs).2.1
  refine List.nodup_append.mpr ⟨dd_nodup _ _ .nil, nodup_of_lt ht, fun a ha b hb => ?_⟩
  obtain ⟨f, hf, rfl⟩ := (dd2_mem R).mp ha
  obtain ⟨x, hx, rfl⟩ := List.mem_map.mp hb
  have := (List.pairwise_append.mp hs).2.2 (.two f) (List.mem_map.mpr ⟨f, hf, rfl⟩) x hx
  simp only [numN] at this ⊢
  omega
theorem told_eq (R : Rows3 h M L) : (tripP h M L).foldl stP ((M ++ L).foldl (fun d f => storeD d (key2 h f : Nat) (.int 0)) []) = toldD h M L := by
  have e := fold2 h (M ++ L) []
  simp only [List.map_nil] at e
  rw [e, fold_fresh, trip_eq R]
  · rfl
  · have := keys_nodup R
    rw [trip_eq R]
    simpa [Function.comp_def, dedup, ks2] using this
theorem keys_eq : (toldD h M L).map (·.1) = dedup (ks2 h M L) ++ (thr M L).map fun x => ((numN h M L x : Nat) : Int) := by
  simp [toldD, Function.comp_def]
theorem line_eq (R : Rows3 h M L) : isort ((toldD h M L).map (·.1)) = (nodes M L).map fun x => ((numN h M L x : Nat) : Int) := by
  refine (isort_eq ?_ ?_).symm
  · rw [keys_eq]
    unfold nodes
    rw [List.map_append]
    refine List.Perm.append ?_ (.refl _)
    refine (List.perm_ext_iff_of_nodup ?_ (dd_nodup _ _ .nil)).mpr fun k => ?_
    · exact nodup_of_lt (List.pairwise_append.mp (nodes_sorted R)).1
    · rw [show (List.foldl step_dedup [] (ks2 h M L)) = dedup (ks2 h M L) from rfl, dd2_mem R]
      simp only [List.mem_map]
      constructor
      · rintro ⟨x, ⟨f, hf, rfl⟩, rfl⟩; exact ⟨f, hf, rfl⟩
      · rintro ⟨f, hf, rfl⟩; exact ⟨.two f, ⟨f, hf, rfl⟩, rfl⟩
  · exact List.pairwise_map.mpr ((nodes_sorted R).imp fun {a b} hab => by omega)
theorem look_eq (R : Rows3 h M L) {x : Nd} (hx : x ∈ nodes M L) : lookD (toldD h M L) ((numN h M L x : Nat) : Int) = some (.int (wt x : Int)) := by
  unfold nodes at hx
  rcases List.mem_append.mp hx with hx | hx
  · obtain ⟨f, hf, rfl⟩ := List.mem_map.mp hx
    exact lookD_same _ _ _ _ ((dd2_mem R).mpr ⟨f, hf, rfl⟩)
  · unfold toldD
    rw [lookD_app]
    · refine lookD_mem _ _ _ ?_ (List.mem_map.mpr ⟨x, hx, rfl⟩)
      have := (List.nodup_append.mp (keys_nodup R)).2.1
      simpa [Function.comp_def] using this
    · have hn := (List.nodup_append.mp (keys_nodup R)).2.2
      intro q
      have q' : ((numN h M L x : Nat) : Int) ∈ dedup (ks2 h M L) := by simpa [Function.comp_def] using q
      exact hn _ q' _ (List.mem_map.mpr ⟨x, hx, rfl⟩) rfl
theorem nodes_len (R : Rows3 h M L) : (nodes M L).length ≤ 25 := by
  have h1 : (Un M L).length ≤ 16 := by
    have := List.length_filter_le (fun f => decide (f ∈ M ∨ f ∈ L)) (List.range 16)
    simpa [Un] using this
  have h2 : (thr M L).length = M.length * L.length := by
    unfold thr
    rw [List.length_flatMap]
    simp only [List.length_map, List.length_range]
    rw [List.map_const', List.sum_replicate_nat]; simp
  have h3 : M.length * L.length ≤ 3 * 3 := Nat.mul_le_mul R.m3 R.l3
  unfold nodes
  simp; omega
end
end Lw

namespace Lw
open PySem PyProof.Rows
set_option maxRecDepth 10000

theorem sub03 : GOk g_substitution_cost := by
  intro c d hc hd
  show (if [V.str [c], V.str [d]].length = pn_substitution_cost.length then giveF (e_substitution_cost.1 (startS nm_substitution_cost [.str [c], .str [d]])) else none) = _
  rw [if_pos (show [V.str [c], V.str [d]].length = pn_substitution_cost.length from rfl), f_substitution_cost_eq]
  exact sub_give hc hd
theorem lev03 {x y : List Nat} {m : Nat} (hx : x.length ≤ 40) (hy : y.length ≤ 40) (hc : ∀ c ∈ x, c < 128) (hd : ∀ c ∈ y, c < 128) : g_levenshtein_distance [.str x, .str y, .int m] = some (.int (levP x y m : Int)) := by
  show (if [V.str x, V.str y, V.int m].length = pn_levenshtein_distance.length then giveF (e_levenshtein_distance.1 (startS nm_levenshtein_distance [.str x, .str y, .int m])) else none) = _
  rw [if_pos (show [V.str x, V.str y, V.int m].length = pn_levenshtein_distance.length from rfl), f_lev_eq]
  exact lev_eq sub03 hx hy hc hd
theorem ap03 {i : Int} (h : i.natAbs < 1000000) : g_Int2AP [.int i] = some (.bytes (apF 59 i.natAbs [])) := by
  show (if [V.int i].length = pn_Int2AP.length then giveF (e_Int2AP.1 (startS nm_Int2AP [.int i])) else none) = _
  rw [if_pos (show [V.int i].length = pn_Int2AP.length from rfl), f_Int2AP_eq]
  exact ap_give h
theorem lt03 {n : Nat} (h : n < 1000000) : g_law_letters [.int (n : Int)] = some (.str (ltF 59 n [])) := by
  show (if [V.int (n : Int)].length = pn_law_letters.length then giveF (e_law_letters.1 (startS nm_law_letters [.int (n : Int)])) else none) = _
  rw [if_pos (show [V.int (n : Int)].length = pn_law_letters.length from rfl), f_law_letters_eq]
  exact lt_give h
theorem isT (x : Int) : g_ISTERMINAL [.int x] = some (.bool (decide (x < 256))) := rfl
theorem isN (x : Int) : g_ISNONTERMINAL [.int x] = some (.bool (decide (256 ≤ x))) := rfl
theorem isE (x : Int) : g_ISEOF [.int x] = some (.bool (decide (x = 0))) := rfl

noncomputable def figN (h : Nat) (M L : List Nat) : Nd → List Nat
  | .two f => [h, f]
  | .three i j => [h, M.getD i 0, L.getD j 0]
noncomputable def txtN (h : Nat) (M L : List Nat) (x : Nd) : List Nat := (figN h M L x).map (65 + ·)
noncomputable def OkN (M L : List Nat) : Nd → Prop
  | .two f => f ∈ Un M L
  | .three i j => i < M.length ∧ j < L.length

section
variable {h : Nat} {M L : List Nat}
theorem ok_nodes {x : Nd} : x ∈ nodes M L ↔ OkN M L x := by
  unfold nodes
  rw [List.mem_append, mem_thr]
  cases x with
  | two f => simp [OkN]
  | three i j => simp [OkN]
theorem un16 (R : Rows3 h M L) {f : Nat} (hf : f ∈ Un M L) : f < 16 := by
  rcases (mem_Un R).mp hf with q | q
  · exact R.m16 f q
  · exact R.l16 f q
theorem wd_nodes (R : Rows3 h M L) {x : Nd} (hx : OkN M L x) : Wd (figN h M L x) ∧ numN h M L x = num (figN h M L x) := by
  have h1 := R.h1
  have h2 := R.h2
  cases x with
  | two f =>
    have := un16 R hx
    refine ⟨⟨fun d hd => ?_, ⟨h, [f], rfl, by omega⟩, by simp [figN]⟩, by simp [numN, key2, figN, num]⟩
    simp only [figN, List.mem_cons, List.not_mem_nil, or_false] at hd
    omega
  | three i j =>
    have h3 := R.m16 _ (getD_mem' hx.1)
    have h4 := R.l16 _ (getD_mem' hx.2)
    refine ⟨⟨fun d hd => ?_, ⟨h, [M.getD i 0, L.getD j 0], rfl, by omega⟩, by simp [figN]⟩, by simp only [numN, key3, figN, num, List.foldl]; omega⟩
    simp only [figN, List.mem_cons, List.not_mem_nil, or_false] at hd
    omega
theorem txt_ok (R : Rows3 h M L) {x : Nd} (hx : OkN M L x) : (txtN h M L x).length ≤ 40 ∧ ∀ c ∈ txtN h M L x, c < 128 := by
  obtain ⟨⟨w1, _, w3⟩, _⟩ := wd_nodes R hx
  refine ⟨by simp [txtN]; omega, fun c hc => ?_⟩
  obtain ⟨d, hd, rfl⟩ := List.mem_map.mp hc
  have := w1 d hd
  omega

noncomputable def adj (h : Nat) (M L : List Nat) (x y : Nd) : Bool := decide (levP (txtN h M L y) (txtN h M L x) 2 = 2)
noncomputable def rsOf (h : Nat) (M L : List Nat) (x : Nd) (k : Nat) : List Int := ((List.range k).filter fun q => adj h M L x ((nodes M L).getD q (.two 0))).map fun q => (wt ((nodes M L).getD q (.two 0)) : Int)

theorem xor_small : ∀ i < 3, ∀ j < 3, ∀ v, v < (i ^^^ j) → (∃ a < i, (a ^^^ j) = v) ∨ (∃ b < j, (i ^^^ b) = v) := by
  intro i hi j hj v hv
  have key : ∀ i < 3, ∀ j < 3, ∀ v < 4, v < (i ^^^ j) → ((List.range i).any fun a => decide ((a ^^^ j) = v)) = true ∨ ((List.range j).any fun b => decide ((i ^^^ b) = v)) = true := by decide +kernel
  have h4 : ∀ i < 3, ∀ j < 3, (i ^^^ j) < 4 := by decide +kernel
  rcases key i hi j hj v (by have := h4 i hi j hj; omega) hv with q | q
  · obtain ⟨a, ha, e⟩ := List.any_eq_true.mp q
    exact .inl ⟨a, by simpa using ha, of_decide_eq_true e⟩
  · obtain ⟨a, ha, e⟩ := List.any_eq_true.mp q
    exact .inr ⟨a, by simpa using ha, of_decide_eq_true e⟩
theorem xor_ne : ∀ i < 3, ∀ j < 3, ∀ b < 3, j ≠ b → (i ^^^ j) ≠ (i ^^^ b) ∧ (j ^^^ i) ≠ (b ^^^ i) := by decide +kernel

theorem getD_inj {M : List Nat} (hm : M.Pairwise (· < ·)) {i k : Nat} (hi : i < M.length) (hk : k < M.length) (e : M.getD i 0 = M.getD k 0) : i = k := by
  rcases Nat.lt_trichotomy i k with q | q | q
  · have := getD_lt hm q hk; omega
  · exact q
  · have := getD_lt hm q hi; omega

theorem mem_pre {pre post : List Nd} {x y : Nd} (R : Rows3 h M L) (hn : nodes M L = pre ++ x :: post) (hy : OkN M L y) (hlt : numN h M L y < numN h M L x) :
    ∃ q < pre.length, (nodes M L).getD q (.two 0) = y := by
  have hs := nodes_sorted R
  rw [hn] at hs
  have hm := ok_nodes.mpr hy
  rw [hn] at hm
  have hp : y ∈ pre := by
    rcases List.mem_append.mp hm with q | q
    · exact q
    · rcases List.mem_cons.mp q with rfl | q
      · omega
      · have := (List.pairwise_cons.mp (List.pairwise_append.mp hs).2.1).1 y q
        omega
  obtain ⟨q, hq, e⟩ := List.getElem_of_mem hp
  refine ⟨q, hq, ?_⟩
  rw [hn]
  simp [List.getD, List.getElem?_append_left hq, hq, e]

theorem mem_rs {x : Nd} {k : Nat} {v : Int} : v ∈ rsOf h M L x k ↔ ∃ q < k, adj h M L x ((nodes M L).getD q (.two 0)) = true ∧ (wt ((nodes M L).getD q (.two 0)) : Int) = v := by
  unfold rsOf
  simp only [List.mem_map, List.mem_filter, List.mem_range]
  constructor
  · rintro ⟨q, ⟨h1, h2⟩, h3⟩; exact ⟨q, h1, h2, h3⟩
  · rintro ⟨q, h1, h2, h3⟩; exact ⟨q, ⟨h1, h2⟩, h3⟩

theorem mex_ok (R : Rows3 h M L) {pre post : List Nd} {i j : Nat} (hn : nodes M L = pre ++ .three i j :: post) :
    (∀ v : Nat, v < wt (.three i j) → (v : Int) ∈ rsOf h M L (.three i j) pre.length) ∧ (wt (.three i j) : Int) ∉ rsOf h M L (.three i j) pre.length := by
  have hx : OkN M L (.three i j) := ok_nodes.mp (by rw [hn]; simp)
  have hi3 : i < 3 := Nat.lt_of_lt_of_le hx.1 R.m3
  have hj3 : j < 3 := Nat.lt_of_lt_of_le hx.2 R.l3
  have hmi := R.m16 _ (getD_mem' hx.1)
  have hlj := R.l16 _ (getD_mem' hx.2)
  have h1 := R.h1
  refine ⟨fun v hv => ?_, fun hw => ?_⟩
  · refine mem_rs.mpr ?_
    cases v with
    | zero =>
      have hy : OkN M L (.two (M.getD i 0)) := (mem_Un R).mpr (.inl (getD_mem' hx.1))
      obtain ⟨q, hq, e⟩ := mem_pre R hn hy (by simp only [numN, key2, key3]; omega)
      refine ⟨q, hq, ?_, by rw [e]; rfl⟩
      rw [e]
      exact decide_eq_true ((lev_23 hmi hmi hlj).mpr (.inl rfl))
    | succ v =>
      have hv' : v < (i ^^^ j) := by simp only [wt] at hv; omega
      rcases xor_small i hi3 j hj3 v hv' with ⟨a, ha, e1⟩ | ⟨b, hb, e1⟩
      · have hy : OkN M L (.three a j) := ⟨Nat.lt_trans ha hx.1, hx.2⟩
        have hlt := getD_lt R.mr ha hx.1
        have hma := R.m16 _ (getD_mem' hy.1)
        obtain ⟨q, hq, e⟩ := mem_pre R hn hy (by simp only [numN, key3]; omega)
        refine ⟨q, hq, ?_, by rw [e]; simp only [wt, e1]; omega⟩
        rw [e]
        exact decide_eq_true ((lev_33 hma hlj hmi hlj).mpr (.inr ⟨by omega, rfl⟩))
      · have hy : OkN M L (.three i b) := ⟨hx.1, Nat.lt_trans hb hx.2⟩
        have hlt := getD_lt R.lr hb hx.2
        have hlb := R.l16 _ (getD_mem' hy.2)
        obtain ⟨q, hq, e⟩ := mem_pre R hn hy (by simp only [numN, key3]; omega)
        refine ⟨q, hq, ?_, by rw [e]; simp only [wt, e1]; omega⟩
        rw [e]
        exact decide_eq_true ((lev_33 hmi hlb hmi hlj).mpr (.inl ⟨rfl, by omega⟩))
  · obtain ⟨q, hq, ha, he⟩ := mem_rs.mp hw
    have hql : q < (nodes M L).length := by rw [hn]; simp; omega
    have hy : OkN M L ((nodes M L).getD q (.two 0)) := ok_nodes.mp (by simp [List.getD, hql])
    generalize (nodes M L).getD q (.two 0) = y at ha he hy
    have ha := of_decide_eq_true ha
    cases y with
    | two f => simp only [wt] at he; omega
    | three i' j' =>
      have hmi' := R.m16 _ (getD_mem' hy.1)
      have hlj' := R.l16 _ (getD_mem' hy.2)
      have hi3' : i' < 3 := Nat.lt_of_lt_of_le hy.1 R.m3
      have hj3' : j' < 3 := Nat.lt_of_lt_of_le hy.2 R.l3
      simp only [wt] at he
      rcases (lev_33 hmi' hlj' hmi hlj).mp ha with ⟨e1, e2⟩ | ⟨e1, e2⟩
      · have : i' = i := getD_inj R.mr hy.1 hx.1 e1
        subst this
        have hne : j' ≠ j := by rintro rfl; exact e2 rfl
        have := (xor_ne i' hi3' j' hj3' j hj3 hne).1
        omega
      · have : j' = j := getD_inj R.lr hy.2 hx.2 e2
        subst this
        have hne : i' ≠ i := by rintro rfl; exact e1 rfl
        have := (xor_ne j' hj3' i' hi3' i hi3 hne).2
        omega
end
end Lw

namespace Lw
open PySem PyProof.Rows
set_option maxRecDepth 10000

abbrev iI (l : List Int) : List V := l.map V.int

section
variable {s0 s1 s2 s3 s5 : Option Slot}

/-- the least that is not there -/
theorem mex_loop {rs : List Int} {W : Nat} (h1 : ∀ v : Nat, v < W → (v : Int) ∈ rs) (h2 : (W : Int) ∉ rs) : ∀ (n v fuel : Nat), v + n = W → n < fuel →
    whileF law_worths_s2_b_s3_t law_worths_s2_b_s3_b fuel [s0, s1, s2, s3, F (.list (iI rs)), s5, FI v] = some ([s0, s1, s2, s3, F (.list (iI rs)), s5, FI W], .next)
  | n, v, 0, _, hf => by omega
  | 0, v, fuel + 1, hv, _ => by
    have : v = W := by omega
    subst this
    have ht : law_worths_s2_b_s3_t [s0, s1, s2, s3, F (.list (iI rs)), s5, FI v] = some false := by
      simp only [law_worths_s2_b_s3_t, getF_succ, getF_zero, Option.bind_some, cmpV, ints?_map, Option.map_some]
      congr 1
      rw [List.any_eq_false]
      intro y hy e
      have e' : y = (v : Int) := by simpa using e
      exact h2 (e' ▸ hy)
    rw [whileF, ht]
    simp
  | n + 1, v, fuel + 1, hv, hf => by
    have ht : law_worths_s2_b_s3_t [s0, s1, s2, s3, F (.list (iI rs)), s5, FI v] = some true := by
      simp only [law_worths_s2_b_s3_t, getF_succ, getF_zero, Option.bind_some, cmpV, ints?_map, Option.map_some]
      congr 1
      simpa using h1 v (by omega)
    have hb : law_worths_s2_b_s3_b [s0, s1, s2, s3, F (.list (iI rs)), s5, FI v] = some ([s0, s1, s2, s3, F (.list (iI rs)), s5, FI ((v + 1 : Nat) : Int)], .next) := rfl
    rw [whileF, ht]
    simp only [Option.bind_some, if_true, hb]
    exact mex_loop h1 h2 n (v + 1) fuel (by omega) (by omega)
end

section
variable {h : Nat} {M L : List Nat}

noncomputable def lineV (h : Nat) (M L : List Nat) : List V := (nodes M L).map fun x => V.int ((numN h M L x : Nat) : Int)
noncomputable def textV (h : Nat) (M L : List Nat) : List V := (nodes M L).map fun x => V.str (txtN h M L x)
noncomputable def wtV (x : Nd) : V := V.int (wt x : Int)

theorem num_lt (R : Rows3 h M L) {x : Nd} (hx : OkN M L x) : numN h M L x < 65536 := by
  obtain ⟨w, e⟩ := wd_nodes R hx
  rw [e]; exact num_small w

variable {s4 s5 s6 : Option Slot}
theorem wA_eq (R : Rows3 h M L) {pre post : List Nd} {x : Nd} (hn : nodes M L = pre ++ x :: post) (hk : pre.length < 100) {s1 s2 : Option Slot} :
    law_worths_wA [F (.list (lineV h M L)), s1, s2, FI pre.length, s4, s5, s6] = some ([F (.list (lineV h M L)), s1, s2, FI pre.length, s4, F (.str (txtN h M L x)), s6], .next) := by
  have hx : OkN M L x := ok_nodes.mp (by rw [hn]; simp)
  obtain ⟨w, e⟩ := wd_nodes R hx
  have hl := num_lt R hx
  have g : idxLV (lineV h M L) (.int (pre.length : Int)) = some (.int ((numN h M L x : Nat) : Int)) := idxL_nat (by unfold lineV; rw [hn]; simp) (by omega)
  have m2 : modV (.int ((numN h M L x : Nat) : Int)) (.int 2) = some (.int (((numN h M L x : Nat) : Int) % 2)) := mod_int (by decide)
  have m3 : mulV (.int 2) (.int (((numN h M L x : Nat) : Int) % 2)) = some (.int (2 * (((numN h M L x : Nat) : Int) % 2))) := mul_int (by decide)
  have m4 : mulV (.int ((numN h M L x : Nat) : Int)) (.int (1 - 2 * (((numN h M L x : Nat) : Int) % 2))) = some (.int (((numN h M L x : Nat) : Int) * (1 - 2 * (((numN h M L x : Nat) : Int) % 2)))) := mul_int (by omega)
  have ha : (((numN h M L x : Nat) : Int) * (1 - 2 * (((numN h M L x : Nat) : Int) % 2))).natAbs = numN h M L x := by
    rcases Nat.mod_two_eq_zero_or_one (numN h M L x) with q | q
    · have : ((numN h M L x : Nat) : Int) % 2 = 0 := by omega
      rw [this]; simp
    · have : ((numN h M L x : Nat) : Int) % 2 = 1 := by omega
      rw [this]; simp
  have a1 : g_Int2AP [.int (((numN h M L x : Nat) : Int) * (1 - 2 * (((numN h M L x : Nat) : Int) % 2)))] = some (.bytes ((figN h M L x).map ltr)) := by
    rw [ap03 (by rw [ha]; omega), ha, e, ap_word w]
  have d1 := decode_word w
  simp only [law_worths_wA, getF_succ, getF_zero, Option.bind_some, Option.map_some, asList, g, m2, m3, sub_int, m4, a1, isBytesV, if_true, d1, setF_succ, setF_zero]
  rfl

theorem wB_eq (R : Rows3 h M L) {pre post : List Nd} {x : Nd} (hn : nodes M L = pre ++ x :: post) (hk : pre.length < 100) :
    law_worths_wB [F (.list (lineV h M L)), F (.list (textV h M L)), OL (pre.map wtV), FI pre.length, s4, F (.str (txtN h M L x)), s6] =
      some ([F (.list (lineV h M L)), F (.list (textV h M L)), OL (pre.map wtV), FI pre.length, OL (iI (rsOf h M L x pre.length)), F (.str (txtN h M L x)), s6], .next) := by
  have hx : OkN M L x := ok_nodes.mp (by rw [hn]; simp)
  have hm : maskS [false, true, true, false, false, true, false] [F (.list (lineV h M L)), F (.list (textV h M L)), OL (pre.map wtV), FI pre.length, s4, F (.str (txtN h M L x)), s6] =
      [none, F (.list (textV h M L)), OL (pre.map wtV), none, none, F (.str (txtN h M L x)), none] := by simp [maskS]
  have hlen : pre.length ≤ (nodes M L).length := by rw [hn]; simp
  obtain ⟨t1, t2⟩ := txt_ok R hx
  have key := loopL_pick (α := Nat) (t := fun v => (((((getF (some (Slot.frz v) :: [none, F (.list (textV h M L)), OL (pre.map wtV), none, none, F (.str (txtN h M L x)), none]) 2).bind asList).bind fun xs => (getF (some (Slot.frz v) :: [none, F (.list (textV h M L)), OL (pre.map wtV), none, none, F (.str (txtN h M L x)), none]) 0).bind fun v => idxLV xs v).bind
      fun v_1 => Option.map (fun x => v_1 :: x) ((getF (some (Slot.frz v) :: [none, F (.list (textV h M L)), OL (pre.map wtV), none, none, F (.str (txtN h M L x)), none]) 6).bind fun v => Option.map (fun x => v :: x) ((some (V.int 2)).bind fun v => Option.map (fun x => v :: x) (some [])))).bind g_levenshtein_distance).bind fun a => (some (V.int 2)).bind fun b => cmpV CmpOp.Eq a b)
    (g := fun v => Option.map (fun v => [v]) ((getO (some (Slot.frz v) :: [none, F (.list (textV h M L)), OL (pre.map wtV), none, none, F (.str (txtN h M L x)), none]) 3).bind fun xs => (getF (some (Slot.frz v) :: [none, F (.list (textV h M L)), OL (pre.map wtV), none, none, F (.str (txtN h M L x)), none]) 0).bind fun v => idxLV xs v))
    (fun q => adj h M L x ((nodes M L).getD q (.two 0))) (fun d : Nat => V.int (d : Int)) (fun q => V.int (wt ((nodes M L).getD q (.two 0)) : Int)) (List.range pre.length) (fun q hq => by
      have hq : q < pre.length := by simpa using hq
      have hqn : q < (nodes M L).length := by omega
      have hy : OkN M L ((nodes M L).getD q (.two 0)) := ok_nodes.mp (by simp [List.getD, hqn])
      have g : idxLV (textV h M L) (.int (q : Int)) = some (.str (txtN h M L ((nodes M L).getD q (.two 0)))) := idxL_nat (by unfold textV; simp [hqn]) (by omega)
      obtain ⟨u1, u2⟩ := txt_ok R hy
      have l1 := lev03 (m := 2) u1 t1 u2 t2
      have l1' : g_levenshtein_distance [V.str (txtN h M L ((nodes M L).getD q (.two 0))), V.str (txtN h M L x), V.int 2] = some (.int (levP (txtN h M L ((nodes M L).getD q (.two 0))) (txtN h M L x) 2 : Int)) := l1
      simp only [getF_succ, getF_zero, Option.bind_some, Option.map_some, asList, g, l1', cmpV]
      congr 1
      unfold adj
      exact decide_eq_decide.mpr (by omega)) (fun q hq _ => by
      have hq : q < pre.length := by simpa using hq
      have hqn : q < (nodes M L).length := by omega
      have g : idxLV (pre.map wtV) (.int (q : Int)) = some (V.int (wt ((nodes M L).getD q (.two 0)) : Int)) := idxL_nat (by
        have e : (nodes M L).getD q (.two 0) = pre[q] := by rw [hn]; simp [List.getD, List.getElem?_append_left hq, hq]
        rw [e]; simp [hq, wtV]) (by omega)
      simp only [getF_succ, getF_zero, getO_succ, getO_zero, Option.bind_some, Option.map_some, g])
  have rN : rangeV [.int (pre.length : Int)] = some (nI (List.range pre.length)) := by rw [range_nat (by unfold lim; omega), range'_range]
  simp only [law_worths_wB, getF_succ, getF_zero, getO_succ, getO_zero, Option.bind_some, Option.map_some, rN, hm]
  simp only [getF_succ, getF_zero, getO_succ, getO_zero, Option.bind_some, Option.map_some] at key
  rw [key]
  simp only [Option.bind_some]
  rw [if_pos (by
    rw [List.length_map]
    have := List.length_filter_le (fun q => adj h M L x ((nodes M L).getD q (.two 0))) (List.range pre.length)
    rw [List.length_range] at this
    unfold lim; omega)]
  have e : iI (rsOf h M L x pre.length) = List.map (fun q => V.int (wt ((nodes M L).getD q (.two 0)) : Int)) (List.filter (fun q => adj h M L x ((nodes M L).getD q (.two 0))) (List.range pre.length)) := by
    unfold iI rsOf
    rw [List.map_map]; rfl
  rw [e]
  rfl

theorem worth_step (R : Rows3 h M L) {pre post : List Nd} {x : Nd} (hn : nodes M L = pre ++ x :: post) (hk : pre.length < 100) :
    ∃ t4 t5, law_worths_s2_b [F (.list (lineV h M L)), F (.list (textV h M L)), OL (pre.map wtV), FI pre.length, s4, s5, s6] =
      some ([F (.list (lineV h M L)), F (.list (textV h M L)), OL ((pre ++ [x]).map wtV), FI pre.length, t4, t5, FI (wt x)], .next) := by
  have hx : OkN M L x := ok_nodes.mp (by rw [hn]; simp)
  have g : idxLV (lineV h M L) (.int (pre.length : Int)) = some (.int ((numN h M L x : Nat) : Int)) := idxL_nat (by unfold lineV; rw [hn]; simp) (by omega)
  have b0 : law_worths_s2_b_s0 [F (.list (lineV h M L)), F (.list (textV h M L)), OL (pre.map wtV), FI pre.length, s4, s5, s6] = some ([F (.list (lineV h M L)), F (.list (textV h M L)), OL (pre.map wtV), FI pre.length, F (.list []), s5, s6], .next) := rfl
  have b4 : ∀ (t4 t5 : Option Slot), law_worths_s2_b_s4 [F (.list (lineV h M L)), F (.list (textV h M L)), OL (pre.map wtV), FI pre.length, t4, t5, FI (wt x)] = some ([F (.list (lineV h M L)), F (.list (textV h M L)), OL ((pre ++ [x]).map wtV), FI pre.length, t4, t5, FI (wt x)], .next) := fun t4 t5 => by
    simp only [law_worths_s2_b_s4, getF_succ, getF_zero, getO_succ, getO_zero, Option.bind_some]
    rw [if_pos (by unfold lim; simp; omega), List.map_append]
    rfl
  have h1 := R.h1
  have h2 := R.h2
  have fin : ∀ (rs : List Int) (t5 : Option Slot), law_worths_s2_b_s1 [F (.list (lineV h M L)), F (.list (textV h M L)), OL (pre.map wtV), FI pre.length, F (.list []), s5, s6] = some ([F (.list (lineV h M L)), F (.list (textV h M L)), OL (pre.map wtV), FI pre.length, F (.list (iI rs)), t5, s6], .next) →
      (∀ v : Nat, v < wt x → (v : Int) ∈ rs) → (wt x : Int) ∉ rs → wt x < 50 → ∃ t4 t5, law_worths_s2_b [F (.list (lineV h M L)), F (.list (textV h M L)), OL (pre.map wtV), FI pre.length, s4, s5, s6] =
      some ([F (.list (lineV h M L)), F (.list (textV h M L)), OL ((pre ++ [x]).map wtV), FI pre.length, t4, t5, FI (wt x)], .next) := by
    intro rs t5 e1 q1 q2 q3
    refine ⟨F (.list (iI rs)), t5, ?_⟩
    have e2 : law_worths_s2_b_s2 [F (.list (lineV h M L)), F (.list (textV h M L)), OL (pre.map wtV), FI pre.length, F (.list (iI rs)), t5, s6] = some ([F (.list (lineV h M L)), F (.list (textV h M L)), OL (pre.map wtV), FI pre.length, F (.list (iI rs)), t5, FI (0 : Nat)], .next) := rfl
    have e3 := mex_loop (s0 := F (.list (lineV h M L))) (s1 := F (.list (textV h M L))) (s2 := OL (pre.map wtV)) (s3 := FI pre.length) (s5 := t5) q1 q2 (wt x) 0 60 (by omega) (by omega)
    unfold law_worths_s2_b
    rw [seqF_next b0, seqF_next e1, seqF_next e2]
    unfold law_worths_s2_b_s3
    rw [seqF_next e3, seqF_next (b4 _ _)]
  cases x with
  | two f =>
    have hf := un16 R hx
    refine fin [] s5 ?_ (fun v hv => by simp [wt] at hv) (by simp) (by simp [wt])
    have hN : decide ((256 : Int) ≤ ((numN h M L (.two f) : Nat) : Int)) = false := decide_eq_false (by simp only [numN, key2]; omega)
    simp only [law_worths_s2_b_s1, getF_succ, getF_zero, Option.bind_some, Option.map_some, asList, g, isN, hN, truthyV, Bool.false_eq_true, if_false]
    rfl
  | three i j =>
    obtain ⟨q1, q2⟩ := mex_ok R hn
    have hi3 : i < 3 := Nat.lt_of_lt_of_le hx.1 R.m3
    have hj3 : j < 3 := Nat.lt_of_lt_of_le hx.2 R.l3
    have hw : wt (.three i j) < 50 := by
      have : ∀ i < 3, ∀ j < 3, 1 + (i ^^^ j) < 50 := by decide +kernel
      exact this i hi3 j hj3
    refine fin (rsOf h M L (.three i j) pre.length) (F (.str (txtN h M L (.three i j)))) ?_ q1 q2 hw
    have hN : decide ((256 : Int) ≤ ((numN h M L (.three i j) : Nat) : Int)) = true := decide_eq_true (by simp only [numN, key3]; omega)
    simp only [law_worths_s2_b_s1, getF_succ, getF_zero, Option.bind_some, Option.map_some, asList, g, isN, hN, truthyV, if_true]
    rw [seqF_next (wA_eq R hn hk), seqF_next (wB_eq R hn hk)]
    rfl
end
end Lw

namespace Lw
open PySem PyProof.Rows
set_option maxRecDepth 10000

section
variable {h : Nat} {M L : List Nat}

theorem worth_loop (R : Rows3 h M L) : ∀ (post pre : List Nd) (s3 s4 s5 s6 : Option Slot), nodes M L = pre ++ post →
    ∃ t3 t4 t5 t6, forF (fun v σ => some (setF 3 v σ)) law_worths_s2_b (nI (List.range' pre.length post.length)) [F (.list (lineV h M L)), F (.list (textV h M L)), OL (pre.map wtV), s3, s4, s5, s6] =
      some ([F (.list (lineV h M L)), F (.list (textV h M L)), OL ((nodes M L).map wtV), t3, t4, t5, t6], .next)
  | [], pre, s3, s4, s5, s6, hn => ⟨s3, s4, s5, s6, by rw [hn, List.append_nil]; rfl⟩
  | x :: post, pre, s3, s4, s5, s6, hn => by
    have hk : pre.length < 100 := by
      have := nodes_len R
      rw [hn] at this
      simp at this; omega
    obtain ⟨u4, u5, e1⟩ := worth_step (s4 := s4) (s5 := s5) (s6 := s6) R hn hk
    obtain ⟨t3, t4, t5, t6, e2⟩ := worth_loop R post (pre ++ [x]) (FI pre.length) u4 u5 (FI (wt x)) (by rw [hn]; simp)
    refine ⟨t3, t4, t5, t6, ?_⟩
    rw [show (x :: post).length = post.length + 1 from rfl, List.range'_succ]
    simp only [nI, List.map_cons, forF, setF_succ, setF_zero, Option.bind_some]
    have e1' : law_worths_s2_b [F (.list (lineV h M L)), F (.list (textV h M L)), OL (pre.map wtV), some (Slot.frz (V.int (pre.length : Int))), s4, s5, s6] = _ := e1
    rw [e1']
    simp only [Option.bind_some]
    rw [List.length_append] at e2
    exact e2

theorem worths_give (R : Rows3 h M L) : g_law_worths [.list (lineV h M L)] = some (.list ((nodes M L).map wtV)) := by
  show (if [V.list (lineV h M L)].length = pn_law_worths.length then giveF (e_law_worths.1 (startS nm_law_worths [.list (lineV h M L)])) else none) = _
  rw [if_pos (show [V.list (lineV h M L)].length = pn_law_worths.length from rfl), f_law_worths_eq]
  show giveF (f_law_worths [F (.list (lineV h M L)), none, none, none, none, none, none]) = _
  have hl := nodes_len R
  have e0 : law_worths_s0 [F (.list (lineV h M L)), none, none, none, none, none, none] = some ([F (.list (lineV h M L)), F (.list (textV h M L)), none, none, none, none, none], .next) := by
    have hm : maskS [false, false, false, false, false, false, false] [F (.list (lineV h M L)), none, none, none, none, none, none] = [none, none, none, none, none, none, none] := by simp [maskS]
    have key := loopL_map (t := fun _ => some true) (g := fun v => Option.map (fun v => [v]) (((getF (some (Slot.frz v) :: [none, none, none, none, none, none, none]) 0).bind fun v => Option.map (fun x => v :: x) (some [])).bind g_law_letters))
      (nodes M L) (fun x => V.int ((numN h M L x : Nat) : Int)) (fun x => V.str (txtN h M L x)) (fun _ _ => rfl) (fun x hx => by
        have hx := ok_nodes.mp hx
        obtain ⟨w, e⟩ := wd_nodes R hx
        have := num_lt R hx
        simp only [getF_zero, Option.bind_some, Option.map_some]
        rw [lt03 (by omega), e, lt_word w]
        rfl)
    simp only [law_worths_s0, getF_succ, getF_zero, Option.bind_some, iterV, hm]
    simp only [getF_zero, Option.bind_some] at key
    have key' := key
    unfold lineV
    rw [key']
    simp only [Option.bind_some]
    rw [if_pos (by unfold lim; simp; omega)]
    rfl
  have e1 : law_worths_s1 [F (.list (lineV h M L)), F (.list (textV h M L)), none, none, none, none, none] = some ([F (.list (lineV h M L)), F (.list (textV h M L)), OL [], none, none, none, none], .next) := rfl
  obtain ⟨t3, t4, t5, t6, e2⟩ := worth_loop R (nodes M L) [] none none none none rfl
  have e2' : law_worths_s2 [F (.list (lineV h M L)), F (.list (textV h M L)), OL [], none, none, none, none] = some ([F (.list (lineV h M L)), F (.list (textV h M L)), OL ((nodes M L).map wtV), t3, t4, t5, t6], .next) := by
    have ll : lenV [.list (lineV h M L)] = some (.int ((nodes M L).length : Int)) := by
      have := len_list (l := lineV h M L) (by unfold lim lineV; simp; omega)
      simpa [lineV] using this
    have rN : rangeV [.int ((nodes M L).length : Int)] = some (nI (List.range' 0 (nodes M L).length)) := range_nat (by unfold lim; omega)
    simp only [law_worths_s2, getF_succ, getF_zero, Option.bind_some, Option.map_some, ll, rN]
    exact e2
  unfold f_law_worths
  rw [seqF_next e0, seqF_next e1, seqF_next e2']
  rfl

variable {s0 s1 s2 s3 s4 : Option Slot}
theorem wt_zero (R : Rows3 h M L) {x : Nd} (hx : OkN M L x) : decide ((wt x : Int) = 0) = decide (((numN h M L x : Nat) : Int) < 256) := by
  have h1 := R.h1
  have h2 := R.h2
  cases x with
  | two f =>
    have := un16 R hx
    rw [decide_eq_decide]
    simp only [wt, numN, key2]; omega
  | three i j =>
    rw [decide_eq_decide]
    simp only [wt, numN, key3]; omega

theorem end_eq (R : Rows3 h M L) : ∃ σ', (seqF law_s2_s5 (seqF law_s2_s6 fun σ => some (σ, Fl.next))) [s0, s1, s2, s3, s4, F (.dict (toldD h M L)), F (.list (lineV h M L)), F (.list ((nodes M L).map wtV))] = some (σ', .ret (.bool true)) := by
  have hl := nodes_len R
  have hm0 : maskS [false, false, false, false, false, false, false, false] [s0, s1, s2, s3, s4, F (.dict (toldD h M L)), F (.list (lineV h M L)), F (.list ((nodes M L).map wtV))] = [none, none, none, none, none, none, none, none] := by simp [maskS]
  have hm1 : maskS [false, false, false, false, false, true, false, false] [s0, s1, s2, s3, s4, F (.dict (toldD h M L)), F (.list (lineV h M L)), F (.list ((nodes M L).map wtV))] = [none, none, none, none, none, F (.dict (toldD h M L)), none, none] := by simp [maskS]
  have k1 := loopL_map (t := fun _ => some true) (g := fun v => Option.map (fun v => [v]) (((getF (some (Slot.frz v) :: [none, none, none, none, none, none, none, none]) 0).bind fun v => Option.map (fun x => v :: x) (some [])).bind g_ISEOF))
    (nodes M L) wtV (fun x => V.bool (decide (((numN h M L x : Nat) : Int) < 256))) (fun _ _ => rfl) (fun x hx => by
      have hx := ok_nodes.mp hx
      simp only [getF_zero, Option.bind_some, Option.map_some, wtV, isE, wt_zero R hx])
  have k2 := loopL_map (t := fun _ => some true) (g := fun v => Option.map (fun v => [v]) (((getF (some (Slot.frz v) :: [none, none, none, none, none, none, none, none]) 0).bind fun v => Option.map (fun x => v :: x) (some [])).bind g_ISTERMINAL))
    (nodes M L) (fun x => V.int ((numN h M L x : Nat) : Int)) (fun x => V.bool (decide (((numN h M L x : Nat) : Int) < 256))) (fun _ _ => rfl) (fun x hx => by
      simp only [getF_zero, Option.bind_some, Option.map_some, isT])
  have k3 := loopL_map (t := fun _ => some true) (g := fun v => Option.map (fun v => [v]) (((getF (some (Slot.frz v) :: [none, none, none, none, none, F (.dict (toldD h M L)), none, none]) 6).bind asDict).bind fun xs => (getF (some (Slot.frz v) :: [none, none, none, none, none, F (.dict (toldD h M L)), none, none]) 0).bind fun v => lookDV xs v))
    (nodes M L) (fun x => V.int ((numN h M L x : Nat) : Int)) wtV (fun _ _ => rfl) (fun x hx => by
      simp only [getF_succ, getF_zero, Option.bind_some, asDict, lookDV, look_eq R hx, Option.map_some, wtV])
  have p1 := cmp_same (plainVs_map (fun x => V.bool (decide (((numN h M L x : Nat) : Int) < 256))) (fun _ => rfl) (nodes M L)) (deepVs_map (fun x => V.bool (decide (((numN h M L x : Nat) : Int) < 256))) 10 (fun _ => Nat.zero_le _) (nodes M L))
  have p2 := cmp_same (plainVs_map wtV (fun _ => rfl) (nodes M L)) (deepVs_map wtV 10 (fun _ => Nat.zero_le _) (nodes M L))
  have e5 : law_s2_s5 [s0, s1, s2, s3, s4, F (.dict (toldD h M L)), F (.list (lineV h M L)), F (.list ((nodes M L).map wtV))] = some ([s0, s1, s2, s3, s4, F (.dict (toldD h M L)), F (.list (lineV h M L)), F (.list ((nodes M L).map wtV))], .next) := by
    simp only [law_s2_s5, getF_succ, getF_zero, Option.bind_some, iterV, hm0]
    simp only [getF_zero, Option.bind_some] at k1 k2
    unfold lineV
    rw [k1, k2]
    simp only [Option.bind_some]
    rw [if_pos (by unfold lim; simp; omega)]
    simp only [Option.map_some, Option.bind_some, p1.2, Bool.false_eq_true, if_false]
  have e6 : law_s2_s6 [s0, s1, s2, s3, s4, F (.dict (toldD h M L)), F (.list (lineV h M L)), F (.list ((nodes M L).map wtV))] = some ([s0, s1, s2, s3, s4, F (.dict (toldD h M L)), F (.list (lineV h M L)), F (.list ((nodes M L).map wtV))], .ret (.bool true)) := by
    simp only [law_s2_s6, getF_succ, getF_zero, Option.bind_some, iterV, hm1]
    simp only [getF_succ, getF_zero, Option.bind_some] at k3
    unfold lineV
    rw [k3]
    simp only [Option.bind_some]
    rw [if_pos (by unfold lim; simp; omega)]
    simp only [Option.map_some, Option.bind_some, p2.1]
  exact ⟨_, (seqF_next e5).trans (seqF_ret e6)⟩
end
end Lw

namespace Lw
open PySem PyProof.Rows
set_option maxRecDepth 10000

/-- a rising row out of a set's figures -/
theorem row_of {ns : List Int} (hl : ns.length ≤ 3) (h : ∀ n ∈ ns, 0 ≤ n ∧ n < 16) : ∃ M : List Nat, isort (dedup ns) = M.map (fun d : Nat => (d : Int)) ∧ M.Pairwise (· < ·) ∧ (∀ m ∈ M, m < 16) ∧ M.length ≤ 3 := by
  have hp := isort_perm (dedup ns)
  have hs := isort_sorted (dedup ns)
  have hn : (isort (dedup ns)).Nodup := hp.nodup_iff.mpr (dd_nodup ns [] .nil)
  have hm : ∀ x ∈ isort (dedup ns), 0 ≤ x ∧ x < 16 := fun x hx => by
    have := (dd_mem ns [] x).mp (hp.mem_iff.mp hx)
    exact h x (by simpa using this)
  have hlen : (isort (dedup ns)).length ≤ 3 := by
    rw [hp.length_eq]
    have := dd_len ns []
    simp only [List.length_nil, Nat.zero_add] at this
    exact Nat.le_trans this hl
  refine ⟨(isort (dedup ns)).map Int.toNat, ?_, ?_, ?_, by simpa using hlen⟩
  · rw [List.map_map]
    refine (List.map_id _).symm.trans (List.map_congr_left fun x hx => ?_)
    have := hm x hx
    simp only [Function.comp, id]; omega
  · rw [List.pairwise_map]
    have hb := hs.and hn
    refine hb.imp_of_mem fun {a b} ha hb hab => ?_
    have h1 := hm a ha
    have h2 := hm b hb
    obtain ⟨h3, h4⟩ := hab
    omega
  · intro m hmm
    obtain ⟨x, hx, rfl⟩ := List.mem_map.mp hmm
    have := hm x hx
    omega
theorem ss_row {ns : List Int} {M : List Nat} (hl : ns.length ≤ 3) (h : ∀ n ∈ ns, 0 ≤ n ∧ n < 16) (e : isort (dedup ns) = M.map (fun d : Nat => (d : Int))) : sortedSetV (.list (ns.map .int)) = some (.list (nI M)) := by
  simp only [sortedSetV, ints?_map, Option.bind_some]
  rw [if_pos ⟨by omega, List.all_eq_true.mpr fun n hn => by have := h n hn; exact decide_eq_true (by omega)⟩, e]
  simp [nI, List.map_map, Function.comp_def]

theorem cells_eq {ns : List Int} (hn : ns.length ≤ 63) : ∃ c0 c1 c2 c3 c4 c5 c6 : Int, law_s1 [F (.list (ns.map .int)), F (.list [.int 0, .int 0, .int 3, .int 5, .int 0, .int 4, .int 4]), none, none, none, none, none, none] =
    some ([F (.list (ns.map .int)), F (.list [.int 0, .int 0, .int 3, .int 5, .int 0, .int 4, .int 4]), OL [.int c0, .int c1, .int c2, .int c3, .int c4, .int c5, .int c6], none, none, none, none, none], .next) := by
  have hm : maskS [true, true, false, false, false, false, false, false] [F (.list (ns.map .int)), F (.list [.int 0, .int 0, .int 3, .int 5, .int 0, .int 4, .int 4]), none, none, none, none, none, none] =
    [F (.list (ns.map .int)), F (.list [.int 0, .int 0, .int 3, .int 5, .int 0, .int 4, .int 4]), none, none, none, none, none, none] := by simp [maskS]
  have r7 : rangeV [.int 7] = some [.int 0, .int 1, .int 2, .int 3, .int 4, .int 5, .int 6] := by kernel_rfl
  have p63 : partV (.int 63) = some (some 63) := rfl
  have p7 : partV (.int 7) = some (some 7) := rfl
  have p0 : partV (.int 0) = some (some 0) := rfl
  have p1 : partV (.int 1) = some (some 1) := rfl
  have p2 : partV (.int 2) = some (some 2) := rfl
  have p3 : partV (.int 3) = some (some 3) := rfl
  have p4 : partV (.int 4) = some (some 4) := rfl
  have p5 : partV (.int 5) = some (some 5) := rfl
  have p6 : partV (.int 6) = some (some 6) := rfl
  have ix : ∀ k : Nat, k < 7 → ∃ v : Int, idxLV [.int 0, .int 0, .int 3, .int 5, .int 0, .int 4, .int 4] (.int (k : Int)) = some (.int v) := fun k hk => by
    match k, hk with
    | 0, _ => exact ⟨0, rfl⟩
    | 1, _ => exact ⟨0, rfl⟩
    | 2, _ => exact ⟨3, rfl⟩
    | 3, _ => exact ⟨5, rfl⟩
    | 4, _ => exact ⟨0, rfl⟩
    | 5, _ => exact ⟨4, rfl⟩
    | 6, _ => exact ⟨4, rfl⟩
  obtain ⟨l1, _, a1, _, _⟩ := ss_eq (q := 7) (by decide) hn 0
  have st : ∀ k : Int, ∃ l2, sliceV l1 (some k) none (some 7) = some l2 ∧ sumV [.list l2] = some (.int (SSk 7 ns k)) := fun k => by
    obtain ⟨l1', l2, b1, b2, b3⟩ := ss_eq (q := 7) (by decide) hn k
    rw [a1] at b1; cases b1
    exact ⟨l2, b2, b3⟩
  obtain ⟨z0, x0, y0⟩ := st 0
  obtain ⟨z1, x1, y1⟩ := st 1
  obtain ⟨z2, x2, y2⟩ := st 2
  obtain ⟨z3, x3, y3⟩ := st 3
  obtain ⟨z4, x4, y4⟩ := st 4
  obtain ⟨z5, x5, y5⟩ := st 5
  obtain ⟨z6, x6, y6⟩ := st 6
  obtain ⟨v0, i0⟩ := ix 0 (by decide)
  obtain ⟨v1, i1⟩ := ix 1 (by decide)
  obtain ⟨v2, i2⟩ := ix 2 (by decide)
  obtain ⟨v3, i3⟩ := ix 3 (by decide)
  obtain ⟨v4, i4⟩ := ix 4 (by decide)
  obtain ⟨v5, i5⟩ := ix 5 (by decide)
  obtain ⟨v6, i6⟩ := ix 6 (by decide)
  simp only [Int.cast_ofNat_Int] at i0 i1 i2 i3 i4 i5 i6
  refine ⟨v0 + SSk 7 ns 0, v1 + SSk 7 ns 1, v2 + SSk 7 ns 2, v3 + SSk 7 ns 3, v4 + SSk 7 ns 4, v5 + SSk 7 ns 5, v6 + SSk 7 ns 6, ?_⟩
  simp only [law_s1, Option.bind_some, Option.map_some, r7, loopL, hm, getF_succ, getF_zero, asList, i0, i1, i2, i3, i4, i5, i6, p63, p7, p0, p1, p2, p3, p4, p5, p6, a1, x0, x1, x2, x3, x4, x5, x6, y0, y1, y2, y3, y4, y5, y6, add_int, if_true]
  rfl

theorem plain_law03 (ns : List Int) (hn : ns.length ≤ 63) : specOf pn_law nm_law e_law.1 [.list (ns.map .int)] = some (.bool true) := by
  have e0 : law_s0 [F (.list (ns.map .int)), none, none, none, none, none, none, none] = some ([F (.list (ns.map .int)), F (.list [.int 0, .int 0, .int 3, .int 5, .int 0, .int 4, .int 4]), none, none, none, none, none, none], .next) := by kernel_rfl
  obtain ⟨c0, c1, c2, c3, c4, c5, c6, e1⟩ := cells_eq hn
  generalize hS : V.list (ns.map V.int) = S at e0 e1 ⊢
  generalize hFi : V.list [V.int 0, .int 0, .int 3, .int 5, .int 0, .int 4, .int 4] = Fi at e0 e1
  have hfz : freezeS 2 [F S, F Fi, OL [V.int c0, .int c1, .int c2, .int c3, .int c4, .int c5, .int c6], none, none, none, none, none] = [F S, F Fi, F (.list [V.int c0, .int c1, .int c2, .int c3, .int c4, .int c5, .int c6]), none, none, none, none, none] := rfl
  have md : ∀ c : Int, modV (.int c) (.int 16) = some (.int (c % 16)) := fun c => mod_int (by decide)
  obtain ⟨M, eM, rM, bM, lM⟩ := row_of (ns := [c1 % 16, c2 % 16, c3 % 16]) (by simp) (fun n hn => by simp only [List.mem_cons, List.not_mem_nil, or_false] at hn; omega)
  obtain ⟨L, eL, rL, bL, lL⟩ := row_of (ns := [c4 % 16, c5 % 16, c6 % 16]) (by simp) (fun n hn => by simp only [List.mem_cons, List.not_mem_nil, or_false] at hn; omega)
  have sM := ss_row (ns := [c1 % 16, c2 % 16, c3 % 16]) (by simp) (fun n hn => by simp only [List.mem_cons, List.not_mem_nil, or_false] at hn; omega) eM
  have sL := ss_row (ns := [c4 % 16, c5 % 16, c6 % 16]) (by simp) (fun n hn => by simp only [List.mem_cons, List.not_mem_nil, or_false] at hn; omega) eL
  simp only [List.map_cons, List.map_nil] at sM sL
  have p1 : partV (.int 1) = some (some 1) := rfl
  have p4 : partV (.int 4) = some (some 4) := rfl
  have sl1 : sliceV [V.int c0, .int c1, .int c2, .int c3, .int c4, .int c5, .int c6] (some 1) (some 4) none = some [V.int c1, .int c2, .int c3] := by kernel_rfl
  have sl2 : sliceV [V.int c0, .int c1, .int c2, .int c3, .int c4, .int c5, .int c6] (some 4) none none = some [V.int c4, .int c5, .int c6] := by kernel_rfl
  have lm3 : ∀ a b c : V, ([a] ++ ([b] ++ ([c] ++ []))).length ≤ lim := fun _ _ _ => by unfold lim; simp
  have e20 : ∀ t3 : Option Slot, law_s2_s0 [F S, F Fi, F (.list [V.int c0, .int c1, .int c2, .int c3, .int c4, .int c5, .int c6]), t3, none, none, none, none] = some ([F S, F Fi, F (.list [V.int c0, .int c1, .int c2, .int c3, .int c4, .int c5, .int c6]), F (.list (nI M)), none, none, none, none], .next) := fun t3 => by
    simp only [law_s2_s0, getF_succ, getF_zero, Option.bind_some, Option.map_some, asList, p1, p4, sl1, iterV, loopL, md, if_true]
    rw [if_pos (lm3 _ _ _)]
    simp only [Option.map_some, Option.bind_some, List.cons_append, List.nil_append, sM, setF_succ, setF_zero]
  have e21 : law_s2_s1 [F S, F Fi, F (.list [V.int c0, .int c1, .int c2, .int c3, .int c4, .int c5, .int c6]), F (.list (nI M)), none, none, none, none] = some ([F S, F Fi, F (.list [V.int c0, .int c1, .int c2, .int c3, .int c4, .int c5, .int c6]), F (.list (nI M)), F (.list (nI L)), none, none, none], .next) := by
    simp only [law_s2_s1, getF_succ, getF_zero, Option.bind_some, Option.map_some, asList, p4, sl2, iterV, loopL, md, if_true]
    rw [if_pos (lm3 _ _ _)]
    simp only [Option.map_some, Option.bind_some, List.cons_append, List.nil_append, sL, setF_succ, setF_zero]
  obtain ⟨h, hh, h1, h2⟩ : ∃ h : Nat, 1 + c0 % 15 = (h : Int) ∧ 1 ≤ h ∧ h < 16 := ⟨(1 + c0 % 15).toNat, by omega, by omega, by omega⟩
  have R : Rows3 h M L := ⟨h1, h2, rM, rL, bM, bL, lM, lL⟩
  have md15 : modV (.int c0) (.int 15) = some (.int (c0 % 15)) := mod_int (by decide)
  have i0 : idxLV [V.int c0, .int c1, .int c2, .int c3, .int c4, .int c5, .int c6] (.int 0) = some (.int c0) := rfl
  have tg : g_law_told [.int (1 + c0 % 15), .list (nI M), .list (nI L)] = some (.dict (toldD h M L)) := by
    rw [hh, told_give h2 bM bL lM lL, told_eq R]
  have e22 : law_s2_s2 [F S, F Fi, F (.list [V.int c0, .int c1, .int c2, .int c3, .int c4, .int c5, .int c6]), F (.list (nI M)), F (.list (nI L)), none, none, none] = some ([F S, F Fi, F (.list [V.int c0, .int c1, .int c2, .int c3, .int c4, .int c5, .int c6]), F (.list (nI M)), F (.list (nI L)), F (.dict (toldD h M L)), none, none], .next) := by
    simp only [law_s2_s2, getF_succ, getF_zero, Option.bind_some, Option.map_some, asList, i0, md15, add_int, tg, setF_succ, setF_zero]
  have sg : sortedV2 [.dict (toldD h M L)] = some (.list (lineV h M L)) := by
    have hl : (toldD h M L).length < 64 := by
      have h1 : ((toldD h M L).map (·.1)).length = (nodes M L).length := by
        have := congrArg List.length (line_eq R)
        rw [(isort_perm _).length_eq] at this
        simpa using this
      have := nodes_len R
      simp at h1; omega
    simp only [sortedV2]
    rw [if_pos hl, line_eq R, List.map_map]; rfl
  have e23 : law_s2_s3 [F S, F Fi, F (.list [V.int c0, .int c1, .int c2, .int c3, .int c4, .int c5, .int c6]), F (.list (nI M)), F (.list (nI L)), F (.dict (toldD h M L)), none, none] = some ([F S, F Fi, F (.list [V.int c0, .int c1, .int c2, .int c3, .int c4, .int c5, .int c6]), F (.list (nI M)), F (.list (nI L)), F (.dict (toldD h M L)), F (.list (lineV h M L)), none], .next) := by
    simp only [law_s2_s3, getF_succ, getF_zero, Option.bind_some, Option.map_some, sg, setF_succ, setF_zero]
  have e24 : law_s2_s4 [F S, F Fi, F (.list [V.int c0, .int c1, .int c2, .int c3, .int c4, .int c5, .int c6]), F (.list (nI M)), F (.list (nI L)), F (.dict (toldD h M L)), F (.list (lineV h M L)), none] = some ([F S, F Fi, F (.list [V.int c0, .int c1, .int c2, .int c3, .int c4, .int c5, .int c6]), F (.list (nI M)), F (.list (nI L)), F (.dict (toldD h M L)), F (.list (lineV h M L)), F (.list ((nodes M L).map wtV))], .next) := by
    simp only [law_s2_s4, getF_succ, getF_zero, Option.bind_some, Option.map_some, worths_give R, setF_succ, setF_zero]
  have go : ∃ σ', f_law [F S, none, none, none, none, none, none, none] = some (σ', .ret (.bool true)) := by
    unfold f_law
    rw [seqF_next e0, seqF_next e1]
    unfold law_s2
    rw [hfz, seqF_next (e20 _), seqF_next e21, seqF_next e22, seqF_next e23, seqF_next e24]
    exact end_eq R
  obtain ⟨σ', hgo⟩ := go
  show (if [S].length = pn_law.length then giveF (e_law.1 (startS nm_law [S])) else none) = _
  rw [if_pos (show [S].length = pn_law.length from rfl), f_law_eq]
  show giveF (f_law [F S, none, none, none, none, none, none, none]) = _
  rw [hgo]
  rfl
end Lw

open PySem PySem.W PyProof.Rows
open_top hd3 for PySem.Challenge.rw_sw0007_03
set_option maxRecDepth 100000 in
set_option maxHeartbeats 8000000 in
theorem PySem.Challenge.cw_sw0007_03_holds : PySem.Challenge.rw_sw0007_03.Holds := by
  refine hd3 ?_
  k_fill
  intro w s₀ s₁ mg mb G Y fa o pm cd doc dV kV ho hd hcd hD hmg hg args vals as hpre hlay hrd hwl hlo
  refine Ground.open G ?_
  intro T B D TE TW
  wrow_args hpre hlay hrd hwl hlo
  all_goals (first | refine callC_kw (enter_call ?_) | refine enter_call ?_)
  rename_i ns _ _ _ _ _ _ _ l vs _ hL _ hW _ hI _ hlen _
  have hob := Lw.well_list hW hL
  clear hd hcd hD ho
  let C : Lw.Cx := ⟨PySem.Challenge.rw_sw0007_03.row.prog, w, s₁.heap, mg, mb, T.g, T.b, T.nolimit⟩
  have gl : ∀ (x : Str) (v : Value), x ∈ Lw.builtinNames → bootBuiltins x = some v → C.glob x v := fun x v hx hv => .inr ⟨T.free x (Lw.all_not (by decide +kernel) hx) (Lw.all_not (by decide +kernel) hx) (Lw.all_not (by decide +kernel) hx) (Lw.all_not (by decide +kernel) hx) (Lw.all_not (by decide +kernel) hx), (T.builtins x (Lw.all_ne (by decide +kernel) hx)).trans hv⟩
  have G : Lw.Globs C := ⟨gl _ _ (by decide +kernel) (by kernel_rfl), gl _ _ (by decide +kernel) (by kernel_rfl), gl _ _ (by decide +kernel) (by kernel_rfl), gl _ _ (by decide +kernel) (by kernel_rfl), gl _ _ (by decide +kernel) (by kernel_rfl), gl _ _ (by decide +kernel) (by kernel_rfl), gl _ _ (by decide +kernel) (by kernel_rfl), gl _ _ (by decide +kernel) (by kernel_rfl), gl _ _ (by decide +kernel) (by kernel_rfl), gl _ _ (by decide +kernel) (by kernel_rfl), gl _ _ (by decide +kernel) (by kernel_rfl), gl _ _ (by decide +kernel) (by kernel_rfl), gl _ _ (by decide +kernel) (by kernel_rfl)⟩
  have h_ENDMARKER : ∃ t, C.glob (Str.ofString "ENDMARKER") (.int 0 t) := Lw.const_int (T.const _ _ (by kernel_rfl))
  have h_NT_OFFSET : ∃ t, C.glob (Str.ofString "NT_OFFSET") (.int 256 t) := Lw.const_int (T.const _ _ (by kernel_rfl))
  have h_CASE_COST : ∃ t, C.glob (Str.ofString "_CASE_COST") (.int 1 t) := Lw.const_int (T.const _ _ (by kernel_rfl))
  have h_MAX_STRING_SIZE : ∃ t, C.glob (Str.ofString "_MAX_STRING_SIZE") (.int 40 t) := Lw.const_int (T.const _ _ (by kernel_rfl))
  have h_MOVE_COST : ∃ t, C.glob (Str.ofString "_MOVE_COST") (.int 2 t) := Lw.const_int (T.const _ _ (by kernel_rfl))
  have h_ISTERMINAL : Lw.Fun C 1 (Str.ofString "ISTERMINAL") Lw.g_ISTERMINAL := by
    have t := T.fn _ (List.mem_of_getElem? (i := 0) rfl)
    refine Lw.Fun.of Lw.pn_ISTERMINAL Lw.nm_ISTERMINAL Lw.e_ISTERMINAL.1 rfl rfl t ?_ ?_
    · exact ⟨fun body pm cd doc xs h => by match xs, h with | [x], _ => rfl, by rfl, by rfl, by rfl, ⟨_, rfl⟩, by decide +kernel, by decide +kernel⟩
    · exact Lw.e_ISTERMINAL.2 C 0 G h_NT_OFFSET
  have h_ISNONTERMINAL : Lw.Fun C 1 (Str.ofString "ISNONTERMINAL") Lw.g_ISNONTERMINAL := by
    have t := T.fn _ (List.mem_of_getElem? (i := 1) rfl)
    refine Lw.Fun.of Lw.pn_ISNONTERMINAL Lw.nm_ISNONTERMINAL Lw.e_ISNONTERMINAL.1 rfl rfl t ?_ ?_
    · exact ⟨fun body pm cd doc xs h => by match xs, h with | [x], _ => rfl, by rfl, by rfl, by rfl, ⟨_, rfl⟩, by decide +kernel, by decide +kernel⟩
    · exact Lw.e_ISNONTERMINAL.2 C 0 G h_NT_OFFSET
  have h_ISEOF : Lw.Fun C 1 (Str.ofString "ISEOF") Lw.g_ISEOF := by
    have t := T.fn _ (List.mem_of_getElem? (i := 2) rfl)
    refine Lw.Fun.of Lw.pn_ISEOF Lw.nm_ISEOF Lw.e_ISEOF.1 rfl rfl t ?_ ?_
    · exact ⟨fun body pm cd doc xs h => by match xs, h with | [x], _ => rfl, by rfl, by rfl, by rfl, ⟨_, rfl⟩, by decide +kernel, by decide +kernel⟩
    · exact Lw.e_ISEOF.2 C 0 G h_ENDMARKER
  have h_Int2AP : Lw.Fun C 1 (Str.ofString "Int2AP") Lw.g_Int2AP := by
    have t := T.fn _ (List.mem_of_getElem? (i := 3) rfl)
    refine Lw.Fun.of Lw.pn_Int2AP Lw.nm_Int2AP Lw.e_Int2AP.1 rfl rfl t ?_ ?_
    · exact ⟨fun body pm cd doc xs h => by match xs, h with | [x], _ => rfl, by rfl, by rfl, by rfl, ⟨_, rfl⟩, by decide +kernel, by decide +kernel⟩
    · exact Lw.e_Int2AP.2 C 0 G 
  have h_substitution_cost : Lw.Fun C 1 (Str.ofString "_substitution_cost") Lw.g_substitution_cost := by
    have t := T.fn _ (List.mem_of_getElem? (i := 4) rfl)
    refine Lw.Fun.of Lw.pn_substitution_cost Lw.nm_substitution_cost Lw.e_substitution_cost.1 rfl rfl t ?_ ?_
    · exact ⟨fun body pm cd doc xs h => by match xs, h with | [x, y], _ => rfl, by rfl, by rfl, by rfl, ⟨_, rfl⟩, by decide +kernel, by decide +kernel⟩
    · exact Lw.e_substitution_cost.2 C 0 G h_CASE_COST h_MOVE_COST
  have h_levenshtein_distance : Lw.Fun C 2 (Str.ofString "_levenshtein_distance") Lw.g_levenshtein_distance := by
    have t := T.fn _ (List.mem_of_getElem? (i := 5) rfl)
    refine Lw.Fun.of Lw.pn_levenshtein_distance Lw.nm_levenshtein_distance Lw.e_levenshtein_distance.1 rfl rfl t ?_ ?_
    · exact ⟨fun body pm cd doc xs h => by match xs, h with | [x, y, z], _ => rfl, by rfl, by rfl, by rfl, ⟨_, rfl⟩, by decide +kernel, by decide +kernel⟩
    · exact Lw.e_levenshtein_distance.2 C 1 G h_MOVE_COST h_MAX_STRING_SIZE (h_substitution_cost.up (by decide))
  have h_law_letters : Lw.Fun C 1 (Str.ofString "_law_letters") Lw.g_law_letters := by
    have t := T.fn _ (List.mem_of_getElem? (i := 6) rfl)
    refine Lw.Fun.of Lw.pn_law_letters Lw.nm_law_letters Lw.e_law_letters.1 rfl rfl t ?_ ?_
    · exact ⟨fun body pm cd doc xs h => by match xs, h with | [x], _ => rfl, by rfl, by rfl, by rfl, ⟨_, rfl⟩, by decide +kernel, by decide +kernel⟩
    · exact Lw.e_law_letters.2 C 0 G 
  have h_law_worths : Lw.Fun C 3 (Str.ofString "_law_worths") Lw.g_law_worths := by
    have t := T.fn _ (List.mem_of_getElem? (i := 7) rfl)
    refine Lw.Fun.of Lw.pn_law_worths Lw.nm_law_worths Lw.e_law_worths.1 rfl rfl t ?_ ?_
    · exact ⟨fun body pm cd doc xs h => by match xs, h with | [x], _ => rfl, by rfl, by rfl, by rfl, ⟨_, rfl⟩, by decide +kernel, by decide +kernel⟩
    · exact Lw.e_law_worths.2 C 2 G (h_law_letters.up (by decide)) (h_ISNONTERMINAL.up (by decide)) (h_Int2AP.up (by decide)) (h_levenshtein_distance.up (by decide))
  have h_law_told : Lw.Fun C 1 (Str.ofString "_law_told") Lw.g_law_told := by
    have t := T.fn _ (List.mem_of_getElem? (i := 8) rfl)
    refine Lw.Fun.of Lw.pn_law_told Lw.nm_law_told Lw.e_law_told.1 rfl rfl t ?_ ?_
    · exact ⟨fun body pm cd doc xs h => by match xs, h with | [x, y, z], _ => rfl, by rfl, by rfl, by rfl, ⟨_, rfl⟩, by decide +kernel, by decide +kernel⟩
    · exact Lw.e_law_told.2 C 0 G 
  obtain ⟨a, o, pm, code, doc, q1, q2, q3, q4⟩ := T.fn _ (List.mem_of_getElem? (i := 9) rfl)
  have ea : a = fa := by have := q1.symm.trans hmg; injection this with this; injection this
  subst ea
  have hP : ∀ b o, (fun b => if b = l then some (Lw.lobj vs 0) else none : Lw.Fz) b = some o → s₁.heap.get? b = some o := fun b o e => by
    by_cases hb : b = l
    · subst hb; simp only [if_true] at e; cases e; exact hob
    · simp only [hb, if_false] at e; cases e
  have hx : C.VRs (fun b => if b = l then some (Lw.lobj vs 0) else none : Lw.Fz) [.list (ns.map .int)] [.ref l] := .cons (.list (n := 0) (xs := vs) (by simp) (Lw.VRs.of_ints hI)) .nil
  refine Lw.call_code (C := C) (lv := 3) (pn := Lw.pn_law) (nm := Lw.nm_law) (f := Lw.e_law.1) ?_ q2 q3 q4
    (Lw.e_law.2 C 3 G (h_law_told.up (by decide)) (h_law_worths.up (by decide)) (h_ISEOF.up (by decide)) (h_ISTERMINAL.up (by decide))) (Lw.callerA_ok (by decide)) (fun _ _ e => e) hP hx (Lw.plain_law03 ns (by omega)) fun P' h' tk x g hx => ?_
  · exact ⟨fun body pm cd doc xs h => by match xs, h with | [x], _ => rfl, by rfl, by rfl, by rfl, ⟨_, rfl⟩, by decide +kernel, by decide +kernel⟩
  cases hx
  exact ⟨.inl ⟨_, .bool true, [], rfl, fun _ => by first | rfl | kernel_rfl, .bool true, by first | kernel_rfl | with_unfolding_all rfl, fun _ => ⟨.nil, by simp⟩⟩, .of_keep g.keep, rfl, .of_eq hg⟩
